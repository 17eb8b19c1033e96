import JvmDerived
import JvmDerived.Pilot.@@N@@Statement
import JvmDerived.Pilot.@@N@@Code
set_option linter.unusedVariables false
set_option linter.unusedSimpArgs false
@@BLOCK:HandJ.lean.txt@@
@@BLOCK:NumsL.lean.txt@@
@@BLOCK:SymMore.lean.txt@@
namespace Jvm.RoadKit
open Sem ClassFile Op Lib Jvm.Stand Jvm.Free Jvm.LawKit
section New
variable {p : Program} {l : Launch} {e : Env} {R : Room} {s : State} {m : MethodId} {args : Array Value} {below : List Frame} {meth : Method} {c : Code} {T : State} {locs : List Loc} {cells slots : Nat}
theorem retI (X : Stand p l e R s m args below meth c T locs cells slots) (hx : p.tables.exec = Jvm.exec) {pc : Nat} {Ls : Array Slot} {z : Int32} {rest : List Value} (hret : meth.sig.returnType = some .int) (hd : decode c.code pc = .ok (.ireturn, 1)) {fs : List Frame}
    (hl : ∀ (f : JFrame) (acts : List Action), f.method = m → f.locked = none → f.entered = [] → (doReturn e (T.setTop f) acts (some (.int z))).1 = T.setFrames fs) : Steps p.tables e below (T.setTop (mkF m pc Ls (.int z :: rest))) (T.setFrames fs) := by
  have hm' : T.vm.method? m = some meth := X.method'
  have hn : narrow .int (.int z) = .int z := rfl
  show Steps p.tables e below (T.setTop { method := m, pc := pc, locals := Ls, stack := _ :: rest, locked := none }) _
  jvm_step X.here [X.here.top, hx, hd, hm', hret, hn]
  first | (intro acts; rw [hl _ acts rfl rfl rfl]) | rw [hl _ _ rfl rfl rfl]
  exact Steps.refl _
end New
end Jvm.RoadKit
namespace Jvm.Pilot.@@N@@
open Jvm Jvm.ClassFile Sem Op Lib Jvm.Free Jvm.Stand Jvm.LawKit Jvm.RoadKit Bundle Jvm.Pilot.@@N@@.Jvm.D

/-! the road's own words: where a run ends, by steps taken one after the other -/
def own_E (p : Program) (e : Env) (below : List Frame) (G : State → Outcome → Prop) (U : State) : Prop := ∃ s₂ o, Steps p.tables e below U s₂ ∧ s₂.status = .running ∧ Ended s₂ below o ∧ G s₂ o
theorem own_step {p : Program} {e : Env} {below : List Frame} {G : State → Outcome → Prop} {U U' : State} (h : ∀ t, Steps p.tables e below U' t → Steps p.tables e below U t) (k : own_E p e below G U') : own_E p e below G U :=
  let ⟨a, b, c, d⟩ := k; ⟨a, b, h _ c, d⟩
theorem own_ret {p : Program} {l : Launch} {e : Env} {R : Room} {s : State} {m : MethodId} {args : Array Value} {below : List Frame} {meth : Method} {c : Code} {T : State} {locs : List Loc} {cells slots C S : Nat} {Q : Option Value → Heap → List Loc → Prop} {U : State}
    (X : Stand p l e R s m args below meth c T locs cells slots) (hlk : meth.locks = false) {v : Option Value} (hv : meth.sig.returnType = none → v = none) (hq : Q v T.heap locs) (hc : cells ≤ C) (hs : slots ≤ S)
    (hst : ∀ fs, (∀ (f : JFrame) (acts : List Action), f.method = m → f.locked = none → f.entered = [] → (doReturn e (T.setTop f) acts v).1 = T.setFrames fs) → Steps p.tables e below U (T.setFrames fs)) :
    own_E p e below (fun U' o => ∃ v L, o = .returned v ∧ Q v U'.heap L ∧ FrameEnd s o U' L C S) U := by
  obtain ⟨fs, hr, hrun, hended, hW, hsame⟩ := X.leave (v := v) hv hlk
  exact ⟨_, _, hst fs hr, hrun, hended, v, locs, rfl, hq, ⟨_, rfl⟩, hW, hsame.mono hc hs⟩
theorem own_lc_gt_t {x y : Int64} (h : y < x) : ifCond.holds .gt (Jvm.Free.XT.cmpL x y) = true := by delta Jvm.Free.XT.cmpL; rw [if_pos h]; decide
theorem own_lc_gt_f {x y : Int64} (h : ¬ y < x) : ifCond.holds .gt (Jvm.Free.XT.cmpL x y) = false := by delta Jvm.Free.XT.cmpL; rw [if_neg h]; split <;> decide
theorem own_lc_le_f {x y : Int64} (h : y < x) : ifCond.holds .le (Jvm.Free.XT.cmpL x y) = false := by delta Jvm.Free.XT.cmpL; rw [if_pos h]; decide
theorem own_lc_le_t {x y : Int64} (h : ¬ y < x) : ifCond.holds .le (Jvm.Free.XT.cmpL x y) = true := by delta Jvm.Free.XT.cmpL; rw [if_neg h]; split <;> decide
theorem own_lt3 {x y : Int64} (h : x < y) : Jvm.Free.XT.cmpL x y = -1 := by
  delta Jvm.Free.XT.cmpL
  rw [if_neg (by rw [Int64.lt_iff_toInt_lt] at *; omega), if_neg (by intro e; subst e; rw [Int64.lt_iff_toInt_lt] at h; omega)]
theorem own_ge3 {x y : Int64} (h : ¬ x < y) : Jvm.Free.XT.cmpL x y = 1 ∨ Jvm.Free.XT.cmpL x y = 0 := by
  delta Jvm.Free.XT.cmpL
  by_cases h1 : y < x
  · rw [if_pos h1]; exact Or.inl rfl
  · rw [if_neg h1, if_pos (by rw [Int64.lt_iff_toInt_lt] at h h1; exact Int64.toInt_inj.mp (by omega))]; exact Or.inr rfl
theorem own_lc_lt_t {x y : Int64} (h : x < y) : ifCond.holds .lt (Jvm.Free.XT.cmpL x y) = true := by rw [own_lt3 h]; decide
theorem own_lc_lt_f {x y : Int64} (h : ¬ x < y) : ifCond.holds .lt (Jvm.Free.XT.cmpL x y) = false := by rcases own_ge3 h with e | e <;> rw [e] <;> decide
theorem own_lc_ge_f {x y : Int64} (h : x < y) : ifCond.holds .ge (Jvm.Free.XT.cmpL x y) = false := by rw [own_lt3 h]; decide
theorem own_lc_ge_t {x y : Int64} (h : ¬ x < y) : ifCond.holds .ge (Jvm.Free.XT.cmpL x y) = true := by rcases own_ge3 h with e | e <;> rw [e] <;> decide
theorem own_eq3 {x y : Int64} (h : x = y) : Jvm.Free.XT.cmpL x y = 0 := by
  subst h; delta Jvm.Free.XT.cmpL; rw [if_neg (by rw [Int64.lt_iff_toInt_lt]; omega), if_pos rfl]
theorem own_ne3 {x y : Int64} (h : ¬ x = y) : Jvm.Free.XT.cmpL x y = 1 ∨ Jvm.Free.XT.cmpL x y = -1 := by
  delta Jvm.Free.XT.cmpL
  by_cases h1 : y < x
  · rw [if_pos h1]; exact Or.inl rfl
  · rw [if_neg h1, if_neg h]; exact Or.inr rfl
theorem own_lc_eq_t {x y : Int64} (h : x = y) : ifCond.holds .eq (Jvm.Free.XT.cmpL x y) = true := by rw [own_eq3 h]; decide
theorem own_lc_eq_f {x y : Int64} (h : ¬ x = y) : ifCond.holds .eq (Jvm.Free.XT.cmpL x y) = false := by rcases own_ne3 h with e | e <;> rw [e] <;> decide
theorem own_lc_ne_f {x y : Int64} (h : x = y) : ifCond.holds .ne (Jvm.Free.XT.cmpL x y) = false := by rw [own_eq3 h]; decide
theorem own_lc_ne_t {x y : Int64} (h : ¬ x = y) : ifCond.holds .ne (Jvm.Free.XT.cmpL x y) = true := by rcases own_ne3 h with e | e <;> rw [e] <;> decide
theorem own_i32_rem (x y : Int32) : (x - (x / y) * y).toInt = x.toInt.tmod y.toInt := by
  have a := (x % y).toInt_lt; have b := (x % y).le_toInt
  rw [Int32.toInt_mod] at a b
  rw [Int32.toInt_sub, Int32.toInt_mul, Int32.toInt_div, Int.bmod_mul_bmod, Int.sub_bmod_bmod, Int.mul_comm, ← Int.tmod_def]
  exact Jvm.Kit.bmod32 b a
/-- (x & MAX) % n for a positive n -/
theorem own_pick (x n : Int32) (hn : 0 < n.toInt) : ((x &&& (2147483647 : Int32)) - ((x &&& (2147483647 : Int32)) / n) * n).toInt = (x.toInt % 2 ^ 31) % n.toInt := by
  rw [own_i32_rem, Jvm.Kit.i32_mask x 2147483647 (k := 31) (by decide) (by decide), Int.tmod_eq_emod_of_nonneg (Int.emod_nonneg _ (by decide))]
theorem own_ofNat (x : Int32) (h : 0 ≤ x.toInt) : ∃ k : Nat, x = Int32.ofNat k ∧ (k : Int) = x.toInt := by
  refine ⟨x.toInt.toNat, ?_, by omega⟩
  have := x.toInt_lt
  apply Int32.toInt_inj.mp
  rw [Int32.toInt_ofNat_of_lt (by omega)]; omega

/-! arrays: how many places, and what each holds -/
def own_A (Z : State) (h : Heap) (a : Addr) (ty : FieldType) (n : Nat) (f : Nat → Value) : Prop := ∃ c : Cell, Arr Z h a c ty ∧ c.slots.size = n ∧ ∀ j, j < n → c.slots[j]? = some (f j)
section OwnA
variable {p : Program} {l : Launch} {e : Env} {R : Room} {s : State} {m : MethodId} {args : Array Value} {below : List Frame} {meth : Method} {c : Code} {T : State} {locs : List Loc} {cells slots : Nat} {Z : State} {h h' : Heap} {a b : Addr} {ty : FieldType} {n : Nat} {f f' : Nat → Value} {sl : Nat} {v : Value}
theorem own_A_lt (F : own_A Z h a ty n f) : a < h.size := by obtain ⟨c, A, -⟩ := F; exact A.lt
theorem own_A_ext (E : Ext h h') (F : own_A Z h a ty n f) : own_A Z h' a ty n f := by obtain ⟨c, A, r⟩ := F; exact ⟨c, A.ext E, r⟩
theorem own_A_keep {ws : List Addr} (K : Keep h h' ws) (q : a ∉ ws) (F : own_A Z h a ty n f) : own_A Z h' a ty n f := by obtain ⟨c, A, r⟩ := F; exact ⟨c, ⟨K.2.1 a c A.1 q, A.2⟩, r⟩
theorem own_A_other (W : Wr h h' b sl v) (q : a ≠ b) (F : own_A Z h a ty n f) : own_A Z h' a ty n f := by obtain ⟨c, A, r⟩ := F; exact ⟨c, A.other W q, r⟩
theorem own_A_new {k : ClassId} {z : Int32} (A : Arr Z h a (newA k ty z) ty) (hz : z.toNatClampNeg = n) : own_A Z h a ty n (fun _ => defaultValue ty) :=
  ⟨_, A, (sz_new _ _ _).trans hz, fun j hj => by simp [newA, hz, hj]⟩
theorem own_A_set (W : Wr h h' a sl v) (F : own_A Z h a ty n f) : own_A Z h' a ty n (fun j => if j = sl then v else f j) := by
  obtain ⟨c, A, S, H⟩ := F
  refine ⟨_, A.same W, (sz_set _ _ _).trans S, fun j hj => ?_⟩
  show (c.slots.setIfInBounds sl v)[j]? = some (if j = sl then v else f j)
  by_cases u : j = sl
  · subst u; rw [if_pos rfl, Array.getElem?_setIfInBounds_self_of_lt (by rw [S]; exact hj)]
  · rw [if_neg u, Array.getElem?_setIfInBounds_ne (Ne.symm u)]; exact H j hj
theorem own_A_eq (F : own_A Z h a ty n f) (q : ∀ j, j < n → f j = f' j) : own_A Z h a ty n f' := by
  obtain ⟨c, A, S, H⟩ := F; exact ⟨c, A, S, fun j hj => by rw [H j hj, q j hj]⟩
/-- the place j is the number i -/
theorem own_clamp {j : Int32} {i : Nat} (hj : j.toInt = (i : Int)) : j.toNatClampNeg = i := by
  show j.toInt.toNat = i; omega
theorem own_in {j : Int32} {i : Nat} (hj : j.toInt = (i : Int)) (hi : i < n) {k : Nat} (hk : k = n) : ¬ (j < 0 ∨ k ≤ j.toNatClampNeg) := by
  rw [own_clamp hj]
  rintro (q | q)
  · rw [Int32.lt_iff_toInt_lt, hj] at q
    have : (0 : Int32).toInt = 0 := rfl
    omega
  · omega
theorem own_ldI (X : Stand p l e R s m args below meth c T locs cells slots) (hx : p.tables.exec = Jvm.exec) (hZ : Z.Warmed39 s.vm) (eT : T.heap = h) (F : own_A Z h a .int n f) {j : Int32} (i : Nat) (hj : j.toInt = (i : Int)) (hi : i < n) {g : JFrame} (hg : g.method = m) {rest : List Value} (hs : g.stack = .int j :: .ref a :: rest) (hd : decode c.code g.pc = .ok (.iaload, 1)) {target : State}
    (hr : Steps p.tables e below (T.setTop { g with pc := g.pc + 1, stack := f i :: rest }) target) : Steps p.tables e below (T.setTop g) target := by
  obtain ⟨cl, A, S, H⟩ := F
  exact X.iaload hx (by rw [eT]; exact A.1) (State.isArrayOf_alike hZ.alike A.2.1) A.2.2 (own_in hj hi S) (by rw [own_clamp hj]; exact H i hi) hg hs hd _ hr
theorem own_ldJ (X : Stand p l e R s m args below meth c T locs cells slots) (hx : p.tables.exec = Jvm.exec) (hZ : Z.Warmed39 s.vm) (eT : T.heap = h) (F : own_A Z h a .long n f) {j : Int32} (i : Nat) (hj : j.toInt = (i : Int)) (hi : i < n) {g : JFrame} (hg : g.method = m) {rest : List Value} (hs : g.stack = .int j :: .ref a :: rest) (hd : decode c.code g.pc = .ok (.laload, 1)) {target : State}
    (hr : Steps p.tables e below (T.setTop { g with pc := g.pc + 1, stack := f i :: rest }) target) : Steps p.tables e below (T.setTop g) target := by
  obtain ⟨cl, A, S, H⟩ := F
  exact X.laload hx (by rw [eT]; exact A.1) (State.isArrayOf_alike hZ.alike A.2.1) A.2.2 (own_in hj hi S) (by rw [own_clamp hj]; exact H i hi) hg hs hd _ hr
theorem own_ldB (X : Stand p l e R s m args below meth c T locs cells slots) (hx : p.tables.exec = Jvm.exec) (hZ : Z.Warmed39 s.vm) (eT : T.heap = h) (F : own_A Z h a .byte n f) {j : Int32} (i : Nat) (hj : j.toInt = (i : Int)) (hi : i < n) {g : JFrame} (hg : g.method = m) {rest : List Value} (hs : g.stack = .int j :: .ref a :: rest) (hd : decode c.code g.pc = .ok (.baload, 1)) {target : State}
    (hr : Steps p.tables e below (T.setTop { g with pc := g.pc + 1, stack := f i :: rest }) target) : Steps p.tables e below (T.setTop g) target := by
  obtain ⟨cl, A, S, H⟩ := F
  exact X.baloadBytes hx (by rw [eT]; exact A.1) (State.isArrayOf_alike hZ.alike A.2.1) A.2.2 (own_in hj hi S) (by rw [own_clamp hj]; exact H i hi) hg hs hd _ hr
theorem own_len (X : Stand p l e R s m args below meth c T locs cells slots) (hx : p.tables.exec = Jvm.exec) (hZ : Z.Warmed39 s.vm) (eT : T.heap = h) (F : own_A Z h a ty n f) {g : JFrame} (hg : g.method = m) {rest : List Value} (hs : g.stack = .ref a :: rest) (hd : decode c.code g.pc = .ok (.arraylength, 1)) {target : State}
    (hr : Steps p.tables e below (T.setTop { g with pc := g.pc + 1, stack := .int (Int32.ofNat n) :: rest }) target) : Steps p.tables e below (T.setTop g) target := by
  obtain ⟨cl, A, S, H⟩ := F
  refine X.arraylength hx (by rw [eT]; exact A.1) (State.isArrayOf_alike hZ.alike A.2.1) hg hs hd _ ?_
  rw [S]; exact hr
theorem own_stI (X : Stand p l e R s m args below meth c T locs cells slots) (hx : p.tables.exec = Jvm.exec) (hZ : Z.Warmed39 s.vm) (eT : T.heap = h) (F : own_A Z h a .int n f) {j x : Int32} (i : Nat) (hj : j.toInt = (i : Int)) (hi : i < n) {g : JFrame} (hg : g.method = m) {rest : List Value} (hs : g.stack = .int x :: .int j :: .ref a :: rest) (hd : decode c.code g.pc = .ok (.iastore, 1)) :
    ∃ T' h', Stand p l e R s m args below meth c T' (locs ++ [⟨a, i⟩]) cells slots ∧ T'.heap = h' ∧ Wr h h' a i (.int x) ∧ ∀ target, Steps p.tables e below (T'.setTop { g with pc := g.pc + 1, stack := rest }) target → Steps p.tables e below (T.setTop g) target := by
  obtain ⟨cl, A, S, H⟩ := F
  have r := stI X hx hZ eT A (own_in hj hi S) hg hs hd
  rwa [own_clamp hj] at r
theorem own_stJ (X : Stand p l e R s m args below meth c T locs cells slots) (hx : p.tables.exec = Jvm.exec) (hZ : Z.Warmed39 s.vm) (eT : T.heap = h) (F : own_A Z h a .long n f) {j : Int32} {x : Int64} (i : Nat) (hj : j.toInt = (i : Int)) (hi : i < n) {g : JFrame} (hg : g.method = m) {rest : List Value} (hs : g.stack = .long x :: .int j :: .ref a :: rest) (hd : decode c.code g.pc = .ok (.lastore, 1)) :
    ∃ T' h', Stand p l e R s m args below meth c T' (locs ++ [⟨a, i⟩]) cells slots ∧ T'.heap = h' ∧ Wr h h' a i (.long x) ∧ ∀ target, Steps p.tables e below (T'.setTop { g with pc := g.pc + 1, stack := rest }) target → Steps p.tables e below (T.setTop g) target := by
  obtain ⟨cl, A, S, H⟩ := F
  have r := stJ X hx hZ eT A (own_in hj hi S) hg hs hd
  rwa [own_clamp hj] at r
theorem own_stB (X : Stand p l e R s m args below meth c T locs cells slots) (hx : p.tables.exec = Jvm.exec) (hZ : Z.Warmed39 s.vm) (eT : T.heap = h) (F : own_A Z h a .byte n f) {j x : Int32} (i : Nat) (hj : j.toInt = (i : Int)) (hi : i < n) {g : JFrame} (hg : g.method = m) {rest : List Value} (hs : g.stack = .int x :: .int j :: .ref a :: rest) (hd : decode c.code g.pc = .ok (.bastore, 1)) :
    ∃ T' h', Stand p l e R s m args below meth c T' (locs ++ [⟨a, i⟩]) cells slots ∧ T'.heap = h' ∧ Wr h h' a i (.int (nar .byte x)) ∧ ∀ target, Steps p.tables e below (T'.setTop { g with pc := g.pc + 1, stack := rest }) target → Steps p.tables e below (T.setTop g) target := by
  obtain ⟨cl, A, S, H⟩ := F
  have r := stB X hx hZ eT A (own_in hj hi S) hg hs hd
  rwa [own_clamp hj] at r
end OwnA
/-! the sets, as functions of the place -/
def own_cons (s : Int32) (j : Nat) : Int32 := s + Int32.ofNat j
def own_bump (f : Nat → Int32) (i j : Nat) : Int32 := if j < i then Int32.ofNat j else if j = i then f i + 1 else f j
def own_cx (n : Int32) (k : Nat) (f : Nat → Int32) : Nat → Nat → Option (Nat → Int32)
  | 0, _ => none
  | r + 1, i => if f i + 1 < (if i + 1 < k then f (i + 1) else n) then some (own_bump f i) else own_cx n k f r (i + 1)
def own_colex (n : Int32) (k : Nat) (f : Nat → Int32) : Option (Nat → Int32) := own_cx n k f k 0
def own_run1 (k : Nat) (f : Nat → Int32) : Int32 := if f 0 - (f 0 / Int32.ofNat k) * Int32.ofNat k = 0 then (if f (k - 1) - f 0 = Int32.ofNat k - 1 then 1 else 0) else 0
/-- at most r clones are made -/
def own_ok (n : Int32) (k : Nat) : Nat → Option (Nat → Int32) → Bool
  | _, none => true
  | 0, some _ => false
  | r + 1, some f => if own_run1 k f = 0 then true else own_ok n k r (own_colex n k f)
def own_skip (n : Int32) (k : Nat) : Nat → Option (Nat → Int32) → Option (Nat → Int32)
  | _, none => none
  | 0, some f => some f
  | r + 1, some f => if own_run1 k f = 0 then some f else own_skip n k r (own_colex n k f)
def own_adv (n k rg : Nat) (cx : Option (Nat → Int32)) : Option (Nat → Int32) × Nat × Option (Nat → Int32) :=
  if rg < n / k then (some (own_cons (Int32.ofNat rg * Int32.ofNat k)), rg + 1, cx) else (own_skip (Int32.ofNat n) k 4 cx, rg, (own_skip (Int32.ofNat n) k 4 cx).bind (own_colex (Int32.ofNat n) k))
def own_run (n k : Nat) : Nat → Nat × Option (Nat → Int32) × Bool
  | 0 => ((own_adv n k 0 (some (own_cons 0))).2.1, (own_adv n k 0 (some (own_cons 0))).2.2, (own_adv n k 0 (some (own_cons 0))).1.isSome)
  | m + 1 => ((own_adv n k (own_run n k m).1 (own_run n k m).2.1).2.1, (own_adv n k (own_run n k m).1 (own_run n k m).2.1).2.2, (own_adv n k (own_run n k m).1 (own_run n k m).2.1).1.isSome)
def own_total (n k : Nat) : Nat := if k = n then 1 else if k = 1 then n else if k = n - 1 then n else 6
def own_fine (n k m : Nat) : Bool := decide ((own_run n k m).1 ≤ 4) && own_ok (Int32.ofNat n) k 4 (own_run n k m).2.1 && ((own_run n k m).2.2 == decide (m < own_total n k))
theorem own_all' : ((List.range 5).all fun n => (List.range 5).all fun k => (List.range 7).all fun m => !(decide (1 ≤ k ∧ k ≤ n ∧ m ≤ own_total n k)) || own_fine n k m) = true := by decide +kernel
theorem own_all (n : Nat) (hn : n < 5) (k : Nat) (hk : k < 5) (h1 : 1 ≤ k) (h2 : k ≤ n) (m : Nat) (hm : m < 7) (ht : m ≤ own_total n k) : own_fine n k m = true := by
  have a := List.all_eq_true.mp (List.all_eq_true.mp (List.all_eq_true.mp own_all' n (List.mem_range.mpr hn)) k (List.mem_range.mpr hk)) m (List.mem_range.mpr hm)
  have e : decide (1 ≤ k ∧ k ≤ n ∧ m ≤ own_total n k) = true := decide_eq_true ⟨h1, h2, ht⟩
  rw [e] at a
  simpa using a
theorem own_all0 : ∀ n, n < 5 → ∀ k, k < 5 → 1 ≤ k → k ≤ n → own_ok (Int32.ofNat n) k 4 (some (own_cons 0)) = true := by decide +kernel
theorem own_toInt (k : Nat) (h : k < 2147483648) : (Int32.ofNat k).toInt = (k : Int) := Int32.toInt_ofNat_of_lt (by omega)
theorem own_succ (i : Nat) : (Int32.ofNat i) + (1 : Int32) = Int32.ofNat (i + 1) := (Int32.ofNat_add i 1).symm
theorem own_lt (a b : Nat) (ha : a < 2147483648) (hb : b < 2147483648) : Int32.ofNat a < Int32.ofNat b ↔ a < b := by
  rw [Int32.lt_iff_toInt_lt, own_toInt a ha, own_toInt b hb]; omega
theorem own_n (p B : Int32) (h : ((1 : Int32) + (p &&& (3 : Int32))) = B) : ∃ n : Nat, B = Int32.ofNat n ∧ 1 ≤ n ∧ n ≤ 4 := by
  have e : (p &&& (3 : Int32)).toInt = p.toInt % 2 ^ 2 := Jvm.Kit.i32_mask p 3 (k := 2) (by decide) (by decide)
  have o : (1 : Int32).toInt = 1 := rfl
  have f : B.toInt = 1 + p.toInt % 2 ^ 2 := by rw [← h, Jvm.Kit.i32_add (by rw [e, o]; omega) (by rw [e, o]; omega), e, o]
  obtain ⟨k, h1, h2⟩ := own_ofNat B (by omega)
  exact ⟨k, h1, by omega, by omega⟩
theorem own_nz {n : Nat} (h : 1 ≤ n) (h' : n < 1000) : (Int32.ofNat n) ≠ 0 := fun q => by
  have := congrArg Int32.toInt q
  rw [own_toInt n (by omega)] at this
  have z : (0 : Int32).toInt = 0 := rfl
  omega
theorem own_modn (p : Int32) (n : Nat) (h : 1 ≤ n) (h' : n < 1000) : ∃ r : Nat, ((p &&& (2147483647 : Int32)) - ((p &&& (2147483647 : Int32)) / (Int32.ofNat n)) * (Int32.ofNat n)) = Int32.ofNat r ∧ r < n := by
  have e := own_pick p (Int32.ofNat n) (by rw [own_toInt n (by omega)]; omega)
  rw [own_toInt n (by omega)] at e
  have a := Int.emod_nonneg (p.toInt % 2 ^ 31) (show (n : Int) ≠ 0 by omega)
  have b := Int.emod_lt_of_pos (p.toInt % 2 ^ 31) (show (0 : Int) < (n : Int) by omega)
  obtain ⟨k, h1, h2⟩ := own_ofNat _ (show 0 ≤ ((p &&& (2147483647 : Int32)) - ((p &&& (2147483647 : Int32)) / (Int32.ofNat n)) * (Int32.ofNat n)).toInt by omega)
  exact ⟨k, h1, by omega⟩
theorem own_k (p : Int32) (n : Nat) (h : 1 ≤ n) (h' : n ≤ 4) : ∃ k : Nat, ((1 : Int32) + ((p &&& (2147483647 : Int32)) - ((p &&& (2147483647 : Int32)) / (Int32.ofNat n)) * (Int32.ofNat n))) = Int32.ofNat k ∧ 1 ≤ k ∧ k ≤ n := by
  obtain ⟨r, e, hr⟩ := own_modn p n h (by omega)
  refine ⟨1 + r, ?_, by omega, by omega⟩
  rw [e]; exact (Int32.ofNat_add 1 r).symm
theorem own_tot_le : ∀ n, n < 5 → ∀ k, k < 5 → 1 ≤ k → k ≤ n → 1 ≤ own_total n k ∧ own_total n k ≤ 6 := by decide
theorem own_j (p : Int32) (t : Nat) (h : t ≤ 6) : ∃ j : Nat, ((p &&& (2147483647 : Int32)) - ((p &&& (2147483647 : Int32)) / ((Int32.ofNat t) + (1 : Int32))) * ((Int32.ofNat t) + (1 : Int32))) = Int32.ofNat j ∧ j ≤ t := by
  rw [own_succ]
  obtain ⟨r, e, hr⟩ := own_modn p (t + 1) (by omega) (by omega)
  exact ⟨r, e, by omega⟩
theorem own_jnz (t : Nat) (h : t ≤ 6) : ((Int32.ofNat t) + (1 : Int32)) ≠ 0 := by rw [own_succ]; exact own_nz (by omega) (by omega)
theorem own_choose : ∀ n, n < 5 → ∀ k, k < 5 → 1 ≤ k → k ≤ n → (if (Int32.ofNat k) = (Int32.ofNat n) then (1 : Int32) else if (Int32.ofNat k) = (1 : Int32) then (Int32.ofNat n) else if (Int32.ofNat k) = ((Int32.ofNat n) - (1 : Int32)) then (Int32.ofNat n) else (6 : Int32)) = Int32.ofNat (own_total n k) := by decide
theorem own_div : ∀ n, n < 5 → ∀ k, k < 5 → 1 ≤ k → (Int32.ofNat n) / (Int32.ofNat k) = Int32.ofNat (n / k) ∧ n / k ≤ 4 := by decide
theorem own_km1 : ∀ k, k < 5 → 1 ≤ k → ((Int32.ofNat k) - (1 : Int32)).toInt = ((k - 1 : Nat) : Int) := by decide
/-! the objects -/
/-- null, or a new array of k ints -/
def own_R (Z : State) (h : Heap) (n0 : Nat) (v : Value) (k : Nat) : Option (Nat → Int32) → Prop
  | none => v = .null
  | some f => ∃ r, v = .ref r ∧ own_A Z h r .int k (fun j => .int (f j)) ∧ Exa Z h r "[I" ∧ n0 ≤ r
def own_N (v : Value) : Bool → Prop
  | false => v = .null
  | true => ∃ r, v = .ref r
def own_O (Z : State) (h : Heap) (a : Addr) (n k rg : Nat) (vc vp : Value) : Prop :=
  Exa Z h a "com/example/tallier/tallier/protocol/RecoverySets" ∧ Fld Z h a "com/example/tallier/tallier/protocol/RecoverySets" "n" "I" (.int (Int32.ofNat n)) ∧ Fld Z h a "com/example/tallier/tallier/protocol/RecoverySets" "k" "I" (.int (Int32.ofNat k)) ∧ Fld Z h a "com/example/tallier/tallier/protocol/RecoverySets" "runsGiven" "I" (.int (Int32.ofNat rg)) ∧ Fld Z h a "com/example/tallier/tallier/protocol/RecoverySets" "colex" "[I" vc ∧ Fld Z h a "com/example/tallier/tallier/protocol/RecoverySets" "pending" "[I" vp
section OwnR
variable {Z : State} {h h' : Heap} {n0 k : Nat} {v : Value} {o : Option (Nat → Int32)} {a : Addr} {sl : Nat} {x : Value}
theorem own_R_ext (E : Ext h h') (F : own_R Z h n0 v k o) : own_R Z h' n0 v k o := by
  cases o with
  | none => exact F
  | some f => obtain ⟨r, e, A, Ex, g⟩ := F; exact ⟨r, e, own_A_ext E A, Exa.ext E Ex, g⟩
theorem own_R_keep {ws : List Addr} (K : Keep h h' ws) (q : ∀ r, Exa Z h r "[I" → r ∉ ws) (F : own_R Z h n0 v k o) : own_R Z h' n0 v k o := by
  cases o with
  | none => exact F
  | some f => obtain ⟨r, e, A, Ex, g⟩ := F; exact ⟨r, e, own_A_keep K (q r Ex) A, Exa.keep Ex K, g⟩
theorem own_R_wr (W : Wr h h' a sl x) (E : Exa Z h a "com/example/tallier/tallier/protocol/RecoverySets") (F : own_R Z h n0 v k o) : own_R Z h' n0 v k o := by
  cases o with
  | none => exact F
  | some f => obtain ⟨r, e, A, Ex, g⟩ := F; exact ⟨r, e, own_A_other W (ne_exa Ex E (by decide)) A, Exa.wr W Ex, g⟩
theorem own_R_ref (F : own_R Z h n0 v k o) : v.isRef = true := by
  cases o with
  | none => have e : v = .null := F; subst e; rfl
  | some f => obtain ⟨r, e, -⟩ := F; subst e; rfl
theorem own_R_nar (F : own_R Z h n0 v k o) : narrow (.array .int) v = v := by
  cases o with
  | none => have e : v = .null := F; subst e; rfl
  | some f => obtain ⟨r, e, -⟩ := F; subst e; rfl
theorem own_R_fits (F : own_R Z h n0 v k o) : fits (.array .int) v = true := by
  cases o with
  | none => have e : v = .null := F; subst e; rfl
  | some f => obtain ⟨r, e, -⟩ := F; subst e; rfl
theorem own_R_N (F : own_R Z h n0 v k o) : own_N v o.isSome := by
  cases o with
  | none => exact F
  | some f => obtain ⟨r, e, -⟩ := F; exact ⟨r, e⟩
theorem own_N_t {b : Bool} (F : own_N v b) (hb : b = true) : ∃ r, v = .ref r := by subst hb; exact F
end OwnR
/-- [I.clone() -/
theorem own_clone {p : Program} {l : Launch} {e : Env} {R : Room} {s : State} {m : MethodId} {args : Array Value} {below : List Frame} {meth : Method} {c : Code} {T : State} {locs : List Loc} {cells slots : Nat} {Z : State} {h : Heap} {a : Addr} {n : Nat} {f : Nat → Int32} {a0 : Array Value}
    (X : Stand p l e R s m args below meth c T locs cells slots) (hx : p.tables.exec = Jvm.exec) (hZ : Z.Warmed39 s.vm) {own : String} {index : Nat} (hown : s.vm.findClass own = some m.cls)
    (w1 : (Cond.methodLink own index ⟨"[I", "clone", "()Ljava/lang/Object;"⟩).before a0 Z = true) (w2 : (Cond.sameMethod "[I" "java/lang/Object" "clone" "()Ljava/lang/Object;").before a0 Z = true)
    (w3 : (Cond.native ⟨"java/lang/Object", "clone", "()Ljava/lang/Object;"⟩).before a0 Z = true) (w4 : (Cond.instanceMethod ⟨"java/lang/Object", "clone", "()Ljava/lang/Object;"⟩).before a0 Z = true)
    (w5 : (Cond.selects "[I" ⟨"[I", "clone", "()Ljava/lang/Object;"⟩ ⟨"java/lang/Object", "clone", "()Ljava/lang/Object;"⟩).before a0 Z = true) (w6 : (Cond.castable "[I" "java/lang/Cloneable").before a0 Z = true)
    (eT : T.heap = h) (F : own_A Z h a .int n (fun j => .int (f j))) (E : Exa Z h a "[I")
    {g : JFrame} (hg : g.method = m) (hsize : g.locals.size = c.maxLocals) {rest : List Value} (hs : g.stack = .ref a :: rest) (hd : decode c.code g.pc = .ok (.invokevirtual index, 3))
    (hframes : 1 ≤ R.frames) (hlocals : 2 * g.monitorRoom + (rest.map fun v => v.category).sum + 14 ≤ R.locals) (hcells : cells + 1 ≤ R.cells) (hslots : slots + n ≤ R.slots) :
    ∃ T' h', Stand p l e R s m args below meth c T' locs (cells + 1) (slots + n) ∧ T'.heap = h' ∧ Ext h h' ∧ own_A Z h' h.size .int n (fun j => .int (f j)) ∧ Exa Z h' h.size "[I" ∧
      ∀ target, Steps p.tables e below (T'.setTop { g with pc := g.pc + 3, stack := .ref h.size :: rest }) target → Steps p.tables e below (T.setTop g) target := by
  obtain ⟨cl, ⟨A1, ⟨A2, kA, A3, comp, A4⟩, A5⟩, S, H⟩ := F
  obtain ⟨cl', k', e1, e2, e3, e4, -⟩ := E
  cases A1.symm.trans e1
  obtain ⟨c1, c2, g1, g2, g3⟩ := Cond.castable_spec w6
  cases e2.symm.trans g1
  obtain ⟨ks, q1, q2⟩ := hZ.alike.2.2 _ _ A3
  have hk : ks.kind = .array comp .int := by rw [q2]; exact A4
  obtain ⟨kT, r1, r2⟩ := X.warmed.alike.2.2 _ _ q1
  have hkT : kT.kind = .array comp .int := by rw [r2]; exact hk
  have hfit : ∀ i v, cl.slots[i]? = some v → T.fitsSlot cl.cls .none i v = true := fun i v hv => by
    have hi : i < n := by rw [← S]; exact (Array.getElem?_eq_some_iff.mp hv).1
    have : v = .int (f i) := Option.some.inj (hv.symm.trans (H i hi))
    subst this
    simp only [State.fitsSlot, State.slotType?, r1]; simp only [Option.bind_eq_bind, Option.bind_some, hkT]; rfl
  obtain ⟨vm', X', st⟩ := X.cloneArray hx (own := own) (ad := "[I") (index := index) hown (mvT hZ w1) (mvT hZ w2) (mvT hZ w3) (mvT hZ w4) (mvT hZ w5) (a := a) (cell := cl) (cC := c2) (by rw [eT]; exact A1) A2 A5
    (by rw [hZ.alike.findClass]; exact e2) (by rw [hZ.alike.findClass]; exact g2) (by rw [hZ.alike.assignable]; exact g3) hfit hg hsize hs hd hframes hlocals hcells (by rw [S]; exact hslots) (Vm.clonesLoader_of_array q1 hk)
  rw [S] at X'
  subst eT
  have hnew : ((T.setVm vm').pushCell { cls := cl.cls, slots := cl.slots }).heap[T.heap.size]? = some { cls := cl.cls, slots := cl.slots } := State.heap_pushCell_size _ _
  refine ⟨_, _, X', rfl, ⟨?_, fun y cy hy => ?_⟩, ⟨{ cls := cl.cls, slots := cl.slots }, ⟨hnew, ⟨fun _ q => (by cases q), kA, A3, comp, A4⟩, fun q => (by cases q)⟩, S, H⟩, ⟨_, kA, hnew, e2, A3, rfl, fun q => (by rw [A4] at q; cases q)⟩, st⟩
  · show T.heap.size ≤ (T.heap.push _).size
    rw [Array.size_push]; omega
  · have hlt : y < T.heap.size := (Array.getElem?_eq_some_iff.mp hy).1
    show (T.heap.push _)[y]? = some cy
    rw [Array.getElem?_push_lt hlt, ← Array.getElem?_eq_getElem hlt]; exact hy
/-- checkcast [I of an int[] -/
theorem own_cast {p : Program} {l : Launch} {e : Env} {R : Room} {s : State} {m : MethodId} {args : Array Value} {below : List Frame} {meth : Method} {c : Code} {T : State} {locs : List Loc} {cells slots : Nat} {Z : State} {h : Heap} {a : Addr} {a0 : Array Value}
    (X : Stand p l e R s m args below meth c T locs cells slots) (hx : p.tables.exec = Jvm.exec) (hZ : Z.Warmed39 s.vm) {own : String} {index : Nat} (hown : s.vm.findClass own = some m.cls)
    (w1 : (Cond.classLink own index "[I").before a0 Z = true) (eT : T.heap = h) (E : Exa Z h a "[I") {g : JFrame} (hg : g.method = m) {rest : List Value} (hs : g.stack = .ref a :: rest) (hd : decode c.code g.pc = .ok (.checkcast index, 3)) :
    ∃ T', Stand p l e R s m args below meth c T' locs cells slots ∧ T'.heap = h ∧ ∀ target, Steps p.tables e below (T'.setTop { g with pc := g.pc + 3 }) target → Steps p.tables e below (T.setTop g) target := by
  obtain ⟨cl, k', e1, e2, e3, e4, -⟩ := E
  obtain ⟨ks, q1, q2⟩ := hZ.alike.2.2 _ _ e3
  obtain ⟨vm', X', st⟩ := X.checkcast hx hown (mvT hZ w1) (cell := cl) (by rw [eT]; exact e1) (fun k q => by rw [q] at e4; cases e4) q1 (by rw [hZ.alike.findClass]; exact e2) (Vm.assignable_self _ _) hg hs hd
  exact ⟨_, X', eT, st⟩
def own_fil (s : Int32) (i j : Nat) : Value := if j < i then .int (s + Int32.ofNat j) else .int 0
theorem own_fil_s (s : Int32) (i n : Nat) : ∀ j, j < n → (if j = i then Value.int (s + Int32.ofNat i) else own_fil s i j) = own_fil s (i + 1) j := fun j _ => by
  unfold own_fil
  by_cases h : j = i
  · subst h; rw [if_pos rfl, if_pos (by omega)]
  · rw [if_neg h]
    by_cases h1 : j < i
    · rw [if_pos h1, if_pos (by omega)]
    · rw [if_neg h1, if_neg (by omega)]
theorem own_fil_e (s : Int32) (k : Nat) : ∀ j, j < k → own_fil s k j = Value.int (own_cons s j) := fun j hj => by unfold own_fil own_cons; rw [if_pos hj]
def own_bmp (f : Nat → Int32) (i j q : Nat) : Value := if q < j then .int (Int32.ofNat q) else if q = i then .int (f i + 1) else .int (f q)
theorem own_bmp_0 (f : Nat → Int32) (i n : Nat) : ∀ q, q < n → (if q = i then Value.int (f i + (1 : Int32)) else Value.int (f q)) = own_bmp f i 0 q := fun q _ => by
  unfold own_bmp; rw [if_neg (show ¬ q < 0 by omega)]
theorem own_bmp_s (f : Nat → Int32) (i j n : Nat) : ∀ q, q < n → (if q = j then Value.int (Int32.ofNat j) else own_bmp f i j q) = own_bmp f i (j + 1) q := fun q _ => by
  unfold own_bmp
  by_cases h : q = j
  · subst h; rw [if_pos rfl, if_pos (by omega)]
  · rw [if_neg h]
    by_cases h1 : q < j
    · rw [if_pos h1, if_pos (by omega)]
    · rw [if_neg h1, if_neg (show ¬ q < j + 1 by omega)]
theorem own_bmp_e (f : Nat → Int32) (i n : Nat) : ∀ q, q < n → own_bmp f i i q = Value.int (own_bump f i q) := fun q _ => by
  unfold own_bmp own_bump
  by_cases h : q < i
  · rw [if_pos h, if_pos h]
  · rw [if_neg h, if_neg h]
    by_cases h1 : q = i
    · rw [if_pos h1, if_pos h1]
    · rw [if_neg h1, if_neg h1]
theorem own_cx_yes {n : Int32} {k q i : Nat} {f : Nat → Int32} (h : f i + 1 < (if i + 1 < k then f (i + 1) else n)) : own_cx n k f (q + 1) i = some (own_bump f i) := by
  show (if f i + 1 < (if i + 1 < k then f (i + 1) else n) then some (own_bump f i) else own_cx n k f q (i + 1)) = _
  rw [if_pos h]
theorem own_cx_no {n : Int32} {k q i : Nat} {f : Nat → Int32} (h : ¬ f i + 1 < (if i + 1 < k then f (i + 1) else n)) : own_cx n k f (q + 1) i = own_cx n k f q (i + 1) := by
  show (if f i + 1 < (if i + 1 < k then f (i + 1) else n) then some (own_bump f i) else own_cx n k f q (i + 1)) = _
  rw [if_neg h]
theorem own_adv_run {n k rg : Nat} {cx : Option (Nat → Int32)} (h : rg < n / k) : own_adv n k rg cx = (some (own_cons (Int32.ofNat rg * Int32.ofNat k)), rg + 1, cx) := by unfold own_adv; rw [if_pos h]
theorem own_adv_cx {n k rg : Nat} {cx : Option (Nat → Int32)} (h : ¬ rg < n / k) : own_adv n k rg cx = (own_skip (Int32.ofNat n) k 4 cx, rg, (own_skip (Int32.ofNat n) k 4 cx).bind (own_colex (Int32.ofNat n) k)) := by unfold own_adv; rw [if_neg h]
theorem own_ok_s {n : Int32} {k r : Nat} {f : Nat → Int32} (h : own_ok n k (r + 1) (some f) = true) (hr : ¬ own_run1 k f = 0) : own_ok n k r (own_colex n k f) = true := by
  have e : own_ok n k (r + 1) (some f) = if own_run1 k f = 0 then true else own_ok n k r (own_colex n k f) := by rw [own_ok]
  rw [e, if_neg hr] at h; exact h
theorem own_skip_stop {n : Int32} {k r : Nat} {f : Nat → Int32} (hr : own_run1 k f = 0) : own_skip n k (r + 1) (some f) = some f := by
  have e : own_skip n k (r + 1) (some f) = if own_run1 k f = 0 then some f else own_skip n k r (own_colex n k f) := by rw [own_skip]
  rw [e, if_pos hr]
theorem own_skip_go {n : Int32} {k r : Nat} {f : Nat → Int32} (hr : ¬ own_run1 k f = 0) : own_skip n k (r + 1) (some f) = own_skip n k r (own_colex n k f) := by
  have e : own_skip n k (r + 1) (some f) = if own_run1 k f = 0 then some f else own_skip n k r (own_colex n k f) := by rw [own_skip]
  rw [e, if_neg hr]
theorem own_skip_none (n : Int32) (k r : Nat) : own_skip n k r none = none := by cases r <;> rfl
theorem own_fine_rg {n k m : Nat} (h : own_fine n k m = true) : (own_run n k m).1 ≤ 4 := by
  unfold own_fine at h; simp only [Bool.and_eq_true, decide_eq_true_eq] at h; exact h.1.1
theorem own_fine_ok {n k m : Nat} (h : own_fine n k m = true) : own_ok (Int32.ofNat n) k 4 (own_run n k m).2.1 = true := by
  unfold own_fine at h; simp only [Bool.and_eq_true, decide_eq_true_eq] at h; exact h.1.2
theorem own_fine_p {n k m : Nat} (h : own_fine n k m = true) : (own_run n k m).2.2 = decide (m < own_total n k) := by
  unfold own_fine at h; simp only [Bool.and_eq_true, beq_iff_eq] at h; exact h.2
def own_b (b : Bool) : Int32 := if b then 1 else 0
theorem own_b1 {n k m : Nat} (h : own_fine n k m = true) (q : m < own_total n k) : own_b (own_run n k m).2.2 = 1 := by rw [own_fine_p h, decide_eq_true q]; rfl
theorem own_b0 {n k m : Nat} (h : own_fine n k m = true) (q : ¬ m < own_total n k) : own_b (own_run n k m).2.2 = 0 := by rw [own_fine_p h, decide_eq_false q]; rfl

theorem own_clampN (n : Nat) (h : n < 2147483648) : (Int32.ofNat n).toNatClampNeg = n := own_clamp (own_toInt n h)
theorem own_nneg (n : Nat) (h : n < 2147483648) : ¬ (Int32.ofNat n) < 0 := by
  rw [Int32.lt_iff_toInt_lt, own_toInt n h]; show ¬ (n : Int) < 0; omega
theorem own_k1 {k : Nat} (h : 1 ≤ k) (h' : k < 1000) : ¬ (Int32.ofNat k) < (1 : Int32) := by
  rw [Int32.lt_iff_toInt_lt, own_toInt k (by omega)]; show ¬ (k : Int) < 1; omega
theorem d1_0 : decode prog_10_method_7_code 0 = .ok (.aload_n 0, 1) := by decide +kernel
theorem d1_1 : decode prog_10_method_7_code 1 = .ok (.getfield 22, 3) := by decide +kernel
theorem d1_4 : decode prog_10_method_7_code 4 = .ok (.newarray .int, 2) := by decide +kernel
theorem d1_6 : decode prog_10_method_7_code 6 = .ok (.astore_n 2, 1) := by decide +kernel
theorem d1_7 : decode prog_10_method_7_code 7 = .ok (.iconst 0, 1) := by decide +kernel
theorem d1_8 : decode prog_10_method_7_code 8 = .ok (.istore_n 3, 1) := by decide +kernel
theorem d1_9 : decode prog_10_method_7_code 9 = .ok (.iload_n 3, 1) := by decide +kernel
theorem d1_10 : decode prog_10_method_7_code 10 = .ok (.aload_n 0, 1) := by decide +kernel
theorem d1_11 : decode prog_10_method_7_code 11 = .ok (.getfield 22, 3) := by decide +kernel
theorem d1_14 : decode prog_10_method_7_code 14 = .ok (.if_icmp .ge 15, 3) := by decide +kernel
theorem d1_17 : decode prog_10_method_7_code 17 = .ok (.aload_n 2, 1) := by decide +kernel
theorem d1_18 : decode prog_10_method_7_code 18 = .ok (.iload_n 3, 1) := by decide +kernel
theorem d1_19 : decode prog_10_method_7_code 19 = .ok (.iload_n 1, 1) := by decide +kernel
theorem d1_20 : decode prog_10_method_7_code 20 = .ok (.iload_n 3, 1) := by decide +kernel
theorem d1_21 : decode prog_10_method_7_code 21 = .ok (.iadd, 1) := by decide +kernel
theorem d1_22 : decode prog_10_method_7_code 22 = .ok (.iastore, 1) := by decide +kernel
theorem d1_23 : decode prog_10_method_7_code 23 = .ok (.iinc 3 1, 3) := by decide +kernel
theorem d1_26 : decode prog_10_method_7_code 26 = .ok (.goto (-17), 3) := by decide +kernel
theorem d1_29 : decode prog_10_method_7_code 29 = .ok (.aload_n 2, 1) := by decide +kernel
theorem d1_30 : decode prog_10_method_7_code 30 = .ok (.areturn, 1) := by decide +kernel
theorem pn_1 : plainName "com/example/tallier/tallier/protocol/RecoverySets" = true := by first | (simp [plainName, overriddenIn]; done) | decide +kernel
theorem ef_1 (m : MethodId) (a1 : Addr) (p2 : Int32)  : entryFrame m #[(.ref a1), (.int p2)] 4 = mkF m 0 #[.val (.ref a1), .val (.int p2), .unset, .unset] [] := by first | (simp [entryFrame, mkF, argsToLocals, Value.category]; done) | rfl
def Q1 (Z : State) (a1 : Addr) (p2 : Int32) (k : Nat) (h0 : Heap) (n0 : Nat) (v : Option Value) (h : Heap) (L : List Loc) : Prop := (∃ w, v = some w ∧ own_R Z h n0 w k (some (own_cons p2))) ∧ Fr n0 L ∧ Keep h0 h [] ∧ True
set_option maxRecDepth 65536 in
set_option maxHeartbeats 40000000 in
theorem rm1 (l : Launch) (Z : State) (a0 : Array Value) (hw : ∀ d ∈ tables_1, d.before a0 Z = true) (ws : List Jvm.Cond) (a1 : Addr) (p2 : Int32) (k : Nat) (h0 : Heap) (n0 : Nat) (Z0 : n0 ≤ h0.size) (hk1 : 1 ≤ k) (hk4 : k ≤ 4) (Fk : Fld Z h0 a1 "com/example/tallier/tallier/protocol/RecoverySets" "k" "I" (.int (Int32.ofNat k))) :
    MetFree l (⟨"com/example/tallier/tallier/protocol/RecoverySets", "consecutive", "(I)[I"⟩ : MethodName) (head1 (Jvm.Cond.code (⟨"com/example/tallier/tallier/protocol/RecoverySets", "consecutive", "(I)[I"⟩ : MethodName) prog_10_method_7_code 4 (some (.array .int)) :: ws) ({ frames := 0, cells := 1, slots := 4, locals := 0 } : Room)) (fun zA zU => zA = #[(.ref a1), (.int p2)] ∧ Z.Warmed39 zU.vm ∧ zU.heap = h0) (fun _ _ _ _ _ => True) (fun _ zU zo zT => ∃ zv zL, zo = .returned zv ∧ Q1 Z a1 p2 k h0 n0 zv zT.heap zL ∧ FrameEnd zU zo zT zL ({ frames := 0, cells := 1, slots := 4, locals := 0 } : Room).cells ({ frames := 0, cells := 1, slots := 4, locals := 0 } : Room).slots) := by
  refine MetFree.of_bodySF (plainFor_of_name pn_1) hisR ?_
  intro p e s m args below meth c s₁ Bd hml0 hP hK
  obtain ⟨rfl, hZ, hh⟩ := hP
  have hx := Bd.exec
  have hby := Bd.bytes
  have hml : c.maxLocals = 4 := hml0
  have hown : s.vm.findClass "com/example/tallier/tallier/protocol/RecoverySets" = some m.cls := findClass_of_methodNamed Bd.named
  have hnm := (name_of_methodNamed Bd.named Bd.method).1
  have hlk : meth.locks = false := Bd.notSynchronized
  have X0 : Stand p l e ({ frames := 0, cells := 1, slots := 4, locals := 0 } : Room) s m #[(.ref a1), (.int p2)] below meth c s₁ [] 0 0 := Stand.of_body Bd
  have e0 : s₁.heap = h0 := by rw [← hh, Bd.state]; rfl
  have N0 := Fr.nil n0
  refine own_step (p := p) (e := e) (below := below) (U' := s₁.setTop (mkF m 0 #[.val (.ref a1), .val (.int p2), .unset, .unset] [])) (fun _ zk => castTop (ef_1 m a1 p2 ) zk) ?_
  have K_0 : Keep h0 h0 [] := Keep.refl _ _
  refine own_step (fun _ zk => XS.aloadN X0.here hx rfl (hb hby d1_0) rfl rfl zk) ?_
  show own_E p e below _ (s₁.setTop (mkF m 1 #[.val (.ref a1), .val (.int p2), .unset, .unset] [(.ref a1)]))
  obtain ⟨T1, X1, e1, st1⟩ := getF X0 hx hZ hown (host := "") (Or.inl (hw _ (List.mem_of_getElem? (i := 16) rfl))) Via.refl e0 Fk (g := (mkF m 1 #[.val (.ref a1), .val (.int p2), .unset, .unset] [(.ref a1)])) rfl rfl (hb hby d1_1)
  refine own_step st1 ?_
  show own_E p e below _ (T1.setTop (mkF m 4 #[.val (.ref a1), .val (.int p2), .unset, .unset] [(.int (Int32.ofNat k))]))
  obtain ⟨T2, h2, c2, X2, e2, E2, A2, Ex2, st2⟩ := newPE X1 hx hZ (hw _ (List.mem_of_getElem? (i := 22) rfl)) e1 (g := (mkF m 4 #[.val (.ref a1), .val (.int p2), .unset, .unset] [(.int (Int32.ofNat k))])) rfl (hb hby d1_4) rfl (own_nneg k (by omega)) (cap := 4) (by rw [own_clampN k (by omega)]; omega) (by decide) (by decide) (by decide) (ad := "[I") (by decide)
  obtain ⟨r, g_r⟩ : ∃ z, z = h0.size := ⟨_, rfl⟩
  rw [← g_r] at A2 Ex2 st2
  have gh_r : h0.size ≤ r := Nat.le_trans K_0.1 (Nat.le_of_eq g_r.symm)
  have ge_r : n0 ≤ r := Nat.le_trans Z0 gh_r
  have ne_a1_r : a1 ≠ r := Nat.ne_of_lt (Nat.lt_of_lt_of_le Fk.lt (Nat.le_of_eq g_r.symm))
  have Fk_2 := Fld.ext E2 Fk
  have K_2 := Keep.ext K_0 E2
  have A_2 : own_A Z h2 r .int k (own_fil p2 0) := own_A_new A2 (own_clampN k (by omega))
  refine own_step st2 ?_
  show own_E p e below _ (T2.setTop (mkF m 6 #[.val (.ref a1), .val (.int p2), .unset, .unset] [(.ref r)]))
  refine own_step (fun _ zk => XS.astoreN X2.here hx rfl (hb hby d1_6) rfl rfl (l' := #[.val (.ref a1), .val (.int p2), .val (.ref r), .unset]) rfl zk) ?_
  show own_E p e below _ (T2.setTop (mkF m 7 #[.val (.ref a1), .val (.int p2), .val (.ref r), .unset] []))
  refine own_step (fun _ zk => XS.iconst X2.here hx rfl (hb hby d1_7) zk) ?_
  show own_E p e below _ (T2.setTop (mkF m 8 #[.val (.ref a1), .val (.int p2), .val (.ref r), .unset] [(.int (0 : Int32))]))
  refine own_step (fun _ zk => XS.istoreN X2.here hx rfl (hb hby d1_8) rfl (l' := #[.val (.ref a1), .val (.int p2), .val (.ref r), .val (.int (0 : Int32))]) rfl zk) ?_
  show own_E p e below _ (T2.setTop (mkF m 9 #[.val (.ref a1), .val (.int p2), .val (.ref r), .val (.int (0 : Int32))] []))
  have loop : ∀ (q i : Nat) (T : State) (locs : List Loc) (h : Heap), i + q = k → Stand p l e ({ frames := 0, cells := 1, slots := 4, locals := 0 } : Room) s m #[(.ref a1), (.int p2)] below meth c T locs 1 4 → T.heap = h → Fr n0 locs → Keep h0 h [] → Fld Z h a1 "com/example/tallier/tallier/protocol/RecoverySets" "k" "I" (.int (Int32.ofNat k)) → own_A Z h r .int k (own_fil p2 i) → Exa Z h r "[I" → own_E p e below (fun (zT : State) (zo : Outcome) => ∃ zv zL, zo = .returned zv ∧ Q1 Z a1 p2 k h0 n0 zv zT.heap zL ∧ FrameEnd s zo zT zL ({ frames := 0, cells := 1, slots := 4, locals := 0 } : Room).cells ({ frames := 0, cells := 1, slots := 4, locals := 0 } : Room).slots) (T.setTop (mkF m 9 #[.val (.ref a1), .val (.int p2), .val (.ref r), .val (.int (Int32.ofNat i))] [])) := by
    intro q
    induction q with
    | zero =>
      intro i T locs h hi X eT N K Fk A Er
      have hc14 : ¬ (Int32.ofNat i) < (Int32.ofNat k) := by rw [own_lt _ _ (by omega) (by omega)]; omega
      refine own_step (fun _ zk => XS.iloadN X.here hx rfl (hb hby d1_9) rfl zk) ?_
      show own_E p e below _ (T.setTop (mkF m 10 #[.val (.ref a1), .val (.int p2), .val (.ref r), .val (.int (Int32.ofNat i))] [(.int (Int32.ofNat i))]))
      refine own_step (fun _ zk => XS.aloadN X.here hx rfl (hb hby d1_10) rfl rfl zk) ?_
      show own_E p e below _ (T.setTop (mkF m 11 #[.val (.ref a1), .val (.int p2), .val (.ref r), .val (.int (Int32.ofNat i))] [(.ref a1), (.int (Int32.ofNat i))]))
      obtain ⟨T3, X3, e3, st3⟩ := getF X hx hZ hown (host := "") (Or.inl (hw _ (List.mem_of_getElem? (i := 16) rfl))) Via.refl eT Fk (g := (mkF m 11 #[.val (.ref a1), .val (.int p2), .val (.ref r), .val (.int (Int32.ofNat i))] [(.ref a1), (.int (Int32.ofNat i))])) rfl rfl (hb hby d1_11)
      refine own_step st3 ?_
      show own_E p e below _ (T3.setTop (mkF m 14 #[.val (.ref a1), .val (.int p2), .val (.ref r), .val (.int (Int32.ofNat i))] [(.int (Int32.ofNat k)), (.int (Int32.ofNat i))]))
      refine own_step (fun _ zk => XS.icmpYes X3.here hx rfl (pc0 := 14) (pc' := 29) rfl (hb hby d1_14) rfl (flt hc14).2.1 (by decide) (by decide) zk) ?_
      show own_E p e below _ (T3.setTop (mkF m 29 #[.val (.ref a1), .val (.int p2), .val (.ref r), .val (.int (Int32.ofNat i))] []))
      refine own_step (fun _ zk => XS.aloadN X3.here hx rfl (hb hby d1_29) rfl rfl zk) ?_
      show own_E p e below _ (T3.setTop (mkF m 30 #[.val (.ref a1), .val (.int p2), .val (.ref r), .val (.int (Int32.ofNat i))] [(.ref r)]))
      refine own_ret X3 hlk (v := some (.ref r)) (fun h => by rw [Bd.returns] at h; cases h) ?_ (by decide) (by decide) (fun fs hr => retOut X3 hx (t := (.array .int)) (i := .areturn) Bd.returns rfl (Or.inr (Or.inr (Or.inr (Or.inr ⟨rfl, rfl, rfl⟩)))) (hb hby d1_30) hr)
      show Q1 Z a1 p2 k h0 n0 _ T3.heap _
      rw [e3]
      exact ⟨⟨_, rfl, r, rfl, own_A_eq (by rw [show i = k by omega] at A; exact A) (own_fil_e p2 k), Er, ge_r⟩, N, K, trivial⟩
    | succ q ih =>
      intro i T locs h hi X eT N K Fk A Er
      have hc14 : (Int32.ofNat i) < (Int32.ofNat k) := by rw [own_lt _ _ (by omega) (by omega)]; omega
      refine own_step (fun _ zk => XS.iloadN X.here hx rfl (hb hby d1_9) rfl zk) ?_
      show own_E p e below _ (T.setTop (mkF m 10 #[.val (.ref a1), .val (.int p2), .val (.ref r), .val (.int (Int32.ofNat i))] [(.int (Int32.ofNat i))]))
      refine own_step (fun _ zk => XS.aloadN X.here hx rfl (hb hby d1_10) rfl rfl zk) ?_
      show own_E p e below _ (T.setTop (mkF m 11 #[.val (.ref a1), .val (.int p2), .val (.ref r), .val (.int (Int32.ofNat i))] [(.ref a1), (.int (Int32.ofNat i))]))
      obtain ⟨T4, X4, e4, st4⟩ := getF X hx hZ hown (host := "") (Or.inl (hw _ (List.mem_of_getElem? (i := 16) rfl))) Via.refl eT Fk (g := (mkF m 11 #[.val (.ref a1), .val (.int p2), .val (.ref r), .val (.int (Int32.ofNat i))] [(.ref a1), (.int (Int32.ofNat i))])) rfl rfl (hb hby d1_11)
      refine own_step st4 ?_
      show own_E p e below _ (T4.setTop (mkF m 14 #[.val (.ref a1), .val (.int p2), .val (.ref r), .val (.int (Int32.ofNat i))] [(.int (Int32.ofNat k)), (.int (Int32.ofNat i))]))
      refine own_step (fun _ zk => XS.icmpNo X4.here hx rfl (hb hby d1_14) rfl (tlt hc14).2.1 zk) ?_
      show own_E p e below _ (T4.setTop (mkF m 17 #[.val (.ref a1), .val (.int p2), .val (.ref r), .val (.int (Int32.ofNat i))] []))
      refine own_step (fun _ zk => XS.aloadN X4.here hx rfl (hb hby d1_17) rfl rfl zk) ?_
      show own_E p e below _ (T4.setTop (mkF m 18 #[.val (.ref a1), .val (.int p2), .val (.ref r), .val (.int (Int32.ofNat i))] [(.ref r)]))
      refine own_step (fun _ zk => XS.iloadN X4.here hx rfl (hb hby d1_18) rfl zk) ?_
      show own_E p e below _ (T4.setTop (mkF m 19 #[.val (.ref a1), .val (.int p2), .val (.ref r), .val (.int (Int32.ofNat i))] [(.int (Int32.ofNat i)), (.ref r)]))
      refine own_step (fun _ zk => XS.iloadN X4.here hx rfl (hb hby d1_19) rfl zk) ?_
      show own_E p e below _ (T4.setTop (mkF m 20 #[.val (.ref a1), .val (.int p2), .val (.ref r), .val (.int (Int32.ofNat i))] [(.int p2), (.int (Int32.ofNat i)), (.ref r)]))
      refine own_step (fun _ zk => XS.iloadN X4.here hx rfl (hb hby d1_20) rfl zk) ?_
      show own_E p e below _ (T4.setTop (mkF m 21 #[.val (.ref a1), .val (.int p2), .val (.ref r), .val (.int (Int32.ofNat i))] [(.int (Int32.ofNat i)), (.int p2), (.int (Int32.ofNat i)), (.ref r)]))
      refine own_step (fun _ zk => XS.iadd X4.here hx rfl (hb hby d1_21) rfl zk) ?_
      show own_E p e below _ (T4.setTop (mkF m 22 #[.val (.ref a1), .val (.int p2), .val (.ref r), .val (.int (Int32.ofNat i))] [(.int (p2 + (Int32.ofNat i))), (.int (Int32.ofNat i)), (.ref r)]))
      obtain ⟨T5, h5, X5, e5, W5, st5⟩ := own_stI X4 hx hZ e4 A i (own_toInt i (by omega)) (by omega) (g := (mkF m 22 #[.val (.ref a1), .val (.int p2), .val (.ref r), .val (.int (Int32.ofNat i))] [(.int (p2 + (Int32.ofNat i))), (.int (Int32.ofNat i)), (.ref r)])) rfl rfl (hb hby d1_22)
      have N5 := Fr.snoc X5 N ge_r
      have Fk_5 := Fld.other W5 Fk (Or.inl ne_a1_r)
      have A_5 := own_A_set W5 A
      have E_r_5 := Exa.wr W5 Er
      have K_5 := Keep.wr K W5 (Or.inr gh_r)
      replace A_5 := own_A_eq (f' := (own_fil p2 (i + 1))) A_5 (own_fil_s p2 i k)
      refine own_step st5 ?_
      show own_E p e below _ (T5.setTop (mkF m 23 #[.val (.ref a1), .val (.int p2), .val (.ref r), .val (.int (Int32.ofNat i))] []))
      refine own_step (fun _ zk => XS.iinc X5.here hx rfl (hb hby d1_23) rfl (l' := #[.val (.ref a1), .val (.int p2), .val (.ref r), .val (.int ((Int32.ofNat i) + (1 : Int32)))]) rfl zk) ?_
      show own_E p e below _ (T5.setTop (mkF m 26 #[.val (.ref a1), .val (.int p2), .val (.ref r), .val (.int ((Int32.ofNat i) + (1 : Int32)))] []))
      rw [show ((Int32.ofNat i) + (1 : Int32)) = (Int32.ofNat (i + 1)) from own_succ i]
      show own_E p e below _ (T5.setTop (mkF m 26 #[.val (.ref a1), .val (.int p2), .val (.ref r), .val (.int (Int32.ofNat (i + 1)))] []))
      refine own_step (fun _ zk => XS.goto X5.here hx rfl (pc0 := 26) (pc' := 9) rfl (hb hby d1_26) (by decide) (by decide) zk) ?_
      show own_E p e below _ (T5.setTop (mkF m 9 #[.val (.ref a1), .val (.int p2), .val (.ref r), .val (.int (Int32.ofNat (i + 1)))] []))
      exact ih (i + 1) _ _ _ (by omega) X5 e5 N5 K_5 Fk_5 A_5 E_r_5
  exact loop k 0 _ _ _ (by omega) X2 e2 N0 K_2 Fk_2 A_2 Ex2
theorem d2_0 : decode prog_10_method_5_code 0 = .ok (.aload_n 1, 1) := by decide +kernel
theorem d2_1 : decode prog_10_method_5_code 1 = .ok (.iconst 0, 1) := by decide +kernel
theorem d2_2 : decode prog_10_method_5_code 2 = .ok (.iaload, 1) := by decide +kernel
theorem d2_3 : decode prog_10_method_5_code 3 = .ok (.aload_n 0, 1) := by decide +kernel
theorem d2_4 : decode prog_10_method_5_code 4 = .ok (.getfield 22, 3) := by decide +kernel
theorem d2_7 : decode prog_10_method_5_code 7 = .ok (.irem, 1) := by decide +kernel
theorem d2_8 : decode prog_10_method_5_code 8 = .ok (.ifCond .ne 28, 3) := by decide +kernel
theorem d2_11 : decode prog_10_method_5_code 11 = .ok (.aload_n 1, 1) := by decide +kernel
theorem d2_12 : decode prog_10_method_5_code 12 = .ok (.aload_n 0, 1) := by decide +kernel
theorem d2_13 : decode prog_10_method_5_code 13 = .ok (.getfield 22, 3) := by decide +kernel
theorem d2_16 : decode prog_10_method_5_code 16 = .ok (.iconst 1, 1) := by decide +kernel
theorem d2_17 : decode prog_10_method_5_code 17 = .ok (.isub, 1) := by decide +kernel
theorem d2_18 : decode prog_10_method_5_code 18 = .ok (.iaload, 1) := by decide +kernel
theorem d2_19 : decode prog_10_method_5_code 19 = .ok (.aload_n 1, 1) := by decide +kernel
theorem d2_20 : decode prog_10_method_5_code 20 = .ok (.iconst 0, 1) := by decide +kernel
theorem d2_21 : decode prog_10_method_5_code 21 = .ok (.iaload, 1) := by decide +kernel
theorem d2_22 : decode prog_10_method_5_code 22 = .ok (.isub, 1) := by decide +kernel
theorem d2_23 : decode prog_10_method_5_code 23 = .ok (.aload_n 0, 1) := by decide +kernel
theorem d2_24 : decode prog_10_method_5_code 24 = .ok (.getfield 22, 3) := by decide +kernel
theorem d2_27 : decode prog_10_method_5_code 27 = .ok (.iconst 1, 1) := by decide +kernel
theorem d2_28 : decode prog_10_method_5_code 28 = .ok (.isub, 1) := by decide +kernel
theorem d2_29 : decode prog_10_method_5_code 29 = .ok (.if_icmp .ne 7, 3) := by decide +kernel
theorem d2_32 : decode prog_10_method_5_code 32 = .ok (.iconst 1, 1) := by decide +kernel
theorem d2_33 : decode prog_10_method_5_code 33 = .ok (.goto 4, 3) := by decide +kernel
theorem d2_36 : decode prog_10_method_5_code 36 = .ok (.iconst 0, 1) := by decide +kernel
theorem d2_37 : decode prog_10_method_5_code 37 = .ok (.ireturn, 1) := by decide +kernel
theorem pn_2 : plainName "com/example/tallier/tallier/protocol/RecoverySets" = true := by first | (simp [plainName, overriddenIn]; done) | decide +kernel
theorem ef_2 (m : MethodId) (a1 : Addr) (a2 : Addr)  : entryFrame m #[(.ref a1), (.ref a2)] 2 = mkF m 0 #[.val (.ref a1), .val (.ref a2)] [] := by first | (simp [entryFrame, mkF, argsToLocals, Value.category]; done) | rfl
def Q2 (Z : State) (a1 : Addr) (a2 : Addr) (k : Nat) (f : Nat → Int32) (h0 : Heap) (n0 : Nat) (v : Option Value) (h : Heap) (L : List Loc) : Prop := v = some (.int (own_run1 k f)) ∧ Fr n0 L ∧ h = h0
set_option maxRecDepth 65536 in
set_option maxHeartbeats 40000000 in
theorem rm2 (l : Launch) (Z : State) (a0 : Array Value) (hw : ∀ d ∈ tables_1, d.before a0 Z = true) (ws : List Jvm.Cond) (a1 : Addr) (a2 : Addr) (k : Nat) (f : Nat → Int32) (h0 : Heap) (n0 : Nat) (Z0 : n0 ≤ h0.size) (hk1 : 1 ≤ k) (hk4 : k ≤ 4) (Fk : Fld Z h0 a1 "com/example/tallier/tallier/protocol/RecoverySets" "k" "I" (.int (Int32.ofNat k))) (A : own_A Z h0 a2 .int k (fun j => .int (f j))) :
    MetFree l (⟨"com/example/tallier/tallier/protocol/RecoverySets", "isRun", "([I)Z"⟩ : MethodName) (head1 (Jvm.Cond.code (⟨"com/example/tallier/tallier/protocol/RecoverySets", "isRun", "([I)Z"⟩ : MethodName) prog_10_method_5_code 2 (some .boolean) :: ws) ({ frames := 0, cells := 0, slots := 0, locals := 0 } : Room)) (fun zA zU => zA = #[(.ref a1), (.ref a2)] ∧ Z.Warmed39 zU.vm ∧ zU.heap = h0) (fun _ _ _ _ _ => True) (fun _ zU zo zT => ∃ zv zL, zo = .returned zv ∧ Q2 Z a1 a2 k f h0 n0 zv zT.heap zL ∧ FrameEnd zU zo zT zL ({ frames := 0, cells := 0, slots := 0, locals := 0 } : Room).cells ({ frames := 0, cells := 0, slots := 0, locals := 0 } : Room).slots) := by
  refine MetFree.of_bodySF (plainFor_of_name pn_2) hisR ?_
  intro p e s m args below meth c s₁ Bd hml0 hP hK
  obtain ⟨rfl, hZ, hh⟩ := hP
  have hx := Bd.exec
  have hby := Bd.bytes
  have hml : c.maxLocals = 2 := hml0
  have hown : s.vm.findClass "com/example/tallier/tallier/protocol/RecoverySets" = some m.cls := findClass_of_methodNamed Bd.named
  have hnm := (name_of_methodNamed Bd.named Bd.method).1
  have hlk : meth.locks = false := Bd.notSynchronized
  have X0 : Stand p l e ({ frames := 0, cells := 0, slots := 0, locals := 0 } : Room) s m #[(.ref a1), (.ref a2)] below meth c s₁ [] 0 0 := Stand.of_body Bd
  have e0 : s₁.heap = h0 := by rw [← hh, Bd.state]; rfl
  have N0 := Fr.nil n0
  refine own_step (p := p) (e := e) (below := below) (U' := s₁.setTop (mkF m 0 #[.val (.ref a1), .val (.ref a2)] [])) (fun _ zk => castTop (ef_2 m a1 a2 ) zk) ?_
  refine own_step (fun _ zk => XS.aloadN X0.here hx rfl (hb hby d2_0) rfl rfl zk) ?_
  show own_E p e below _ (s₁.setTop (mkF m 1 #[.val (.ref a1), .val (.ref a2)] [(.ref a2)]))
  refine own_step (fun _ zk => XS.iconst X0.here hx rfl (hb hby d2_1) zk) ?_
  show own_E p e below _ (s₁.setTop (mkF m 2 #[.val (.ref a1), .val (.ref a2)] [(.int (0 : Int32)), (.ref a2)]))
  refine own_step (fun _ zk => own_ldI X0 hx hZ e0 A 0 (by decide) (by omega) (g := (mkF m 2 #[.val (.ref a1), .val (.ref a2)] [(.int (0 : Int32)), (.ref a2)])) rfl rfl (hb hby d2_2) zk) ?_
  show own_E p e below _ (s₁.setTop (mkF m 3 #[.val (.ref a1), .val (.ref a2)] [(.int (f 0))]))
  refine own_step (fun _ zk => XS.aloadN X0.here hx rfl (hb hby d2_3) rfl rfl zk) ?_
  show own_E p e below _ (s₁.setTop (mkF m 4 #[.val (.ref a1), .val (.ref a2)] [(.ref a1), (.int (f 0))]))
  obtain ⟨T1, X1, e1, st1⟩ := getF X0 hx hZ hown (host := "") (Or.inl (hw _ (List.mem_of_getElem? (i := 16) rfl))) Via.refl e0 Fk (g := (mkF m 4 #[.val (.ref a1), .val (.ref a2)] [(.ref a1), (.int (f 0))])) rfl rfl (hb hby d2_4)
  refine own_step st1 ?_
  show own_E p e below _ (T1.setTop (mkF m 7 #[.val (.ref a1), .val (.ref a2)] [(.int (Int32.ofNat k)), (.int (f 0))]))
  refine own_step (fun _ zk => XS.irem X1.here hx rfl (hb hby d2_7) rfl (own_nz hk1 (by omega)) zk) ?_
  show own_E p e below _ (T1.setTop (mkF m 8 #[.val (.ref a1), .val (.ref a2)] [(.int ((f 0) - ((f 0) / (Int32.ofNat k)) * (Int32.ofNat k)))]))
  by_cases hc8 : ((f 0) - ((f 0) / (Int32.ofNat k)) * (Int32.ofNat k)) = (0 : Int32)
  · skip
    refine own_step (fun _ zk => XS.ifNo X1.here hx rfl (hb hby d2_8) rfl ((if0 _ _).trans (teq hc8).2) zk) ?_
    show own_E p e below _ (T1.setTop (mkF m 11 #[.val (.ref a1), .val (.ref a2)] []))
    refine own_step (fun _ zk => XS.aloadN X1.here hx rfl (hb hby d2_11) rfl rfl zk) ?_
    show own_E p e below _ (T1.setTop (mkF m 12 #[.val (.ref a1), .val (.ref a2)] [(.ref a2)]))
    refine own_step (fun _ zk => XS.aloadN X1.here hx rfl (hb hby d2_12) rfl rfl zk) ?_
    show own_E p e below _ (T1.setTop (mkF m 13 #[.val (.ref a1), .val (.ref a2)] [(.ref a1), (.ref a2)]))
    obtain ⟨T2, X2, e2, st2⟩ := getF X1 hx hZ hown (host := "") (Or.inl (hw _ (List.mem_of_getElem? (i := 16) rfl))) Via.refl e1 Fk (g := (mkF m 13 #[.val (.ref a1), .val (.ref a2)] [(.ref a1), (.ref a2)])) rfl rfl (hb hby d2_13)
    refine own_step st2 ?_
    show own_E p e below _ (T2.setTop (mkF m 16 #[.val (.ref a1), .val (.ref a2)] [(.int (Int32.ofNat k)), (.ref a2)]))
    refine own_step (fun _ zk => XS.iconst X2.here hx rfl (hb hby d2_16) zk) ?_
    show own_E p e below _ (T2.setTop (mkF m 17 #[.val (.ref a1), .val (.ref a2)] [(.int (1 : Int32)), (.int (Int32.ofNat k)), (.ref a2)]))
    refine own_step (fun _ zk => XS.isub X2.here hx rfl (hb hby d2_17) rfl zk) ?_
    show own_E p e below _ (T2.setTop (mkF m 18 #[.val (.ref a1), .val (.ref a2)] [(.int ((Int32.ofNat k) - (1 : Int32))), (.ref a2)]))
    refine own_step (fun _ zk => own_ldI X2 hx hZ e2 A (k - 1) (own_km1 k (by omega) hk1) (by omega) (g := (mkF m 18 #[.val (.ref a1), .val (.ref a2)] [(.int ((Int32.ofNat k) - (1 : Int32))), (.ref a2)])) rfl rfl (hb hby d2_18) zk) ?_
    show own_E p e below _ (T2.setTop (mkF m 19 #[.val (.ref a1), .val (.ref a2)] [(.int (f (k - 1)))]))
    refine own_step (fun _ zk => XS.aloadN X2.here hx rfl (hb hby d2_19) rfl rfl zk) ?_
    show own_E p e below _ (T2.setTop (mkF m 20 #[.val (.ref a1), .val (.ref a2)] [(.ref a2), (.int (f (k - 1)))]))
    refine own_step (fun _ zk => XS.iconst X2.here hx rfl (hb hby d2_20) zk) ?_
    show own_E p e below _ (T2.setTop (mkF m 21 #[.val (.ref a1), .val (.ref a2)] [(.int (0 : Int32)), (.ref a2), (.int (f (k - 1)))]))
    refine own_step (fun _ zk => own_ldI X2 hx hZ e2 A 0 (by decide) (by omega) (g := (mkF m 21 #[.val (.ref a1), .val (.ref a2)] [(.int (0 : Int32)), (.ref a2), (.int (f (k - 1)))])) rfl rfl (hb hby d2_21) zk) ?_
    show own_E p e below _ (T2.setTop (mkF m 22 #[.val (.ref a1), .val (.ref a2)] [(.int (f 0)), (.int (f (k - 1)))]))
    refine own_step (fun _ zk => XS.isub X2.here hx rfl (hb hby d2_22) rfl zk) ?_
    show own_E p e below _ (T2.setTop (mkF m 23 #[.val (.ref a1), .val (.ref a2)] [(.int ((f (k - 1)) - (f 0)))]))
    refine own_step (fun _ zk => XS.aloadN X2.here hx rfl (hb hby d2_23) rfl rfl zk) ?_
    show own_E p e below _ (T2.setTop (mkF m 24 #[.val (.ref a1), .val (.ref a2)] [(.ref a1), (.int ((f (k - 1)) - (f 0)))]))
    obtain ⟨T3, X3, e3, st3⟩ := getF X2 hx hZ hown (host := "") (Or.inl (hw _ (List.mem_of_getElem? (i := 16) rfl))) Via.refl e2 Fk (g := (mkF m 24 #[.val (.ref a1), .val (.ref a2)] [(.ref a1), (.int ((f (k - 1)) - (f 0)))])) rfl rfl (hb hby d2_24)
    refine own_step st3 ?_
    show own_E p e below _ (T3.setTop (mkF m 27 #[.val (.ref a1), .val (.ref a2)] [(.int (Int32.ofNat k)), (.int ((f (k - 1)) - (f 0)))]))
    refine own_step (fun _ zk => XS.iconst X3.here hx rfl (hb hby d2_27) zk) ?_
    show own_E p e below _ (T3.setTop (mkF m 28 #[.val (.ref a1), .val (.ref a2)] [(.int (1 : Int32)), (.int (Int32.ofNat k)), (.int ((f (k - 1)) - (f 0)))]))
    refine own_step (fun _ zk => XS.isub X3.here hx rfl (hb hby d2_28) rfl zk) ?_
    show own_E p e below _ (T3.setTop (mkF m 29 #[.val (.ref a1), .val (.ref a2)] [(.int ((Int32.ofNat k) - (1 : Int32))), (.int ((f (k - 1)) - (f 0)))]))
    by_cases hc29 : ((f (k - 1)) - (f 0)) = ((Int32.ofNat k) - (1 : Int32))
    · skip
      refine own_step (fun _ zk => XS.icmpNo X3.here hx rfl (hb hby d2_29) rfl (teq hc29).2 zk) ?_
      show own_E p e below _ (T3.setTop (mkF m 32 #[.val (.ref a1), .val (.ref a2)] []))
      refine own_step (fun _ zk => XS.iconst X3.here hx rfl (hb hby d2_32) zk) ?_
      show own_E p e below _ (T3.setTop (mkF m 33 #[.val (.ref a1), .val (.ref a2)] [(.int (1 : Int32))]))
      refine own_step (fun _ zk => XS.goto X3.here hx rfl (pc0 := 33) (pc' := 37) rfl (hb hby d2_33) (by decide) (by decide) zk) ?_
      show own_E p e below _ (T3.setTop (mkF m 37 #[.val (.ref a1), .val (.ref a2)] [(.int (1 : Int32))]))
      refine own_ret X3 hlk (v := some (.int (nar .boolean (1 : Int32)))) (fun h => by rw [Bd.returns] at h; cases h) ?_ (by decide) (by decide) (fun fs hr => retN X3 hx (t := .boolean) Bd.returns (by simp) (hb hby d2_37) hr)
      show Q2 Z a1 a2 k f h0 n0 _ T3.heap _
      rw [e3]
      exact ⟨congrArg (fun z => some (Value.int z)) (by simp only [own_run1, hc8, hc29, if_true, if_false]; decide), N0, rfl⟩
    · skip
      refine own_step (fun _ zk => XS.icmpYes X3.here hx rfl (pc0 := 29) (pc' := 36) rfl (hb hby d2_29) rfl (feq hc29).2 (by decide) (by decide) zk) ?_
      show own_E p e below _ (T3.setTop (mkF m 36 #[.val (.ref a1), .val (.ref a2)] []))
      refine own_step (fun _ zk => XS.iconst X3.here hx rfl (hb hby d2_36) zk) ?_
      show own_E p e below _ (T3.setTop (mkF m 37 #[.val (.ref a1), .val (.ref a2)] [(.int (0 : Int32))]))
      refine own_ret X3 hlk (v := some (.int (nar .boolean (0 : Int32)))) (fun h => by rw [Bd.returns] at h; cases h) ?_ (by decide) (by decide) (fun fs hr => retN X3 hx (t := .boolean) Bd.returns (by simp) (hb hby d2_37) hr)
      show Q2 Z a1 a2 k f h0 n0 _ T3.heap _
      rw [e3]
      exact ⟨congrArg (fun z => some (Value.int z)) (by simp only [own_run1, hc8, hc29, if_true, if_false]; decide), N0, rfl⟩
  · skip
    refine own_step (fun _ zk => XS.ifYes X1.here hx rfl (pc0 := 8) (pc' := 36) rfl (hb hby d2_8) rfl ((if0 _ _).trans (feq hc8).2) (by decide) (by decide) zk) ?_
    show own_E p e below _ (T1.setTop (mkF m 36 #[.val (.ref a1), .val (.ref a2)] []))
    refine own_step (fun _ zk => XS.iconst X1.here hx rfl (hb hby d2_36) zk) ?_
    show own_E p e below _ (T1.setTop (mkF m 37 #[.val (.ref a1), .val (.ref a2)] [(.int (0 : Int32))]))
    refine own_ret X1 hlk (v := some (.int (nar .boolean (0 : Int32)))) (fun h => by rw [Bd.returns] at h; cases h) ?_ (by decide) (by decide) (fun fs hr => retN X1 hx (t := .boolean) Bd.returns (by simp) (hb hby d2_37) hr)
    show Q2 Z a1 a2 k f h0 n0 _ T1.heap _
    rw [e1]
    exact ⟨congrArg (fun z => some (Value.int z)) (by simp only [own_run1, hc8, if_true, if_false]; decide), N0, rfl⟩
theorem d3_0 : decode prog_10_method_6_code 0 = .ok (.aload_n 1, 1) := by decide +kernel
theorem d3_1 : decode prog_10_method_6_code 1 = .ok (.invokevirtual 54, 3) := by decide +kernel
theorem d3_4 : decode prog_10_method_6_code 4 = .ok (.checkcast 55, 3) := by decide +kernel
theorem d3_7 : decode prog_10_method_6_code 7 = .ok (.astore_n 2, 1) := by decide +kernel
theorem d3_8 : decode prog_10_method_6_code 8 = .ok (.iconst 0, 1) := by decide +kernel
theorem d3_9 : decode prog_10_method_6_code 9 = .ok (.istore_n 3, 1) := by decide +kernel
theorem d3_10 : decode prog_10_method_6_code 10 = .ok (.iload_n 3, 1) := by decide +kernel
theorem d3_11 : decode prog_10_method_6_code 11 = .ok (.aload_n 0, 1) := by decide +kernel
theorem d3_12 : decode prog_10_method_6_code 12 = .ok (.getfield 22, 3) := by decide +kernel
theorem d3_15 : decode prog_10_method_6_code 15 = .ok (.if_icmp .ge 73, 3) := by decide +kernel
theorem d3_18 : decode prog_10_method_6_code 18 = .ok (.iload_n 3, 1) := by decide +kernel
theorem d3_19 : decode prog_10_method_6_code 19 = .ok (.iconst 1, 1) := by decide +kernel
theorem d3_20 : decode prog_10_method_6_code 20 = .ok (.iadd, 1) := by decide +kernel
theorem d3_21 : decode prog_10_method_6_code 21 = .ok (.aload_n 0, 1) := by decide +kernel
theorem d3_22 : decode prog_10_method_6_code 22 = .ok (.getfield 22, 3) := by decide +kernel
theorem d3_25 : decode prog_10_method_6_code 25 = .ok (.if_icmp .ge 11, 3) := by decide +kernel
theorem d3_28 : decode prog_10_method_6_code 28 = .ok (.aload_n 2, 1) := by decide +kernel
theorem d3_29 : decode prog_10_method_6_code 29 = .ok (.iload_n 3, 1) := by decide +kernel
theorem d3_30 : decode prog_10_method_6_code 30 = .ok (.iconst 1, 1) := by decide +kernel
theorem d3_31 : decode prog_10_method_6_code 31 = .ok (.iadd, 1) := by decide +kernel
theorem d3_32 : decode prog_10_method_6_code 32 = .ok (.iaload, 1) := by decide +kernel
theorem d3_33 : decode prog_10_method_6_code 33 = .ok (.goto 7, 3) := by decide +kernel
theorem d3_36 : decode prog_10_method_6_code 36 = .ok (.aload_n 0, 1) := by decide +kernel
theorem d3_37 : decode prog_10_method_6_code 37 = .ok (.getfield 16, 3) := by decide +kernel
theorem d3_40 : decode prog_10_method_6_code 40 = .ok (.istore 4, 2) := by decide +kernel
theorem d3_42 : decode prog_10_method_6_code 42 = .ok (.aload_n 2, 1) := by decide +kernel
theorem d3_43 : decode prog_10_method_6_code 43 = .ok (.iload_n 3, 1) := by decide +kernel
theorem d3_44 : decode prog_10_method_6_code 44 = .ok (.iaload, 1) := by decide +kernel
theorem d3_45 : decode prog_10_method_6_code 45 = .ok (.iconst 1, 1) := by decide +kernel
theorem d3_46 : decode prog_10_method_6_code 46 = .ok (.iadd, 1) := by decide +kernel
theorem d3_47 : decode prog_10_method_6_code 47 = .ok (.iload 4, 2) := by decide +kernel
theorem d3_49 : decode prog_10_method_6_code 49 = .ok (.if_icmp .ge 33, 3) := by decide +kernel
theorem d3_52 : decode prog_10_method_6_code 52 = .ok (.aload_n 2, 1) := by decide +kernel
theorem d3_53 : decode prog_10_method_6_code 53 = .ok (.iload_n 3, 1) := by decide +kernel
theorem d3_54 : decode prog_10_method_6_code 54 = .ok (.dup2, 1) := by decide +kernel
theorem d3_55 : decode prog_10_method_6_code 55 = .ok (.iaload, 1) := by decide +kernel
theorem d3_56 : decode prog_10_method_6_code 56 = .ok (.iconst 1, 1) := by decide +kernel
theorem d3_57 : decode prog_10_method_6_code 57 = .ok (.iadd, 1) := by decide +kernel
theorem d3_58 : decode prog_10_method_6_code 58 = .ok (.iastore, 1) := by decide +kernel
theorem d3_59 : decode prog_10_method_6_code 59 = .ok (.iconst 0, 1) := by decide +kernel
theorem d3_60 : decode prog_10_method_6_code 60 = .ok (.istore 5, 2) := by decide +kernel
theorem d3_62 : decode prog_10_method_6_code 62 = .ok (.iload 5, 2) := by decide +kernel
theorem d3_64 : decode prog_10_method_6_code 64 = .ok (.iload_n 3, 1) := by decide +kernel
theorem d3_65 : decode prog_10_method_6_code 65 = .ok (.if_icmp .ge 15, 3) := by decide +kernel
theorem d3_68 : decode prog_10_method_6_code 68 = .ok (.aload_n 2, 1) := by decide +kernel
theorem d3_69 : decode prog_10_method_6_code 69 = .ok (.iload 5, 2) := by decide +kernel
theorem d3_71 : decode prog_10_method_6_code 71 = .ok (.iload 5, 2) := by decide +kernel
theorem d3_73 : decode prog_10_method_6_code 73 = .ok (.iastore, 1) := by decide +kernel
theorem d3_74 : decode prog_10_method_6_code 74 = .ok (.iinc 5 1, 3) := by decide +kernel
theorem d3_77 : decode prog_10_method_6_code 77 = .ok (.goto (-15), 3) := by decide +kernel
theorem d3_80 : decode prog_10_method_6_code 80 = .ok (.aload_n 2, 1) := by decide +kernel
theorem d3_81 : decode prog_10_method_6_code 81 = .ok (.areturn, 1) := by decide +kernel
theorem d3_82 : decode prog_10_method_6_code 82 = .ok (.iinc 3 1, 3) := by decide +kernel
theorem d3_85 : decode prog_10_method_6_code 85 = .ok (.goto (-75), 3) := by decide +kernel
theorem d3_88 : decode prog_10_method_6_code 88 = .ok (.aconst_null, 1) := by decide +kernel
theorem d3_89 : decode prog_10_method_6_code 89 = .ok (.areturn, 1) := by decide +kernel
theorem pn_3 : plainName "com/example/tallier/tallier/protocol/RecoverySets" = true := by first | (simp [plainName, overriddenIn]; done) | decide +kernel
theorem ef_3 (m : MethodId) (a1 : Addr) (a2 : Addr)  : entryFrame m #[(.ref a1), (.ref a2)] 6 = mkF m 0 #[.val (.ref a1), .val (.ref a2), .unset, .unset, .unset, .unset] [] := by first | (simp [entryFrame, mkF, argsToLocals, Value.category]; done) | rfl
def Q3 (Z : State) (a1 : Addr) (a2 : Addr) (n k : Nat) (f : Nat → Int32) (h0 : Heap) (n0 : Nat) (v : Option Value) (h : Heap) (L : List Loc) : Prop := (∃ w, v = some w ∧ own_R Z h n0 w k (own_colex (Int32.ofNat n) k f)) ∧ Fr n0 L ∧ Keep h0 h [] ∧ True
set_option maxRecDepth 65536 in
set_option maxHeartbeats 40000000 in
theorem rm3 (l : Launch) (Z : State) (a0 : Array Value) (hw : ∀ d ∈ tables_1, d.before a0 Z = true) (ws : List Jvm.Cond) (a1 : Addr) (a2 : Addr) (n k : Nat) (f : Nat → Int32) (h0 : Heap) (n0 : Nat) (Z0 : n0 ≤ h0.size) (hk1 : 1 ≤ k) (hk4 : k ≤ 4) (hn4 : n ≤ 4) (Fn : Fld Z h0 a1 "com/example/tallier/tallier/protocol/RecoverySets" "n" "I" (.int (Int32.ofNat n))) (Fk : Fld Z h0 a1 "com/example/tallier/tallier/protocol/RecoverySets" "k" "I" (.int (Int32.ofNat k))) (A : own_A Z h0 a2 .int k (fun j => .int (f j))) (Ea : Exa Z h0 a2 "[I") :
    MetFree l (⟨"com/example/tallier/tallier/protocol/RecoverySets", "colexAfter", "([I)[I"⟩ : MethodName) (head1 (Jvm.Cond.code (⟨"com/example/tallier/tallier/protocol/RecoverySets", "colexAfter", "([I)[I"⟩ : MethodName) prog_10_method_6_code 6 (some (.array .int)) :: ws) ({ frames := 1, cells := 1, slots := 4, locals := 14 } : Room)) (fun zA zU => zA = #[(.ref a1), (.ref a2)] ∧ Z.Warmed39 zU.vm ∧ zU.heap = h0) (fun _ _ _ _ _ => True) (fun _ zU zo zT => ∃ zv zL, zo = .returned zv ∧ Q3 Z a1 a2 n k f h0 n0 zv zT.heap zL ∧ FrameEnd zU zo zT zL ({ frames := 1, cells := 1, slots := 4, locals := 14 } : Room).cells ({ frames := 1, cells := 1, slots := 4, locals := 14 } : Room).slots) := by
  refine MetFree.of_bodySF (plainFor_of_name pn_3) hisR ?_
  intro p e s m args below meth c s₁ Bd hml0 hP hK
  obtain ⟨rfl, hZ, hh⟩ := hP
  have hx := Bd.exec
  have hby := Bd.bytes
  have hml : c.maxLocals = 6 := hml0
  have hown : s.vm.findClass "com/example/tallier/tallier/protocol/RecoverySets" = some m.cls := findClass_of_methodNamed Bd.named
  have hnm := (name_of_methodNamed Bd.named Bd.method).1
  have hlk : meth.locks = false := Bd.notSynchronized
  have X0 : Stand p l e ({ frames := 1, cells := 1, slots := 4, locals := 14 } : Room) s m #[(.ref a1), (.ref a2)] below meth c s₁ [] 0 0 := Stand.of_body Bd
  have e0 : s₁.heap = h0 := by rw [← hh, Bd.state]; rfl
  have N0 := Fr.nil n0
  refine own_step (p := p) (e := e) (below := below) (U' := s₁.setTop (mkF m 0 #[.val (.ref a1), .val (.ref a2), .unset, .unset, .unset, .unset] [])) (fun _ zk => castTop (ef_3 m a1 a2 ) zk) ?_
  have K_0 : Keep h0 h0 [] := Keep.refl _ _
  refine own_step (fun _ zk => XS.aloadN X0.here hx rfl (hb hby d3_0) rfl rfl zk) ?_
  show own_E p e below _ (s₁.setTop (mkF m 1 #[.val (.ref a1), .val (.ref a2), .unset, .unset, .unset, .unset] [(.ref a2)]))
  obtain ⟨T1, h1, X1, e1, E1, A1, Ex1, st1⟩ := own_clone X0 hx hZ hown (hw _ (List.mem_of_getElem? (i := 51) rfl)) (hw _ (List.mem_of_getElem? (i := 52) rfl)) (hw _ (List.mem_of_getElem? (i := 56) rfl)) (hw _ (List.mem_of_getElem? (i := 54) rfl)) (hw _ (List.mem_of_getElem? (i := 55) rfl)) (hw _ (List.mem_of_getElem? (i := 57) rfl)) e0 A Ea (g := (mkF m 1 #[.val (.ref a1), .val (.ref a2), .unset, .unset, .unset, .unset] [(.ref a2)])) rfl (by rw [hml]; rfl) rfl (hb hby d3_1) (by decide) (by show 2 * 0 + 0 + 14 ≤ 14; decide) (by decide) (show 0 + k ≤ 4 by omega)
  obtain ⟨r, g_r⟩ : ∃ z, z = h0.size := ⟨_, rfl⟩
  rw [← g_r] at A1 Ex1 st1
  have gh_r : h0.size ≤ r := Nat.le_trans K_0.1 (Nat.le_of_eq g_r.symm)
  have ge_r : n0 ≤ r := Nat.le_trans Z0 gh_r
  have ne_a1_r : a1 ≠ r := Nat.ne_of_lt (Nat.lt_of_lt_of_le Fn.lt (Nat.le_of_eq g_r.symm))
  have ne_a2_r : a2 ≠ r := Nat.ne_of_lt (Nat.lt_of_lt_of_le (own_A_lt A) (Nat.le_of_eq g_r.symm))
  have Fn_1 := Fld.ext E1 Fn
  have Fk_1 := Fld.ext E1 Fk
  have A_1 := own_A_ext E1 A
  have Ea_1 := Exa.ext E1 Ea
  have K_1 := Keep.ext K_0 E1
  refine own_step st1 ?_
  show own_E p e below _ (T1.setTop (mkF m 4 #[.val (.ref a1), .val (.ref a2), .unset, .unset, .unset, .unset] [(.ref r)]))
  obtain ⟨T2, X2, e2, st2⟩ := own_cast X1 hx hZ hown (hw _ (List.mem_of_getElem? (i := 58) rfl)) e1 Ex1 (g := (mkF m 4 #[.val (.ref a1), .val (.ref a2), .unset, .unset, .unset, .unset] [(.ref r)])) rfl rfl (hb hby d3_4)
  refine own_step st2 ?_
  show own_E p e below _ (T2.setTop (mkF m 7 #[.val (.ref a1), .val (.ref a2), .unset, .unset, .unset, .unset] [(.ref r)]))
  refine own_step (fun _ zk => XS.astoreN X2.here hx rfl (hb hby d3_7) rfl rfl (l' := #[.val (.ref a1), .val (.ref a2), .val (.ref r), .unset, .unset, .unset]) rfl zk) ?_
  show own_E p e below _ (T2.setTop (mkF m 8 #[.val (.ref a1), .val (.ref a2), .val (.ref r), .unset, .unset, .unset] []))
  refine own_step (fun _ zk => XS.iconst X2.here hx rfl (hb hby d3_8) zk) ?_
  show own_E p e below _ (T2.setTop (mkF m 9 #[.val (.ref a1), .val (.ref a2), .val (.ref r), .unset, .unset, .unset] [(.int (0 : Int32))]))
  refine own_step (fun _ zk => XS.istoreN X2.here hx rfl (hb hby d3_9) rfl (l' := #[.val (.ref a1), .val (.ref a2), .val (.ref r), .val (.int (0 : Int32)), .unset, .unset]) rfl zk) ?_
  show own_E p e below _ (T2.setTop (mkF m 10 #[.val (.ref a1), .val (.ref a2), .val (.ref r), .val (.int (0 : Int32)), .unset, .unset] []))
  have outer : ∀ (q i : Nat) (s4 : Slot) (T : State) (locs : List Loc), i + q = k → own_cx (Int32.ofNat n) k f q i = (own_colex (Int32.ofNat n) k f) → (s4 = .unset ∨ ∃ w, s4 = .val w ∧ w.category = 1) → Stand p l e ({ frames := 1, cells := 1, slots := 4, locals := 14 } : Room) s m #[(.ref a1), (.ref a2)] below meth c T locs 1 (0 + k) → T.heap = h1 → Fr n0 locs → own_E p e below (fun (zT : State) (zo : Outcome) => ∃ zv zL, zo = .returned zv ∧ Q3 Z a1 a2 n k f h0 n0 zv zT.heap zL ∧ FrameEnd s zo zT zL ({ frames := 1, cells := 1, slots := 4, locals := 14 } : Room).cells ({ frames := 1, cells := 1, slots := 4, locals := 14 } : Room).slots) (T.setTop (mkF m 10 #[.val (.ref a1), .val (.ref a2), .val (.ref r), .val (.int (Int32.ofNat i)), s4, .unset] [])) := by
    intro q
    induction q with
    | zero =>
      intro i s4 T locs hi hcx hs4 X eT N
      have hc15 : ¬ (Int32.ofNat i) < (Int32.ofNat k) := by rw [own_lt _ _ (by omega) (by omega)]; omega
      refine own_step (fun _ zk => XS.iloadN X.here hx rfl (hb hby d3_10) rfl zk) ?_
      show own_E p e below _ (T.setTop (mkF m 11 #[.val (.ref a1), .val (.ref a2), .val (.ref r), .val (.int (Int32.ofNat i)), s4, .unset] [(.int (Int32.ofNat i))]))
      refine own_step (fun _ zk => XS.aloadN X.here hx rfl (hb hby d3_11) rfl rfl zk) ?_
      show own_E p e below _ (T.setTop (mkF m 12 #[.val (.ref a1), .val (.ref a2), .val (.ref r), .val (.int (Int32.ofNat i)), s4, .unset] [(.ref a1), (.int (Int32.ofNat i))]))
      obtain ⟨T3, X3, e3, st3⟩ := getF X hx hZ hown (host := "") (Or.inl (hw _ (List.mem_of_getElem? (i := 16) rfl))) Via.refl eT Fk_1 (g := (mkF m 12 #[.val (.ref a1), .val (.ref a2), .val (.ref r), .val (.int (Int32.ofNat i)), s4, .unset] [(.ref a1), (.int (Int32.ofNat i))])) rfl rfl (hb hby d3_12)
      refine own_step st3 ?_
      show own_E p e below _ (T3.setTop (mkF m 15 #[.val (.ref a1), .val (.ref a2), .val (.ref r), .val (.int (Int32.ofNat i)), s4, .unset] [(.int (Int32.ofNat k)), (.int (Int32.ofNat i))]))
      refine own_step (fun _ zk => XS.icmpYes X3.here hx rfl (pc0 := 15) (pc' := 88) rfl (hb hby d3_15) rfl (flt hc15).2.1 (by decide) (by decide) zk) ?_
      show own_E p e below _ (T3.setTop (mkF m 88 #[.val (.ref a1), .val (.ref a2), .val (.ref r), .val (.int (Int32.ofNat i)), s4, .unset] []))
      refine own_step (fun _ zk => XS.aconstNull X3.here hx rfl (hb hby d3_88) zk) ?_
      show own_E p e below _ (T3.setTop (mkF m 89 #[.val (.ref a1), .val (.ref a2), .val (.ref r), .val (.int (Int32.ofNat i)), s4, .unset] [.null]))
      refine own_ret X3 hlk (v := some .null) (fun h => by rw [Bd.returns] at h; cases h) ?_ (by decide) (show (0 + k) ≤ 4 by omega) (fun fs hr => retOut X3 hx (t := (.array .int)) (i := .areturn) Bd.returns rfl (Or.inr (Or.inr (Or.inr (Or.inr ⟨rfl, rfl, rfl⟩)))) (hb hby d3_89) hr)
      show Q3 Z a1 a2 n k f h0 n0 _ T3.heap _
      rw [e3]
      exact ⟨⟨_, rfl, (by rw [← hcx]; exact rfl : own_R Z _ n0 _ k (own_colex (Int32.ofNat n) k f))⟩, N, K_1, trivial⟩
    | succ q ih =>
      intro i s4 T locs hi hcx hs4 X eT N
      have hc15 : (Int32.ofNat i) < (Int32.ofNat k) := by rw [own_lt _ _ (by omega) (by omega)]; omega
      refine own_step (fun _ zk => XS.iloadN X.here hx rfl (hb hby d3_10) rfl zk) ?_
      show own_E p e below _ (T.setTop (mkF m 11 #[.val (.ref a1), .val (.ref a2), .val (.ref r), .val (.int (Int32.ofNat i)), s4, .unset] [(.int (Int32.ofNat i))]))
      refine own_step (fun _ zk => XS.aloadN X.here hx rfl (hb hby d3_11) rfl rfl zk) ?_
      show own_E p e below _ (T.setTop (mkF m 12 #[.val (.ref a1), .val (.ref a2), .val (.ref r), .val (.int (Int32.ofNat i)), s4, .unset] [(.ref a1), (.int (Int32.ofNat i))]))
      obtain ⟨T4, X4, e4, st4⟩ := getF X hx hZ hown (host := "") (Or.inl (hw _ (List.mem_of_getElem? (i := 16) rfl))) Via.refl eT Fk_1 (g := (mkF m 12 #[.val (.ref a1), .val (.ref a2), .val (.ref r), .val (.int (Int32.ofNat i)), s4, .unset] [(.ref a1), (.int (Int32.ofNat i))])) rfl rfl (hb hby d3_12)
      refine own_step st4 ?_
      show own_E p e below _ (T4.setTop (mkF m 15 #[.val (.ref a1), .val (.ref a2), .val (.ref r), .val (.int (Int32.ofNat i)), s4, .unset] [(.int (Int32.ofNat k)), (.int (Int32.ofNat i))]))
      refine own_step (fun _ zk => XS.icmpNo X4.here hx rfl (hb hby d3_15) rfl (tlt hc15).2.1 zk) ?_
      show own_E p e below _ (T4.setTop (mkF m 18 #[.val (.ref a1), .val (.ref a2), .val (.ref r), .val (.int (Int32.ofNat i)), s4, .unset] []))
      refine own_step (fun _ zk => XS.iloadN X4.here hx rfl (hb hby d3_18) rfl zk) ?_
      show own_E p e below _ (T4.setTop (mkF m 19 #[.val (.ref a1), .val (.ref a2), .val (.ref r), .val (.int (Int32.ofNat i)), s4, .unset] [(.int (Int32.ofNat i))]))
      refine own_step (fun _ zk => XS.iconst X4.here hx rfl (hb hby d3_19) zk) ?_
      show own_E p e below _ (T4.setTop (mkF m 20 #[.val (.ref a1), .val (.ref a2), .val (.ref r), .val (.int (Int32.ofNat i)), s4, .unset] [(.int (1 : Int32)), (.int (Int32.ofNat i))]))
      refine own_step (fun _ zk => XS.iadd X4.here hx rfl (hb hby d3_20) rfl zk) ?_
      show own_E p e below _ (T4.setTop (mkF m 21 #[.val (.ref a1), .val (.ref a2), .val (.ref r), .val (.int (Int32.ofNat i)), s4, .unset] [(.int ((Int32.ofNat i) + (1 : Int32)))]))
      rw [show ((Int32.ofNat i) + (1 : Int32)) = (Int32.ofNat (i + 1)) from own_succ i]
      show own_E p e below _ (T4.setTop (mkF m 21 #[.val (.ref a1), .val (.ref a2), .val (.ref r), .val (.int (Int32.ofNat i)), s4, .unset] [(.int (Int32.ofNat (i + 1)))]))
      refine own_step (fun _ zk => XS.aloadN X4.here hx rfl (hb hby d3_21) rfl rfl zk) ?_
      show own_E p e below _ (T4.setTop (mkF m 22 #[.val (.ref a1), .val (.ref a2), .val (.ref r), .val (.int (Int32.ofNat i)), s4, .unset] [(.ref a1), (.int (Int32.ofNat (i + 1)))]))
      obtain ⟨T5, X5, e5, st5⟩ := getF X4 hx hZ hown (host := "") (Or.inl (hw _ (List.mem_of_getElem? (i := 16) rfl))) Via.refl e4 Fk_1 (g := (mkF m 22 #[.val (.ref a1), .val (.ref a2), .val (.ref r), .val (.int (Int32.ofNat i)), s4, .unset] [(.ref a1), (.int (Int32.ofNat (i + 1)))])) rfl rfl (hb hby d3_22)
      refine own_step st5 ?_
      show own_E p e below _ (T5.setTop (mkF m 25 #[.val (.ref a1), .val (.ref a2), .val (.ref r), .val (.int (Int32.ofNat i)), s4, .unset] [(.int (Int32.ofNat k)), (.int (Int32.ofNat (i + 1)))]))
      by_cases hc25 : (Int32.ofNat (i + 1)) < (Int32.ofNat k)
      · skip
        refine own_step (fun _ zk => XS.icmpNo X5.here hx rfl (hb hby d3_25) rfl (tlt hc25).2.1 zk) ?_
        show own_E p e below _ (T5.setTop (mkF m 28 #[.val (.ref a1), .val (.ref a2), .val (.ref r), .val (.int (Int32.ofNat i)), s4, .unset] []))
        refine own_step (fun _ zk => XS.aloadN X5.here hx rfl (hb hby d3_28) rfl rfl zk) ?_
        show own_E p e below _ (T5.setTop (mkF m 29 #[.val (.ref a1), .val (.ref a2), .val (.ref r), .val (.int (Int32.ofNat i)), s4, .unset] [(.ref r)]))
        refine own_step (fun _ zk => XS.iloadN X5.here hx rfl (hb hby d3_29) rfl zk) ?_
        show own_E p e below _ (T5.setTop (mkF m 30 #[.val (.ref a1), .val (.ref a2), .val (.ref r), .val (.int (Int32.ofNat i)), s4, .unset] [(.int (Int32.ofNat i)), (.ref r)]))
        refine own_step (fun _ zk => XS.iconst X5.here hx rfl (hb hby d3_30) zk) ?_
        show own_E p e below _ (T5.setTop (mkF m 31 #[.val (.ref a1), .val (.ref a2), .val (.ref r), .val (.int (Int32.ofNat i)), s4, .unset] [(.int (1 : Int32)), (.int (Int32.ofNat i)), (.ref r)]))
        refine own_step (fun _ zk => XS.iadd X5.here hx rfl (hb hby d3_31) rfl zk) ?_
        show own_E p e below _ (T5.setTop (mkF m 32 #[.val (.ref a1), .val (.ref a2), .val (.ref r), .val (.int (Int32.ofNat i)), s4, .unset] [(.int ((Int32.ofNat i) + (1 : Int32))), (.ref r)]))
        rw [show ((Int32.ofNat i) + (1 : Int32)) = (Int32.ofNat (i + 1)) from own_succ i]
        show own_E p e below _ (T5.setTop (mkF m 32 #[.val (.ref a1), .val (.ref a2), .val (.ref r), .val (.int (Int32.ofNat i)), s4, .unset] [(.int (Int32.ofNat (i + 1))), (.ref r)]))
        refine own_step (fun _ zk => own_ldI X5 hx hZ e5 A1 (i + 1) (own_toInt _ (by omega)) ((own_lt _ _ (by omega) (by omega)).mp hc25) (g := (mkF m 32 #[.val (.ref a1), .val (.ref a2), .val (.ref r), .val (.int (Int32.ofNat i)), s4, .unset] [(.int (Int32.ofNat (i + 1))), (.ref r)])) rfl rfl (hb hby d3_32) zk) ?_
        show own_E p e below _ (T5.setTop (mkF m 33 #[.val (.ref a1), .val (.ref a2), .val (.ref r), .val (.int (Int32.ofNat i)), s4, .unset] [(.int (f (i + 1)))]))
        refine own_step (fun _ zk => XS.goto X5.here hx rfl (pc0 := 33) (pc' := 40) rfl (hb hby d3_33) (by decide) (by decide) zk) ?_
        show own_E p e below _ (T5.setTop (mkF m 40 #[.val (.ref a1), .val (.ref a2), .val (.ref r), .val (.int (Int32.ofNat i)), s4, .unset] [(.int (f (i + 1)))]))
        refine own_step (fun _ zk => XS.istoreS X5.here hx rfl (hb hby d3_40) rfl rfl hs4 zk) ?_
        show own_E p e below _ (T5.setTop (mkF m 42 #[.val (.ref a1), .val (.ref a2), .val (.ref r), .val (.int (Int32.ofNat i)), .val (.int (f (i + 1))), .unset] []))
        refine own_step (fun _ zk => XS.aloadN X5.here hx rfl (hb hby d3_42) rfl rfl zk) ?_
        show own_E p e below _ (T5.setTop (mkF m 43 #[.val (.ref a1), .val (.ref a2), .val (.ref r), .val (.int (Int32.ofNat i)), .val (.int (f (i + 1))), .unset] [(.ref r)]))
        refine own_step (fun _ zk => XS.iloadN X5.here hx rfl (hb hby d3_43) rfl zk) ?_
        show own_E p e below _ (T5.setTop (mkF m 44 #[.val (.ref a1), .val (.ref a2), .val (.ref r), .val (.int (Int32.ofNat i)), .val (.int (f (i + 1))), .unset] [(.int (Int32.ofNat i)), (.ref r)]))
        refine own_step (fun _ zk => own_ldI X5 hx hZ e5 A1 i (own_toInt i (by omega)) (by omega) (g := (mkF m 44 #[.val (.ref a1), .val (.ref a2), .val (.ref r), .val (.int (Int32.ofNat i)), .val (.int (f (i + 1))), .unset] [(.int (Int32.ofNat i)), (.ref r)])) rfl rfl (hb hby d3_44) zk) ?_
        show own_E p e below _ (T5.setTop (mkF m 45 #[.val (.ref a1), .val (.ref a2), .val (.ref r), .val (.int (Int32.ofNat i)), .val (.int (f (i + 1))), .unset] [(.int (f i))]))
        refine own_step (fun _ zk => XS.iconst X5.here hx rfl (hb hby d3_45) zk) ?_
        show own_E p e below _ (T5.setTop (mkF m 46 #[.val (.ref a1), .val (.ref a2), .val (.ref r), .val (.int (Int32.ofNat i)), .val (.int (f (i + 1))), .unset] [(.int (1 : Int32)), (.int (f i))]))
        refine own_step (fun _ zk => XS.iadd X5.here hx rfl (hb hby d3_46) rfl zk) ?_
        show own_E p e below _ (T5.setTop (mkF m 47 #[.val (.ref a1), .val (.ref a2), .val (.ref r), .val (.int (Int32.ofNat i)), .val (.int (f (i + 1))), .unset] [(.int ((f i) + (1 : Int32)))]))
        refine own_step (fun _ zk => XS.iload X5.here hx rfl (hb hby d3_47) rfl zk) ?_
        show own_E p e below _ (T5.setTop (mkF m 49 #[.val (.ref a1), .val (.ref a2), .val (.ref r), .val (.int (Int32.ofNat i)), .val (.int (f (i + 1))), .unset] [(.int (f (i + 1))), (.int ((f i) + (1 : Int32)))]))
        have hif : (if i + 1 < k then f (i + 1) else (Int32.ofNat n)) = (f (i + 1)) := (by rw [if_pos ((own_lt _ _ (by omega) (by omega)).mp hc25)])
        by_cases hlt : (f i + 1) < (if i + 1 < k then f (i + 1) else (Int32.ofNat n))
        · skip
          have hlt' := hlt
          rw [hif] at hlt'
          refine own_step (fun _ zk => XS.icmpNo X5.here hx rfl (hb hby d3_49) rfl (tlt hlt').2.1 zk) ?_
          show own_E p e below _ (T5.setTop (mkF m 52 #[.val (.ref a1), .val (.ref a2), .val (.ref r), .val (.int (Int32.ofNat i)), .val (.int (f (i + 1))), .unset] []))
          refine own_step (fun _ zk => XS.aloadN X5.here hx rfl (hb hby d3_52) rfl rfl zk) ?_
          show own_E p e below _ (T5.setTop (mkF m 53 #[.val (.ref a1), .val (.ref a2), .val (.ref r), .val (.int (Int32.ofNat i)), .val (.int (f (i + 1))), .unset] [(.ref r)]))
          refine own_step (fun _ zk => XS.iloadN X5.here hx rfl (hb hby d3_53) rfl zk) ?_
          show own_E p e below _ (T5.setTop (mkF m 54 #[.val (.ref a1), .val (.ref a2), .val (.ref r), .val (.int (Int32.ofNat i)), .val (.int (f (i + 1))), .unset] [(.int (Int32.ofNat i)), (.ref r)]))
          refine own_step (fun _ zk => Jvm.Free.XT.dup2 X5.here hx rfl (hb hby d3_54) rfl rfl rfl zk) ?_
          show own_E p e below _ (T5.setTop (mkF m 55 #[.val (.ref a1), .val (.ref a2), .val (.ref r), .val (.int (Int32.ofNat i)), .val (.int (f (i + 1))), .unset] [(.int (Int32.ofNat i)), (.ref r), (.int (Int32.ofNat i)), (.ref r)]))
          refine own_step (fun _ zk => own_ldI X5 hx hZ e5 A1 i (own_toInt i (by omega)) (by omega) (g := (mkF m 55 #[.val (.ref a1), .val (.ref a2), .val (.ref r), .val (.int (Int32.ofNat i)), .val (.int (f (i + 1))), .unset] [(.int (Int32.ofNat i)), (.ref r), (.int (Int32.ofNat i)), (.ref r)])) rfl rfl (hb hby d3_55) zk) ?_
          show own_E p e below _ (T5.setTop (mkF m 56 #[.val (.ref a1), .val (.ref a2), .val (.ref r), .val (.int (Int32.ofNat i)), .val (.int (f (i + 1))), .unset] [(.int (f i)), (.int (Int32.ofNat i)), (.ref r)]))
          refine own_step (fun _ zk => XS.iconst X5.here hx rfl (hb hby d3_56) zk) ?_
          show own_E p e below _ (T5.setTop (mkF m 57 #[.val (.ref a1), .val (.ref a2), .val (.ref r), .val (.int (Int32.ofNat i)), .val (.int (f (i + 1))), .unset] [(.int (1 : Int32)), (.int (f i)), (.int (Int32.ofNat i)), (.ref r)]))
          refine own_step (fun _ zk => XS.iadd X5.here hx rfl (hb hby d3_57) rfl zk) ?_
          show own_E p e below _ (T5.setTop (mkF m 58 #[.val (.ref a1), .val (.ref a2), .val (.ref r), .val (.int (Int32.ofNat i)), .val (.int (f (i + 1))), .unset] [(.int ((f i) + (1 : Int32))), (.int (Int32.ofNat i)), (.ref r)]))
          obtain ⟨T6, h6, X6, e6, W6, st6⟩ := own_stI X5 hx hZ e5 A1 i (own_toInt i (by omega)) (by omega) (g := (mkF m 58 #[.val (.ref a1), .val (.ref a2), .val (.ref r), .val (.int (Int32.ofNat i)), .val (.int (f (i + 1))), .unset] [(.int ((f i) + (1 : Int32))), (.int (Int32.ofNat i)), (.ref r)])) rfl rfl (hb hby d3_58)
          have N6 := Fr.snoc X6 N ge_r
          have Fn_6 := Fld.other W6 Fn_1 (Or.inl ne_a1_r)
          have Fk_6 := Fld.other W6 Fk_1 (Or.inl ne_a1_r)
          have A_6 := own_A_other W6 ne_a2_r A_1
          have Ea_6 := Exa.wr W6 Ea_1
          have B_6 := own_A_set W6 A1
          have E_r_6 := Exa.wr W6 Ex1
          have K_6 := Keep.wr K_1 W6 (Or.inr gh_r)
          replace B_6 := own_A_eq (f' := (own_bmp f i 0)) B_6 (own_bmp_0 f i k)
          refine own_step st6 ?_
          show own_E p e below _ (T6.setTop (mkF m 59 #[.val (.ref a1), .val (.ref a2), .val (.ref r), .val (.int (Int32.ofNat i)), .val (.int (f (i + 1))), .unset] []))
          refine own_step (fun _ zk => XS.iconst X6.here hx rfl (hb hby d3_59) zk) ?_
          show own_E p e below _ (T6.setTop (mkF m 60 #[.val (.ref a1), .val (.ref a2), .val (.ref r), .val (.int (Int32.ofNat i)), .val (.int (f (i + 1))), .unset] [(.int (0 : Int32))]))
          refine own_step (fun _ zk => XS.istore X6.here hx rfl (hb hby d3_60) rfl (l' := #[.val (.ref a1), .val (.ref a2), .val (.ref r), .val (.int (Int32.ofNat i)), .val (.int (f (i + 1))), .val (.int (0 : Int32))]) rfl zk) ?_
          show own_E p e below _ (T6.setTop (mkF m 62 #[.val (.ref a1), .val (.ref a2), .val (.ref r), .val (.int (Int32.ofNat i)), .val (.int (f (i + 1))), .val (.int (0 : Int32))] []))
          have inner : ∀ (q2 j : Nat) (T : State) (locs : List Loc) (h : Heap), j + q2 = i → Stand p l e ({ frames := 1, cells := 1, slots := 4, locals := 14 } : Room) s m #[(.ref a1), (.ref a2)] below meth c T locs 1 (0 + k) → T.heap = h → Fr n0 locs → Keep h0 h [] → own_A Z h r .int k (own_bmp f i j) → Exa Z h r "[I" → own_E p e below (fun (zT : State) (zo : Outcome) => ∃ zv zL, zo = .returned zv ∧ Q3 Z a1 a2 n k f h0 n0 zv zT.heap zL ∧ FrameEnd s zo zT zL ({ frames := 1, cells := 1, slots := 4, locals := 14 } : Room).cells ({ frames := 1, cells := 1, slots := 4, locals := 14 } : Room).slots) (T.setTop (mkF m 62 #[.val (.ref a1), .val (.ref a2), .val (.ref r), .val (.int (Int32.ofNat i)), .val (.int (f (i + 1))), .val (.int (Int32.ofNat j))] [])) := by
            intro q2
            induction q2 with
            | zero =>
              intro j T locs h hj X eT N K B Er
              have hc65 : ¬ (Int32.ofNat j) < (Int32.ofNat i) := by rw [own_lt _ _ (by omega) (by omega)]; omega
              refine own_step (fun _ zk => XS.iload X.here hx rfl (hb hby d3_62) rfl zk) ?_
              show own_E p e below _ (T.setTop (mkF m 64 #[.val (.ref a1), .val (.ref a2), .val (.ref r), .val (.int (Int32.ofNat i)), .val (.int (f (i + 1))), .val (.int (Int32.ofNat j))] [(.int (Int32.ofNat j))]))
              refine own_step (fun _ zk => XS.iloadN X.here hx rfl (hb hby d3_64) rfl zk) ?_
              show own_E p e below _ (T.setTop (mkF m 65 #[.val (.ref a1), .val (.ref a2), .val (.ref r), .val (.int (Int32.ofNat i)), .val (.int (f (i + 1))), .val (.int (Int32.ofNat j))] [(.int (Int32.ofNat i)), (.int (Int32.ofNat j))]))
              refine own_step (fun _ zk => XS.icmpYes X.here hx rfl (pc0 := 65) (pc' := 80) rfl (hb hby d3_65) rfl (flt hc65).2.1 (by decide) (by decide) zk) ?_
              show own_E p e below _ (T.setTop (mkF m 80 #[.val (.ref a1), .val (.ref a2), .val (.ref r), .val (.int (Int32.ofNat i)), .val (.int (f (i + 1))), .val (.int (Int32.ofNat j))] []))
              refine own_step (fun _ zk => XS.aloadN X.here hx rfl (hb hby d3_80) rfl rfl zk) ?_
              show own_E p e below _ (T.setTop (mkF m 81 #[.val (.ref a1), .val (.ref a2), .val (.ref r), .val (.int (Int32.ofNat i)), .val (.int (f (i + 1))), .val (.int (Int32.ofNat j))] [(.ref r)]))
              refine own_ret X hlk (v := some (.ref r)) (fun h => by rw [Bd.returns] at h; cases h) ?_ (by decide) (show (0 + k) ≤ 4 by omega) (fun fs hr => retOut X hx (t := (.array .int)) (i := .areturn) Bd.returns rfl (Or.inr (Or.inr (Or.inr (Or.inr ⟨rfl, rfl, rfl⟩)))) (hb hby d3_81) hr)
              show Q3 Z a1 a2 n k f h0 n0 _ T.heap _
              rw [eT]
              exact ⟨⟨_, rfl, (by rw [← hcx, own_cx_yes hlt]; exact ⟨r, rfl, own_A_eq (by rw [show j = i by omega] at B; exact B) (own_bmp_e f i k), Er, ge_r⟩ : own_R Z _ n0 _ k (own_colex (Int32.ofNat n) k f))⟩, N, K, trivial⟩
            | succ q2 ihj =>
              intro j T locs h hj X eT N K B Er
              have hc65 : (Int32.ofNat j) < (Int32.ofNat i) := by rw [own_lt _ _ (by omega) (by omega)]; omega
              refine own_step (fun _ zk => XS.iload X.here hx rfl (hb hby d3_62) rfl zk) ?_
              show own_E p e below _ (T.setTop (mkF m 64 #[.val (.ref a1), .val (.ref a2), .val (.ref r), .val (.int (Int32.ofNat i)), .val (.int (f (i + 1))), .val (.int (Int32.ofNat j))] [(.int (Int32.ofNat j))]))
              refine own_step (fun _ zk => XS.iloadN X.here hx rfl (hb hby d3_64) rfl zk) ?_
              show own_E p e below _ (T.setTop (mkF m 65 #[.val (.ref a1), .val (.ref a2), .val (.ref r), .val (.int (Int32.ofNat i)), .val (.int (f (i + 1))), .val (.int (Int32.ofNat j))] [(.int (Int32.ofNat i)), (.int (Int32.ofNat j))]))
              refine own_step (fun _ zk => XS.icmpNo X.here hx rfl (hb hby d3_65) rfl (tlt hc65).2.1 zk) ?_
              show own_E p e below _ (T.setTop (mkF m 68 #[.val (.ref a1), .val (.ref a2), .val (.ref r), .val (.int (Int32.ofNat i)), .val (.int (f (i + 1))), .val (.int (Int32.ofNat j))] []))
              refine own_step (fun _ zk => XS.aloadN X.here hx rfl (hb hby d3_68) rfl rfl zk) ?_
              show own_E p e below _ (T.setTop (mkF m 69 #[.val (.ref a1), .val (.ref a2), .val (.ref r), .val (.int (Int32.ofNat i)), .val (.int (f (i + 1))), .val (.int (Int32.ofNat j))] [(.ref r)]))
              refine own_step (fun _ zk => XS.iload X.here hx rfl (hb hby d3_69) rfl zk) ?_
              show own_E p e below _ (T.setTop (mkF m 71 #[.val (.ref a1), .val (.ref a2), .val (.ref r), .val (.int (Int32.ofNat i)), .val (.int (f (i + 1))), .val (.int (Int32.ofNat j))] [(.int (Int32.ofNat j)), (.ref r)]))
              refine own_step (fun _ zk => XS.iload X.here hx rfl (hb hby d3_71) rfl zk) ?_
              show own_E p e below _ (T.setTop (mkF m 73 #[.val (.ref a1), .val (.ref a2), .val (.ref r), .val (.int (Int32.ofNat i)), .val (.int (f (i + 1))), .val (.int (Int32.ofNat j))] [(.int (Int32.ofNat j)), (.int (Int32.ofNat j)), (.ref r)]))
              obtain ⟨T7, h7, X7, e7, W7, st7⟩ := own_stI X hx hZ eT B j (own_toInt j (by omega)) (by omega) (g := (mkF m 73 #[.val (.ref a1), .val (.ref a2), .val (.ref r), .val (.int (Int32.ofNat i)), .val (.int (f (i + 1))), .val (.int (Int32.ofNat j))] [(.int (Int32.ofNat j)), (.int (Int32.ofNat j)), (.ref r)])) rfl rfl (hb hby d3_73)
              have N7 := Fr.snoc X7 N ge_r
              have B_7 := own_A_set W7 B
              have E_r_7 := Exa.wr W7 Er
              have K_7 := Keep.wr K W7 (Or.inr gh_r)
              replace B_7 := own_A_eq (f' := (own_bmp f i (j + 1))) B_7 (own_bmp_s f i j k)
              refine own_step st7 ?_
              show own_E p e below _ (T7.setTop (mkF m 74 #[.val (.ref a1), .val (.ref a2), .val (.ref r), .val (.int (Int32.ofNat i)), .val (.int (f (i + 1))), .val (.int (Int32.ofNat j))] []))
              refine own_step (fun _ zk => XS.iinc X7.here hx rfl (hb hby d3_74) rfl (l' := #[.val (.ref a1), .val (.ref a2), .val (.ref r), .val (.int (Int32.ofNat i)), .val (.int (f (i + 1))), .val (.int ((Int32.ofNat j) + (1 : Int32)))]) rfl zk) ?_
              show own_E p e below _ (T7.setTop (mkF m 77 #[.val (.ref a1), .val (.ref a2), .val (.ref r), .val (.int (Int32.ofNat i)), .val (.int (f (i + 1))), .val (.int ((Int32.ofNat j) + (1 : Int32)))] []))
              rw [show ((Int32.ofNat j) + (1 : Int32)) = (Int32.ofNat (j + 1)) from own_succ j]
              show own_E p e below _ (T7.setTop (mkF m 77 #[.val (.ref a1), .val (.ref a2), .val (.ref r), .val (.int (Int32.ofNat i)), .val (.int (f (i + 1))), .val (.int (Int32.ofNat (j + 1)))] []))
              refine own_step (fun _ zk => XS.goto X7.here hx rfl (pc0 := 77) (pc' := 62) rfl (hb hby d3_77) (by decide) (by decide) zk) ?_
              show own_E p e below _ (T7.setTop (mkF m 62 #[.val (.ref a1), .val (.ref a2), .val (.ref r), .val (.int (Int32.ofNat i)), .val (.int (f (i + 1))), .val (.int (Int32.ofNat (j + 1)))] []))
              exact ihj (j + 1) _ _ _ (by omega) X7 e7 N7 K_7 B_7 E_r_7
          exact inner i 0 _ _ _ (by omega) X6 e6 N6 K_6 B_6 E_r_6
        · skip
          have hlt' := hlt
          rw [hif] at hlt'
          refine own_step (fun _ zk => XS.icmpYes X5.here hx rfl (pc0 := 49) (pc' := 82) rfl (hb hby d3_49) rfl (flt hlt').2.1 (by decide) (by decide) zk) ?_
          show own_E p e below _ (T5.setTop (mkF m 82 #[.val (.ref a1), .val (.ref a2), .val (.ref r), .val (.int (Int32.ofNat i)), .val (.int (f (i + 1))), .unset] []))
          refine own_step (fun _ zk => XS.iinc X5.here hx rfl (hb hby d3_82) rfl (l' := #[.val (.ref a1), .val (.ref a2), .val (.ref r), .val (.int ((Int32.ofNat i) + (1 : Int32))), .val (.int (f (i + 1))), .unset]) rfl zk) ?_
          show own_E p e below _ (T5.setTop (mkF m 85 #[.val (.ref a1), .val (.ref a2), .val (.ref r), .val (.int ((Int32.ofNat i) + (1 : Int32))), .val (.int (f (i + 1))), .unset] []))
          rw [show ((Int32.ofNat i) + (1 : Int32)) = (Int32.ofNat (i + 1)) from own_succ i]
          show own_E p e below _ (T5.setTop (mkF m 85 #[.val (.ref a1), .val (.ref a2), .val (.ref r), .val (.int (Int32.ofNat (i + 1))), .val (.int (f (i + 1))), .unset] []))
          refine own_step (fun _ zk => XS.goto X5.here hx rfl (pc0 := 85) (pc' := 10) rfl (hb hby d3_85) (by decide) (by decide) zk) ?_
          show own_E p e below _ (T5.setTop (mkF m 10 #[.val (.ref a1), .val (.ref a2), .val (.ref r), .val (.int (Int32.ofNat (i + 1))), .val (.int (f (i + 1))), .unset] []))
          exact ih (i + 1) _ _ _ (by omega) (by rw [← hcx, own_cx_no hlt]) (Or.inr ⟨_, rfl, rfl⟩) X5 e5 N
      · skip
        refine own_step (fun _ zk => XS.icmpYes X5.here hx rfl (pc0 := 25) (pc' := 36) rfl (hb hby d3_25) rfl (flt hc25).2.1 (by decide) (by decide) zk) ?_
        show own_E p e below _ (T5.setTop (mkF m 36 #[.val (.ref a1), .val (.ref a2), .val (.ref r), .val (.int (Int32.ofNat i)), s4, .unset] []))
        refine own_step (fun _ zk => XS.aloadN X5.here hx rfl (hb hby d3_36) rfl rfl zk) ?_
        show own_E p e below _ (T5.setTop (mkF m 37 #[.val (.ref a1), .val (.ref a2), .val (.ref r), .val (.int (Int32.ofNat i)), s4, .unset] [(.ref a1)]))
        obtain ⟨T8, X8, e8, st8⟩ := getF X5 hx hZ hown (host := "") (Or.inl (hw _ (List.mem_of_getElem? (i := 14) rfl))) Via.refl e5 Fn_1 (g := (mkF m 37 #[.val (.ref a1), .val (.ref a2), .val (.ref r), .val (.int (Int32.ofNat i)), s4, .unset] [(.ref a1)])) rfl rfl (hb hby d3_37)
        refine own_step st8 ?_
        show own_E p e below _ (T8.setTop (mkF m 40 #[.val (.ref a1), .val (.ref a2), .val (.ref r), .val (.int (Int32.ofNat i)), s4, .unset] [(.int (Int32.ofNat n))]))
        refine own_step (fun _ zk => XS.istoreS X8.here hx rfl (hb hby d3_40) rfl rfl hs4 zk) ?_
        show own_E p e below _ (T8.setTop (mkF m 42 #[.val (.ref a1), .val (.ref a2), .val (.ref r), .val (.int (Int32.ofNat i)), .val (.int (Int32.ofNat n)), .unset] []))
        refine own_step (fun _ zk => XS.aloadN X8.here hx rfl (hb hby d3_42) rfl rfl zk) ?_
        show own_E p e below _ (T8.setTop (mkF m 43 #[.val (.ref a1), .val (.ref a2), .val (.ref r), .val (.int (Int32.ofNat i)), .val (.int (Int32.ofNat n)), .unset] [(.ref r)]))
        refine own_step (fun _ zk => XS.iloadN X8.here hx rfl (hb hby d3_43) rfl zk) ?_
        show own_E p e below _ (T8.setTop (mkF m 44 #[.val (.ref a1), .val (.ref a2), .val (.ref r), .val (.int (Int32.ofNat i)), .val (.int (Int32.ofNat n)), .unset] [(.int (Int32.ofNat i)), (.ref r)]))
        refine own_step (fun _ zk => own_ldI X8 hx hZ e8 A1 i (own_toInt i (by omega)) (by omega) (g := (mkF m 44 #[.val (.ref a1), .val (.ref a2), .val (.ref r), .val (.int (Int32.ofNat i)), .val (.int (Int32.ofNat n)), .unset] [(.int (Int32.ofNat i)), (.ref r)])) rfl rfl (hb hby d3_44) zk) ?_
        show own_E p e below _ (T8.setTop (mkF m 45 #[.val (.ref a1), .val (.ref a2), .val (.ref r), .val (.int (Int32.ofNat i)), .val (.int (Int32.ofNat n)), .unset] [(.int (f i))]))
        refine own_step (fun _ zk => XS.iconst X8.here hx rfl (hb hby d3_45) zk) ?_
        show own_E p e below _ (T8.setTop (mkF m 46 #[.val (.ref a1), .val (.ref a2), .val (.ref r), .val (.int (Int32.ofNat i)), .val (.int (Int32.ofNat n)), .unset] [(.int (1 : Int32)), (.int (f i))]))
        refine own_step (fun _ zk => XS.iadd X8.here hx rfl (hb hby d3_46) rfl zk) ?_
        show own_E p e below _ (T8.setTop (mkF m 47 #[.val (.ref a1), .val (.ref a2), .val (.ref r), .val (.int (Int32.ofNat i)), .val (.int (Int32.ofNat n)), .unset] [(.int ((f i) + (1 : Int32)))]))
        refine own_step (fun _ zk => XS.iload X8.here hx rfl (hb hby d3_47) rfl zk) ?_
        show own_E p e below _ (T8.setTop (mkF m 49 #[.val (.ref a1), .val (.ref a2), .val (.ref r), .val (.int (Int32.ofNat i)), .val (.int (Int32.ofNat n)), .unset] [(.int (Int32.ofNat n)), (.int ((f i) + (1 : Int32)))]))
        have hif : (if i + 1 < k then f (i + 1) else (Int32.ofNat n)) = (Int32.ofNat n) := (by rw [if_neg (fun z => hc25 ((own_lt _ _ (by omega) (by omega)).mpr z))])
        by_cases hlt : (f i + 1) < (if i + 1 < k then f (i + 1) else (Int32.ofNat n))
        · skip
          have hlt' := hlt
          rw [hif] at hlt'
          refine own_step (fun _ zk => XS.icmpNo X8.here hx rfl (hb hby d3_49) rfl (tlt hlt').2.1 zk) ?_
          show own_E p e below _ (T8.setTop (mkF m 52 #[.val (.ref a1), .val (.ref a2), .val (.ref r), .val (.int (Int32.ofNat i)), .val (.int (Int32.ofNat n)), .unset] []))
          refine own_step (fun _ zk => XS.aloadN X8.here hx rfl (hb hby d3_52) rfl rfl zk) ?_
          show own_E p e below _ (T8.setTop (mkF m 53 #[.val (.ref a1), .val (.ref a2), .val (.ref r), .val (.int (Int32.ofNat i)), .val (.int (Int32.ofNat n)), .unset] [(.ref r)]))
          refine own_step (fun _ zk => XS.iloadN X8.here hx rfl (hb hby d3_53) rfl zk) ?_
          show own_E p e below _ (T8.setTop (mkF m 54 #[.val (.ref a1), .val (.ref a2), .val (.ref r), .val (.int (Int32.ofNat i)), .val (.int (Int32.ofNat n)), .unset] [(.int (Int32.ofNat i)), (.ref r)]))
          refine own_step (fun _ zk => Jvm.Free.XT.dup2 X8.here hx rfl (hb hby d3_54) rfl rfl rfl zk) ?_
          show own_E p e below _ (T8.setTop (mkF m 55 #[.val (.ref a1), .val (.ref a2), .val (.ref r), .val (.int (Int32.ofNat i)), .val (.int (Int32.ofNat n)), .unset] [(.int (Int32.ofNat i)), (.ref r), (.int (Int32.ofNat i)), (.ref r)]))
          refine own_step (fun _ zk => own_ldI X8 hx hZ e8 A1 i (own_toInt i (by omega)) (by omega) (g := (mkF m 55 #[.val (.ref a1), .val (.ref a2), .val (.ref r), .val (.int (Int32.ofNat i)), .val (.int (Int32.ofNat n)), .unset] [(.int (Int32.ofNat i)), (.ref r), (.int (Int32.ofNat i)), (.ref r)])) rfl rfl (hb hby d3_55) zk) ?_
          show own_E p e below _ (T8.setTop (mkF m 56 #[.val (.ref a1), .val (.ref a2), .val (.ref r), .val (.int (Int32.ofNat i)), .val (.int (Int32.ofNat n)), .unset] [(.int (f i)), (.int (Int32.ofNat i)), (.ref r)]))
          refine own_step (fun _ zk => XS.iconst X8.here hx rfl (hb hby d3_56) zk) ?_
          show own_E p e below _ (T8.setTop (mkF m 57 #[.val (.ref a1), .val (.ref a2), .val (.ref r), .val (.int (Int32.ofNat i)), .val (.int (Int32.ofNat n)), .unset] [(.int (1 : Int32)), (.int (f i)), (.int (Int32.ofNat i)), (.ref r)]))
          refine own_step (fun _ zk => XS.iadd X8.here hx rfl (hb hby d3_57) rfl zk) ?_
          show own_E p e below _ (T8.setTop (mkF m 58 #[.val (.ref a1), .val (.ref a2), .val (.ref r), .val (.int (Int32.ofNat i)), .val (.int (Int32.ofNat n)), .unset] [(.int ((f i) + (1 : Int32))), (.int (Int32.ofNat i)), (.ref r)]))
          obtain ⟨T9, h9, X9, e9, W9, st9⟩ := own_stI X8 hx hZ e8 A1 i (own_toInt i (by omega)) (by omega) (g := (mkF m 58 #[.val (.ref a1), .val (.ref a2), .val (.ref r), .val (.int (Int32.ofNat i)), .val (.int (Int32.ofNat n)), .unset] [(.int ((f i) + (1 : Int32))), (.int (Int32.ofNat i)), (.ref r)])) rfl rfl (hb hby d3_58)
          have N9 := Fr.snoc X9 N ge_r
          have Fn_9 := Fld.other W9 Fn_1 (Or.inl ne_a1_r)
          have Fk_9 := Fld.other W9 Fk_1 (Or.inl ne_a1_r)
          have A_9 := own_A_other W9 ne_a2_r A_1
          have Ea_9 := Exa.wr W9 Ea_1
          have B_9 := own_A_set W9 A1
          have E_r_9 := Exa.wr W9 Ex1
          have K_9 := Keep.wr K_1 W9 (Or.inr gh_r)
          replace B_9 := own_A_eq (f' := (own_bmp f i 0)) B_9 (own_bmp_0 f i k)
          refine own_step st9 ?_
          show own_E p e below _ (T9.setTop (mkF m 59 #[.val (.ref a1), .val (.ref a2), .val (.ref r), .val (.int (Int32.ofNat i)), .val (.int (Int32.ofNat n)), .unset] []))
          refine own_step (fun _ zk => XS.iconst X9.here hx rfl (hb hby d3_59) zk) ?_
          show own_E p e below _ (T9.setTop (mkF m 60 #[.val (.ref a1), .val (.ref a2), .val (.ref r), .val (.int (Int32.ofNat i)), .val (.int (Int32.ofNat n)), .unset] [(.int (0 : Int32))]))
          refine own_step (fun _ zk => XS.istore X9.here hx rfl (hb hby d3_60) rfl (l' := #[.val (.ref a1), .val (.ref a2), .val (.ref r), .val (.int (Int32.ofNat i)), .val (.int (Int32.ofNat n)), .val (.int (0 : Int32))]) rfl zk) ?_
          show own_E p e below _ (T9.setTop (mkF m 62 #[.val (.ref a1), .val (.ref a2), .val (.ref r), .val (.int (Int32.ofNat i)), .val (.int (Int32.ofNat n)), .val (.int (0 : Int32))] []))
          have inner : ∀ (q2 j : Nat) (T : State) (locs : List Loc) (h : Heap), j + q2 = i → Stand p l e ({ frames := 1, cells := 1, slots := 4, locals := 14 } : Room) s m #[(.ref a1), (.ref a2)] below meth c T locs 1 (0 + k) → T.heap = h → Fr n0 locs → Keep h0 h [] → own_A Z h r .int k (own_bmp f i j) → Exa Z h r "[I" → own_E p e below (fun (zT : State) (zo : Outcome) => ∃ zv zL, zo = .returned zv ∧ Q3 Z a1 a2 n k f h0 n0 zv zT.heap zL ∧ FrameEnd s zo zT zL ({ frames := 1, cells := 1, slots := 4, locals := 14 } : Room).cells ({ frames := 1, cells := 1, slots := 4, locals := 14 } : Room).slots) (T.setTop (mkF m 62 #[.val (.ref a1), .val (.ref a2), .val (.ref r), .val (.int (Int32.ofNat i)), .val (.int (Int32.ofNat n)), .val (.int (Int32.ofNat j))] [])) := by
            intro q2
            induction q2 with
            | zero =>
              intro j T locs h hj X eT N K B Er
              have hc65 : ¬ (Int32.ofNat j) < (Int32.ofNat i) := by rw [own_lt _ _ (by omega) (by omega)]; omega
              refine own_step (fun _ zk => XS.iload X.here hx rfl (hb hby d3_62) rfl zk) ?_
              show own_E p e below _ (T.setTop (mkF m 64 #[.val (.ref a1), .val (.ref a2), .val (.ref r), .val (.int (Int32.ofNat i)), .val (.int (Int32.ofNat n)), .val (.int (Int32.ofNat j))] [(.int (Int32.ofNat j))]))
              refine own_step (fun _ zk => XS.iloadN X.here hx rfl (hb hby d3_64) rfl zk) ?_
              show own_E p e below _ (T.setTop (mkF m 65 #[.val (.ref a1), .val (.ref a2), .val (.ref r), .val (.int (Int32.ofNat i)), .val (.int (Int32.ofNat n)), .val (.int (Int32.ofNat j))] [(.int (Int32.ofNat i)), (.int (Int32.ofNat j))]))
              refine own_step (fun _ zk => XS.icmpYes X.here hx rfl (pc0 := 65) (pc' := 80) rfl (hb hby d3_65) rfl (flt hc65).2.1 (by decide) (by decide) zk) ?_
              show own_E p e below _ (T.setTop (mkF m 80 #[.val (.ref a1), .val (.ref a2), .val (.ref r), .val (.int (Int32.ofNat i)), .val (.int (Int32.ofNat n)), .val (.int (Int32.ofNat j))] []))
              refine own_step (fun _ zk => XS.aloadN X.here hx rfl (hb hby d3_80) rfl rfl zk) ?_
              show own_E p e below _ (T.setTop (mkF m 81 #[.val (.ref a1), .val (.ref a2), .val (.ref r), .val (.int (Int32.ofNat i)), .val (.int (Int32.ofNat n)), .val (.int (Int32.ofNat j))] [(.ref r)]))
              refine own_ret X hlk (v := some (.ref r)) (fun h => by rw [Bd.returns] at h; cases h) ?_ (by decide) (show (0 + k) ≤ 4 by omega) (fun fs hr => retOut X hx (t := (.array .int)) (i := .areturn) Bd.returns rfl (Or.inr (Or.inr (Or.inr (Or.inr ⟨rfl, rfl, rfl⟩)))) (hb hby d3_81) hr)
              show Q3 Z a1 a2 n k f h0 n0 _ T.heap _
              rw [eT]
              exact ⟨⟨_, rfl, (by rw [← hcx, own_cx_yes hlt]; exact ⟨r, rfl, own_A_eq (by rw [show j = i by omega] at B; exact B) (own_bmp_e f i k), Er, ge_r⟩ : own_R Z _ n0 _ k (own_colex (Int32.ofNat n) k f))⟩, N, K, trivial⟩
            | succ q2 ihj =>
              intro j T locs h hj X eT N K B Er
              have hc65 : (Int32.ofNat j) < (Int32.ofNat i) := by rw [own_lt _ _ (by omega) (by omega)]; omega
              refine own_step (fun _ zk => XS.iload X.here hx rfl (hb hby d3_62) rfl zk) ?_
              show own_E p e below _ (T.setTop (mkF m 64 #[.val (.ref a1), .val (.ref a2), .val (.ref r), .val (.int (Int32.ofNat i)), .val (.int (Int32.ofNat n)), .val (.int (Int32.ofNat j))] [(.int (Int32.ofNat j))]))
              refine own_step (fun _ zk => XS.iloadN X.here hx rfl (hb hby d3_64) rfl zk) ?_
              show own_E p e below _ (T.setTop (mkF m 65 #[.val (.ref a1), .val (.ref a2), .val (.ref r), .val (.int (Int32.ofNat i)), .val (.int (Int32.ofNat n)), .val (.int (Int32.ofNat j))] [(.int (Int32.ofNat i)), (.int (Int32.ofNat j))]))
              refine own_step (fun _ zk => XS.icmpNo X.here hx rfl (hb hby d3_65) rfl (tlt hc65).2.1 zk) ?_
              show own_E p e below _ (T.setTop (mkF m 68 #[.val (.ref a1), .val (.ref a2), .val (.ref r), .val (.int (Int32.ofNat i)), .val (.int (Int32.ofNat n)), .val (.int (Int32.ofNat j))] []))
              refine own_step (fun _ zk => XS.aloadN X.here hx rfl (hb hby d3_68) rfl rfl zk) ?_
              show own_E p e below _ (T.setTop (mkF m 69 #[.val (.ref a1), .val (.ref a2), .val (.ref r), .val (.int (Int32.ofNat i)), .val (.int (Int32.ofNat n)), .val (.int (Int32.ofNat j))] [(.ref r)]))
              refine own_step (fun _ zk => XS.iload X.here hx rfl (hb hby d3_69) rfl zk) ?_
              show own_E p e below _ (T.setTop (mkF m 71 #[.val (.ref a1), .val (.ref a2), .val (.ref r), .val (.int (Int32.ofNat i)), .val (.int (Int32.ofNat n)), .val (.int (Int32.ofNat j))] [(.int (Int32.ofNat j)), (.ref r)]))
              refine own_step (fun _ zk => XS.iload X.here hx rfl (hb hby d3_71) rfl zk) ?_
              show own_E p e below _ (T.setTop (mkF m 73 #[.val (.ref a1), .val (.ref a2), .val (.ref r), .val (.int (Int32.ofNat i)), .val (.int (Int32.ofNat n)), .val (.int (Int32.ofNat j))] [(.int (Int32.ofNat j)), (.int (Int32.ofNat j)), (.ref r)]))
              obtain ⟨T10, h10, X10, e10, W10, st10⟩ := own_stI X hx hZ eT B j (own_toInt j (by omega)) (by omega) (g := (mkF m 73 #[.val (.ref a1), .val (.ref a2), .val (.ref r), .val (.int (Int32.ofNat i)), .val (.int (Int32.ofNat n)), .val (.int (Int32.ofNat j))] [(.int (Int32.ofNat j)), (.int (Int32.ofNat j)), (.ref r)])) rfl rfl (hb hby d3_73)
              have N10 := Fr.snoc X10 N ge_r
              have B_10 := own_A_set W10 B
              have E_r_10 := Exa.wr W10 Er
              have K_10 := Keep.wr K W10 (Or.inr gh_r)
              replace B_10 := own_A_eq (f' := (own_bmp f i (j + 1))) B_10 (own_bmp_s f i j k)
              refine own_step st10 ?_
              show own_E p e below _ (T10.setTop (mkF m 74 #[.val (.ref a1), .val (.ref a2), .val (.ref r), .val (.int (Int32.ofNat i)), .val (.int (Int32.ofNat n)), .val (.int (Int32.ofNat j))] []))
              refine own_step (fun _ zk => XS.iinc X10.here hx rfl (hb hby d3_74) rfl (l' := #[.val (.ref a1), .val (.ref a2), .val (.ref r), .val (.int (Int32.ofNat i)), .val (.int (Int32.ofNat n)), .val (.int ((Int32.ofNat j) + (1 : Int32)))]) rfl zk) ?_
              show own_E p e below _ (T10.setTop (mkF m 77 #[.val (.ref a1), .val (.ref a2), .val (.ref r), .val (.int (Int32.ofNat i)), .val (.int (Int32.ofNat n)), .val (.int ((Int32.ofNat j) + (1 : Int32)))] []))
              rw [show ((Int32.ofNat j) + (1 : Int32)) = (Int32.ofNat (j + 1)) from own_succ j]
              show own_E p e below _ (T10.setTop (mkF m 77 #[.val (.ref a1), .val (.ref a2), .val (.ref r), .val (.int (Int32.ofNat i)), .val (.int (Int32.ofNat n)), .val (.int (Int32.ofNat (j + 1)))] []))
              refine own_step (fun _ zk => XS.goto X10.here hx rfl (pc0 := 77) (pc' := 62) rfl (hb hby d3_77) (by decide) (by decide) zk) ?_
              show own_E p e below _ (T10.setTop (mkF m 62 #[.val (.ref a1), .val (.ref a2), .val (.ref r), .val (.int (Int32.ofNat i)), .val (.int (Int32.ofNat n)), .val (.int (Int32.ofNat (j + 1)))] []))
              exact ihj (j + 1) _ _ _ (by omega) X10 e10 N10 K_10 B_10 E_r_10
          exact inner i 0 _ _ _ (by omega) X9 e9 N9 K_9 B_9 E_r_9
        · skip
          have hlt' := hlt
          rw [hif] at hlt'
          refine own_step (fun _ zk => XS.icmpYes X8.here hx rfl (pc0 := 49) (pc' := 82) rfl (hb hby d3_49) rfl (flt hlt').2.1 (by decide) (by decide) zk) ?_
          show own_E p e below _ (T8.setTop (mkF m 82 #[.val (.ref a1), .val (.ref a2), .val (.ref r), .val (.int (Int32.ofNat i)), .val (.int (Int32.ofNat n)), .unset] []))
          refine own_step (fun _ zk => XS.iinc X8.here hx rfl (hb hby d3_82) rfl (l' := #[.val (.ref a1), .val (.ref a2), .val (.ref r), .val (.int ((Int32.ofNat i) + (1 : Int32))), .val (.int (Int32.ofNat n)), .unset]) rfl zk) ?_
          show own_E p e below _ (T8.setTop (mkF m 85 #[.val (.ref a1), .val (.ref a2), .val (.ref r), .val (.int ((Int32.ofNat i) + (1 : Int32))), .val (.int (Int32.ofNat n)), .unset] []))
          rw [show ((Int32.ofNat i) + (1 : Int32)) = (Int32.ofNat (i + 1)) from own_succ i]
          show own_E p e below _ (T8.setTop (mkF m 85 #[.val (.ref a1), .val (.ref a2), .val (.ref r), .val (.int (Int32.ofNat (i + 1))), .val (.int (Int32.ofNat n)), .unset] []))
          refine own_step (fun _ zk => XS.goto X8.here hx rfl (pc0 := 85) (pc' := 10) rfl (hb hby d3_85) (by decide) (by decide) zk) ?_
          show own_E p e below _ (T8.setTop (mkF m 10 #[.val (.ref a1), .val (.ref a2), .val (.ref r), .val (.int (Int32.ofNat (i + 1))), .val (.int (Int32.ofNat n)), .unset] []))
          exact ih (i + 1) _ _ _ (by omega) (by rw [← hcx, own_cx_no hlt]) (Or.inr ⟨_, rfl, rfl⟩) X8 e8 N
  exact outer k 0 _ _ _ (by omega) rfl (Or.inl rfl) X2 e2 N0
theorem d4_0 : decode prog_10_method_4_code 0 = .ok (.aconst_null, 1) := by decide +kernel
theorem d4_1 : decode prog_10_method_4_code 1 = .ok (.astore_n 1, 1) := by decide +kernel
theorem d4_2 : decode prog_10_method_4_code 2 = .ok (.aload_n 0, 1) := by decide +kernel
theorem d4_3 : decode prog_10_method_4_code 3 = .ok (.getfield 43, 3) := by decide +kernel
theorem d4_6 : decode prog_10_method_4_code 6 = .ok (.aload_n 0, 1) := by decide +kernel
theorem d4_7 : decode prog_10_method_4_code 7 = .ok (.getfield 16, 3) := by decide +kernel
theorem d4_10 : decode prog_10_method_4_code 10 = .ok (.aload_n 0, 1) := by decide +kernel
theorem d4_11 : decode prog_10_method_4_code 11 = .ok (.getfield 22, 3) := by decide +kernel
theorem d4_14 : decode prog_10_method_4_code 14 = .ok (.idiv, 1) := by decide +kernel
theorem d4_15 : decode prog_10_method_4_code 15 = .ok (.if_icmp .ge 30, 3) := by decide +kernel
theorem d4_18 : decode prog_10_method_4_code 18 = .ok (.aload_n 0, 1) := by decide +kernel
theorem d4_19 : decode prog_10_method_4_code 19 = .ok (.aload_n 0, 1) := by decide +kernel
theorem d4_20 : decode prog_10_method_4_code 20 = .ok (.getfield 43, 3) := by decide +kernel
theorem d4_23 : decode prog_10_method_4_code 23 = .ok (.aload_n 0, 1) := by decide +kernel
theorem d4_24 : decode prog_10_method_4_code 24 = .ok (.getfield 22, 3) := by decide +kernel
theorem d4_27 : decode prog_10_method_4_code 27 = .ok (.imul, 1) := by decide +kernel
theorem d4_28 : decode prog_10_method_4_code 28 = .ok (.invokevirtual 25, 3) := by decide +kernel
theorem d4_31 : decode prog_10_method_4_code 31 = .ok (.astore_n 1, 1) := by decide +kernel
theorem d4_32 : decode prog_10_method_4_code 32 = .ok (.aload_n 0, 1) := by decide +kernel
theorem d4_33 : decode prog_10_method_4_code 33 = .ok (.dup, 1) := by decide +kernel
theorem d4_34 : decode prog_10_method_4_code 34 = .ok (.getfield 43, 3) := by decide +kernel
theorem d4_37 : decode prog_10_method_4_code 37 = .ok (.iconst 1, 1) := by decide +kernel
theorem d4_38 : decode prog_10_method_4_code 38 = .ok (.iadd, 1) := by decide +kernel
theorem d4_39 : decode prog_10_method_4_code 39 = .ok (.putfield 43, 3) := by decide +kernel
theorem d4_42 : decode prog_10_method_4_code 42 = .ok (.goto 60, 3) := by decide +kernel
theorem d4_45 : decode prog_10_method_4_code 45 = .ok (.aload_n 0, 1) := by decide +kernel
theorem d4_46 : decode prog_10_method_4_code 46 = .ok (.getfield 29, 3) := by decide +kernel
theorem d4_49 : decode prog_10_method_4_code 49 = .ok (.ifnull 29, 3) := by decide +kernel
theorem d4_52 : decode prog_10_method_4_code 52 = .ok (.aload_n 0, 1) := by decide +kernel
theorem d4_53 : decode prog_10_method_4_code 53 = .ok (.aload_n 0, 1) := by decide +kernel
theorem d4_54 : decode prog_10_method_4_code 54 = .ok (.getfield 29, 3) := by decide +kernel
theorem d4_57 : decode prog_10_method_4_code 57 = .ok (.invokevirtual 46, 3) := by decide +kernel
theorem d4_60 : decode prog_10_method_4_code 60 = .ok (.ifCond .eq 18, 3) := by decide +kernel
theorem d4_63 : decode prog_10_method_4_code 63 = .ok (.aload_n 0, 1) := by decide +kernel
theorem d4_64 : decode prog_10_method_4_code 64 = .ok (.aload_n 0, 1) := by decide +kernel
theorem d4_65 : decode prog_10_method_4_code 65 = .ok (.aload_n 0, 1) := by decide +kernel
theorem d4_66 : decode prog_10_method_4_code 66 = .ok (.getfield 29, 3) := by decide +kernel
theorem d4_69 : decode prog_10_method_4_code 69 = .ok (.invokevirtual 50, 3) := by decide +kernel
theorem d4_72 : decode prog_10_method_4_code 72 = .ok (.putfield 29, 3) := by decide +kernel
theorem d4_75 : decode prog_10_method_4_code 75 = .ok (.goto (-30), 3) := by decide +kernel
theorem d4_78 : decode prog_10_method_4_code 78 = .ok (.aload_n 0, 1) := by decide +kernel
theorem d4_79 : decode prog_10_method_4_code 79 = .ok (.getfield 29, 3) := by decide +kernel
theorem d4_82 : decode prog_10_method_4_code 82 = .ok (.ifnull 20, 3) := by decide +kernel
theorem d4_85 : decode prog_10_method_4_code 85 = .ok (.aload_n 0, 1) := by decide +kernel
theorem d4_86 : decode prog_10_method_4_code 86 = .ok (.getfield 29, 3) := by decide +kernel
theorem d4_89 : decode prog_10_method_4_code 89 = .ok (.astore_n 1, 1) := by decide +kernel
theorem d4_90 : decode prog_10_method_4_code 90 = .ok (.aload_n 0, 1) := by decide +kernel
theorem d4_91 : decode prog_10_method_4_code 91 = .ok (.aload_n 0, 1) := by decide +kernel
theorem d4_92 : decode prog_10_method_4_code 92 = .ok (.aload_n 0, 1) := by decide +kernel
theorem d4_93 : decode prog_10_method_4_code 93 = .ok (.getfield 29, 3) := by decide +kernel
theorem d4_96 : decode prog_10_method_4_code 96 = .ok (.invokevirtual 50, 3) := by decide +kernel
theorem d4_99 : decode prog_10_method_4_code 99 = .ok (.putfield 29, 3) := by decide +kernel
theorem d4_102 : decode prog_10_method_4_code 102 = .ok (.aload_n 1, 1) := by decide +kernel
theorem d4_103 : decode prog_10_method_4_code 103 = .ok (.areturn, 1) := by decide +kernel
theorem pd_4_0 : parseMethodDescriptor "(I)[I" = some ⟨[.int], some (.array .int)⟩ := by decide +kernel
theorem pd_4_1 : parseMethodDescriptor "([I)Z" = some ⟨[(.array .int)], some .boolean⟩ := by decide +kernel
theorem pd_4_2 : parseMethodDescriptor "([I)[I" = some ⟨[(.array .int)], some (.array .int)⟩ := by decide +kernel
theorem pn_4 : plainName "com/example/tallier/tallier/protocol/RecoverySets" = true := by first | (simp [plainName, overriddenIn]; done) | decide +kernel
theorem ef_4 (m : MethodId) (a1 : Addr)  : entryFrame m #[(.ref a1)] 2 = mkF m 0 #[.val (.ref a1), .unset] [] := by first | (simp [entryFrame, mkF, argsToLocals, Value.category]; done) | rfl
def Q4 (Z : State) (a1 : Addr) (n k rg : Nat) (cx : Option (Nat → Int32)) (vc vp : Value) (h0 : Heap) (n0 : Nat) (v : Option Value) (h : Heap) (L : List Loc) : Prop := (∃ w, v = some w ∧ own_R Z h n0 w k (own_adv n k rg cx).1 ∧ ∃ vc', own_O Z h a1 n k (own_adv n k rg cx).2.1 vc' vp ∧ own_R Z h n0 vc' k (own_adv n k rg cx).2.2) ∧ Fr n0 L ∧ Keep h0 h [a1] ∧ True
set_option maxRecDepth 65536 in
set_option maxHeartbeats 40000000 in
theorem rm4 (l : Launch) (Z : State) (a0 : Array Value) (hw : ∀ d ∈ tables_1, d.before a0 Z = true) (ws : List Jvm.Cond) (a1 : Addr) (n k rg : Nat) (cx : Option (Nat → Int32)) (vc vp : Value) (h0 : Heap) (n0 : Nat) (Z0 : n0 ≤ h0.size) (hk1 : 1 ≤ k) (hk4 : k ≤ 4) (hn4 : n ≤ 4) (hrg : rg ≤ 4) (g1 : n0 ≤ a1) (HO : own_O Z h0 a1 n k rg vc vp) (HR : own_R Z h0 n0 vc k cx) (hok : own_ok (Int32.ofNat n) k 4 cx = true) :
    MetFree l (⟨"com/example/tallier/tallier/protocol/RecoverySets", "advance", "()[I"⟩ : MethodName) (head1 (Jvm.Cond.code (⟨"com/example/tallier/tallier/protocol/RecoverySets", "advance", "()[I"⟩ : MethodName) prog_10_method_4_code 2 (some (.array .int)) :: ws) ({ frames := 2, cells := 4, slots := 16, locals := 32 } : Room)) (fun zA zU => zA = #[(.ref a1)] ∧ Z.Warmed39 zU.vm ∧ zU.heap = h0) (fun _ _ _ _ _ => True) (fun _ zU zo zT => ∃ zv zL, zo = .returned zv ∧ Q4 Z a1 n k rg cx vc vp h0 n0 zv zT.heap zL ∧ FrameEnd zU zo zT zL ({ frames := 2, cells := 4, slots := 16, locals := 32 } : Room).cells ({ frames := 2, cells := 4, slots := 16, locals := 32 } : Room).slots) := by
  refine MetFree.of_bodySF (plainFor_of_name pn_4) hisR ?_
  intro p e s m args below meth c s₁ Bd hml0 hP hK
  obtain ⟨rfl, hZ, hh⟩ := hP
  have hx := Bd.exec
  have hby := Bd.bytes
  have hml : c.maxLocals = 2 := hml0
  have hown : s.vm.findClass "com/example/tallier/tallier/protocol/RecoverySets" = some m.cls := findClass_of_methodNamed Bd.named
  have hnm := (name_of_methodNamed Bd.named Bd.method).1
  have hlk : meth.locks = false := Bd.notSynchronized
  have X0 : Stand p l e ({ frames := 2, cells := 4, slots := 16, locals := 32 } : Room) s m #[(.ref a1)] below meth c s₁ [] 0 0 := Stand.of_body Bd
  have e0 : s₁.heap = h0 := by rw [← hh, Bd.state]; rfl
  have N0 := Fr.nil n0
  refine own_step (p := p) (e := e) (below := below) (U' := s₁.setTop (mkF m 0 #[.val (.ref a1), .unset] [])) (fun _ zk => castTop (ef_4 m a1 ) zk) ?_
  obtain ⟨E, Fn, Fk, Fg, Fc, Fp⟩ := HO
  have K_0 : Keep h0 h0 [a1] := Keep.refl _ _
  refine own_step (fun _ zk => XS.aconstNull X0.here hx rfl (hb hby d4_0) zk) ?_
  show own_E p e below _ (s₁.setTop (mkF m 1 #[.val (.ref a1), .unset] [.null]))
  refine own_step (fun _ zk => XS.astoreN X0.here hx rfl (hb hby d4_1) rfl rfl (l' := #[.val (.ref a1), .val .null]) rfl zk) ?_
  show own_E p e below _ (s₁.setTop (mkF m 2 #[.val (.ref a1), .val .null] []))
  refine own_step (fun _ zk => XS.aloadN X0.here hx rfl (hb hby d4_2) rfl rfl zk) ?_
  show own_E p e below _ (s₁.setTop (mkF m 3 #[.val (.ref a1), .val .null] [(.ref a1)]))
  obtain ⟨T1, X1, e1, st1⟩ := getF X0 hx hZ hown (host := "") (Or.inl (hw _ (List.mem_of_getElem? (i := 29) rfl))) Via.refl e0 Fg (g := (mkF m 3 #[.val (.ref a1), .val .null] [(.ref a1)])) rfl rfl (hb hby d4_3)
  refine own_step st1 ?_
  show own_E p e below _ (T1.setTop (mkF m 6 #[.val (.ref a1), .val .null] [(.int (Int32.ofNat rg))]))
  refine own_step (fun _ zk => XS.aloadN X1.here hx rfl (hb hby d4_6) rfl rfl zk) ?_
  show own_E p e below _ (T1.setTop (mkF m 7 #[.val (.ref a1), .val .null] [(.ref a1), (.int (Int32.ofNat rg))]))
  obtain ⟨T2, X2, e2, st2⟩ := getF X1 hx hZ hown (host := "") (Or.inl (hw _ (List.mem_of_getElem? (i := 14) rfl))) Via.refl e1 Fn (g := (mkF m 7 #[.val (.ref a1), .val .null] [(.ref a1), (.int (Int32.ofNat rg))])) rfl rfl (hb hby d4_7)
  refine own_step st2 ?_
  show own_E p e below _ (T2.setTop (mkF m 10 #[.val (.ref a1), .val .null] [(.int (Int32.ofNat n)), (.int (Int32.ofNat rg))]))
  refine own_step (fun _ zk => XS.aloadN X2.here hx rfl (hb hby d4_10) rfl rfl zk) ?_
  show own_E p e below _ (T2.setTop (mkF m 11 #[.val (.ref a1), .val .null] [(.ref a1), (.int (Int32.ofNat n)), (.int (Int32.ofNat rg))]))
  obtain ⟨T3, X3, e3, st3⟩ := getF X2 hx hZ hown (host := "") (Or.inl (hw _ (List.mem_of_getElem? (i := 16) rfl))) Via.refl e2 Fk (g := (mkF m 11 #[.val (.ref a1), .val .null] [(.ref a1), (.int (Int32.ofNat n)), (.int (Int32.ofNat rg))])) rfl rfl (hb hby d4_11)
  refine own_step st3 ?_
  show own_E p e below _ (T3.setTop (mkF m 14 #[.val (.ref a1), .val .null] [(.int (Int32.ofNat k)), (.int (Int32.ofNat n)), (.int (Int32.ofNat rg))]))
  refine own_step (fun _ zk => XS.idiv X3.here hx rfl (hb hby d4_14) rfl (own_nz hk1 (by omega)) zk) ?_
  show own_E p e below _ (T3.setTop (mkF m 15 #[.val (.ref a1), .val .null] [(.int ((Int32.ofNat n) / (Int32.ofNat k))), (.int (Int32.ofNat rg))]))
  rw [show ((Int32.ofNat n) / (Int32.ofNat k)) = (Int32.ofNat (n / k)) from (own_div n (by omega) k (by omega) hk1).1]
  show own_E p e below _ (T3.setTop (mkF m 15 #[.val (.ref a1), .val .null] [(.int (Int32.ofNat (n / k))), (.int (Int32.ofNat rg))]))
  by_cases hlt : rg < n / k
  · skip
    have hc15 : (Int32.ofNat rg) < (Int32.ofNat (n / k)) := by rw [own_lt _ _ (by omega) (by have := (own_div n (by omega) k (by omega) hk1).2; omega)]; exact hlt
    refine own_step (fun _ zk => XS.icmpNo X3.here hx rfl (hb hby d4_15) rfl (tlt hc15).2.1 zk) ?_
    show own_E p e below _ (T3.setTop (mkF m 18 #[.val (.ref a1), .val .null] []))
    refine own_step (fun _ zk => XS.aloadN X3.here hx rfl (hb hby d4_18) rfl rfl zk) ?_
    show own_E p e below _ (T3.setTop (mkF m 19 #[.val (.ref a1), .val .null] [(.ref a1)]))
    refine own_step (fun _ zk => XS.aloadN X3.here hx rfl (hb hby d4_19) rfl rfl zk) ?_
    show own_E p e below _ (T3.setTop (mkF m 20 #[.val (.ref a1), .val .null] [(.ref a1), (.ref a1)]))
    obtain ⟨T4, X4, e4, st4⟩ := getF X3 hx hZ hown (host := "") (Or.inl (hw _ (List.mem_of_getElem? (i := 29) rfl))) Via.refl e3 Fg (g := (mkF m 20 #[.val (.ref a1), .val .null] [(.ref a1), (.ref a1)])) rfl rfl (hb hby d4_20)
    refine own_step st4 ?_
    show own_E p e below _ (T4.setTop (mkF m 23 #[.val (.ref a1), .val .null] [(.int (Int32.ofNat rg)), (.ref a1)]))
    refine own_step (fun _ zk => XS.aloadN X4.here hx rfl (hb hby d4_23) rfl rfl zk) ?_
    show own_E p e below _ (T4.setTop (mkF m 24 #[.val (.ref a1), .val .null] [(.ref a1), (.int (Int32.ofNat rg)), (.ref a1)]))
    obtain ⟨T5, X5, e5, st5⟩ := getF X4 hx hZ hown (host := "") (Or.inl (hw _ (List.mem_of_getElem? (i := 16) rfl))) Via.refl e4 Fk (g := (mkF m 24 #[.val (.ref a1), .val .null] [(.ref a1), (.int (Int32.ofNat rg)), (.ref a1)])) rfl rfl (hb hby d4_24)
    refine own_step st5 ?_
    show own_E p e below _ (T5.setTop (mkF m 27 #[.val (.ref a1), .val .null] [(.int (Int32.ofNat k)), (.int (Int32.ofNat rg)), (.ref a1)]))
    refine own_step (fun _ zk => XS.imul X5.here hx rfl (hb hby d4_27) rfl zk) ?_
    show own_E p e below _ (T5.setTop (mkF m 28 #[.val (.ref a1), .val .null] [(.int ((Int32.ofNat rg) * (Int32.ofNat k))), (.ref a1)]))
    obtain ⟨cq6, q6, q6'⟩ := E.cell
    obtain ⟨_, _, ⟨T6, zL6, zK6, zN6⟩, -, X6, ⟨zLc6, hQ6, zl6, zy6, zz6⟩, st6⟩ := X5.privateBack hx (y := (⟨"com/example/tallier/tallier/protocol/RecoverySets", "consecutive", "(I)[I"⟩ : MethodName)) hown (mvT hZ (hw _ (List.mem_of_getElem? (i := 18) rfl))) (mvT hZ (hw _ (List.mem_of_getElem? (i := 19) rfl))) (mvT hZ (Jvm.Kit.selects_private (y := (⟨"com/example/tallier/tallier/protocol/RecoverySets", "consecutive", "(I)[I"⟩ : MethodName)) (by decide) (hw _ (List.mem_of_getElem? (i := 6) rfl)) (hw _ (List.mem_of_getElem? (i := 20) rfl)) (hw _ (List.mem_of_getElem? (i := 19) rfl)))) (Cond.privateMethod_at (mvP hZ (hw _ (List.mem_of_getElem? (i := 20) rfl)) (args := #[]))) (mvT hZ (hw _ (List.mem_of_getElem? (i := 21) rfl))) (by decide) (backOf (W := 0) (rm1 l Z a0 hw [] a1 ((Int32.ofNat rg) * (Int32.ofNat k)) k h0 n0 (Nat.le_trans Z0 K_0.1) hk1 hk4 Fk) hZ (hw _ (List.mem_of_getElem? (i := 21) rfl)) (hw _ (List.mem_of_getElem? (i := 7) rfl)) (by decide) (by decide)) (g := (mkF m 28 #[.val (.ref a1), .val .null] [(.int ((Int32.ofNat rg) * (Int32.ofNat k))), (.ref a1)])) rfl (by rw [hml]; rfl) (Steps.refl _) (a := a1) (by rw [e5]; exact q6) q6' (argsL := [(.int ((Int32.ofNat rg) * (Int32.ofNat k)))]) (rest := []) (lenOf pd_4_0 rfl) rfl (by show 2 * 0 + _ ≤ _; exact Nat.le_of_eq rfl) (hb hby d4_28) (fun _ _ => ⟨rfl, e5, (by decide : 0 + 1 ≤ _), (by decide : 0 + 4 ≤ _)⟩)
    dsimp only [Pt.U, Pt.locs, Pt.cells, Pt.slots] at X6 zl6 zy6 zz6 st6 hQ6
    rw [show zK6 = 1 from zy6, show zN6 = 4 from zz6] at X6
    generalize e6 : T6.heap = h6 at hQ6
    obtain ⟨⟨_, rfl, r6, rfl, A6, Ex6, gr6⟩, N6q, Kq6, -⟩ := hQ6
    have E_6 := Exa.keep E Kq6
    have Fn_6 := Fld.keep Fn Kq6 nin0
    have Fk_6 := Fld.keep Fk Kq6 nin0
    have Fg_6 := Fld.keep Fg Kq6 nin0
    have Fc_6 := Fld.keep Fc Kq6 nin0
    have Fp_6 := Fld.keep Fp Kq6 nin0
    have R_6 := own_R_keep Kq6 (fun _ _ => nin0) HR
    have K_6 := Keep.trans K_0 Kq6 all0
    have N6 : Fr n0 zL6 := by rw [zl6]; exact Fr.app N0 N6q
    refine own_step (fun _ zk => (st6).trans zk) ?_
    show own_E p e below _ (T6.setTop (mkF m 31 #[.val (.ref a1), .val .null] [(.ref r6)]))
    refine own_step (fun _ zk => XS.astoreN X6.here hx rfl (hb hby d4_31) rfl rfl (l' := #[.val (.ref a1), .val (.ref r6)]) rfl zk) ?_
    show own_E p e below _ (T6.setTop (mkF m 32 #[.val (.ref a1), .val (.ref r6)] []))
    refine own_step (fun _ zk => XS.aloadN X6.here hx rfl (hb hby d4_32) rfl rfl zk) ?_
    show own_E p e below _ (T6.setTop (mkF m 33 #[.val (.ref a1), .val (.ref r6)] [(.ref a1)]))
    refine own_step (fun _ zk => XS.dup X6.here hx rfl (hb hby d4_33) rfl rfl zk) ?_
    show own_E p e below _ (T6.setTop (mkF m 34 #[.val (.ref a1), .val (.ref r6)] [(.ref a1), (.ref a1)]))
    obtain ⟨T7, X7, e7, st7⟩ := getF X6 hx hZ hown (host := "") (Or.inl (hw _ (List.mem_of_getElem? (i := 29) rfl))) Via.refl e6 Fg_6 (g := (mkF m 34 #[.val (.ref a1), .val (.ref r6)] [(.ref a1), (.ref a1)])) rfl rfl (hb hby d4_34)
    refine own_step st7 ?_
    show own_E p e below _ (T7.setTop (mkF m 37 #[.val (.ref a1), .val (.ref r6)] [(.int (Int32.ofNat rg)), (.ref a1)]))
    refine own_step (fun _ zk => XS.iconst X7.here hx rfl (hb hby d4_37) zk) ?_
    show own_E p e below _ (T7.setTop (mkF m 38 #[.val (.ref a1), .val (.ref r6)] [(.int (1 : Int32)), (.int (Int32.ofNat rg)), (.ref a1)]))
    refine own_step (fun _ zk => XS.iadd X7.here hx rfl (hb hby d4_38) rfl zk) ?_
    show own_E p e below _ (T7.setTop (mkF m 39 #[.val (.ref a1), .val (.ref r6)] [(.int ((Int32.ofNat rg) + (1 : Int32))), (.ref a1)]))
    rw [show ((Int32.ofNat rg) + (1 : Int32)) = (Int32.ofNat (rg + 1)) from own_succ rg]
    show own_E p e below _ (T7.setTop (mkF m 39 #[.val (.ref a1), .val (.ref r6)] [(.int (Int32.ofNat (rg + 1))), (.ref a1)]))
    obtain ⟨T8, h8, X8, e8, W8, st8⟩ := putF X7 hx hZ hown (host := "") (Or.inl (hw _ (List.mem_of_getElem? (i := 29) rfl))) Via.refl e7 Fg_6 E_6 (Or.inl (hw _ (List.mem_of_getElem? (i := 30) rfl))) (hw _ (List.mem_of_getElem? (i := 6) rfl)) (ty := .int) (by decide) rfl rfl (g := (mkF m 39 #[.val (.ref a1), .val (.ref r6)] [(.int (Int32.ofNat (rg + 1))), (.ref a1)])) rfl rfl (hb hby d4_39)
    have N8 := Fr.snoc X8 N6 g1
    have E_8 := Exa.wr W8 E_6
    have Fn_8 := Fld.other W8 Fn_6 (Or.inr (slot_ne (Or.inr (hw _ (List.mem_of_getElem? (i := 15) rfl))) (Or.inl (hw _ (List.mem_of_getElem? (i := 30) rfl))) (by decide) (t := .int) (t' := .int) (by decide) (by decide)))
    have Fk_8 := Fld.other W8 Fk_6 (Or.inr (slot_ne (Or.inr (hw _ (List.mem_of_getElem? (i := 17) rfl))) (Or.inl (hw _ (List.mem_of_getElem? (i := 30) rfl))) (by decide) (t := .int) (t' := .int) (by decide) (by decide)))
    have Fg_8 := Fld.same W8 Fg_6
    have Fc_8 := Fld.other W8 Fc_6 (Or.inr (slot_ne (Or.inl (hw _ (List.mem_of_getElem? (i := 24) rfl))) (Or.inl (hw _ (List.mem_of_getElem? (i := 30) rfl))) (by decide) (t := (.array .int)) (t' := .int) (by decide) (by decide)))
    have Fp_8 := Fld.other W8 Fp_6 (Or.inr (slot_ne (Or.inl (hw _ (List.mem_of_getElem? (i := 32) rfl))) (Or.inl (hw _ (List.mem_of_getElem? (i := 30) rfl))) (by decide) (t := (.array .int)) (t' := .int) (by decide) (by decide)))
    have R_8 := own_R_wr W8 E_6 R_6
    have As_8 := own_A_other W8 (Ne.symm (Ne.symm (ne_exa Ex6 E_6 (by decide)))) A6
    have Es_8 := Exa.wr W8 Ex6
    have K_8 := Keep.wr K_6 W8 (Or.inl (List.mem_of_getElem? (i := 0) rfl))
    refine own_step st8 ?_
    show own_E p e below _ (T8.setTop (mkF m 42 #[.val (.ref a1), .val (.ref r6)] []))
    refine own_step (fun _ zk => XS.goto X8.here hx rfl (pc0 := 42) (pc' := 102) rfl (hb hby d4_42) (by decide) (by decide) zk) ?_
    show own_E p e below _ (T8.setTop (mkF m 102 #[.val (.ref a1), .val (.ref r6)] []))
    refine own_step (fun _ zk => XS.aloadN X8.here hx rfl (hb hby d4_102) rfl rfl zk) ?_
    show own_E p e below _ (T8.setTop (mkF m 103 #[.val (.ref a1), .val (.ref r6)] [(.ref r6)]))
    refine own_ret X8 hlk (v := some (.ref r6)) (fun h => by rw [Bd.returns] at h; cases h) ?_ (by decide) (by decide) (fun fs hr => retOut X8 hx (t := (.array .int)) (i := .areturn) Bd.returns rfl (Or.inr (Or.inr (Or.inr (Or.inr ⟨rfl, rfl, rfl⟩)))) (hb hby d4_103) hr)
    show Q4 Z a1 n k rg cx vc vp h0 n0 _ T8.heap _
    rw [e8]
    refine ⟨⟨_, rfl, ?_, vc, ?_, ?_⟩, N8, K_8, trivial⟩
    · rw [own_adv_run hlt]; exact ⟨_, rfl, As_8, Es_8, gr6⟩
    · rw [own_adv_run hlt]; exact ⟨E_8, Fn_8, Fk_8, Fg_8, Fc_8, Fp_8⟩
    · rw [own_adv_run hlt]; exact R_8
  · skip
    have hge := hlt
    have hc15 : ¬ (Int32.ofNat rg) < (Int32.ofNat (n / k)) := by rw [own_lt _ _ (by omega) (by have := (own_div n (by omega) k (by omega) hk1).2; omega)]; exact hlt
    refine own_step (fun _ zk => XS.icmpYes X3.here hx rfl (pc0 := 15) (pc' := 45) rfl (hb hby d4_15) rfl (flt hc15).2.1 (by decide) (by decide) zk) ?_
    show own_E p e below _ (T3.setTop (mkF m 45 #[.val (.ref a1), .val .null] []))
    have loop : ∀ (q : Nat) (cx2 : Option (Nat → Int32)) (vc : Value) (nc ns : Nat) (T : State) (locs : List Loc) (h : Heap), nc + q = 4 → ns + 4 * q = 16 → own_ok (Int32.ofNat n) k q cx2 = true → own_skip (Int32.ofNat n) k q cx2 = own_skip (Int32.ofNat n) k 4 cx → Stand p l e ({ frames := 2, cells := 4, slots := 16, locals := 32 } : Room) s m #[(.ref a1)] below meth c T locs nc ns → T.heap = h → Fr n0 locs → Keep h0 h [a1] → own_O Z h a1 n k rg vc vp → own_R Z h n0 vc k cx2 → own_E p e below (fun (zT : State) (zo : Outcome) => ∃ zv zL, zo = .returned zv ∧ Q4 Z a1 n k rg cx vc vp h0 n0 zv zT.heap zL ∧ FrameEnd s zo zT zL ({ frames := 2, cells := 4, slots := 16, locals := 32 } : Room).cells ({ frames := 2, cells := 4, slots := 16, locals := 32 } : Room).slots) (T.setTop (mkF m 45 #[.val (.ref a1), .val .null] [])) := by
      intro q
      induction q with
      | zero =>
        intro cx2 vc nc ns T locs h hnc hns hok hsk X eT N K HO HR
        cases cx2 with
        | none =>
          have ev : vc = .null := HR
          subst ev
          obtain ⟨E, Fn, Fk, Fg, Fc, Fp⟩ := HO
          refine own_step (fun _ zk => XS.aloadN X.here hx rfl (hb hby d4_45) rfl rfl zk) ?_
          show own_E p e below _ (T.setTop (mkF m 46 #[.val (.ref a1), .val .null] [(.ref a1)]))
          obtain ⟨T9, X9, e9, st9⟩ := getF X hx hZ hown (host := "") (Or.inl (hw _ (List.mem_of_getElem? (i := 23) rfl))) Via.refl eT Fc (g := (mkF m 46 #[.val (.ref a1), .val .null] [(.ref a1)])) rfl rfl (hb hby d4_46)
          refine own_step st9 ?_
          show own_E p e below _ (T9.setTop (mkF m 49 #[.val (.ref a1), .val .null] [.null]))
          refine own_step (fun _ zk => XS.ifnullYes X9.here hx rfl (pc0 := 49) (pc' := 78) rfl (hb hby d4_49) rfl (by decide) (by decide) zk) ?_
          show own_E p e below _ (T9.setTop (mkF m 78 #[.val (.ref a1), .val .null] []))
          refine own_step (fun _ zk => XS.aloadN X9.here hx rfl (hb hby d4_78) rfl rfl zk) ?_
          show own_E p e below _ (T9.setTop (mkF m 79 #[.val (.ref a1), .val .null] [(.ref a1)]))
          obtain ⟨T10, X10, e10, st10⟩ := getF X9 hx hZ hown (host := "") (Or.inl (hw _ (List.mem_of_getElem? (i := 23) rfl))) Via.refl e9 Fc (g := (mkF m 79 #[.val (.ref a1), .val .null] [(.ref a1)])) rfl rfl (hb hby d4_79)
          refine own_step st10 ?_
          show own_E p e below _ (T10.setTop (mkF m 82 #[.val (.ref a1), .val .null] [.null]))
          refine own_step (fun _ zk => XS.ifnullYes X10.here hx rfl (pc0 := 82) (pc' := 102) rfl (hb hby d4_82) rfl (by decide) (by decide) zk) ?_
          show own_E p e below _ (T10.setTop (mkF m 102 #[.val (.ref a1), .val .null] []))
          refine own_step (fun _ zk => XS.aloadN X10.here hx rfl (hb hby d4_102) rfl rfl zk) ?_
          show own_E p e below _ (T10.setTop (mkF m 103 #[.val (.ref a1), .val .null] [.null]))
          refine own_ret X10 hlk (v := some .null) (fun h => by rw [Bd.returns] at h; cases h) ?_ (show nc ≤ 4 by omega) (show ns ≤ 16 by omega) (fun fs hr => retOut X10 hx (t := (.array .int)) (i := .areturn) Bd.returns rfl (Or.inr (Or.inr (Or.inr (Or.inr ⟨rfl, rfl, rfl⟩)))) (hb hby d4_103) hr)
          show Q4 Z a1 n k rg cx vc vp h0 n0 _ T10.heap _
          rw [e10]
          refine ⟨⟨_, rfl, ?_, .null, ?_, ?_⟩, N, K, trivial⟩
          · rw [own_adv_cx hge, ← hsk, own_skip_none]; exact rfl
          · rw [own_adv_cx hge]; exact ⟨E, Fn, Fk, Fg, Fc, Fp⟩
          · rw [own_adv_cx hge, ← hsk, own_skip_none]; exact rfl
        | some f => cases hok
      | succ q ih =>
        intro cx2 vc nc ns T locs h hnc hns hok hsk X eT N K HO HR
        cases cx2 with
        | none =>
          have ev : vc = .null := HR
          subst ev
          obtain ⟨E, Fn, Fk, Fg, Fc, Fp⟩ := HO
          refine own_step (fun _ zk => XS.aloadN X.here hx rfl (hb hby d4_45) rfl rfl zk) ?_
          show own_E p e below _ (T.setTop (mkF m 46 #[.val (.ref a1), .val .null] [(.ref a1)]))
          obtain ⟨T11, X11, e11, st11⟩ := getF X hx hZ hown (host := "") (Or.inl (hw _ (List.mem_of_getElem? (i := 23) rfl))) Via.refl eT Fc (g := (mkF m 46 #[.val (.ref a1), .val .null] [(.ref a1)])) rfl rfl (hb hby d4_46)
          refine own_step st11 ?_
          show own_E p e below _ (T11.setTop (mkF m 49 #[.val (.ref a1), .val .null] [.null]))
          refine own_step (fun _ zk => XS.ifnullYes X11.here hx rfl (pc0 := 49) (pc' := 78) rfl (hb hby d4_49) rfl (by decide) (by decide) zk) ?_
          show own_E p e below _ (T11.setTop (mkF m 78 #[.val (.ref a1), .val .null] []))
          refine own_step (fun _ zk => XS.aloadN X11.here hx rfl (hb hby d4_78) rfl rfl zk) ?_
          show own_E p e below _ (T11.setTop (mkF m 79 #[.val (.ref a1), .val .null] [(.ref a1)]))
          obtain ⟨T12, X12, e12, st12⟩ := getF X11 hx hZ hown (host := "") (Or.inl (hw _ (List.mem_of_getElem? (i := 23) rfl))) Via.refl e11 Fc (g := (mkF m 79 #[.val (.ref a1), .val .null] [(.ref a1)])) rfl rfl (hb hby d4_79)
          refine own_step st12 ?_
          show own_E p e below _ (T12.setTop (mkF m 82 #[.val (.ref a1), .val .null] [.null]))
          refine own_step (fun _ zk => XS.ifnullYes X12.here hx rfl (pc0 := 82) (pc' := 102) rfl (hb hby d4_82) rfl (by decide) (by decide) zk) ?_
          show own_E p e below _ (T12.setTop (mkF m 102 #[.val (.ref a1), .val .null] []))
          refine own_step (fun _ zk => XS.aloadN X12.here hx rfl (hb hby d4_102) rfl rfl zk) ?_
          show own_E p e below _ (T12.setTop (mkF m 103 #[.val (.ref a1), .val .null] [.null]))
          refine own_ret X12 hlk (v := some .null) (fun h => by rw [Bd.returns] at h; cases h) ?_ (show nc ≤ 4 by omega) (show ns ≤ 16 by omega) (fun fs hr => retOut X12 hx (t := (.array .int)) (i := .areturn) Bd.returns rfl (Or.inr (Or.inr (Or.inr (Or.inr ⟨rfl, rfl, rfl⟩)))) (hb hby d4_103) hr)
          show Q4 Z a1 n k rg cx vc vp h0 n0 _ T12.heap _
          rw [e12]
          refine ⟨⟨_, rfl, ?_, .null, ?_, ?_⟩, N, K, trivial⟩
          · rw [own_adv_cx hge, ← hsk, own_skip_none]; exact rfl
          · rw [own_adv_cx hge]; exact ⟨E, Fn, Fk, Fg, Fc, Fp⟩
          · rw [own_adv_cx hge, ← hsk, own_skip_none]; exact rfl
        | some f =>
          obtain ⟨rc, rfl, Ac, Ec, gc⟩ := HR
          obtain ⟨E, Fn, Fk, Fg, Fc, Fp⟩ := HO
          have ne_rc : a1 ≠ rc := Ne.symm (ne_exa Ec E (by decide))
          refine own_step (fun _ zk => XS.aloadN X.here hx rfl (hb hby d4_45) rfl rfl zk) ?_
          show own_E p e below _ (T.setTop (mkF m 46 #[.val (.ref a1), .val .null] [(.ref a1)]))
          obtain ⟨T13, X13, e13, st13⟩ := getF X hx hZ hown (host := "") (Or.inl (hw _ (List.mem_of_getElem? (i := 23) rfl))) Via.refl eT Fc (g := (mkF m 46 #[.val (.ref a1), .val .null] [(.ref a1)])) rfl rfl (hb hby d4_46)
          refine own_step st13 ?_
          show own_E p e below _ (T13.setTop (mkF m 49 #[.val (.ref a1), .val .null] [(.ref rc)]))
          refine own_step (fun _ zk => XS.ifnullNo X13.here hx rfl (hb hby d4_49) rfl zk) ?_
          show own_E p e below _ (T13.setTop (mkF m 52 #[.val (.ref a1), .val .null] []))
          refine own_step (fun _ zk => XS.aloadN X13.here hx rfl (hb hby d4_52) rfl rfl zk) ?_
          show own_E p e below _ (T13.setTop (mkF m 53 #[.val (.ref a1), .val .null] [(.ref a1)]))
          refine own_step (fun _ zk => XS.aloadN X13.here hx rfl (hb hby d4_53) rfl rfl zk) ?_
          show own_E p e below _ (T13.setTop (mkF m 54 #[.val (.ref a1), .val .null] [(.ref a1), (.ref a1)]))
          obtain ⟨T14, X14, e14, st14⟩ := getF X13 hx hZ hown (host := "") (Or.inl (hw _ (List.mem_of_getElem? (i := 23) rfl))) Via.refl e13 Fc (g := (mkF m 54 #[.val (.ref a1), .val .null] [(.ref a1), (.ref a1)])) rfl rfl (hb hby d4_54)
          refine own_step st14 ?_
          show own_E p e below _ (T14.setTop (mkF m 57 #[.val (.ref a1), .val .null] [(.ref rc), (.ref a1)]))
          obtain ⟨cq15, q15, q15'⟩ := E.cell
          obtain ⟨_, _, ⟨T15, zL15, zK15, zN15⟩, -, X15, ⟨zLc15, hQ15, zl15, zy15, zz15⟩, st15⟩ := X14.privateBack hx (y := (⟨"com/example/tallier/tallier/protocol/RecoverySets", "isRun", "([I)Z"⟩ : MethodName)) hown (mvT hZ (hw _ (List.mem_of_getElem? (i := 43) rfl))) (mvT hZ (hw _ (List.mem_of_getElem? (i := 44) rfl))) (mvT hZ (Jvm.Kit.selects_private (y := (⟨"com/example/tallier/tallier/protocol/RecoverySets", "isRun", "([I)Z"⟩ : MethodName)) (by decide) (hw _ (List.mem_of_getElem? (i := 6) rfl)) (hw _ (List.mem_of_getElem? (i := 45) rfl)) (hw _ (List.mem_of_getElem? (i := 44) rfl)))) (Cond.privateMethod_at (mvP hZ (hw _ (List.mem_of_getElem? (i := 45) rfl)) (args := #[]))) (mvT hZ (hw _ (List.mem_of_getElem? (i := 46) rfl))) (by decide) (backOf (W := 0) (rm2 l Z a0 hw [] a1 rc k f h n0 (Nat.le_trans Z0 K.1) hk1 hk4 Fk Ac) hZ (hw _ (List.mem_of_getElem? (i := 46) rfl)) (hw _ (List.mem_of_getElem? (i := 7) rfl)) (by decide) (by decide)) (g := (mkF m 57 #[.val (.ref a1), .val .null] [(.ref rc), (.ref a1)])) rfl (by rw [hml]; rfl) (Steps.refl _) (a := a1) (by rw [e14]; exact q15) q15' (argsL := [(.ref rc)]) (rest := []) (lenOf pd_4_1 rfl) rfl (by show 2 * 0 + _ ≤ _; exact Nat.le_of_eq rfl) (hb hby d4_57) (fun _ _ => ⟨rfl, e14, (show nc + 0 ≤ 4 by omega), (show ns + 0 ≤ 16 by omega)⟩)
          dsimp only [Pt.U, Pt.locs, Pt.cells, Pt.slots] at X15 zl15 zy15 zz15 st15 hQ15
          rw [show zK15 = (nc + 0) from zy15, show zN15 = (ns + 0) from zz15] at X15
          obtain ⟨rfl, N15q, e15⟩ := hQ15
          have N15 : Fr n0 zL15 := by rw [zl15]; exact Fr.app N N15q
          refine own_step (fun _ zk => (st15).trans zk) ?_
          show own_E p e below _ (T15.setTop (mkF m 60 #[.val (.ref a1), .val .null] [(.int (own_run1 k f))]))
          by_cases hc60 : (own_run1 k f) = (0 : Int32)
          · skip
            refine own_step (fun _ zk => XS.ifYes X15.here hx rfl (pc0 := 60) (pc' := 78) rfl (hb hby d4_60) rfl ((if0 _ _).trans (teq hc60).1) (by decide) (by decide) zk) ?_
            show own_E p e below _ (T15.setTop (mkF m 78 #[.val (.ref a1), .val .null] []))
            refine own_step (fun _ zk => XS.aloadN X15.here hx rfl (hb hby d4_78) rfl rfl zk) ?_
            show own_E p e below _ (T15.setTop (mkF m 79 #[.val (.ref a1), .val .null] [(.ref a1)]))
            obtain ⟨T16, X16, e16, st16⟩ := getF X15 hx hZ hown (host := "") (Or.inl (hw _ (List.mem_of_getElem? (i := 23) rfl))) Via.refl e15 Fc (g := (mkF m 79 #[.val (.ref a1), .val .null] [(.ref a1)])) rfl rfl (hb hby d4_79)
            refine own_step st16 ?_
            show own_E p e below _ (T16.setTop (mkF m 82 #[.val (.ref a1), .val .null] [(.ref rc)]))
            refine own_step (fun _ zk => XS.ifnullNo X16.here hx rfl (hb hby d4_82) rfl zk) ?_
            show own_E p e below _ (T16.setTop (mkF m 85 #[.val (.ref a1), .val .null] []))
            refine own_step (fun _ zk => XS.aloadN X16.here hx rfl (hb hby d4_85) rfl rfl zk) ?_
            show own_E p e below _ (T16.setTop (mkF m 86 #[.val (.ref a1), .val .null] [(.ref a1)]))
            obtain ⟨T17, X17, e17, st17⟩ := getF X16 hx hZ hown (host := "") (Or.inl (hw _ (List.mem_of_getElem? (i := 23) rfl))) Via.refl e16 Fc (g := (mkF m 86 #[.val (.ref a1), .val .null] [(.ref a1)])) rfl rfl (hb hby d4_86)
            refine own_step st17 ?_
            show own_E p e below _ (T17.setTop (mkF m 89 #[.val (.ref a1), .val .null] [(.ref rc)]))
            refine own_step (fun _ zk => XS.astoreN X17.here hx rfl (hb hby d4_89) rfl rfl (l' := #[.val (.ref a1), .val (.ref rc)]) rfl zk) ?_
            show own_E p e below _ (T17.setTop (mkF m 90 #[.val (.ref a1), .val (.ref rc)] []))
            refine own_step (fun _ zk => XS.aloadN X17.here hx rfl (hb hby d4_90) rfl rfl zk) ?_
            show own_E p e below _ (T17.setTop (mkF m 91 #[.val (.ref a1), .val (.ref rc)] [(.ref a1)]))
            refine own_step (fun _ zk => XS.aloadN X17.here hx rfl (hb hby d4_91) rfl rfl zk) ?_
            show own_E p e below _ (T17.setTop (mkF m 92 #[.val (.ref a1), .val (.ref rc)] [(.ref a1), (.ref a1)]))
            refine own_step (fun _ zk => XS.aloadN X17.here hx rfl (hb hby d4_92) rfl rfl zk) ?_
            show own_E p e below _ (T17.setTop (mkF m 93 #[.val (.ref a1), .val (.ref rc)] [(.ref a1), (.ref a1), (.ref a1)]))
            obtain ⟨T18, X18, e18, st18⟩ := getF X17 hx hZ hown (host := "") (Or.inl (hw _ (List.mem_of_getElem? (i := 23) rfl))) Via.refl e17 Fc (g := (mkF m 93 #[.val (.ref a1), .val (.ref rc)] [(.ref a1), (.ref a1), (.ref a1)])) rfl rfl (hb hby d4_93)
            refine own_step st18 ?_
            show own_E p e below _ (T18.setTop (mkF m 96 #[.val (.ref a1), .val (.ref rc)] [(.ref rc), (.ref a1), (.ref a1)]))
            obtain ⟨cq19, q19, q19'⟩ := E.cell
            obtain ⟨_, _, ⟨T19, zL19, zK19, zN19⟩, -, X19, ⟨zLc19, hQ19, zl19, zy19, zz19⟩, st19⟩ := X18.privateBack hx (y := (⟨"com/example/tallier/tallier/protocol/RecoverySets", "colexAfter", "([I)[I"⟩ : MethodName)) hown (mvT hZ (hw _ (List.mem_of_getElem? (i := 47) rfl))) (mvT hZ (hw _ (List.mem_of_getElem? (i := 48) rfl))) (mvT hZ (Jvm.Kit.selects_private (y := (⟨"com/example/tallier/tallier/protocol/RecoverySets", "colexAfter", "([I)[I"⟩ : MethodName)) (by decide) (hw _ (List.mem_of_getElem? (i := 6) rfl)) (hw _ (List.mem_of_getElem? (i := 49) rfl)) (hw _ (List.mem_of_getElem? (i := 48) rfl)))) (Cond.privateMethod_at (mvP hZ (hw _ (List.mem_of_getElem? (i := 49) rfl)) (args := #[]))) (mvT hZ (hw _ (List.mem_of_getElem? (i := 50) rfl))) (by decide) (backOf (W := 1) (rm3 l Z a0 hw [] a1 rc n k f h n0 (Nat.le_trans Z0 K.1) hk1 hk4 hn4 Fn Fk Ac Ec) hZ (hw _ (List.mem_of_getElem? (i := 50) rfl)) (hw _ (List.mem_of_getElem? (i := 7) rfl)) (by decide) (by decide)) (g := (mkF m 96 #[.val (.ref a1), .val (.ref rc)] [(.ref rc), (.ref a1), (.ref a1)])) rfl (by rw [hml]; rfl) (Steps.refl _) (a := a1) (by rw [e18]; exact q19) q19' (argsL := [(.ref rc)]) (rest := [(.ref a1)]) (lenOf pd_4_2 rfl) rfl (by show 2 * 0 + _ ≤ _; exact Nat.le_of_eq rfl) (hb hby d4_96) (fun _ _ => ⟨rfl, e18, (show (nc + 0) + 1 ≤ 4 by omega), (show (ns + 0) + 4 ≤ 16 by omega)⟩)
            dsimp only [Pt.U, Pt.locs, Pt.cells, Pt.slots] at X19 zl19 zy19 zz19 st19 hQ19
            rw [show zK19 = ((nc + 0) + 1) from zy19, show zN19 = ((ns + 0) + 4) from zz19] at X19
            generalize e19 : T19.heap = h19 at hQ19
            obtain ⟨⟨w19, rfl, R19⟩, N19q, Kq19, -⟩ := hQ19
            have E_19 := Exa.keep E Kq19
            have Fn_19 := Fld.keep Fn Kq19 nin0
            have Fk_19 := Fld.keep Fk Kq19 nin0
            have Fg_19 := Fld.keep Fg Kq19 nin0
            have Fc_19 := Fld.keep Fc Kq19 nin0
            have Fp_19 := Fld.keep Fp Kq19 nin0
            have Ac_19 := own_A_keep Kq19 nin0 Ac
            have Ec_19 := Exa.keep Ec Kq19
            have K_19 := Keep.trans K Kq19 all0
            have N19 : Fr n0 zL19 := by rw [zl19]; exact Fr.app N15 N19q
            refine own_step (fun _ zk => (st19).trans zk) ?_
            show own_E p e below _ (T19.setTop (mkF m 99 #[.val (.ref a1), .val (.ref rc)] [w19, (.ref a1)]))
            obtain ⟨T20, h20, X20, e20, W20, st20⟩ := putF X19 hx hZ hown (host := "") (Or.inl (hw _ (List.mem_of_getElem? (i := 23) rfl))) Via.refl e19 Fc_19 E_19 (Or.inl (hw _ (List.mem_of_getElem? (i := 24) rfl))) (hw _ (List.mem_of_getElem? (i := 6) rfl)) (ty := (.array .int)) (by decide) (own_R_nar R19) (own_R_fits R19) (g := (mkF m 99 #[.val (.ref a1), .val (.ref rc)] [w19, (.ref a1)])) rfl rfl (hb hby d4_99)
            have N20 := Fr.snoc X20 N19 g1
            have E_20 := Exa.wr W20 E_19
            have Fn_20 := Fld.other W20 Fn_19 (Or.inr (slot_ne (Or.inr (hw _ (List.mem_of_getElem? (i := 15) rfl))) (Or.inl (hw _ (List.mem_of_getElem? (i := 24) rfl))) (by decide) (t := .int) (t' := (.array .int)) (by decide) (by decide)))
            have Fk_20 := Fld.other W20 Fk_19 (Or.inr (slot_ne (Or.inr (hw _ (List.mem_of_getElem? (i := 17) rfl))) (Or.inl (hw _ (List.mem_of_getElem? (i := 24) rfl))) (by decide) (t := .int) (t' := (.array .int)) (by decide) (by decide)))
            have Fg_20 := Fld.other W20 Fg_19 (Or.inr (slot_ne (Or.inl (hw _ (List.mem_of_getElem? (i := 30) rfl))) (Or.inl (hw _ (List.mem_of_getElem? (i := 24) rfl))) (by decide) (t := .int) (t' := (.array .int)) (by decide) (by decide)))
            have Fc_20 := Fld.same W20 Fc_19
            have Fp_20 := Fld.other W20 Fp_19 (Or.inr (slot_ne (Or.inl (hw _ (List.mem_of_getElem? (i := 32) rfl))) (Or.inl (hw _ (List.mem_of_getElem? (i := 24) rfl))) (by decide) (t := (.array .int)) (t' := (.array .int)) (by decide) (by decide)))
            have Ac_20 := own_A_other W20 (Ne.symm ne_rc) Ac_19
            have Ec_20 := Exa.wr W20 Ec_19
            have R_20 := own_R_wr W20 E_19 R19
            have K_20 := Keep.wr K_19 W20 (Or.inl (List.mem_of_getElem? (i := 0) rfl))
            refine own_step st20 ?_
            show own_E p e below _ (T20.setTop (mkF m 102 #[.val (.ref a1), .val (.ref rc)] []))
            refine own_step (fun _ zk => XS.aloadN X20.here hx rfl (hb hby d4_102) rfl rfl zk) ?_
            show own_E p e below _ (T20.setTop (mkF m 103 #[.val (.ref a1), .val (.ref rc)] [(.ref rc)]))
            refine own_ret X20 hlk (v := some (.ref rc)) (fun h => by rw [Bd.returns] at h; cases h) ?_ (show ((nc + 0) + 1) ≤ 4 by omega) (show ((ns + 0) + 4) ≤ 16 by omega) (fun fs hr => retOut X20 hx (t := (.array .int)) (i := .areturn) Bd.returns rfl (Or.inr (Or.inr (Or.inr (Or.inr ⟨rfl, rfl, rfl⟩)))) (hb hby d4_103) hr)
            show Q4 Z a1 n k rg cx vc vp h0 n0 _ T20.heap _
            rw [e20]
            refine ⟨⟨_, rfl, ?_, w19, ?_, ?_⟩, N20, K_20, trivial⟩
            · rw [own_adv_cx hge, ← hsk, own_skip_stop hc60]; exact ⟨rc, rfl, Ac_20, Ec_20, gc⟩
            · rw [own_adv_cx hge]; exact ⟨E_20, Fn_20, Fk_20, Fg_20, Fc_20, Fp_20⟩
            · rw [own_adv_cx hge, ← hsk, own_skip_stop hc60]; exact R_20
          · skip
            refine own_step (fun _ zk => XS.ifNo X15.here hx rfl (hb hby d4_60) rfl ((if0 _ _).trans (feq hc60).1) zk) ?_
            show own_E p e below _ (T15.setTop (mkF m 63 #[.val (.ref a1), .val .null] []))
            refine own_step (fun _ zk => XS.aloadN X15.here hx rfl (hb hby d4_63) rfl rfl zk) ?_
            show own_E p e below _ (T15.setTop (mkF m 64 #[.val (.ref a1), .val .null] [(.ref a1)]))
            refine own_step (fun _ zk => XS.aloadN X15.here hx rfl (hb hby d4_64) rfl rfl zk) ?_
            show own_E p e below _ (T15.setTop (mkF m 65 #[.val (.ref a1), .val .null] [(.ref a1), (.ref a1)]))
            refine own_step (fun _ zk => XS.aloadN X15.here hx rfl (hb hby d4_65) rfl rfl zk) ?_
            show own_E p e below _ (T15.setTop (mkF m 66 #[.val (.ref a1), .val .null] [(.ref a1), (.ref a1), (.ref a1)]))
            obtain ⟨T21, X21, e21, st21⟩ := getF X15 hx hZ hown (host := "") (Or.inl (hw _ (List.mem_of_getElem? (i := 23) rfl))) Via.refl e15 Fc (g := (mkF m 66 #[.val (.ref a1), .val .null] [(.ref a1), (.ref a1), (.ref a1)])) rfl rfl (hb hby d4_66)
            refine own_step st21 ?_
            show own_E p e below _ (T21.setTop (mkF m 69 #[.val (.ref a1), .val .null] [(.ref rc), (.ref a1), (.ref a1)]))
            obtain ⟨cq22, q22, q22'⟩ := E.cell
            obtain ⟨_, _, ⟨T22, zL22, zK22, zN22⟩, -, X22, ⟨zLc22, hQ22, zl22, zy22, zz22⟩, st22⟩ := X21.privateBack hx (y := (⟨"com/example/tallier/tallier/protocol/RecoverySets", "colexAfter", "([I)[I"⟩ : MethodName)) hown (mvT hZ (hw _ (List.mem_of_getElem? (i := 47) rfl))) (mvT hZ (hw _ (List.mem_of_getElem? (i := 48) rfl))) (mvT hZ (Jvm.Kit.selects_private (y := (⟨"com/example/tallier/tallier/protocol/RecoverySets", "colexAfter", "([I)[I"⟩ : MethodName)) (by decide) (hw _ (List.mem_of_getElem? (i := 6) rfl)) (hw _ (List.mem_of_getElem? (i := 49) rfl)) (hw _ (List.mem_of_getElem? (i := 48) rfl)))) (Cond.privateMethod_at (mvP hZ (hw _ (List.mem_of_getElem? (i := 49) rfl)) (args := #[]))) (mvT hZ (hw _ (List.mem_of_getElem? (i := 50) rfl))) (by decide) (backOf (W := 1) (rm3 l Z a0 hw [] a1 rc n k f h n0 (Nat.le_trans Z0 K.1) hk1 hk4 hn4 Fn Fk Ac Ec) hZ (hw _ (List.mem_of_getElem? (i := 50) rfl)) (hw _ (List.mem_of_getElem? (i := 7) rfl)) (by decide) (by decide)) (g := (mkF m 69 #[.val (.ref a1), .val .null] [(.ref rc), (.ref a1), (.ref a1)])) rfl (by rw [hml]; rfl) (Steps.refl _) (a := a1) (by rw [e21]; exact q22) q22' (argsL := [(.ref rc)]) (rest := [(.ref a1)]) (lenOf pd_4_2 rfl) rfl (by show 2 * 0 + _ ≤ _; exact Nat.le_of_eq rfl) (hb hby d4_69) (fun _ _ => ⟨rfl, e21, (show (nc + 0) + 1 ≤ 4 by omega), (show (ns + 0) + 4 ≤ 16 by omega)⟩)
            dsimp only [Pt.U, Pt.locs, Pt.cells, Pt.slots] at X22 zl22 zy22 zz22 st22 hQ22
            rw [show zK22 = ((nc + 0) + 1) from zy22, show zN22 = ((ns + 0) + 4) from zz22] at X22
            generalize e22 : T22.heap = h22 at hQ22
            obtain ⟨⟨w22, rfl, R22⟩, N22q, Kq22, -⟩ := hQ22
            have E_22 := Exa.keep E Kq22
            have Fn_22 := Fld.keep Fn Kq22 nin0
            have Fk_22 := Fld.keep Fk Kq22 nin0
            have Fg_22 := Fld.keep Fg Kq22 nin0
            have Fc_22 := Fld.keep Fc Kq22 nin0
            have Fp_22 := Fld.keep Fp Kq22 nin0
            have Ac_22 := own_A_keep Kq22 nin0 Ac
            have Ec_22 := Exa.keep Ec Kq22
            have K_22 := Keep.trans K Kq22 all0
            have N22 : Fr n0 zL22 := by rw [zl22]; exact Fr.app N15 N22q
            refine own_step (fun _ zk => (st22).trans zk) ?_
            show own_E p e below _ (T22.setTop (mkF m 72 #[.val (.ref a1), .val .null] [w22, (.ref a1)]))
            obtain ⟨T23, h23, X23, e23, W23, st23⟩ := putF X22 hx hZ hown (host := "") (Or.inl (hw _ (List.mem_of_getElem? (i := 23) rfl))) Via.refl e22 Fc_22 E_22 (Or.inl (hw _ (List.mem_of_getElem? (i := 24) rfl))) (hw _ (List.mem_of_getElem? (i := 6) rfl)) (ty := (.array .int)) (by decide) (own_R_nar R22) (own_R_fits R22) (g := (mkF m 72 #[.val (.ref a1), .val .null] [w22, (.ref a1)])) rfl rfl (hb hby d4_72)
            have N23 := Fr.snoc X23 N22 g1
            have E_23 := Exa.wr W23 E_22
            have Fn_23 := Fld.other W23 Fn_22 (Or.inr (slot_ne (Or.inr (hw _ (List.mem_of_getElem? (i := 15) rfl))) (Or.inl (hw _ (List.mem_of_getElem? (i := 24) rfl))) (by decide) (t := .int) (t' := (.array .int)) (by decide) (by decide)))
            have Fk_23 := Fld.other W23 Fk_22 (Or.inr (slot_ne (Or.inr (hw _ (List.mem_of_getElem? (i := 17) rfl))) (Or.inl (hw _ (List.mem_of_getElem? (i := 24) rfl))) (by decide) (t := .int) (t' := (.array .int)) (by decide) (by decide)))
            have Fg_23 := Fld.other W23 Fg_22 (Or.inr (slot_ne (Or.inl (hw _ (List.mem_of_getElem? (i := 30) rfl))) (Or.inl (hw _ (List.mem_of_getElem? (i := 24) rfl))) (by decide) (t := .int) (t' := (.array .int)) (by decide) (by decide)))
            have Fc_23 := Fld.same W23 Fc_22
            have Fp_23 := Fld.other W23 Fp_22 (Or.inr (slot_ne (Or.inl (hw _ (List.mem_of_getElem? (i := 32) rfl))) (Or.inl (hw _ (List.mem_of_getElem? (i := 24) rfl))) (by decide) (t := (.array .int)) (t' := (.array .int)) (by decide) (by decide)))
            have Ac_23 := own_A_other W23 (Ne.symm ne_rc) Ac_22
            have Ec_23 := Exa.wr W23 Ec_22
            have R_23 := own_R_wr W23 E_22 R22
            have K_23 := Keep.wr K_22 W23 (Or.inl (List.mem_of_getElem? (i := 0) rfl))
            refine own_step st23 ?_
            show own_E p e below _ (T23.setTop (mkF m 75 #[.val (.ref a1), .val .null] []))
            refine own_step (fun _ zk => XS.goto X23.here hx rfl (pc0 := 75) (pc' := 45) rfl (hb hby d4_75) (by decide) (by decide) zk) ?_
            show own_E p e below _ (T23.setTop (mkF m 45 #[.val (.ref a1), .val .null] []))
            exact ih (own_colex (Int32.ofNat n) k f) w22 _ _ _ _ _ (by omega) (by omega) (own_ok_s hok hc60) (by rw [← hsk, own_skip_go hc60]) X23 e23 N23 K_23 ⟨E_23, Fn_23, Fk_23, Fg_23, Fc_23, Fp_23⟩ R_23
    exact loop 4 cx vc 0 0 _ _ _ (by omega) (by omega) hok rfl X3 e3 N0 K_0 ⟨E, Fn, Fk, Fg, Fc, Fp⟩ HR
theorem d5_0 : decode prog_10_method_2_code 0 = .ok (.aload_n 0, 1) := by decide +kernel
theorem d5_1 : decode prog_10_method_2_code 1 = .ok (.getfield 37, 3) := by decide +kernel
theorem d5_4 : decode prog_10_method_2_code 4 = .ok (.ifnull 7, 3) := by decide +kernel
theorem d5_7 : decode prog_10_method_2_code 7 = .ok (.iconst 1, 1) := by decide +kernel
theorem d5_8 : decode prog_10_method_2_code 8 = .ok (.goto 4, 3) := by decide +kernel
theorem d5_11 : decode prog_10_method_2_code 11 = .ok (.iconst 0, 1) := by decide +kernel
theorem d5_12 : decode prog_10_method_2_code 12 = .ok (.ireturn, 1) := by decide +kernel
theorem pn_5 : plainName "com/example/tallier/tallier/protocol/RecoverySets" = true := by first | (simp [plainName, overriddenIn]; done) | decide +kernel
theorem ef_5 (m : MethodId) (a1 : Addr)  : entryFrame m #[(.ref a1)] 1 = mkF m 0 #[.val (.ref a1)] [] := by first | (simp [entryFrame, mkF, argsToLocals, Value.category]; done) | rfl
def Q5 (Z : State) (a1 : Addr) (vp : Value) (b : Bool) (h0 : Heap) (n0 : Nat) (v : Option Value) (h : Heap) (L : List Loc) : Prop := v = some (.int (own_b b)) ∧ Fr n0 L ∧ h = h0
set_option maxRecDepth 65536 in
set_option maxHeartbeats 40000000 in
theorem rm5 (l : Launch) (Z : State) (a0 : Array Value) (hw : ∀ d ∈ tables_1, d.before a0 Z = true) (ws : List Jvm.Cond) (a1 : Addr) (vp : Value) (b : Bool) (h0 : Heap) (n0 : Nat) (Z0 : n0 ≤ h0.size) (Fp : Fld Z h0 a1 "com/example/tallier/tallier/protocol/RecoverySets" "pending" "[I" vp) (HN : own_N vp b) :
    MetFree l (⟨"com/example/tallier/tallier/protocol/RecoverySets", "hasNext", "()Z"⟩ : MethodName) (head1 (Jvm.Cond.code (⟨"com/example/tallier/tallier/protocol/RecoverySets", "hasNext", "()Z"⟩ : MethodName) prog_10_method_2_code 1 (some .boolean) :: ws) ({ frames := 0, cells := 0, slots := 0, locals := 0 } : Room)) (fun zA zU => zA = #[(.ref a1)] ∧ Z.Warmed39 zU.vm ∧ zU.heap = h0) (fun _ _ _ _ _ => True) (fun _ zU zo zT => ∃ zv zL, zo = .returned zv ∧ Q5 Z a1 vp b h0 n0 zv zT.heap zL ∧ FrameEnd zU zo zT zL ({ frames := 0, cells := 0, slots := 0, locals := 0 } : Room).cells ({ frames := 0, cells := 0, slots := 0, locals := 0 } : Room).slots) := by
  refine MetFree.of_bodySF (plainFor_of_name pn_5) hisR ?_
  intro p e s m args below meth c s₁ Bd hml0 hP hK
  obtain ⟨rfl, hZ, hh⟩ := hP
  have hx := Bd.exec
  have hby := Bd.bytes
  have hml : c.maxLocals = 1 := hml0
  have hown : s.vm.findClass "com/example/tallier/tallier/protocol/RecoverySets" = some m.cls := findClass_of_methodNamed Bd.named
  have hnm := (name_of_methodNamed Bd.named Bd.method).1
  have hlk : meth.locks = false := Bd.notSynchronized
  have X0 : Stand p l e ({ frames := 0, cells := 0, slots := 0, locals := 0 } : Room) s m #[(.ref a1)] below meth c s₁ [] 0 0 := Stand.of_body Bd
  have e0 : s₁.heap = h0 := by rw [← hh, Bd.state]; rfl
  have N0 := Fr.nil n0
  refine own_step (p := p) (e := e) (below := below) (U' := s₁.setTop (mkF m 0 #[.val (.ref a1)] [])) (fun _ zk => castTop (ef_5 m a1 ) zk) ?_
  cases b with
  | false =>
    have ev : vp = .null := HN
    subst ev
    refine own_step (fun _ zk => XS.aloadN X0.here hx rfl (hb hby d5_0) rfl rfl zk) ?_
    show own_E p e below _ (s₁.setTop (mkF m 1 #[.val (.ref a1)] [(.ref a1)]))
    obtain ⟨T1, X1, e1, st1⟩ := getF X0 hx hZ hown (host := "") (Or.inl (hw _ (List.mem_of_getElem? (i := 31) rfl))) Via.refl e0 Fp (g := (mkF m 1 #[.val (.ref a1)] [(.ref a1)])) rfl rfl (hb hby d5_1)
    refine own_step st1 ?_
    show own_E p e below _ (T1.setTop (mkF m 4 #[.val (.ref a1)] [.null]))
    refine own_step (fun _ zk => XS.ifnullYes X1.here hx rfl (pc0 := 4) (pc' := 11) rfl (hb hby d5_4) rfl (by decide) (by decide) zk) ?_
    show own_E p e below _ (T1.setTop (mkF m 11 #[.val (.ref a1)] []))
    refine own_step (fun _ zk => XS.iconst X1.here hx rfl (hb hby d5_11) zk) ?_
    show own_E p e below _ (T1.setTop (mkF m 12 #[.val (.ref a1)] [(.int (0 : Int32))]))
    refine own_ret X1 hlk (v := some (.int (nar .boolean (0 : Int32)))) (fun h => by rw [Bd.returns] at h; cases h) ?_ (by decide) (by decide) (fun fs hr => retN X1 hx (t := .boolean) Bd.returns (by simp) (hb hby d5_12) hr)
    show Q5 Z a1 .null false h0 n0 _ T1.heap _
    rw [e1]
    exact ⟨by decide, N0, rfl⟩
  | true =>
    obtain ⟨rp, rfl⟩ := HN
    refine own_step (fun _ zk => XS.aloadN X0.here hx rfl (hb hby d5_0) rfl rfl zk) ?_
    show own_E p e below _ (s₁.setTop (mkF m 1 #[.val (.ref a1)] [(.ref a1)]))
    obtain ⟨T2, X2, e2, st2⟩ := getF X0 hx hZ hown (host := "") (Or.inl (hw _ (List.mem_of_getElem? (i := 31) rfl))) Via.refl e0 Fp (g := (mkF m 1 #[.val (.ref a1)] [(.ref a1)])) rfl rfl (hb hby d5_1)
    refine own_step st2 ?_
    show own_E p e below _ (T2.setTop (mkF m 4 #[.val (.ref a1)] [(.ref rp)]))
    refine own_step (fun _ zk => XS.ifnullNo X2.here hx rfl (hb hby d5_4) rfl zk) ?_
    show own_E p e below _ (T2.setTop (mkF m 7 #[.val (.ref a1)] []))
    refine own_step (fun _ zk => XS.iconst X2.here hx rfl (hb hby d5_7) zk) ?_
    show own_E p e below _ (T2.setTop (mkF m 8 #[.val (.ref a1)] [(.int (1 : Int32))]))
    refine own_step (fun _ zk => XS.goto X2.here hx rfl (pc0 := 8) (pc' := 12) rfl (hb hby d5_8) (by decide) (by decide) zk) ?_
    show own_E p e below _ (T2.setTop (mkF m 12 #[.val (.ref a1)] [(.int (1 : Int32))]))
    refine own_ret X2 hlk (v := some (.int (nar .boolean (1 : Int32)))) (fun h => by rw [Bd.returns] at h; cases h) ?_ (by decide) (by decide) (fun fs hr => retN X2 hx (t := .boolean) Bd.returns (by simp) (hb hby d5_12) hr)
    show Q5 Z a1 (.ref rp) true h0 n0 _ T2.heap _
    rw [e2]
    exact ⟨by decide, N0, rfl⟩
theorem d6_0 : decode prog_10_method_3_code 0 = .ok (.aload_n 0, 1) := by decide +kernel
theorem d6_1 : decode prog_10_method_3_code 1 = .ok (.getfield 37, 3) := by decide +kernel
theorem d6_4 : decode prog_10_method_3_code 4 = .ok (.ifnonnull 11, 3) := by decide +kernel
theorem d6_15 : decode prog_10_method_3_code 15 = .ok (.aload_n 0, 1) := by decide +kernel
theorem d6_16 : decode prog_10_method_3_code 16 = .ok (.getfield 37, 3) := by decide +kernel
theorem d6_19 : decode prog_10_method_3_code 19 = .ok (.astore_n 1, 1) := by decide +kernel
theorem d6_20 : decode prog_10_method_3_code 20 = .ok (.aload_n 0, 1) := by decide +kernel
theorem d6_21 : decode prog_10_method_3_code 21 = .ok (.aload_n 0, 1) := by decide +kernel
theorem d6_22 : decode prog_10_method_3_code 22 = .ok (.invokevirtual 33, 3) := by decide +kernel
theorem d6_25 : decode prog_10_method_3_code 25 = .ok (.putfield 37, 3) := by decide +kernel
theorem d6_28 : decode prog_10_method_3_code 28 = .ok (.aload_n 1, 1) := by decide +kernel
theorem d6_29 : decode prog_10_method_3_code 29 = .ok (.areturn, 1) := by decide +kernel
theorem pd_6_0 : parseMethodDescriptor "()[I" = some ⟨[], some (.array .int)⟩ := by decide +kernel
theorem pn_6 : plainName "com/example/tallier/tallier/protocol/RecoverySets" = true := by first | (simp [plainName, overriddenIn]; done) | decide +kernel
theorem ef_6 (m : MethodId) (a1 : Addr)  : entryFrame m #[(.ref a1)] 2 = mkF m 0 #[.val (.ref a1), .unset] [] := by first | (simp [entryFrame, mkF, argsToLocals, Value.category]; done) | rfl
def Q6 (Z : State) (a1 : Addr) (n k rg : Nat) (cx : Option (Nat → Int32)) (vc : Value) (rp : Addr) (h0 : Heap) (n0 : Nat) (v : Option Value) (h : Heap) (L : List Loc) : Prop := v = some (.ref rp) ∧ Fr n0 L ∧ Keep h0 h [a1] ∧ ∃ vc' vp', own_O Z h a1 n k (own_adv n k rg cx).2.1 vc' vp' ∧ own_R Z h n0 vc' k (own_adv n k rg cx).2.2 ∧ own_N vp' (own_adv n k rg cx).1.isSome
set_option maxRecDepth 65536 in
set_option maxHeartbeats 40000000 in
theorem rm6 (l : Launch) (Z : State) (a0 : Array Value) (hw : ∀ d ∈ tables_1, d.before a0 Z = true) (ws : List Jvm.Cond) (a1 : Addr) (n k rg : Nat) (cx : Option (Nat → Int32)) (vc : Value) (rp : Addr) (h0 : Heap) (n0 : Nat) (Z0 : n0 ≤ h0.size) (hk1 : 1 ≤ k) (hk4 : k ≤ 4) (hn4 : n ≤ 4) (hrg : rg ≤ 4) (g1 : n0 ≤ a1) (HO : own_O Z h0 a1 n k rg vc (.ref rp)) (HR : own_R Z h0 n0 vc k cx) (hok : own_ok (Int32.ofNat n) k 4 cx = true) :
    MetFree l (⟨"com/example/tallier/tallier/protocol/RecoverySets", "next", "()[I"⟩ : MethodName) (head1 (Jvm.Cond.code (⟨"com/example/tallier/tallier/protocol/RecoverySets", "next", "()[I"⟩ : MethodName) prog_10_method_3_code 2 (some (.array .int)) :: ws) ({ frames := 3, cells := 4, slots := 16, locals := 46 } : Room)) (fun zA zU => zA = #[(.ref a1)] ∧ Z.Warmed39 zU.vm ∧ zU.heap = h0) (fun _ _ _ _ _ => True) (fun _ zU zo zT => ∃ zv zL, zo = .returned zv ∧ Q6 Z a1 n k rg cx vc rp h0 n0 zv zT.heap zL ∧ FrameEnd zU zo zT zL ({ frames := 3, cells := 4, slots := 16, locals := 46 } : Room).cells ({ frames := 3, cells := 4, slots := 16, locals := 46 } : Room).slots) := by
  refine MetFree.of_bodySF (plainFor_of_name pn_6) hisR ?_
  intro p e s m args below meth c s₁ Bd hml0 hP hK
  obtain ⟨rfl, hZ, hh⟩ := hP
  have hx := Bd.exec
  have hby := Bd.bytes
  have hml : c.maxLocals = 2 := hml0
  have hown : s.vm.findClass "com/example/tallier/tallier/protocol/RecoverySets" = some m.cls := findClass_of_methodNamed Bd.named
  have hnm := (name_of_methodNamed Bd.named Bd.method).1
  have hlk : meth.locks = false := Bd.notSynchronized
  have X0 : Stand p l e ({ frames := 3, cells := 4, slots := 16, locals := 46 } : Room) s m #[(.ref a1)] below meth c s₁ [] 0 0 := Stand.of_body Bd
  have e0 : s₁.heap = h0 := by rw [← hh, Bd.state]; rfl
  have N0 := Fr.nil n0
  refine own_step (p := p) (e := e) (below := below) (U' := s₁.setTop (mkF m 0 #[.val (.ref a1), .unset] [])) (fun _ zk => castTop (ef_6 m a1 ) zk) ?_
  obtain ⟨E, Fn, Fk, Fg, Fc, Fp⟩ := HO
  have K_0 : Keep h0 h0 [a1] := Keep.refl _ _
  refine own_step (fun _ zk => XS.aloadN X0.here hx rfl (hb hby d6_0) rfl rfl zk) ?_
  show own_E p e below _ (s₁.setTop (mkF m 1 #[.val (.ref a1), .unset] [(.ref a1)]))
  obtain ⟨T1, X1, e1, st1⟩ := getF X0 hx hZ hown (host := "") (Or.inl (hw _ (List.mem_of_getElem? (i := 31) rfl))) Via.refl e0 Fp (g := (mkF m 1 #[.val (.ref a1), .unset] [(.ref a1)])) rfl rfl (hb hby d6_1)
  refine own_step st1 ?_
  show own_E p e below _ (T1.setTop (mkF m 4 #[.val (.ref a1), .unset] [(.ref rp)]))
  refine own_step (fun _ zk => Jvm.Free.XT.ifnonnullYes X1.here hx rfl (pc0 := 4) (pc' := 15) rfl (hb hby d6_4) rfl (by decide) (by decide) zk) ?_
  show own_E p e below _ (T1.setTop (mkF m 15 #[.val (.ref a1), .unset] []))
  refine own_step (fun _ zk => XS.aloadN X1.here hx rfl (hb hby d6_15) rfl rfl zk) ?_
  show own_E p e below _ (T1.setTop (mkF m 16 #[.val (.ref a1), .unset] [(.ref a1)]))
  obtain ⟨T2, X2, e2, st2⟩ := getF X1 hx hZ hown (host := "") (Or.inl (hw _ (List.mem_of_getElem? (i := 31) rfl))) Via.refl e1 Fp (g := (mkF m 16 #[.val (.ref a1), .unset] [(.ref a1)])) rfl rfl (hb hby d6_16)
  refine own_step st2 ?_
  show own_E p e below _ (T2.setTop (mkF m 19 #[.val (.ref a1), .unset] [(.ref rp)]))
  refine own_step (fun _ zk => XS.astoreN X2.here hx rfl (hb hby d6_19) rfl rfl (l' := #[.val (.ref a1), .val (.ref rp)]) rfl zk) ?_
  show own_E p e below _ (T2.setTop (mkF m 20 #[.val (.ref a1), .val (.ref rp)] []))
  refine own_step (fun _ zk => XS.aloadN X2.here hx rfl (hb hby d6_20) rfl rfl zk) ?_
  show own_E p e below _ (T2.setTop (mkF m 21 #[.val (.ref a1), .val (.ref rp)] [(.ref a1)]))
  refine own_step (fun _ zk => XS.aloadN X2.here hx rfl (hb hby d6_21) rfl rfl zk) ?_
  show own_E p e below _ (T2.setTop (mkF m 22 #[.val (.ref a1), .val (.ref rp)] [(.ref a1), (.ref a1)]))
  obtain ⟨cq3, q3, q3'⟩ := E.cell
  obtain ⟨_, _, ⟨T3, zL3, zK3, zN3⟩, -, X3, ⟨zLc3, hQ3, zl3, zy3, zz3⟩, st3⟩ := X2.privateBack hx (y := (⟨"com/example/tallier/tallier/protocol/RecoverySets", "advance", "()[I"⟩ : MethodName)) hown (mvT hZ (hw _ (List.mem_of_getElem? (i := 25) rfl))) (mvT hZ (hw _ (List.mem_of_getElem? (i := 26) rfl))) (mvT hZ (Jvm.Kit.selects_private (y := (⟨"com/example/tallier/tallier/protocol/RecoverySets", "advance", "()[I"⟩ : MethodName)) (by decide) (hw _ (List.mem_of_getElem? (i := 6) rfl)) (hw _ (List.mem_of_getElem? (i := 27) rfl)) (hw _ (List.mem_of_getElem? (i := 26) rfl)))) (Cond.privateMethod_at (mvP hZ (hw _ (List.mem_of_getElem? (i := 27) rfl)) (args := #[]))) (mvT hZ (hw _ (List.mem_of_getElem? (i := 28) rfl))) (by decide) (backOf (W := 1) (rm4 l Z a0 hw [] a1 n k rg cx vc (.ref rp) h0 n0 (Nat.le_trans Z0 K_0.1) hk1 (by omega) hn4 hrg g1 ⟨E, Fn, Fk, Fg, Fc, Fp⟩ HR hok) hZ (hw _ (List.mem_of_getElem? (i := 28) rfl)) (hw _ (List.mem_of_getElem? (i := 7) rfl)) (by decide) (by decide)) (g := (mkF m 22 #[.val (.ref a1), .val (.ref rp)] [(.ref a1), (.ref a1)])) rfl (by rw [hml]; rfl) (Steps.refl _) (a := a1) (by rw [e2]; exact q3) q3' (argsL := []) (rest := [(.ref a1)]) (lenOf pd_6_0 rfl) rfl (by show 2 * 0 + _ ≤ _; exact Nat.le_of_eq rfl) (hb hby d6_22) (fun _ _ => ⟨rfl, e2, (by decide : 0 + 4 ≤ _), (by decide : 0 + 16 ≤ _)⟩)
  dsimp only [Pt.U, Pt.locs, Pt.cells, Pt.slots] at X3 zl3 zy3 zz3 st3 hQ3
  rw [show zK3 = 4 from zy3, show zN3 = 16 from zz3] at X3
  generalize e3 : T3.heap = h3 at hQ3
  obtain ⟨⟨w3, rfl, R2, vc2, HO3, Rc3⟩, N3q, Kq3, -⟩ := hQ3
  have K_3 := Keep.trans K_0 Kq3 (allS (Or.inl (List.mem_of_getElem? (i := 0) rfl)) all0)
  obtain ⟨E3, Fn3, Fk3, Fg3, Fc3, Fp3⟩ := HO3
  have N3 : Fr n0 zL3 := by rw [zl3]; exact Fr.app N0 N3q
  refine own_step (fun _ zk => (st3).trans zk) ?_
  show own_E p e below _ (T3.setTop (mkF m 25 #[.val (.ref a1), .val (.ref rp)] [w3, (.ref a1)]))
  obtain ⟨T4, h4, X4, e4, W4, st4⟩ := putF X3 hx hZ hown (host := "") (Or.inl (hw _ (List.mem_of_getElem? (i := 31) rfl))) Via.refl e3 Fp3 E3 (Or.inl (hw _ (List.mem_of_getElem? (i := 32) rfl))) (hw _ (List.mem_of_getElem? (i := 6) rfl)) (ty := (.array .int)) (by decide) (own_R_nar R2) (own_R_fits R2) (g := (mkF m 25 #[.val (.ref a1), .val (.ref rp)] [w3, (.ref a1)])) rfl rfl (hb hby d6_25)
  have N4 := Fr.snoc X4 N3 g1
  have E_4 := Exa.wr W4 E3
  have Fn_4 := Fld.other W4 Fn3 (Or.inr (slot_ne (Or.inr (hw _ (List.mem_of_getElem? (i := 15) rfl))) (Or.inl (hw _ (List.mem_of_getElem? (i := 32) rfl))) (by decide) (t := .int) (t' := (.array .int)) (by decide) (by decide)))
  have Fk_4 := Fld.other W4 Fk3 (Or.inr (slot_ne (Or.inr (hw _ (List.mem_of_getElem? (i := 17) rfl))) (Or.inl (hw _ (List.mem_of_getElem? (i := 32) rfl))) (by decide) (t := .int) (t' := (.array .int)) (by decide) (by decide)))
  have Fg_4 := Fld.other W4 Fg3 (Or.inr (slot_ne (Or.inl (hw _ (List.mem_of_getElem? (i := 30) rfl))) (Or.inl (hw _ (List.mem_of_getElem? (i := 32) rfl))) (by decide) (t := .int) (t' := (.array .int)) (by decide) (by decide)))
  have Fc_4 := Fld.other W4 Fc3 (Or.inr (slot_ne (Or.inl (hw _ (List.mem_of_getElem? (i := 24) rfl))) (Or.inl (hw _ (List.mem_of_getElem? (i := 32) rfl))) (by decide) (t := (.array .int)) (t' := (.array .int)) (by decide) (by decide)))
  have Fp_4 := Fld.same W4 Fp3
  have R_4 := own_R_wr W4 E3 Rc3
  have K_4 := Keep.wr K_3 W4 (Or.inl (List.mem_of_getElem? (i := 0) rfl))
  refine own_step st4 ?_
  show own_E p e below _ (T4.setTop (mkF m 28 #[.val (.ref a1), .val (.ref rp)] []))
  refine own_step (fun _ zk => XS.aloadN X4.here hx rfl (hb hby d6_28) rfl rfl zk) ?_
  show own_E p e below _ (T4.setTop (mkF m 29 #[.val (.ref a1), .val (.ref rp)] [(.ref rp)]))
  refine own_ret X4 hlk (v := some (.ref rp)) (fun h => by rw [Bd.returns] at h; cases h) ?_ (by decide) (by decide) (fun fs hr => retOut X4 hx (t := (.array .int)) (i := .areturn) Bd.returns rfl (Or.inr (Or.inr (Or.inr (Or.inr ⟨rfl, rfl, rfl⟩)))) (hb hby d6_29) hr)
  show Q6 Z a1 n k rg cx vc rp h0 n0 _ T4.heap _
  rw [e4]
  exact ⟨rfl, N4, K_4, vc2, w3, ⟨E_4, Fn_4, Fk_4, Fg_4, Fc_4, Fp_4⟩, R_4, own_R_N R2⟩
theorem d7_0 : decode prog_10_method_1_code 0 = .ok (.aload_n 0, 1) := by decide +kernel
theorem d7_1 : decode prog_10_method_1_code 1 = .ok (.invokespecial 1, 3) := by decide +kernel
theorem d7_4 : decode prog_10_method_1_code 4 = .ok (.iload_n 2, 1) := by decide +kernel
theorem d7_5 : decode prog_10_method_1_code 5 = .ok (.iconst 1, 1) := by decide +kernel
theorem d7_6 : decode prog_10_method_1_code 6 = .ok (.if_icmp .lt 8, 3) := by decide +kernel
theorem d7_9 : decode prog_10_method_1_code 9 = .ok (.iload_n 2, 1) := by decide +kernel
theorem d7_10 : decode prog_10_method_1_code 10 = .ok (.iload_n 1, 1) := by decide +kernel
theorem d7_11 : decode prog_10_method_1_code 11 = .ok (.if_icmp .le 18, 3) := by decide +kernel
theorem d7_29 : decode prog_10_method_1_code 29 = .ok (.aload_n 0, 1) := by decide +kernel
theorem d7_30 : decode prog_10_method_1_code 30 = .ok (.iload_n 1, 1) := by decide +kernel
theorem d7_31 : decode prog_10_method_1_code 31 = .ok (.putfield 16, 3) := by decide +kernel
theorem d7_34 : decode prog_10_method_1_code 34 = .ok (.aload_n 0, 1) := by decide +kernel
theorem d7_35 : decode prog_10_method_1_code 35 = .ok (.iload_n 2, 1) := by decide +kernel
theorem d7_36 : decode prog_10_method_1_code 36 = .ok (.putfield 22, 3) := by decide +kernel
theorem d7_39 : decode prog_10_method_1_code 39 = .ok (.aload_n 0, 1) := by decide +kernel
theorem d7_40 : decode prog_10_method_1_code 40 = .ok (.aload_n 0, 1) := by decide +kernel
theorem d7_41 : decode prog_10_method_1_code 41 = .ok (.iconst 0, 1) := by decide +kernel
theorem d7_42 : decode prog_10_method_1_code 42 = .ok (.invokevirtual 25, 3) := by decide +kernel
theorem d7_45 : decode prog_10_method_1_code 45 = .ok (.putfield 29, 3) := by decide +kernel
theorem d7_48 : decode prog_10_method_1_code 48 = .ok (.aload_n 0, 1) := by decide +kernel
theorem d7_49 : decode prog_10_method_1_code 49 = .ok (.aload_n 0, 1) := by decide +kernel
theorem d7_50 : decode prog_10_method_1_code 50 = .ok (.invokevirtual 33, 3) := by decide +kernel
theorem d7_53 : decode prog_10_method_1_code 53 = .ok (.putfield 37, 3) := by decide +kernel
theorem d7_56 : decode prog_10_method_1_code 56 = .ok (.return_, 1) := by decide +kernel
theorem pd_7_0 : parseMethodDescriptor "(I)[I" = some ⟨[.int], some (.array .int)⟩ := by decide +kernel
theorem pd_7_1 : parseMethodDescriptor "()[I" = some ⟨[], some (.array .int)⟩ := by decide +kernel
theorem pn_7 : plainName "com/example/tallier/tallier/protocol/RecoverySets" = true := by first | (simp [plainName, overriddenIn]; done) | decide +kernel
theorem ef_7 (m : MethodId) (a1 : Addr) (n k : Nat) : entryFrame m #[(.ref a1), (.int (Int32.ofNat n)), (.int (Int32.ofNat k))] 3 = mkF m 0 #[.val (.ref a1), .val (.int (Int32.ofNat n)), .val (.int (Int32.ofNat k))] [] := by first | (simp [entryFrame, mkF, argsToLocals, Value.category]; done) | rfl
def Q7 (Z : State) (a1 : Addr) (n k : Nat) (h0 : Heap) (n0 : Nat) (v : Option Value) (h : Heap) (L : List Loc) : Prop := v = none ∧ Fr n0 L ∧ Keep h0 h [a1] ∧ ∃ vc' vp', own_O Z h a1 n k (own_run n k 0).1 vc' vp' ∧ own_R Z h n0 vc' k (own_run n k 0).2.1 ∧ own_N vp' (own_run n k 0).2.2
set_option maxRecDepth 65536 in
set_option maxHeartbeats 40000000 in
theorem rm7 (l : Launch) (Z : State) (a0 : Array Value) (hw : ∀ d ∈ tables_1, d.before a0 Z = true) (ws : List Jvm.Cond) (a1 : Addr) (n k : Nat) (h0 : Heap) (n0 : Nat) (Z0 : n0 ≤ h0.size) (hk1 : 1 ≤ k) (hkn : k ≤ n) (hn4 : n ≤ 4) (g1 : n0 ≤ a1) (E : Exa Z h0 a1 "com/example/tallier/tallier/protocol/RecoverySets") (Fn : Fld Z h0 a1 "com/example/tallier/tallier/protocol/RecoverySets" "n" "I" (.int 0)) (Fk : Fld Z h0 a1 "com/example/tallier/tallier/protocol/RecoverySets" "k" "I" (.int 0)) (Fg : Fld Z h0 a1 "com/example/tallier/tallier/protocol/RecoverySets" "runsGiven" "I" (.int 0)) (Fc : Fld Z h0 a1 "com/example/tallier/tallier/protocol/RecoverySets" "colex" "[I" .null) (Fp : Fld Z h0 a1 "com/example/tallier/tallier/protocol/RecoverySets" "pending" "[I" .null) :
    MetFree l (⟨"com/example/tallier/tallier/protocol/RecoverySets", "<init>", "(II)V"⟩ : MethodName) (head1 (Jvm.Cond.code (⟨"com/example/tallier/tallier/protocol/RecoverySets", "<init>", "(II)V"⟩ : MethodName) prog_10_method_1_code 3 none :: ws) ({ frames := 3, cells := 5, slots := 20, locals := 46 } : Room)) (fun zA zU => zA = #[(.ref a1), (.int (Int32.ofNat n)), (.int (Int32.ofNat k))] ∧ Z.Warmed39 zU.vm ∧ zU.heap = h0) (fun _ _ _ _ _ => True) (fun _ zU zo zT => ∃ zv zL, zo = .returned zv ∧ Q7 Z a1 n k h0 n0 zv zT.heap zL ∧ FrameEnd zU zo zT zL ({ frames := 3, cells := 5, slots := 20, locals := 46 } : Room).cells ({ frames := 3, cells := 5, slots := 20, locals := 46 } : Room).slots) := by
  refine MetFree.of_bodySF (plainFor_of_name pn_7) hisR ?_
  intro p e s m args below meth c s₁ Bd hml0 hP hK
  obtain ⟨rfl, hZ, hh⟩ := hP
  have hx := Bd.exec
  have hby := Bd.bytes
  have hml : c.maxLocals = 3 := hml0
  have hown : s.vm.findClass "com/example/tallier/tallier/protocol/RecoverySets" = some m.cls := findClass_of_methodNamed Bd.named
  have hnm := (name_of_methodNamed Bd.named Bd.method).1
  have hlk : meth.locks = false := Bd.notSynchronized
  have X0 : Stand p l e ({ frames := 3, cells := 5, slots := 20, locals := 46 } : Room) s m #[(.ref a1), (.int (Int32.ofNat n)), (.int (Int32.ofNat k))] below meth c s₁ [] 0 0 := Stand.of_body Bd
  have e0 : s₁.heap = h0 := by rw [← hh, Bd.state]; rfl
  have N0 := Fr.nil n0
  refine own_step (p := p) (e := e) (below := below) (U' := s₁.setTop (mkF m 0 #[.val (.ref a1), .val (.int (Int32.ofNat n)), .val (.int (Int32.ofNat k))] [])) (fun _ zk => castTop (ef_7 m a1 n k) zk) ?_
  have K_0 : Keep h0 h0 [a1] := Keep.refl _ _
  refine own_step (fun _ zk => XS.aloadN X0.here hx rfl (hb hby d7_0) rfl rfl zk) ?_
  show own_E p e below _ (s₁.setTop (mkF m 1 #[.val (.ref a1), .val (.int (Int32.ofNat n)), .val (.int (Int32.ofNat k))] [(.ref a1)]))
  obtain ⟨T1, X1, e1, st1⟩ := initO X0 hx hZ hown (hw _ (List.mem_of_getElem? (i := 11) rfl)) (hw _ (List.mem_of_getElem? (i := 12) rfl)) (hw _ (List.mem_of_getElem? (i := 13) rfl)) e0 (g := (mkF m 1 #[.val (.ref a1), .val (.int (Int32.ofNat n)), .val (.int (Int32.ofNat k))] [(.ref a1)])) rfl (by rw [hml]; rfl) rfl (hb hby d7_1) (by decide) (W := 0) (by show 2 * 0 + _ ≤ _; exact Nat.le_of_eq rfl) (by decide)
  refine own_step st1 ?_
  show own_E p e below _ (T1.setTop (mkF m 4 #[.val (.ref a1), .val (.int (Int32.ofNat n)), .val (.int (Int32.ofNat k))] []))
  refine own_step (fun _ zk => XS.iloadN X1.here hx rfl (hb hby d7_4) rfl zk) ?_
  show own_E p e below _ (T1.setTop (mkF m 5 #[.val (.ref a1), .val (.int (Int32.ofNat n)), .val (.int (Int32.ofNat k))] [(.int (Int32.ofNat k))]))
  refine own_step (fun _ zk => XS.iconst X1.here hx rfl (hb hby d7_5) zk) ?_
  show own_E p e below _ (T1.setTop (mkF m 6 #[.val (.ref a1), .val (.int (Int32.ofNat n)), .val (.int (Int32.ofNat k))] [(.int (1 : Int32)), (.int (Int32.ofNat k))]))
  refine own_step (fun _ zk => XS.icmpNo X1.here hx rfl (hb hby d7_6) rfl (flt (own_k1 hk1 (by omega))).1 zk) ?_
  show own_E p e below _ (T1.setTop (mkF m 9 #[.val (.ref a1), .val (.int (Int32.ofNat n)), .val (.int (Int32.ofNat k))] []))
  refine own_step (fun _ zk => XS.iloadN X1.here hx rfl (hb hby d7_9) rfl zk) ?_
  show own_E p e below _ (T1.setTop (mkF m 10 #[.val (.ref a1), .val (.int (Int32.ofNat n)), .val (.int (Int32.ofNat k))] [(.int (Int32.ofNat k))]))
  refine own_step (fun _ zk => XS.iloadN X1.here hx rfl (hb hby d7_10) rfl zk) ?_
  show own_E p e below _ (T1.setTop (mkF m 11 #[.val (.ref a1), .val (.int (Int32.ofNat n)), .val (.int (Int32.ofNat k))] [(.int (Int32.ofNat n)), (.int (Int32.ofNat k))]))
  refine own_step (fun _ zk => XS.icmpYes X1.here hx rfl (pc0 := 11) (pc' := 29) rfl (hb hby d7_11) rfl (flt (fun z => absurd ((own_lt _ _ (by omega) (by omega)).mp z) (by omega))).2.2.2 (by decide) (by decide) zk) ?_
  show own_E p e below _ (T1.setTop (mkF m 29 #[.val (.ref a1), .val (.int (Int32.ofNat n)), .val (.int (Int32.ofNat k))] []))
  refine own_step (fun _ zk => XS.aloadN X1.here hx rfl (hb hby d7_29) rfl rfl zk) ?_
  show own_E p e below _ (T1.setTop (mkF m 30 #[.val (.ref a1), .val (.int (Int32.ofNat n)), .val (.int (Int32.ofNat k))] [(.ref a1)]))
  refine own_step (fun _ zk => XS.iloadN X1.here hx rfl (hb hby d7_30) rfl zk) ?_
  show own_E p e below _ (T1.setTop (mkF m 31 #[.val (.ref a1), .val (.int (Int32.ofNat n)), .val (.int (Int32.ofNat k))] [(.int (Int32.ofNat n)), (.ref a1)]))
  obtain ⟨T2, h2, X2, e2, W2, st2⟩ := putF X1 hx hZ hown (host := "") (Or.inl (hw _ (List.mem_of_getElem? (i := 14) rfl))) Via.refl e1 Fn E (Or.inr ⟨(hw _ (List.mem_of_getElem? (i := 15) rfl)), rfl, hnm⟩) (hw _ (List.mem_of_getElem? (i := 6) rfl)) (ty := .int) (by decide) rfl rfl (g := (mkF m 31 #[.val (.ref a1), .val (.int (Int32.ofNat n)), .val (.int (Int32.ofNat k))] [(.int (Int32.ofNat n)), (.ref a1)])) rfl rfl (hb hby d7_31)
  have N2 := Fr.snoc X2 N0 g1
  have E_2 := Exa.wr W2 E
  have Fn_2 := Fld.same W2 Fn
  have Fk_2 := Fld.other W2 Fk (Or.inr (slot_ne (Or.inr (hw _ (List.mem_of_getElem? (i := 17) rfl))) (Or.inr (hw _ (List.mem_of_getElem? (i := 15) rfl))) (by decide) (t := .int) (t' := .int) (by decide) (by decide)))
  have Fg_2 := Fld.other W2 Fg (Or.inr (slot_ne (Or.inl (hw _ (List.mem_of_getElem? (i := 30) rfl))) (Or.inr (hw _ (List.mem_of_getElem? (i := 15) rfl))) (by decide) (t := .int) (t' := .int) (by decide) (by decide)))
  have Fc_2 := Fld.other W2 Fc (Or.inr (slot_ne (Or.inl (hw _ (List.mem_of_getElem? (i := 24) rfl))) (Or.inr (hw _ (List.mem_of_getElem? (i := 15) rfl))) (by decide) (t := (.array .int)) (t' := .int) (by decide) (by decide)))
  have Fp_2 := Fld.other W2 Fp (Or.inr (slot_ne (Or.inl (hw _ (List.mem_of_getElem? (i := 32) rfl))) (Or.inr (hw _ (List.mem_of_getElem? (i := 15) rfl))) (by decide) (t := (.array .int)) (t' := .int) (by decide) (by decide)))
  have K_2 := Keep.wr K_0 W2 (Or.inl (List.mem_of_getElem? (i := 0) rfl))
  refine own_step st2 ?_
  show own_E p e below _ (T2.setTop (mkF m 34 #[.val (.ref a1), .val (.int (Int32.ofNat n)), .val (.int (Int32.ofNat k))] []))
  refine own_step (fun _ zk => XS.aloadN X2.here hx rfl (hb hby d7_34) rfl rfl zk) ?_
  show own_E p e below _ (T2.setTop (mkF m 35 #[.val (.ref a1), .val (.int (Int32.ofNat n)), .val (.int (Int32.ofNat k))] [(.ref a1)]))
  refine own_step (fun _ zk => XS.iloadN X2.here hx rfl (hb hby d7_35) rfl zk) ?_
  show own_E p e below _ (T2.setTop (mkF m 36 #[.val (.ref a1), .val (.int (Int32.ofNat n)), .val (.int (Int32.ofNat k))] [(.int (Int32.ofNat k)), (.ref a1)]))
  obtain ⟨T3, h3, X3, e3, W3, st3⟩ := putF X2 hx hZ hown (host := "") (Or.inl (hw _ (List.mem_of_getElem? (i := 16) rfl))) Via.refl e2 Fk_2 E_2 (Or.inr ⟨(hw _ (List.mem_of_getElem? (i := 17) rfl)), rfl, hnm⟩) (hw _ (List.mem_of_getElem? (i := 6) rfl)) (ty := .int) (by decide) rfl rfl (g := (mkF m 36 #[.val (.ref a1), .val (.int (Int32.ofNat n)), .val (.int (Int32.ofNat k))] [(.int (Int32.ofNat k)), (.ref a1)])) rfl rfl (hb hby d7_36)
  have N3 := Fr.snoc X3 N2 g1
  have E_3 := Exa.wr W3 E_2
  have Fn_3 := Fld.other W3 Fn_2 (Or.inr (slot_ne (Or.inr (hw _ (List.mem_of_getElem? (i := 15) rfl))) (Or.inr (hw _ (List.mem_of_getElem? (i := 17) rfl))) (by decide) (t := .int) (t' := .int) (by decide) (by decide)))
  have Fk_3 := Fld.same W3 Fk_2
  have Fg_3 := Fld.other W3 Fg_2 (Or.inr (slot_ne (Or.inl (hw _ (List.mem_of_getElem? (i := 30) rfl))) (Or.inr (hw _ (List.mem_of_getElem? (i := 17) rfl))) (by decide) (t := .int) (t' := .int) (by decide) (by decide)))
  have Fc_3 := Fld.other W3 Fc_2 (Or.inr (slot_ne (Or.inl (hw _ (List.mem_of_getElem? (i := 24) rfl))) (Or.inr (hw _ (List.mem_of_getElem? (i := 17) rfl))) (by decide) (t := (.array .int)) (t' := .int) (by decide) (by decide)))
  have Fp_3 := Fld.other W3 Fp_2 (Or.inr (slot_ne (Or.inl (hw _ (List.mem_of_getElem? (i := 32) rfl))) (Or.inr (hw _ (List.mem_of_getElem? (i := 17) rfl))) (by decide) (t := (.array .int)) (t' := .int) (by decide) (by decide)))
  have K_3 := Keep.wr K_2 W3 (Or.inl (List.mem_of_getElem? (i := 0) rfl))
  refine own_step st3 ?_
  show own_E p e below _ (T3.setTop (mkF m 39 #[.val (.ref a1), .val (.int (Int32.ofNat n)), .val (.int (Int32.ofNat k))] []))
  refine own_step (fun _ zk => XS.aloadN X3.here hx rfl (hb hby d7_39) rfl rfl zk) ?_
  show own_E p e below _ (T3.setTop (mkF m 40 #[.val (.ref a1), .val (.int (Int32.ofNat n)), .val (.int (Int32.ofNat k))] [(.ref a1)]))
  refine own_step (fun _ zk => XS.aloadN X3.here hx rfl (hb hby d7_40) rfl rfl zk) ?_
  show own_E p e below _ (T3.setTop (mkF m 41 #[.val (.ref a1), .val (.int (Int32.ofNat n)), .val (.int (Int32.ofNat k))] [(.ref a1), (.ref a1)]))
  refine own_step (fun _ zk => XS.iconst X3.here hx rfl (hb hby d7_41) zk) ?_
  show own_E p e below _ (T3.setTop (mkF m 42 #[.val (.ref a1), .val (.int (Int32.ofNat n)), .val (.int (Int32.ofNat k))] [(.int (0 : Int32)), (.ref a1), (.ref a1)]))
  obtain ⟨cq4, q4, q4'⟩ := E_3.cell
  obtain ⟨_, _, ⟨T4, zL4, zK4, zN4⟩, -, X4, ⟨zLc4, hQ4, zl4, zy4, zz4⟩, st4⟩ := X3.privateBack hx (y := (⟨"com/example/tallier/tallier/protocol/RecoverySets", "consecutive", "(I)[I"⟩ : MethodName)) hown (mvT hZ (hw _ (List.mem_of_getElem? (i := 18) rfl))) (mvT hZ (hw _ (List.mem_of_getElem? (i := 19) rfl))) (mvT hZ (Jvm.Kit.selects_private (y := (⟨"com/example/tallier/tallier/protocol/RecoverySets", "consecutive", "(I)[I"⟩ : MethodName)) (by decide) (hw _ (List.mem_of_getElem? (i := 6) rfl)) (hw _ (List.mem_of_getElem? (i := 20) rfl)) (hw _ (List.mem_of_getElem? (i := 19) rfl)))) (Cond.privateMethod_at (mvP hZ (hw _ (List.mem_of_getElem? (i := 20) rfl)) (args := #[]))) (mvT hZ (hw _ (List.mem_of_getElem? (i := 21) rfl))) (by decide) (backOf (W := 1) (rm1 l Z a0 hw [] a1 (0 : Int32) k h3 n0 (Nat.le_trans Z0 K_3.1) hk1 (by omega) Fk_3) hZ (hw _ (List.mem_of_getElem? (i := 21) rfl)) (hw _ (List.mem_of_getElem? (i := 7) rfl)) (by decide) (by decide)) (g := (mkF m 42 #[.val (.ref a1), .val (.int (Int32.ofNat n)), .val (.int (Int32.ofNat k))] [(.int (0 : Int32)), (.ref a1), (.ref a1)])) rfl (by rw [hml]; rfl) (Steps.refl _) (a := a1) (by rw [e3]; exact q4) q4' (argsL := [(.int (0 : Int32))]) (rest := [(.ref a1)]) (lenOf pd_7_0 rfl) rfl (by show 2 * 0 + _ ≤ _; exact Nat.le_of_eq rfl) (hb hby d7_42) (fun _ _ => ⟨rfl, e3, (by decide : 0 + 1 ≤ _), (by decide : 0 + 4 ≤ _)⟩)
  dsimp only [Pt.U, Pt.locs, Pt.cells, Pt.slots] at X4 zl4 zy4 zz4 st4 hQ4
  rw [show zK4 = 1 from zy4, show zN4 = 4 from zz4] at X4
  generalize e4 : T4.heap = h4 at hQ4
  obtain ⟨⟨w4, rfl, R4⟩, N4q, Kq4, -⟩ := hQ4
  have E_4 := Exa.keep E_3 Kq4
  have Fn_4 := Fld.keep Fn_3 Kq4 nin0
  have Fk_4 := Fld.keep Fk_3 Kq4 nin0
  have Fg_4 := Fld.keep Fg_3 Kq4 nin0
  have Fc_4 := Fld.keep Fc_3 Kq4 nin0
  have Fp_4 := Fld.keep Fp_3 Kq4 nin0
  have K_4 := Keep.trans K_3 Kq4 all0
  have N4 : Fr n0 zL4 := by rw [zl4]; exact Fr.app N3 N4q
  refine own_step (fun _ zk => (st4).trans zk) ?_
  show own_E p e below _ (T4.setTop (mkF m 45 #[.val (.ref a1), .val (.int (Int32.ofNat n)), .val (.int (Int32.ofNat k))] [w4, (.ref a1)]))
  obtain ⟨T5, h5, X5, e5, W5, st5⟩ := putF X4 hx hZ hown (host := "") (Or.inl (hw _ (List.mem_of_getElem? (i := 23) rfl))) Via.refl e4 Fc_4 E_4 (Or.inl (hw _ (List.mem_of_getElem? (i := 24) rfl))) (hw _ (List.mem_of_getElem? (i := 6) rfl)) (ty := (.array .int)) (by decide) (own_R_nar R4) (own_R_fits R4) (g := (mkF m 45 #[.val (.ref a1), .val (.int (Int32.ofNat n)), .val (.int (Int32.ofNat k))] [w4, (.ref a1)])) rfl rfl (hb hby d7_45)
  have N5 := Fr.snoc X5 N4 g1
  have E_5 := Exa.wr W5 E_4
  have Fn_5 := Fld.other W5 Fn_4 (Or.inr (slot_ne (Or.inr (hw _ (List.mem_of_getElem? (i := 15) rfl))) (Or.inl (hw _ (List.mem_of_getElem? (i := 24) rfl))) (by decide) (t := .int) (t' := (.array .int)) (by decide) (by decide)))
  have Fk_5 := Fld.other W5 Fk_4 (Or.inr (slot_ne (Or.inr (hw _ (List.mem_of_getElem? (i := 17) rfl))) (Or.inl (hw _ (List.mem_of_getElem? (i := 24) rfl))) (by decide) (t := .int) (t' := (.array .int)) (by decide) (by decide)))
  have Fg_5 := Fld.other W5 Fg_4 (Or.inr (slot_ne (Or.inl (hw _ (List.mem_of_getElem? (i := 30) rfl))) (Or.inl (hw _ (List.mem_of_getElem? (i := 24) rfl))) (by decide) (t := .int) (t' := (.array .int)) (by decide) (by decide)))
  have Fc_5 := Fld.same W5 Fc_4
  have Fp_5 := Fld.other W5 Fp_4 (Or.inr (slot_ne (Or.inl (hw _ (List.mem_of_getElem? (i := 32) rfl))) (Or.inl (hw _ (List.mem_of_getElem? (i := 24) rfl))) (by decide) (t := (.array .int)) (t' := (.array .int)) (by decide) (by decide)))
  have R_5 := own_R_wr W5 E_4 R4
  have K_5 := Keep.wr K_4 W5 (Or.inl (List.mem_of_getElem? (i := 0) rfl))
  refine own_step st5 ?_
  show own_E p e below _ (T5.setTop (mkF m 48 #[.val (.ref a1), .val (.int (Int32.ofNat n)), .val (.int (Int32.ofNat k))] []))
  refine own_step (fun _ zk => XS.aloadN X5.here hx rfl (hb hby d7_48) rfl rfl zk) ?_
  show own_E p e below _ (T5.setTop (mkF m 49 #[.val (.ref a1), .val (.int (Int32.ofNat n)), .val (.int (Int32.ofNat k))] [(.ref a1)]))
  refine own_step (fun _ zk => XS.aloadN X5.here hx rfl (hb hby d7_49) rfl rfl zk) ?_
  show own_E p e below _ (T5.setTop (mkF m 50 #[.val (.ref a1), .val (.int (Int32.ofNat n)), .val (.int (Int32.ofNat k))] [(.ref a1), (.ref a1)]))
  obtain ⟨cq6, q6, q6'⟩ := E_5.cell
  obtain ⟨_, _, ⟨T6, zL6, zK6, zN6⟩, -, X6, ⟨zLc6, hQ6, zl6, zy6, zz6⟩, st6⟩ := X5.privateBack hx (y := (⟨"com/example/tallier/tallier/protocol/RecoverySets", "advance", "()[I"⟩ : MethodName)) hown (mvT hZ (hw _ (List.mem_of_getElem? (i := 25) rfl))) (mvT hZ (hw _ (List.mem_of_getElem? (i := 26) rfl))) (mvT hZ (Jvm.Kit.selects_private (y := (⟨"com/example/tallier/tallier/protocol/RecoverySets", "advance", "()[I"⟩ : MethodName)) (by decide) (hw _ (List.mem_of_getElem? (i := 6) rfl)) (hw _ (List.mem_of_getElem? (i := 27) rfl)) (hw _ (List.mem_of_getElem? (i := 26) rfl)))) (Cond.privateMethod_at (mvP hZ (hw _ (List.mem_of_getElem? (i := 27) rfl)) (args := #[]))) (mvT hZ (hw _ (List.mem_of_getElem? (i := 28) rfl))) (by decide) (backOf (W := 1) (rm4 l Z a0 hw [] a1 n k 0 (some (own_cons 0)) w4 .null h5 n0 (Nat.le_trans Z0 K_5.1) hk1 (by omega) hn4 (by omega) g1 ⟨E_5, Fn_5, Fk_5, Fg_5, Fc_5, Fp_5⟩ R_5 (own_all0 n (by omega) k (by omega) hk1 hkn)) hZ (hw _ (List.mem_of_getElem? (i := 28) rfl)) (hw _ (List.mem_of_getElem? (i := 7) rfl)) (by decide) (by decide)) (g := (mkF m 50 #[.val (.ref a1), .val (.int (Int32.ofNat n)), .val (.int (Int32.ofNat k))] [(.ref a1), (.ref a1)])) rfl (by rw [hml]; rfl) (Steps.refl _) (a := a1) (by rw [e5]; exact q6) q6' (argsL := []) (rest := [(.ref a1)]) (lenOf pd_7_1 rfl) rfl (by show 2 * 0 + _ ≤ _; exact Nat.le_of_eq rfl) (hb hby d7_50) (fun _ _ => ⟨rfl, e5, (by decide : 1 + 4 ≤ _), (by decide : 4 + 16 ≤ _)⟩)
  dsimp only [Pt.U, Pt.locs, Pt.cells, Pt.slots] at X6 zl6 zy6 zz6 st6 hQ6
  rw [show zK6 = 5 from zy6, show zN6 = 20 from zz6] at X6
  generalize e6 : T6.heap = h6 at hQ6
  obtain ⟨⟨w6, rfl, R2, vc2, HO6, Rc6⟩, N6q, Kq6, -⟩ := hQ6
  have K_6 := Keep.trans K_5 Kq6 (allS (Or.inl (List.mem_of_getElem? (i := 0) rfl)) all0)
  obtain ⟨E6, Fn6, Fk6, Fg6, Fc6, Fp6⟩ := HO6
  have N6 : Fr n0 zL6 := by rw [zl6]; exact Fr.app N5 N6q
  refine own_step (fun _ zk => (st6).trans zk) ?_
  show own_E p e below _ (T6.setTop (mkF m 53 #[.val (.ref a1), .val (.int (Int32.ofNat n)), .val (.int (Int32.ofNat k))] [w6, (.ref a1)]))
  obtain ⟨T7, h7, X7, e7, W7, st7⟩ := putF X6 hx hZ hown (host := "") (Or.inl (hw _ (List.mem_of_getElem? (i := 31) rfl))) Via.refl e6 Fp6 E6 (Or.inl (hw _ (List.mem_of_getElem? (i := 32) rfl))) (hw _ (List.mem_of_getElem? (i := 6) rfl)) (ty := (.array .int)) (by decide) (own_R_nar R2) (own_R_fits R2) (g := (mkF m 53 #[.val (.ref a1), .val (.int (Int32.ofNat n)), .val (.int (Int32.ofNat k))] [w6, (.ref a1)])) rfl rfl (hb hby d7_53)
  have N7 := Fr.snoc X7 N6 g1
  have E_7 := Exa.wr W7 E6
  have Fn_7 := Fld.other W7 Fn6 (Or.inr (slot_ne (Or.inr (hw _ (List.mem_of_getElem? (i := 15) rfl))) (Or.inl (hw _ (List.mem_of_getElem? (i := 32) rfl))) (by decide) (t := .int) (t' := (.array .int)) (by decide) (by decide)))
  have Fk_7 := Fld.other W7 Fk6 (Or.inr (slot_ne (Or.inr (hw _ (List.mem_of_getElem? (i := 17) rfl))) (Or.inl (hw _ (List.mem_of_getElem? (i := 32) rfl))) (by decide) (t := .int) (t' := (.array .int)) (by decide) (by decide)))
  have Fg_7 := Fld.other W7 Fg6 (Or.inr (slot_ne (Or.inl (hw _ (List.mem_of_getElem? (i := 30) rfl))) (Or.inl (hw _ (List.mem_of_getElem? (i := 32) rfl))) (by decide) (t := .int) (t' := (.array .int)) (by decide) (by decide)))
  have Fc_7 := Fld.other W7 Fc6 (Or.inr (slot_ne (Or.inl (hw _ (List.mem_of_getElem? (i := 24) rfl))) (Or.inl (hw _ (List.mem_of_getElem? (i := 32) rfl))) (by decide) (t := (.array .int)) (t' := (.array .int)) (by decide) (by decide)))
  have Fp_7 := Fld.same W7 Fp6
  have R_7 := own_R_wr W7 E6 Rc6
  have K_7 := Keep.wr K_6 W7 (Or.inl (List.mem_of_getElem? (i := 0) rfl))
  refine own_step st7 ?_
  show own_E p e below _ (T7.setTop (mkF m 56 #[.val (.ref a1), .val (.int (Int32.ofNat n)), .val (.int (Int32.ofNat k))] []))
  refine own_ret X7 hlk (v := none) (fun _ => rfl) ?_ (by decide) (by decide) (fun fs hr => X7.returnOut hx Bd.returns (hb hby d7_56) hr)
  show Q7 Z a1 n k h0 n0 _ T7.heap _
  rw [e7]
  exact ⟨rfl, N7, K_7, vc2, w6, ⟨E_7, Fn_7, Fk_7, Fg_7, Fc_7, Fp_7⟩, R_7, own_R_N R2⟩
theorem d8_0 : decode method_2_code 0 = .ok (.iload_n 1, 1) := by decide +kernel
theorem d8_1 : decode method_2_code 1 = .ok (.iload_n 0, 1) := by decide +kernel
theorem d8_2 : decode method_2_code 2 = .ok (.if_icmp .ne 5, 3) := by decide +kernel
theorem d8_5 : decode method_2_code 5 = .ok (.iconst 1, 1) := by decide +kernel
theorem d8_6 : decode method_2_code 6 = .ok (.ireturn, 1) := by decide +kernel
theorem d8_7 : decode method_2_code 7 = .ok (.iload_n 1, 1) := by decide +kernel
theorem d8_8 : decode method_2_code 8 = .ok (.iconst 1, 1) := by decide +kernel
theorem d8_9 : decode method_2_code 9 = .ok (.if_icmp .eq 10, 3) := by decide +kernel
theorem d8_12 : decode method_2_code 12 = .ok (.iload_n 1, 1) := by decide +kernel
theorem d8_13 : decode method_2_code 13 = .ok (.iload_n 0, 1) := by decide +kernel
theorem d8_14 : decode method_2_code 14 = .ok (.iconst 1, 1) := by decide +kernel
theorem d8_15 : decode method_2_code 15 = .ok (.isub, 1) := by decide +kernel
theorem d8_16 : decode method_2_code 16 = .ok (.if_icmp .ne 5, 3) := by decide +kernel
theorem d8_19 : decode method_2_code 19 = .ok (.iload_n 0, 1) := by decide +kernel
theorem d8_20 : decode method_2_code 20 = .ok (.ireturn, 1) := by decide +kernel
theorem d8_21 : decode method_2_code 21 = .ok (.bipush 6, 2) := by decide +kernel
theorem d8_23 : decode method_2_code 23 = .ok (.ireturn, 1) := by decide +kernel
theorem pn_8 : plainName "com/example/tallier/tallier/protocol/RecoverySetsHasNextPinLaw" = true := by first | (simp [plainName, overriddenIn]; done) | decide +kernel
theorem ef_8 (m : MethodId)  (n k : Nat) : entryFrame m #[(.int (Int32.ofNat n)), (.int (Int32.ofNat k))] 2 = mkF m 0 #[.val (.int (Int32.ofNat n)), .val (.int (Int32.ofNat k))] [] := by first | (simp [entryFrame, mkF, argsToLocals, Value.category]; done) | rfl
def Q8 (Z : State)  (n k : Nat) (h0 : Heap) (n0 : Nat) (v : Option Value) (h : Heap) (L : List Loc) : Prop := v = some (.int (Int32.ofNat (own_total n k))) ∧ Fr n0 L ∧ h = h0
set_option maxRecDepth 65536 in
set_option maxHeartbeats 40000000 in
theorem rm8 (l : Launch) (Z : State) (a0 : Array Value) (hw : ∀ d ∈ tables_1, d.before a0 Z = true) (ws : List Jvm.Cond)  (n k : Nat) (h0 : Heap) (n0 : Nat) (Z0 : n0 ≤ h0.size) (hk1 : 1 ≤ k) (hkn : k ≤ n) (hn4 : n ≤ 4) :
    MetFree l (⟨"com/example/tallier/tallier/protocol/RecoverySetsHasNextPinLaw", "choose", "(II)I"⟩ : MethodName) (head1 (Jvm.Cond.code (⟨"com/example/tallier/tallier/protocol/RecoverySetsHasNextPinLaw", "choose", "(II)I"⟩ : MethodName) method_2_code 2 (some .int) :: ws) ({ frames := 0, cells := 0, slots := 0, locals := 0 } : Room)) (fun zA zU => zA = #[(.int (Int32.ofNat n)), (.int (Int32.ofNat k))] ∧ Z.Warmed39 zU.vm ∧ zU.heap = h0) (fun _ _ _ _ _ => True) (fun _ zU zo zT => ∃ zv zL, zo = .returned zv ∧ Q8 Z n k h0 n0 zv zT.heap zL ∧ FrameEnd zU zo zT zL ({ frames := 0, cells := 0, slots := 0, locals := 0 } : Room).cells ({ frames := 0, cells := 0, slots := 0, locals := 0 } : Room).slots) := by
  refine MetFree.of_bodySF (plainFor_of_name pn_8) hisR ?_
  intro p e s m args below meth c s₁ Bd hml0 hP hK
  obtain ⟨rfl, hZ, hh⟩ := hP
  have hx := Bd.exec
  have hby := Bd.bytes
  have hml : c.maxLocals = 2 := hml0
  have hown : s.vm.findClass "com/example/tallier/tallier/protocol/RecoverySetsHasNextPinLaw" = some m.cls := findClass_of_methodNamed Bd.named
  have hnm := (name_of_methodNamed Bd.named Bd.method).1
  have hlk : meth.locks = false := Bd.notSynchronized
  have X0 : Stand p l e ({ frames := 0, cells := 0, slots := 0, locals := 0 } : Room) s m #[(.int (Int32.ofNat n)), (.int (Int32.ofNat k))] below meth c s₁ [] 0 0 := Stand.of_body Bd
  have e0 : s₁.heap = h0 := by rw [← hh, Bd.state]; rfl
  have N0 := Fr.nil n0
  refine own_step (p := p) (e := e) (below := below) (U' := s₁.setTop (mkF m 0 #[.val (.int (Int32.ofNat n)), .val (.int (Int32.ofNat k))] [])) (fun _ zk => castTop (ef_8 m  n k) zk) ?_
  refine own_step (fun _ zk => XS.iloadN X0.here hx rfl (hb hby d8_0) rfl zk) ?_
  show own_E p e below _ (s₁.setTop (mkF m 1 #[.val (.int (Int32.ofNat n)), .val (.int (Int32.ofNat k))] [(.int (Int32.ofNat k))]))
  refine own_step (fun _ zk => XS.iloadN X0.here hx rfl (hb hby d8_1) rfl zk) ?_
  show own_E p e below _ (s₁.setTop (mkF m 2 #[.val (.int (Int32.ofNat n)), .val (.int (Int32.ofNat k))] [(.int (Int32.ofNat n)), (.int (Int32.ofNat k))]))
  by_cases hc2 : (Int32.ofNat k) = (Int32.ofNat n)
  · skip
    refine own_step (fun _ zk => XS.icmpNo X0.here hx rfl (hb hby d8_2) rfl (teq hc2).2 zk) ?_
    show own_E p e below _ (s₁.setTop (mkF m 5 #[.val (.int (Int32.ofNat n)), .val (.int (Int32.ofNat k))] []))
    refine own_step (fun _ zk => XS.iconst X0.here hx rfl (hb hby d8_5) zk) ?_
    show own_E p e below _ (s₁.setTop (mkF m 6 #[.val (.int (Int32.ofNat n)), .val (.int (Int32.ofNat k))] [(.int (1 : Int32))]))
    refine own_ret X0 hlk (v := some (.int (1 : Int32))) (fun h => by rw [Bd.returns] at h; cases h) ?_ (by decide) (by decide) (fun fs hr => retI X0 hx Bd.returns (hb hby d8_6) hr)
    show Q8 Z n k h0 n0 _ s₁.heap _
    rw [e0]
    exact ⟨congrArg (fun z => some (Value.int z)) ((own_choose n (by omega) k (by omega) hk1 hkn).symm.trans (by rw [if_pos hc2])).symm, N0, rfl⟩
  · skip
    refine own_step (fun _ zk => XS.icmpYes X0.here hx rfl (pc0 := 2) (pc' := 7) rfl (hb hby d8_2) rfl (feq hc2).2 (by decide) (by decide) zk) ?_
    show own_E p e below _ (s₁.setTop (mkF m 7 #[.val (.int (Int32.ofNat n)), .val (.int (Int32.ofNat k))] []))
    refine own_step (fun _ zk => XS.iloadN X0.here hx rfl (hb hby d8_7) rfl zk) ?_
    show own_E p e below _ (s₁.setTop (mkF m 8 #[.val (.int (Int32.ofNat n)), .val (.int (Int32.ofNat k))] [(.int (Int32.ofNat k))]))
    refine own_step (fun _ zk => XS.iconst X0.here hx rfl (hb hby d8_8) zk) ?_
    show own_E p e below _ (s₁.setTop (mkF m 9 #[.val (.int (Int32.ofNat n)), .val (.int (Int32.ofNat k))] [(.int (1 : Int32)), (.int (Int32.ofNat k))]))
    by_cases hc9 : (Int32.ofNat k) = (1 : Int32)
    · skip
      refine own_step (fun _ zk => XS.icmpYes X0.here hx rfl (pc0 := 9) (pc' := 19) rfl (hb hby d8_9) rfl (teq hc9).1 (by decide) (by decide) zk) ?_
      show own_E p e below _ (s₁.setTop (mkF m 19 #[.val (.int (Int32.ofNat n)), .val (.int (Int32.ofNat k))] []))
      refine own_step (fun _ zk => XS.iloadN X0.here hx rfl (hb hby d8_19) rfl zk) ?_
      show own_E p e below _ (s₁.setTop (mkF m 20 #[.val (.int (Int32.ofNat n)), .val (.int (Int32.ofNat k))] [(.int (Int32.ofNat n))]))
      refine own_ret X0 hlk (v := some (.int (Int32.ofNat n))) (fun h => by rw [Bd.returns] at h; cases h) ?_ (by decide) (by decide) (fun fs hr => retI X0 hx Bd.returns (hb hby d8_20) hr)
      show Q8 Z n k h0 n0 _ s₁.heap _
      rw [e0]
      exact ⟨congrArg (fun z => some (Value.int z)) ((own_choose n (by omega) k (by omega) hk1 hkn).symm.trans (by rw [if_neg hc2, if_pos hc9])).symm, N0, rfl⟩
    · skip
      refine own_step (fun _ zk => XS.icmpNo X0.here hx rfl (hb hby d8_9) rfl (feq hc9).1 zk) ?_
      show own_E p e below _ (s₁.setTop (mkF m 12 #[.val (.int (Int32.ofNat n)), .val (.int (Int32.ofNat k))] []))
      refine own_step (fun _ zk => XS.iloadN X0.here hx rfl (hb hby d8_12) rfl zk) ?_
      show own_E p e below _ (s₁.setTop (mkF m 13 #[.val (.int (Int32.ofNat n)), .val (.int (Int32.ofNat k))] [(.int (Int32.ofNat k))]))
      refine own_step (fun _ zk => XS.iloadN X0.here hx rfl (hb hby d8_13) rfl zk) ?_
      show own_E p e below _ (s₁.setTop (mkF m 14 #[.val (.int (Int32.ofNat n)), .val (.int (Int32.ofNat k))] [(.int (Int32.ofNat n)), (.int (Int32.ofNat k))]))
      refine own_step (fun _ zk => XS.iconst X0.here hx rfl (hb hby d8_14) zk) ?_
      show own_E p e below _ (s₁.setTop (mkF m 15 #[.val (.int (Int32.ofNat n)), .val (.int (Int32.ofNat k))] [(.int (1 : Int32)), (.int (Int32.ofNat n)), (.int (Int32.ofNat k))]))
      refine own_step (fun _ zk => XS.isub X0.here hx rfl (hb hby d8_15) rfl zk) ?_
      show own_E p e below _ (s₁.setTop (mkF m 16 #[.val (.int (Int32.ofNat n)), .val (.int (Int32.ofNat k))] [(.int ((Int32.ofNat n) - (1 : Int32))), (.int (Int32.ofNat k))]))
      by_cases hc16 : (Int32.ofNat k) = ((Int32.ofNat n) - (1 : Int32))
      · skip
        refine own_step (fun _ zk => XS.icmpNo X0.here hx rfl (hb hby d8_16) rfl (teq hc16).2 zk) ?_
        show own_E p e below _ (s₁.setTop (mkF m 19 #[.val (.int (Int32.ofNat n)), .val (.int (Int32.ofNat k))] []))
        refine own_step (fun _ zk => XS.iloadN X0.here hx rfl (hb hby d8_19) rfl zk) ?_
        show own_E p e below _ (s₁.setTop (mkF m 20 #[.val (.int (Int32.ofNat n)), .val (.int (Int32.ofNat k))] [(.int (Int32.ofNat n))]))
        refine own_ret X0 hlk (v := some (.int (Int32.ofNat n))) (fun h => by rw [Bd.returns] at h; cases h) ?_ (by decide) (by decide) (fun fs hr => retI X0 hx Bd.returns (hb hby d8_20) hr)
        show Q8 Z n k h0 n0 _ s₁.heap _
        rw [e0]
        exact ⟨congrArg (fun z => some (Value.int z)) ((own_choose n (by omega) k (by omega) hk1 hkn).symm.trans (by rw [if_neg hc2, if_neg hc9, if_pos hc16])).symm, N0, rfl⟩
      · skip
        refine own_step (fun _ zk => XS.icmpYes X0.here hx rfl (pc0 := 16) (pc' := 21) rfl (hb hby d8_16) rfl (feq hc16).2 (by decide) (by decide) zk) ?_
        show own_E p e below _ (s₁.setTop (mkF m 21 #[.val (.int (Int32.ofNat n)), .val (.int (Int32.ofNat k))] []))
        refine own_step (fun _ zk => XS.bipush X0.here hx rfl (hb hby d8_21) zk) ?_
        show own_E p e below _ (s₁.setTop (mkF m 23 #[.val (.int (Int32.ofNat n)), .val (.int (Int32.ofNat k))] [(.int (6 : Int32))]))
        refine own_ret X0 hlk (v := some (.int (6 : Int32))) (fun h => by rw [Bd.returns] at h; cases h) ?_ (by decide) (by decide) (fun fs hr => retI X0 hx Bd.returns (hb hby d8_23) hr)
        show Q8 Z n k h0 n0 _ s₁.heap _
        rw [e0]
        exact ⟨congrArg (fun z => some (Value.int z)) ((own_choose n (by omega) k (by omega) hk1 hkn).symm.trans (by rw [if_neg hc2, if_neg hc9, if_neg hc16])).symm, N0, rfl⟩
theorem pd_0_0 : parseMethodDescriptor "(II)I" = some ⟨[.int, .int], some .int⟩ := by decide +kernel
theorem pd_0_1 : parseMethodDescriptor "(II)V" = some ⟨[.int, .int], none⟩ := by decide +kernel
theorem pd_0_2 : parseMethodDescriptor "()Z" = some ⟨[], some .boolean⟩ := by decide +kernel
theorem pd_0_3 : parseMethodDescriptor "()[I" = some ⟨[], some (.array .int)⟩ := by decide +kernel
theorem pn_0 : plainName "com/example/tallier/tallier/protocol/RecoverySetsHasNextPinLaw" = true := by first | (simp [plainName, overriddenIn]; done) | decide +kernel
theorem ef_0 (m : MethodId) (p1 : Int32) (p2 : Int32) (p3 : Int32)  : entryFrame m #[(.int p1), (.int p2), (.int p3)] maxLocals = mkF m 0 #[.val (.int p1), .val (.int p2), .val (.int p3), .unset, .unset, .unset, .unset, .unset, .unset, .unset] [] := by first | (simp [entryFrame, mkF, argsToLocals, Value.category, maxLocals]; done) | rfl
def Q0 (Z : State) (p1 : Int32) (p2 : Int32) (p3 : Int32)  (h0 : Heap) (n0 : Nat) (v : Option Value) (h : Heap) (L : List Loc) : Prop := v = some (.int 1) ∧ Fr n0 L
set_option maxRecDepth 65536 in
set_option maxHeartbeats 40000000 in
theorem rm0 (l : Launch) (Z : State) (a0 : Array Value) (hw : ∀ d ∈ tables_1, d.before a0 Z = true) (ws : List Jvm.Cond) (p1 : Int32) (p2 : Int32) (p3 : Int32)  (h0 : Heap) (n0 : Nat) (Z0 : n0 ≤ h0.size)  :
    MetFree l x (head1 (Jvm.Cond.code x code maxLocals ret :: ws) room_1) (fun zA zU => zA = #[(.int p1), (.int p2), (.int p3)] ∧ Z.Warmed39 zU.vm ∧ zU.heap = h0) (fun _ _ _ _ _ => True) (fun _ zU zo zT => ∃ zv zL, zo = .returned zv ∧ Q0 Z p1 p2 p3 h0 n0 zv zT.heap zL ∧ FrameEnd zU zo zT zL room_1.cells room_1.slots) := by
  refine MetFree.of_bodySF (plainFor_of_name pn_0) hisR ?_
  intro p e s m args below meth c s₁ Bd hml0 hP hK
  obtain ⟨rfl, hZ, hh⟩ := hP
  have hx := Bd.exec
  have hby := Bd.bytes
  have hml : c.maxLocals = 10 := hml0
  have hown : s.vm.findClass "com/example/tallier/tallier/protocol/RecoverySetsHasNextPinLaw" = some m.cls := findClass_of_methodNamed Bd.named
  have hnm := (name_of_methodNamed Bd.named Bd.method).1
  have hlk : meth.locks = false := Bd.notSynchronized
  have X0 : Stand p l e room_1 s m #[(.int p1), (.int p2), (.int p3)] below meth c s₁ [] 0 0 := Stand.of_body Bd
  have e0 : s₁.heap = h0 := by rw [← hh, Bd.state]; rfl
  have N0 := Fr.nil n0
  refine own_step (p := p) (e := e) (below := below) (U' := s₁.setTop (mkF m 0 #[.val (.int p1), .val (.int p2), .val (.int p3), .unset, .unset, .unset, .unset, .unset, .unset, .unset] [])) (fun _ zk => castTop (ef_0 m p1 p2 p3 ) zk) ?_
  have K_0 : Keep h0 h0 [] := Keep.refl _ _
  refine own_step (fun _ zk => XS.iconst X0.here hx rfl (hb hby at_0) zk) ?_
  show own_E p e below _ (s₁.setTop (mkF m 1 #[.val (.int p1), .val (.int p2), .val (.int p3), .unset, .unset, .unset, .unset, .unset, .unset, .unset] [(.int (1 : Int32))]))
  refine own_step (fun _ zk => XS.iloadN X0.here hx rfl (hb hby at_1) rfl zk) ?_
  show own_E p e below _ (s₁.setTop (mkF m 2 #[.val (.int p1), .val (.int p2), .val (.int p3), .unset, .unset, .unset, .unset, .unset, .unset, .unset] [(.int p1), (.int (1 : Int32))]))
  refine own_step (fun _ zk => XS.iconst X0.here hx rfl (hb hby at_2) zk) ?_
  show own_E p e below _ (s₁.setTop (mkF m 3 #[.val (.int p1), .val (.int p2), .val (.int p3), .unset, .unset, .unset, .unset, .unset, .unset, .unset] [(.int (3 : Int32)), (.int p1), (.int (1 : Int32))]))
  refine own_step (fun _ zk => XS.iand X0.here hx rfl (hb hby at_3) rfl zk) ?_
  show own_E p e below _ (s₁.setTop (mkF m 4 #[.val (.int p1), .val (.int p2), .val (.int p3), .unset, .unset, .unset, .unset, .unset, .unset, .unset] [(.int (p1 &&& (3 : Int32))), (.int (1 : Int32))]))
  refine own_step (fun _ zk => XS.iadd X0.here hx rfl (hb hby at_4) rfl zk) ?_
  show own_E p e below _ (s₁.setTop (mkF m 5 #[.val (.int p1), .val (.int p2), .val (.int p3), .unset, .unset, .unset, .unset, .unset, .unset, .unset] [(.int ((1 : Int32) + (p1 &&& (3 : Int32))))]))
  generalize hNN : ((1 : Int32) + (p1 &&& (3 : Int32))) = NN
  show own_E p e below _ (s₁.setTop (mkF m 5 #[.val (.int p1), .val (.int p2), .val (.int p3), .unset, .unset, .unset, .unset, .unset, .unset, .unset] [(.int NN)]))
  obtain ⟨n, hNe, hn1, hn4⟩ := own_n _ _ hNN
  subst hNe
  show own_E p e below _ (s₁.setTop (mkF m 5 #[.val (.int p1), .val (.int p2), .val (.int p3), .unset, .unset, .unset, .unset, .unset, .unset, .unset] [(.int (Int32.ofNat n))]))
  refine own_step (fun _ zk => XS.istoreN X0.here hx rfl (hb hby at_5) rfl (l' := #[.val (.int p1), .val (.int p2), .val (.int p3), .val (.int (Int32.ofNat n)), .unset, .unset, .unset, .unset, .unset, .unset]) rfl zk) ?_
  show own_E p e below _ (s₁.setTop (mkF m 6 #[.val (.int p1), .val (.int p2), .val (.int p3), .val (.int (Int32.ofNat n)), .unset, .unset, .unset, .unset, .unset, .unset] []))
  refine own_step (fun _ zk => XS.iconst X0.here hx rfl (hb hby at_6) zk) ?_
  show own_E p e below _ (s₁.setTop (mkF m 7 #[.val (.int p1), .val (.int p2), .val (.int p3), .val (.int (Int32.ofNat n)), .unset, .unset, .unset, .unset, .unset, .unset] [(.int (1 : Int32))]))
  refine own_step (fun _ zk => XS.iloadN X0.here hx rfl (hb hby at_7) rfl zk) ?_
  show own_E p e below _ (s₁.setTop (mkF m 8 #[.val (.int p1), .val (.int p2), .val (.int p3), .val (.int (Int32.ofNat n)), .unset, .unset, .unset, .unset, .unset, .unset] [(.int p2), (.int (1 : Int32))]))
  refine own_step (fun _ zk => X0.ldcInt hx (v := 2147483647) hown (mvT hZ (hw _ (List.mem_of_getElem? (i := 0) rfl))) (g := (mkF m 8 #[.val (.int p1), .val (.int p2), .val (.int p3), .val (.int (Int32.ofNat n)), .unset, .unset, .unset, .unset, .unset, .unset] [(.int p2), (.int (1 : Int32))])) rfl (hb hby at_8) _ zk) ?_
  show own_E p e below _ (s₁.setTop (mkF m 10 #[.val (.int p1), .val (.int p2), .val (.int p3), .val (.int (Int32.ofNat n)), .unset, .unset, .unset, .unset, .unset, .unset] [(.int (2147483647 : Int32)), (.int p2), (.int (1 : Int32))]))
  refine own_step (fun _ zk => XS.iand X0.here hx rfl (hb hby at_10) rfl zk) ?_
  show own_E p e below _ (s₁.setTop (mkF m 11 #[.val (.int p1), .val (.int p2), .val (.int p3), .val (.int (Int32.ofNat n)), .unset, .unset, .unset, .unset, .unset, .unset] [(.int (p2 &&& (2147483647 : Int32))), (.int (1 : Int32))]))
  refine own_step (fun _ zk => XS.iloadN X0.here hx rfl (hb hby at_11) rfl zk) ?_
  show own_E p e below _ (s₁.setTop (mkF m 12 #[.val (.int p1), .val (.int p2), .val (.int p3), .val (.int (Int32.ofNat n)), .unset, .unset, .unset, .unset, .unset, .unset] [(.int (Int32.ofNat n)), (.int (p2 &&& (2147483647 : Int32))), (.int (1 : Int32))]))
  refine own_step (fun _ zk => XS.irem X0.here hx rfl (hb hby at_12) rfl (own_nz hn1 (by omega)) zk) ?_
  show own_E p e below _ (s₁.setTop (mkF m 13 #[.val (.int p1), .val (.int p2), .val (.int p3), .val (.int (Int32.ofNat n)), .unset, .unset, .unset, .unset, .unset, .unset] [(.int ((p2 &&& (2147483647 : Int32)) - ((p2 &&& (2147483647 : Int32)) / (Int32.ofNat n)) * (Int32.ofNat n))), (.int (1 : Int32))]))
  refine own_step (fun _ zk => XS.iadd X0.here hx rfl (hb hby at_13) rfl zk) ?_
  show own_E p e below _ (s₁.setTop (mkF m 14 #[.val (.int p1), .val (.int p2), .val (.int p3), .val (.int (Int32.ofNat n)), .unset, .unset, .unset, .unset, .unset, .unset] [(.int ((1 : Int32) + ((p2 &&& (2147483647 : Int32)) - ((p2 &&& (2147483647 : Int32)) / (Int32.ofNat n)) * (Int32.ofNat n))))]))
  obtain ⟨k, e_k, ⟨hk1, hkn⟩⟩ := own_k p2 n hn1 hn4
  rw [show ((1 : Int32) + ((p2 &&& (2147483647 : Int32)) - ((p2 &&& (2147483647 : Int32)) / (Int32.ofNat n)) * (Int32.ofNat n))) = (Int32.ofNat k) from e_k]
  show own_E p e below _ (s₁.setTop (mkF m 14 #[.val (.int p1), .val (.int p2), .val (.int p3), .val (.int (Int32.ofNat n)), .unset, .unset, .unset, .unset, .unset, .unset] [(.int (Int32.ofNat k))]))
  obtain ⟨ht1, ht6⟩ := own_tot_le n (by omega) k (by omega) hk1 hkn
  refine own_step (fun _ zk => XS.istore X0.here hx rfl (hb hby at_14) rfl (l' := #[.val (.int p1), .val (.int p2), .val (.int p3), .val (.int (Int32.ofNat n)), .val (.int (Int32.ofNat k)), .unset, .unset, .unset, .unset, .unset]) rfl zk) ?_
  show own_E p e below _ (s₁.setTop (mkF m 16 #[.val (.int p1), .val (.int p2), .val (.int p3), .val (.int (Int32.ofNat n)), .val (.int (Int32.ofNat k)), .unset, .unset, .unset, .unset, .unset] []))
  refine own_step (fun _ zk => XS.iloadN X0.here hx rfl (hb hby at_16) rfl zk) ?_
  show own_E p e below _ (s₁.setTop (mkF m 17 #[.val (.int p1), .val (.int p2), .val (.int p3), .val (.int (Int32.ofNat n)), .val (.int (Int32.ofNat k)), .unset, .unset, .unset, .unset, .unset] [(.int (Int32.ofNat n))]))
  refine own_step (fun _ zk => XS.iload X0.here hx rfl (hb hby at_17) rfl zk) ?_
  show own_E p e below _ (s₁.setTop (mkF m 19 #[.val (.int p1), .val (.int p2), .val (.int p3), .val (.int (Int32.ofNat n)), .val (.int (Int32.ofNat k)), .unset, .unset, .unset, .unset, .unset] [(.int (Int32.ofNat k)), (.int (Int32.ofNat n))]))
  obtain ⟨_, _, ⟨T1, zL1, zK1, zN1⟩, -, X1, ⟨zLc1, hQ1, zl1, zy1, zz1⟩, st1⟩ := Jvm.LawKit.callS X0 hx (y := (⟨"com/example/tallier/tallier/protocol/RecoverySetsHasNextPinLaw", "choose", "(II)I"⟩ : MethodName)) hown (mvT hZ (hw _ (List.mem_of_getElem? (i := 1) rfl))) (mvT hZ (hw _ (List.mem_of_getElem? (i := 2) rfl))) (mvT hZ (hw _ (List.mem_of_getElem? (i := 3) rfl))) (mvT hZ (hw _ (List.mem_of_getElem? (i := 4) rfl))) (by decide) (backOf (W := 0) (rm8 l Z a0 hw []  n k h0 n0 (Nat.le_trans Z0 K_0.1) hk1 hkn hn4) hZ (hw _ (List.mem_of_getElem? (i := 4) rfl)) (hw _ (List.mem_of_getElem? (i := 3) rfl)) (by decide) (by decide)) (g := (mkF m 19 #[.val (.int p1), .val (.int p2), .val (.int p3), .val (.int (Int32.ofNat n)), .val (.int (Int32.ofNat k)), .unset, .unset, .unset, .unset, .unset] [(.int (Int32.ofNat k)), (.int (Int32.ofNat n))])) rfl (by rw [hml]; rfl) (argsL := [(.int (Int32.ofNat n)), (.int (Int32.ofNat k))]) (rest := []) (lenOf pd_0_0 rfl) rfl (by show 2 * 0 + _ ≤ _; exact Nat.le_of_eq rfl) (hb hby at_19) (fun _ _ => ⟨rfl, e0, (by decide : 0 + 0 ≤ _), (by decide : 0 + 0 ≤ _)⟩)
  dsimp only [Pt.U, Pt.locs, Pt.cells, Pt.slots] at X1 zl1 zy1 zz1 st1 hQ1
  rw [show zK1 = 0 from zy1, show zN1 = 0 from zz1] at X1
  obtain ⟨rfl, N1q, e1⟩ := hQ1
  have N1 : Fr n0 zL1 := by rw [zl1]; exact Fr.app N0 N1q
  refine own_step (st1) ?_
  show own_E p e below _ (T1.setTop (mkF m 22 #[.val (.int p1), .val (.int p2), .val (.int p3), .val (.int (Int32.ofNat n)), .val (.int (Int32.ofNat k)), .unset, .unset, .unset, .unset, .unset] [(.int (Int32.ofNat (own_total n k)))]))
  refine own_step (fun _ zk => XS.istore X1.here hx rfl (hb hby at_22) rfl (l' := #[.val (.int p1), .val (.int p2), .val (.int p3), .val (.int (Int32.ofNat n)), .val (.int (Int32.ofNat k)), .val (.int (Int32.ofNat (own_total n k))), .unset, .unset, .unset, .unset]) rfl zk) ?_
  show own_E p e below _ (T1.setTop (mkF m 24 #[.val (.int p1), .val (.int p2), .val (.int p3), .val (.int (Int32.ofNat n)), .val (.int (Int32.ofNat k)), .val (.int (Int32.ofNat (own_total n k))), .unset, .unset, .unset, .unset] []))
  refine own_step (fun _ zk => XS.iloadN X1.here hx rfl (hb hby at_24) rfl zk) ?_
  show own_E p e below _ (T1.setTop (mkF m 25 #[.val (.int p1), .val (.int p2), .val (.int p3), .val (.int (Int32.ofNat n)), .val (.int (Int32.ofNat k)), .val (.int (Int32.ofNat (own_total n k))), .unset, .unset, .unset, .unset] [(.int p3)]))
  refine own_step (fun _ zk => X1.ldcInt hx (v := 2147483647) hown (mvT hZ (hw _ (List.mem_of_getElem? (i := 0) rfl))) (g := (mkF m 25 #[.val (.int p1), .val (.int p2), .val (.int p3), .val (.int (Int32.ofNat n)), .val (.int (Int32.ofNat k)), .val (.int (Int32.ofNat (own_total n k))), .unset, .unset, .unset, .unset] [(.int p3)])) rfl (hb hby at_25) _ zk) ?_
  show own_E p e below _ (T1.setTop (mkF m 27 #[.val (.int p1), .val (.int p2), .val (.int p3), .val (.int (Int32.ofNat n)), .val (.int (Int32.ofNat k)), .val (.int (Int32.ofNat (own_total n k))), .unset, .unset, .unset, .unset] [(.int (2147483647 : Int32)), (.int p3)]))
  refine own_step (fun _ zk => XS.iand X1.here hx rfl (hb hby at_27) rfl zk) ?_
  show own_E p e below _ (T1.setTop (mkF m 28 #[.val (.int p1), .val (.int p2), .val (.int p3), .val (.int (Int32.ofNat n)), .val (.int (Int32.ofNat k)), .val (.int (Int32.ofNat (own_total n k))), .unset, .unset, .unset, .unset] [(.int (p3 &&& (2147483647 : Int32)))]))
  refine own_step (fun _ zk => XS.iload X1.here hx rfl (hb hby at_28) rfl zk) ?_
  show own_E p e below _ (T1.setTop (mkF m 30 #[.val (.int p1), .val (.int p2), .val (.int p3), .val (.int (Int32.ofNat n)), .val (.int (Int32.ofNat k)), .val (.int (Int32.ofNat (own_total n k))), .unset, .unset, .unset, .unset] [(.int (Int32.ofNat (own_total n k))), (.int (p3 &&& (2147483647 : Int32)))]))
  refine own_step (fun _ zk => XS.iconst X1.here hx rfl (hb hby at_30) zk) ?_
  show own_E p e below _ (T1.setTop (mkF m 31 #[.val (.int p1), .val (.int p2), .val (.int p3), .val (.int (Int32.ofNat n)), .val (.int (Int32.ofNat k)), .val (.int (Int32.ofNat (own_total n k))), .unset, .unset, .unset, .unset] [(.int (1 : Int32)), (.int (Int32.ofNat (own_total n k))), (.int (p3 &&& (2147483647 : Int32)))]))
  refine own_step (fun _ zk => XS.iadd X1.here hx rfl (hb hby at_31) rfl zk) ?_
  show own_E p e below _ (T1.setTop (mkF m 32 #[.val (.int p1), .val (.int p2), .val (.int p3), .val (.int (Int32.ofNat n)), .val (.int (Int32.ofNat k)), .val (.int (Int32.ofNat (own_total n k))), .unset, .unset, .unset, .unset] [(.int ((Int32.ofNat (own_total n k)) + (1 : Int32))), (.int (p3 &&& (2147483647 : Int32)))]))
  refine own_step (fun _ zk => XS.irem X1.here hx rfl (hb hby at_32) rfl (own_jnz _ ht6) zk) ?_
  show own_E p e below _ (T1.setTop (mkF m 33 #[.val (.int p1), .val (.int p2), .val (.int p3), .val (.int (Int32.ofNat n)), .val (.int (Int32.ofNat k)), .val (.int (Int32.ofNat (own_total n k))), .unset, .unset, .unset, .unset] [(.int ((p3 &&& (2147483647 : Int32)) - ((p3 &&& (2147483647 : Int32)) / ((Int32.ofNat (own_total n k)) + (1 : Int32))) * ((Int32.ofNat (own_total n k)) + (1 : Int32))))]))
  obtain ⟨j, e_j, hj⟩ := own_j p3 (own_total n k) ht6
  rw [show ((p3 &&& (2147483647 : Int32)) - ((p3 &&& (2147483647 : Int32)) / ((Int32.ofNat (own_total n k)) + (1 : Int32))) * ((Int32.ofNat (own_total n k)) + (1 : Int32))) = (Int32.ofNat j) from e_j]
  show own_E p e below _ (T1.setTop (mkF m 33 #[.val (.int p1), .val (.int p2), .val (.int p3), .val (.int (Int32.ofNat n)), .val (.int (Int32.ofNat k)), .val (.int (Int32.ofNat (own_total n k))), .unset, .unset, .unset, .unset] [(.int (Int32.ofNat j))]))
  refine own_step (fun _ zk => XS.istore X1.here hx rfl (hb hby at_33) rfl (l' := #[.val (.int p1), .val (.int p2), .val (.int p3), .val (.int (Int32.ofNat n)), .val (.int (Int32.ofNat k)), .val (.int (Int32.ofNat (own_total n k))), .val (.int (Int32.ofNat j)), .unset, .unset, .unset]) rfl zk) ?_
  show own_E p e below _ (T1.setTop (mkF m 35 #[.val (.int p1), .val (.int p2), .val (.int p3), .val (.int (Int32.ofNat n)), .val (.int (Int32.ofNat k)), .val (.int (Int32.ofNat (own_total n k))), .val (.int (Int32.ofNat j)), .unset, .unset, .unset] []))
  obtain ⟨T2, h2, X2, e2, E2, A2, D2, -, st2⟩ := newO X1 hx hZ hown (hw _ (List.mem_of_getElem? (i := 5) rfl)) (hw _ (List.mem_of_getElem? (i := 6) rfl)) (hw _ (List.mem_of_getElem? (i := 7) rfl)) e1 (g := (mkF m 35 #[.val (.int p1), .val (.int p2), .val (.int p3), .val (.int (Int32.ofNat n)), .val (.int (Int32.ofNat k)), .val (.int (Int32.ofNat (own_total n k))), .val (.int (Int32.ofNat j)), .unset, .unset, .unset] [])) rfl (hb hby at_35) (by decide) (by decide)
  obtain ⟨a, g_a⟩ : ∃ z, z = h0.size := ⟨_, rfl⟩
  rw [← g_a] at A2 D2 st2
  have gh_a : h0.size ≤ a := Nat.le_trans K_0.1 (Nat.le_of_eq g_a.symm)
  have ge_a : n0 ≤ a := Nat.le_trans Z0 gh_a
  have K_2 := Keep.ext K_0 E2
  have Fn_2 : Fld Z h2 a "com/example/tallier/tallier/protocol/RecoverySets" "n" "I" (.int 0) := D2 (Or.inr (hw _ (List.mem_of_getElem? (i := 15) rfl))) (ty := .int) (by decide)
  have Fk_2 : Fld Z h2 a "com/example/tallier/tallier/protocol/RecoverySets" "k" "I" (.int 0) := D2 (Or.inr (hw _ (List.mem_of_getElem? (i := 17) rfl))) (ty := .int) (by decide)
  have Fg_2 : Fld Z h2 a "com/example/tallier/tallier/protocol/RecoverySets" "runsGiven" "I" (.int 0) := D2 (Or.inl (hw _ (List.mem_of_getElem? (i := 30) rfl))) (ty := .int) (by decide)
  have Fc_2 : Fld Z h2 a "com/example/tallier/tallier/protocol/RecoverySets" "colex" "[I" .null := D2 (Or.inl (hw _ (List.mem_of_getElem? (i := 24) rfl))) (ty := (.array .int)) (by decide)
  have Fp_2 : Fld Z h2 a "com/example/tallier/tallier/protocol/RecoverySets" "pending" "[I" .null := D2 (Or.inl (hw _ (List.mem_of_getElem? (i := 32) rfl))) (ty := (.array .int)) (by decide)
  refine own_step st2 ?_
  show own_E p e below _ (T2.setTop (mkF m 38 #[.val (.int p1), .val (.int p2), .val (.int p3), .val (.int (Int32.ofNat n)), .val (.int (Int32.ofNat k)), .val (.int (Int32.ofNat (own_total n k))), .val (.int (Int32.ofNat j)), .unset, .unset, .unset] [(.ref a)]))
  refine own_step (fun _ zk => XS.dup X2.here hx rfl (hb hby at_38) rfl rfl zk) ?_
  show own_E p e below _ (T2.setTop (mkF m 39 #[.val (.int p1), .val (.int p2), .val (.int p3), .val (.int (Int32.ofNat n)), .val (.int (Int32.ofNat k)), .val (.int (Int32.ofNat (own_total n k))), .val (.int (Int32.ofNat j)), .unset, .unset, .unset] [(.ref a), (.ref a)]))
  refine own_step (fun _ zk => XS.iloadN X2.here hx rfl (hb hby at_39) rfl zk) ?_
  show own_E p e below _ (T2.setTop (mkF m 40 #[.val (.int p1), .val (.int p2), .val (.int p3), .val (.int (Int32.ofNat n)), .val (.int (Int32.ofNat k)), .val (.int (Int32.ofNat (own_total n k))), .val (.int (Int32.ofNat j)), .unset, .unset, .unset] [(.int (Int32.ofNat n)), (.ref a), (.ref a)]))
  refine own_step (fun _ zk => XS.iload X2.here hx rfl (hb hby at_40) rfl zk) ?_
  show own_E p e below _ (T2.setTop (mkF m 42 #[.val (.int p1), .val (.int p2), .val (.int p3), .val (.int (Int32.ofNat n)), .val (.int (Int32.ofNat k)), .val (.int (Int32.ofNat (own_total n k))), .val (.int (Int32.ofNat j)), .unset, .unset, .unset] [(.int (Int32.ofNat k)), (.int (Int32.ofNat n)), (.ref a), (.ref a)]))
  obtain ⟨_, _, ⟨T3, zL3, zK3, zN3⟩, -, X3, ⟨zLc3, hQ3, zl3, zy3, zz3⟩, st3⟩ := X2.specialBack hx (y := (⟨"com/example/tallier/tallier/protocol/RecoverySets", "<init>", "(II)V"⟩ : MethodName)) rfl hown (mvT hZ (hw _ (List.mem_of_getElem? (i := 8) rfl))) (mvT hZ (hw _ (List.mem_of_getElem? (i := 9) rfl))) (mvT hZ (hw _ (List.mem_of_getElem? (i := 10) rfl))) (by decide) (backOf (W := 1) (rm7 l Z a0 hw [] a n k h2 n0 (Nat.le_trans Z0 K_2.1) hk1 hkn hn4 ge_a A2 Fn_2 Fk_2 Fg_2 Fc_2 Fp_2) hZ (hw _ (List.mem_of_getElem? (i := 10) rfl)) (hw _ (List.mem_of_getElem? (i := 7) rfl)) (by decide) (by decide)) (g := (mkF m 42 #[.val (.int p1), .val (.int p2), .val (.int p3), .val (.int (Int32.ofNat n)), .val (.int (Int32.ofNat k)), .val (.int (Int32.ofNat (own_total n k))), .val (.int (Int32.ofNat j)), .unset, .unset, .unset] [(.int (Int32.ofNat k)), (.int (Int32.ofNat n)), (.ref a), (.ref a)])) rfl (by rw [hml]; rfl) (Steps.refl _) (a := a) (argsL := [(.int (Int32.ofNat n)), (.int (Int32.ofNat k))]) (rest := [(.ref a)]) (lenOf pd_0_1 rfl) rfl (by show 2 * 0 + _ ≤ _; exact Nat.le_of_eq rfl) (hb hby at_42) (fun _ _ => ⟨rfl, e2, (by decide : 1 + 5 ≤ _), (by decide : 5 + 20 ≤ _)⟩)
  dsimp only [Pt.U, Pt.locs, Pt.cells, Pt.slots] at X3 zl3 zy3 zz3 st3 hQ3
  rw [show zK3 = 6 from zy3, show zN3 = 25 from zz3] at X3
  generalize e3 : T3.heap = h3 at hQ3
  obtain ⟨rfl, N3q, Kq3, vc3, vp3, HO3, HR3, HN3⟩ := hQ3
  have K_3 := Keep.trans K_2 Kq3 (allS (Or.inr gh_a) all0)
  have N3 : Fr n0 zL3 := by rw [zl3]; exact Fr.app N1 N3q
  refine own_step (fun _ zk => (st3).trans zk) ?_
  show own_E p e below _ (T3.setTop (mkF m 45 #[.val (.int p1), .val (.int p2), .val (.int p3), .val (.int (Int32.ofNat n)), .val (.int (Int32.ofNat k)), .val (.int (Int32.ofNat (own_total n k))), .val (.int (Int32.ofNat j)), .unset, .unset, .unset] [(.ref a)]))
  refine own_step (fun _ zk => XS.astore X3.here hx rfl (hb hby at_45) rfl rfl (l' := #[.val (.int p1), .val (.int p2), .val (.int p3), .val (.int (Int32.ofNat n)), .val (.int (Int32.ofNat k)), .val (.int (Int32.ofNat (own_total n k))), .val (.int (Int32.ofNat j)), .val (.ref a), .unset, .unset]) rfl zk) ?_
  show own_E p e below _ (T3.setTop (mkF m 47 #[.val (.int p1), .val (.int p2), .val (.int p3), .val (.int (Int32.ofNat n)), .val (.int (Int32.ofNat k)), .val (.int (Int32.ofNat (own_total n k))), .val (.int (Int32.ofNat j)), .val (.ref a), .unset, .unset] []))
  refine own_step (fun _ zk => XS.iload X3.here hx rfl (hb hby at_47) rfl zk) ?_
  show own_E p e below _ (T3.setTop (mkF m 49 #[.val (.int p1), .val (.int p2), .val (.int p3), .val (.int (Int32.ofNat n)), .val (.int (Int32.ofNat k)), .val (.int (Int32.ofNat (own_total n k))), .val (.int (Int32.ofNat j)), .val (.ref a), .unset, .unset] [(.int (Int32.ofNat j))]))
  refine own_step (fun _ zk => XS.iconst X3.here hx rfl (hb hby at_49) zk) ?_
  show own_E p e below _ (T3.setTop (mkF m 50 #[.val (.int p1), .val (.int p2), .val (.int p3), .val (.int (Int32.ofNat n)), .val (.int (Int32.ofNat k)), .val (.int (Int32.ofNat (own_total n k))), .val (.int (Int32.ofNat j)), .val (.ref a), .unset, .unset] [(.int (1 : Int32)), (.int (Int32.ofNat j))]))
  by_cases jm1 : j < 1
  · skip
    refine own_step (fun _ zk => XS.icmpYes X3.here hx rfl (pc0 := 50) (pc' := 59) rfl (hb hby at_50) rfl (tlt ((own_lt j 1 (by omega) (by omega)).mpr (by omega))).1 (by decide) (by decide) zk) ?_
    show own_E p e below _ (T3.setTop (mkF m 59 #[.val (.int p1), .val (.int p2), .val (.int p3), .val (.int (Int32.ofNat n)), .val (.int (Int32.ofNat k)), .val (.int (Int32.ofNat (own_total n k))), .val (.int (Int32.ofNat j)), .val (.ref a), .unset, .unset] []))
    refine own_step (fun _ zk => XS.iload X3.here hx rfl (hb hby at_59) rfl zk) ?_
    show own_E p e below _ (T3.setTop (mkF m 61 #[.val (.int p1), .val (.int p2), .val (.int p3), .val (.int (Int32.ofNat n)), .val (.int (Int32.ofNat k)), .val (.int (Int32.ofNat (own_total n k))), .val (.int (Int32.ofNat j)), .val (.ref a), .unset, .unset] [(.int (Int32.ofNat j))]))
    refine own_step (fun _ zk => XS.iconst X3.here hx rfl (hb hby at_61) zk) ?_
    show own_E p e below _ (T3.setTop (mkF m 62 #[.val (.int p1), .val (.int p2), .val (.int p3), .val (.int (Int32.ofNat n)), .val (.int (Int32.ofNat k)), .val (.int (Int32.ofNat (own_total n k))), .val (.int (Int32.ofNat j)), .val (.ref a), .unset, .unset] [(.int (2 : Int32)), (.int (Int32.ofNat j))]))
    refine own_step (fun _ zk => XS.icmpYes X3.here hx rfl (pc0 := 62) (pc' := 71) rfl (hb hby at_62) rfl (tlt ((own_lt j 2 (by omega) (by omega)).mpr (by omega))).1 (by decide) (by decide) zk) ?_
    show own_E p e below _ (T3.setTop (mkF m 71 #[.val (.int p1), .val (.int p2), .val (.int p3), .val (.int (Int32.ofNat n)), .val (.int (Int32.ofNat k)), .val (.int (Int32.ofNat (own_total n k))), .val (.int (Int32.ofNat j)), .val (.ref a), .unset, .unset] []))
    refine own_step (fun _ zk => XS.iload X3.here hx rfl (hb hby at_71) rfl zk) ?_
    show own_E p e below _ (T3.setTop (mkF m 73 #[.val (.int p1), .val (.int p2), .val (.int p3), .val (.int (Int32.ofNat n)), .val (.int (Int32.ofNat k)), .val (.int (Int32.ofNat (own_total n k))), .val (.int (Int32.ofNat j)), .val (.ref a), .unset, .unset] [(.int (Int32.ofNat j))]))
    refine own_step (fun _ zk => XS.iconst X3.here hx rfl (hb hby at_73) zk) ?_
    show own_E p e below _ (T3.setTop (mkF m 74 #[.val (.int p1), .val (.int p2), .val (.int p3), .val (.int (Int32.ofNat n)), .val (.int (Int32.ofNat k)), .val (.int (Int32.ofNat (own_total n k))), .val (.int (Int32.ofNat j)), .val (.ref a), .unset, .unset] [(.int (3 : Int32)), (.int (Int32.ofNat j))]))
    refine own_step (fun _ zk => XS.icmpYes X3.here hx rfl (pc0 := 74) (pc' := 83) rfl (hb hby at_74) rfl (tlt ((own_lt j 3 (by omega) (by omega)).mpr (by omega))).1 (by decide) (by decide) zk) ?_
    show own_E p e below _ (T3.setTop (mkF m 83 #[.val (.int p1), .val (.int p2), .val (.int p3), .val (.int (Int32.ofNat n)), .val (.int (Int32.ofNat k)), .val (.int (Int32.ofNat (own_total n k))), .val (.int (Int32.ofNat j)), .val (.ref a), .unset, .unset] []))
    refine own_step (fun _ zk => XS.iload X3.here hx rfl (hb hby at_83) rfl zk) ?_
    show own_E p e below _ (T3.setTop (mkF m 85 #[.val (.int p1), .val (.int p2), .val (.int p3), .val (.int (Int32.ofNat n)), .val (.int (Int32.ofNat k)), .val (.int (Int32.ofNat (own_total n k))), .val (.int (Int32.ofNat j)), .val (.ref a), .unset, .unset] [(.int (Int32.ofNat j))]))
    refine own_step (fun _ zk => XS.iconst X3.here hx rfl (hb hby at_85) zk) ?_
    show own_E p e below _ (T3.setTop (mkF m 86 #[.val (.int p1), .val (.int p2), .val (.int p3), .val (.int (Int32.ofNat n)), .val (.int (Int32.ofNat k)), .val (.int (Int32.ofNat (own_total n k))), .val (.int (Int32.ofNat j)), .val (.ref a), .unset, .unset] [(.int (4 : Int32)), (.int (Int32.ofNat j))]))
    refine own_step (fun _ zk => XS.icmpYes X3.here hx rfl (pc0 := 86) (pc' := 95) rfl (hb hby at_86) rfl (tlt ((own_lt j 4 (by omega) (by omega)).mpr (by omega))).1 (by decide) (by decide) zk) ?_
    show own_E p e below _ (T3.setTop (mkF m 95 #[.val (.int p1), .val (.int p2), .val (.int p3), .val (.int (Int32.ofNat n)), .val (.int (Int32.ofNat k)), .val (.int (Int32.ofNat (own_total n k))), .val (.int (Int32.ofNat j)), .val (.ref a), .unset, .unset] []))
    refine own_step (fun _ zk => XS.iload X3.here hx rfl (hb hby at_95) rfl zk) ?_
    show own_E p e below _ (T3.setTop (mkF m 97 #[.val (.int p1), .val (.int p2), .val (.int p3), .val (.int (Int32.ofNat n)), .val (.int (Int32.ofNat k)), .val (.int (Int32.ofNat (own_total n k))), .val (.int (Int32.ofNat j)), .val (.ref a), .unset, .unset] [(.int (Int32.ofNat j))]))
    refine own_step (fun _ zk => XS.iconst X3.here hx rfl (hb hby at_97) zk) ?_
    show own_E p e below _ (T3.setTop (mkF m 98 #[.val (.int p1), .val (.int p2), .val (.int p3), .val (.int (Int32.ofNat n)), .val (.int (Int32.ofNat k)), .val (.int (Int32.ofNat (own_total n k))), .val (.int (Int32.ofNat j)), .val (.ref a), .unset, .unset] [(.int (5 : Int32)), (.int (Int32.ofNat j))]))
    refine own_step (fun _ zk => XS.icmpYes X3.here hx rfl (pc0 := 98) (pc' := 107) rfl (hb hby at_98) rfl (tlt ((own_lt j 5 (by omega) (by omega)).mpr (by omega))).1 (by decide) (by decide) zk) ?_
    show own_E p e below _ (T3.setTop (mkF m 107 #[.val (.int p1), .val (.int p2), .val (.int p3), .val (.int (Int32.ofNat n)), .val (.int (Int32.ofNat k)), .val (.int (Int32.ofNat (own_total n k))), .val (.int (Int32.ofNat j)), .val (.ref a), .unset, .unset] []))
    refine own_step (fun _ zk => XS.iload X3.here hx rfl (hb hby at_107) rfl zk) ?_
    show own_E p e below _ (T3.setTop (mkF m 109 #[.val (.int p1), .val (.int p2), .val (.int p3), .val (.int (Int32.ofNat n)), .val (.int (Int32.ofNat k)), .val (.int (Int32.ofNat (own_total n k))), .val (.int (Int32.ofNat j)), .val (.ref a), .unset, .unset] [(.int (Int32.ofNat j))]))
    refine own_step (fun _ zk => XS.bipush X3.here hx rfl (hb hby at_109) zk) ?_
    show own_E p e below _ (T3.setTop (mkF m 111 #[.val (.int p1), .val (.int p2), .val (.int p3), .val (.int (Int32.ofNat n)), .val (.int (Int32.ofNat k)), .val (.int (Int32.ofNat (own_total n k))), .val (.int (Int32.ofNat j)), .val (.ref a), .unset, .unset] [(.int (6 : Int32)), (.int (Int32.ofNat j))]))
    refine own_step (fun _ zk => XS.icmpYes X3.here hx rfl (pc0 := 111) (pc' := 120) rfl (hb hby at_111) rfl (tlt ((own_lt j 6 (by omega) (by omega)).mpr (by omega))).1 (by decide) (by decide) zk) ?_
    show own_E p e below _ (T3.setTop (mkF m 120 #[.val (.int p1), .val (.int p2), .val (.int p3), .val (.int (Int32.ofNat n)), .val (.int (Int32.ofNat k)), .val (.int (Int32.ofNat (own_total n k))), .val (.int (Int32.ofNat j)), .val (.ref a), .unset, .unset] []))
    refine own_step (fun _ zk => XS.aload X3.here hx rfl (hb hby at_120) rfl rfl zk) ?_
    show own_E p e below _ (T3.setTop (mkF m 122 #[.val (.int p1), .val (.int p2), .val (.int p3), .val (.int (Int32.ofNat n)), .val (.int (Int32.ofNat k)), .val (.int (Int32.ofNat (own_total n k))), .val (.int (Int32.ofNat j)), .val (.ref a), .unset, .unset] [(.ref a)]))
    obtain ⟨_, _, qa4, _, qc4⟩ := isOf (T := T3) hZ e3 HO3.1
    obtain ⟨_, _, ⟨T4, zL4, zK4, zN4⟩, -, X4, ⟨zLc4, hQ4, zl4, zy4, zz4⟩, st4⟩ := X3.virtualBack hx (y := (⟨"com/example/tallier/tallier/protocol/RecoverySets", "hasNext", "()Z"⟩ : MethodName)) (z := (⟨"com/example/tallier/tallier/protocol/RecoverySets", "hasNext", "()Z"⟩ : MethodName)) hown (mvT hZ (hw _ (List.mem_of_getElem? (i := 33) rfl))) (mvT hZ (hw _ (List.mem_of_getElem? (i := 34) rfl))) (notFace_of_selects (args := #[]) (mvT hZ (hw _ (List.mem_of_getElem? (i := 36) rfl)))) (mvT hZ (hw _ (List.mem_of_getElem? (i := 36) rfl))) (mvT hZ (hw _ (List.mem_of_getElem? (i := 35) rfl))) (by decide) (backOf (W := 0) (rm5 l Z a0 hw [] a vp3 (own_run n k 0).2.2 h3 n0 (Nat.le_trans Z0 K_3.1) HO3.2.2.2.2.2 HN3) hZ (hw _ (List.mem_of_getElem? (i := 37) rfl)) (hw _ (List.mem_of_getElem? (i := 7) rfl)) (by decide) (by decide)) qa4 qc4 (g := (mkF m 122 #[.val (.int p1), .val (.int p2), .val (.int p3), .val (.int (Int32.ofNat n)), .val (.int (Int32.ofNat k)), .val (.int (Int32.ofNat (own_total n k))), .val (.int (Int32.ofNat j)), .val (.ref a), .unset, .unset] [(.ref a)])) rfl (by rw [hml]; rfl) (Steps.refl _) (argsL := []) (rest := []) (lenOf pd_0_2 rfl) rfl (by show 2 * 0 + _ ≤ _; exact Nat.le_of_eq rfl) (hb hby at_122) (fun _ _ => ⟨rfl, e3, (by decide : 6 + 0 ≤ _), (by decide : 25 + 0 ≤ _)⟩)
    dsimp only [Pt.U, Pt.locs, Pt.cells, Pt.slots] at X4 zl4 zy4 zz4 st4 hQ4
    rw [show zK4 = 6 from zy4, show zN4 = 25 from zz4] at X4
    obtain ⟨rfl, N4q, e4⟩ := hQ4
    have N4 : Fr n0 zL4 := by rw [zl4]; exact Fr.app N3 N4q
    refine own_step (fun _ zk => (st4).trans zk) ?_
    show own_E p e below _ (T4.setTop (mkF m 125 #[.val (.int p1), .val (.int p2), .val (.int p3), .val (.int (Int32.ofNat n)), .val (.int (Int32.ofNat k)), .val (.int (Int32.ofNat (own_total n k))), .val (.int (Int32.ofNat j)), .val (.ref a), .unset, .unset] [(.int (own_b (own_run n k 0).2.2))]))
    refine own_step (fun _ zk => XS.istore X4.here hx rfl (hb hby at_125) rfl (l' := #[.val (.int p1), .val (.int p2), .val (.int p3), .val (.int (Int32.ofNat n)), .val (.int (Int32.ofNat k)), .val (.int (Int32.ofNat (own_total n k))), .val (.int (Int32.ofNat j)), .val (.ref a), .val (.int (own_b (own_run n k 0).2.2)), .unset]) rfl zk) ?_
    show own_E p e below _ (T4.setTop (mkF m 127 #[.val (.int p1), .val (.int p2), .val (.int p3), .val (.int (Int32.ofNat n)), .val (.int (Int32.ofNat k)), .val (.int (Int32.ofNat (own_total n k))), .val (.int (Int32.ofNat j)), .val (.ref a), .val (.int (own_b (own_run n k 0).2.2)), .unset] []))
    refine own_step (fun _ zk => XS.aload X4.here hx rfl (hb hby at_127) rfl rfl zk) ?_
    show own_E p e below _ (T4.setTop (mkF m 129 #[.val (.int p1), .val (.int p2), .val (.int p3), .val (.int (Int32.ofNat n)), .val (.int (Int32.ofNat k)), .val (.int (Int32.ofNat (own_total n k))), .val (.int (Int32.ofNat j)), .val (.ref a), .val (.int (own_b (own_run n k 0).2.2)), .unset] [(.ref a)]))
    obtain ⟨_, _, qa5, _, qc5⟩ := isOf (T := T4) hZ e4 HO3.1
    obtain ⟨_, _, ⟨T5, zL5, zK5, zN5⟩, -, X5, ⟨zLc5, hQ5, zl5, zy5, zz5⟩, st5⟩ := X4.virtualBack hx (y := (⟨"com/example/tallier/tallier/protocol/RecoverySets", "hasNext", "()Z"⟩ : MethodName)) (z := (⟨"com/example/tallier/tallier/protocol/RecoverySets", "hasNext", "()Z"⟩ : MethodName)) hown (mvT hZ (hw _ (List.mem_of_getElem? (i := 33) rfl))) (mvT hZ (hw _ (List.mem_of_getElem? (i := 34) rfl))) (notFace_of_selects (args := #[]) (mvT hZ (hw _ (List.mem_of_getElem? (i := 36) rfl)))) (mvT hZ (hw _ (List.mem_of_getElem? (i := 36) rfl))) (mvT hZ (hw _ (List.mem_of_getElem? (i := 35) rfl))) (by decide) (backOf (W := 0) (rm5 l Z a0 hw [] a vp3 (own_run n k 0).2.2 h3 n0 (Nat.le_trans Z0 K_3.1) HO3.2.2.2.2.2 HN3) hZ (hw _ (List.mem_of_getElem? (i := 37) rfl)) (hw _ (List.mem_of_getElem? (i := 7) rfl)) (by decide) (by decide)) qa5 qc5 (g := (mkF m 129 #[.val (.int p1), .val (.int p2), .val (.int p3), .val (.int (Int32.ofNat n)), .val (.int (Int32.ofNat k)), .val (.int (Int32.ofNat (own_total n k))), .val (.int (Int32.ofNat j)), .val (.ref a), .val (.int (own_b (own_run n k 0).2.2)), .unset] [(.ref a)])) rfl (by rw [hml]; rfl) (Steps.refl _) (argsL := []) (rest := []) (lenOf pd_0_2 rfl) rfl (by show 2 * 0 + _ ≤ _; exact Nat.le_of_eq rfl) (hb hby at_129) (fun _ _ => ⟨rfl, e4, (by decide : 6 + 0 ≤ _), (by decide : 25 + 0 ≤ _)⟩)
    dsimp only [Pt.U, Pt.locs, Pt.cells, Pt.slots] at X5 zl5 zy5 zz5 st5 hQ5
    rw [show zK5 = 6 from zy5, show zN5 = 25 from zz5] at X5
    obtain ⟨rfl, N5q, e5⟩ := hQ5
    have N5 : Fr n0 zL5 := by rw [zl5]; exact Fr.app N4 N5q
    refine own_step (fun _ zk => (st5).trans zk) ?_
    show own_E p e below _ (T5.setTop (mkF m 132 #[.val (.int p1), .val (.int p2), .val (.int p3), .val (.int (Int32.ofNat n)), .val (.int (Int32.ofNat k)), .val (.int (Int32.ofNat (own_total n k))), .val (.int (Int32.ofNat j)), .val (.ref a), .val (.int (own_b (own_run n k 0).2.2)), .unset] [(.int (own_b (own_run n k 0).2.2))]))
    refine own_step (fun _ zk => XS.istore X5.here hx rfl (hb hby at_132) rfl (l' := #[.val (.int p1), .val (.int p2), .val (.int p3), .val (.int (Int32.ofNat n)), .val (.int (Int32.ofNat k)), .val (.int (Int32.ofNat (own_total n k))), .val (.int (Int32.ofNat j)), .val (.ref a), .val (.int (own_b (own_run n k 0).2.2)), .val (.int (own_b (own_run n k 0).2.2))]) rfl zk) ?_
    show own_E p e below _ (T5.setTop (mkF m 134 #[.val (.int p1), .val (.int p2), .val (.int p3), .val (.int (Int32.ofNat n)), .val (.int (Int32.ofNat k)), .val (.int (Int32.ofNat (own_total n k))), .val (.int (Int32.ofNat j)), .val (.ref a), .val (.int (own_b (own_run n k 0).2.2)), .val (.int (own_b (own_run n k 0).2.2))] []))
    refine own_step (fun _ zk => XS.iload X5.here hx rfl (hb hby at_134) rfl zk) ?_
    show own_E p e below _ (T5.setTop (mkF m 136 #[.val (.int p1), .val (.int p2), .val (.int p3), .val (.int (Int32.ofNat n)), .val (.int (Int32.ofNat k)), .val (.int (Int32.ofNat (own_total n k))), .val (.int (Int32.ofNat j)), .val (.ref a), .val (.int (own_b (own_run n k 0).2.2)), .val (.int (own_b (own_run n k 0).2.2))] [(.int (own_b (own_run n k 0).2.2))]))
    refine own_step (fun _ zk => XS.iload X5.here hx rfl (hb hby at_136) rfl zk) ?_
    show own_E p e below _ (T5.setTop (mkF m 138 #[.val (.int p1), .val (.int p2), .val (.int p3), .val (.int (Int32.ofNat n)), .val (.int (Int32.ofNat k)), .val (.int (Int32.ofNat (own_total n k))), .val (.int (Int32.ofNat j)), .val (.ref a), .val (.int (own_b (own_run n k 0).2.2)), .val (.int (own_b (own_run n k 0).2.2))] [(.int (Int32.ofNat j)), (.int (own_b (own_run n k 0).2.2))]))
    refine own_step (fun _ zk => XS.iload X5.here hx rfl (hb hby at_138) rfl zk) ?_
    show own_E p e below _ (T5.setTop (mkF m 140 #[.val (.int p1), .val (.int p2), .val (.int p3), .val (.int (Int32.ofNat n)), .val (.int (Int32.ofNat k)), .val (.int (Int32.ofNat (own_total n k))), .val (.int (Int32.ofNat j)), .val (.ref a), .val (.int (own_b (own_run n k 0).2.2)), .val (.int (own_b (own_run n k 0).2.2))] [(.int (Int32.ofNat (own_total n k))), (.int (Int32.ofNat j)), (.int (own_b (own_run n k 0).2.2))]))
    by_cases hc140 : (Int32.ofNat j) < (Int32.ofNat (own_total n k))
    · skip
      refine own_step (fun _ zk => XS.icmpNo X5.here hx rfl (hb hby at_140) rfl (tlt hc140).2.1 zk) ?_
      show own_E p e below _ (T5.setTop (mkF m 143 #[.val (.int p1), .val (.int p2), .val (.int p3), .val (.int (Int32.ofNat n)), .val (.int (Int32.ofNat k)), .val (.int (Int32.ofNat (own_total n k))), .val (.int (Int32.ofNat j)), .val (.ref a), .val (.int (own_b (own_run n k 0).2.2)), .val (.int (own_b (own_run n k 0).2.2))] [(.int (own_b (own_run n k 0).2.2))]))
      refine own_step (fun _ zk => XS.iconst X5.here hx rfl (hb hby at_143) zk) ?_
      show own_E p e below _ (T5.setTop (mkF m 144 #[.val (.int p1), .val (.int p2), .val (.int p3), .val (.int (Int32.ofNat n)), .val (.int (Int32.ofNat k)), .val (.int (Int32.ofNat (own_total n k))), .val (.int (Int32.ofNat j)), .val (.ref a), .val (.int (own_b (own_run n k 0).2.2)), .val (.int (own_b (own_run n k 0).2.2))] [(.int (1 : Int32)), (.int (own_b (own_run n k 0).2.2))]))
      refine own_step (fun _ zk => XS.goto X5.here hx rfl (pc0 := 144) (pc' := 148) rfl (hb hby at_144) (by decide) (by decide) zk) ?_
      show own_E p e below _ (T5.setTop (mkF m 148 #[.val (.int p1), .val (.int p2), .val (.int p3), .val (.int (Int32.ofNat n)), .val (.int (Int32.ofNat k)), .val (.int (Int32.ofNat (own_total n k))), .val (.int (Int32.ofNat j)), .val (.ref a), .val (.int (own_b (own_run n k 0).2.2)), .val (.int (own_b (own_run n k 0).2.2))] [(.int (1 : Int32)), (.int (own_b (own_run n k 0).2.2))]))
      have fz := own_all n (by omega) k (by omega) hk1 hkn 0 (by decide) (by omega)
      have hz := hc140
      rw [own_lt j _ (by omega) (by omega)] at hz
      refine own_step (fun _ zk => XS.icmpNo X5.here hx rfl (hb hby at_148) rfl (teq (own_b1 fz (by omega))).2 zk) ?_
      show own_E p e below _ (T5.setTop (mkF m 151 #[.val (.int p1), .val (.int p2), .val (.int p3), .val (.int (Int32.ofNat n)), .val (.int (Int32.ofNat k)), .val (.int (Int32.ofNat (own_total n k))), .val (.int (Int32.ofNat j)), .val (.ref a), .val (.int (own_b (own_run n k 0).2.2)), .val (.int (own_b (own_run n k 0).2.2))] []))
      refine own_step (fun _ zk => XS.iload X5.here hx rfl (hb hby at_151) rfl zk) ?_
      show own_E p e below _ (T5.setTop (mkF m 153 #[.val (.int p1), .val (.int p2), .val (.int p3), .val (.int (Int32.ofNat n)), .val (.int (Int32.ofNat k)), .val (.int (Int32.ofNat (own_total n k))), .val (.int (Int32.ofNat j)), .val (.ref a), .val (.int (own_b (own_run n k 0).2.2)), .val (.int (own_b (own_run n k 0).2.2))] [(.int (own_b (own_run n k 0).2.2))]))
      refine own_step (fun _ zk => XS.iload X5.here hx rfl (hb hby at_153) rfl zk) ?_
      show own_E p e below _ (T5.setTop (mkF m 155 #[.val (.int p1), .val (.int p2), .val (.int p3), .val (.int (Int32.ofNat n)), .val (.int (Int32.ofNat k)), .val (.int (Int32.ofNat (own_total n k))), .val (.int (Int32.ofNat j)), .val (.ref a), .val (.int (own_b (own_run n k 0).2.2)), .val (.int (own_b (own_run n k 0).2.2))] [(.int (own_b (own_run n k 0).2.2)), (.int (own_b (own_run n k 0).2.2))]))
      refine own_step (fun _ zk => XS.icmpNo X5.here hx rfl (hb hby at_155) rfl (teq rfl).2 zk) ?_
      show own_E p e below _ (T5.setTop (mkF m 158 #[.val (.int p1), .val (.int p2), .val (.int p3), .val (.int (Int32.ofNat n)), .val (.int (Int32.ofNat k)), .val (.int (Int32.ofNat (own_total n k))), .val (.int (Int32.ofNat j)), .val (.ref a), .val (.int (own_b (own_run n k 0).2.2)), .val (.int (own_b (own_run n k 0).2.2))] []))
      refine own_step (fun _ zk => XS.iconst X5.here hx rfl (hb hby at_158) zk) ?_
      show own_E p e below _ (T5.setTop (mkF m 159 #[.val (.int p1), .val (.int p2), .val (.int p3), .val (.int (Int32.ofNat n)), .val (.int (Int32.ofNat k)), .val (.int (Int32.ofNat (own_total n k))), .val (.int (Int32.ofNat j)), .val (.ref a), .val (.int (own_b (own_run n k 0).2.2)), .val (.int (own_b (own_run n k 0).2.2))] [(.int (1 : Int32))]))
      refine own_step (fun _ zk => XS.goto X5.here hx rfl (pc0 := 159) (pc' := 163) rfl (hb hby at_159) (by decide) (by decide) zk) ?_
      show own_E p e below _ (T5.setTop (mkF m 163 #[.val (.int p1), .val (.int p2), .val (.int p3), .val (.int (Int32.ofNat n)), .val (.int (Int32.ofNat k)), .val (.int (Int32.ofNat (own_total n k))), .val (.int (Int32.ofNat j)), .val (.ref a), .val (.int (own_b (own_run n k 0).2.2)), .val (.int (own_b (own_run n k 0).2.2))] [(.int (1 : Int32))]))
      refine own_ret X5 hlk (v := some (.int (nar .boolean (1 : Int32)))) (fun h => by rw [Bd.returns] at h; cases h) ?_ (by decide) (by decide) (fun fs hr => retN X5 hx (t := .boolean) Bd.returns (by simp) (hb hby at_163) hr)
      show Q0 Z p1 p2 p3 h0 n0 _ T5.heap _
      rw [e5]
      exact ⟨by decide, N5⟩
    · skip
      refine own_step (fun _ zk => XS.icmpYes X5.here hx rfl (pc0 := 140) (pc' := 147) rfl (hb hby at_140) rfl (flt hc140).2.1 (by decide) (by decide) zk) ?_
      show own_E p e below _ (T5.setTop (mkF m 147 #[.val (.int p1), .val (.int p2), .val (.int p3), .val (.int (Int32.ofNat n)), .val (.int (Int32.ofNat k)), .val (.int (Int32.ofNat (own_total n k))), .val (.int (Int32.ofNat j)), .val (.ref a), .val (.int (own_b (own_run n k 0).2.2)), .val (.int (own_b (own_run n k 0).2.2))] [(.int (own_b (own_run n k 0).2.2))]))
      refine own_step (fun _ zk => XS.iconst X5.here hx rfl (hb hby at_147) zk) ?_
      show own_E p e below _ (T5.setTop (mkF m 148 #[.val (.int p1), .val (.int p2), .val (.int p3), .val (.int (Int32.ofNat n)), .val (.int (Int32.ofNat k)), .val (.int (Int32.ofNat (own_total n k))), .val (.int (Int32.ofNat j)), .val (.ref a), .val (.int (own_b (own_run n k 0).2.2)), .val (.int (own_b (own_run n k 0).2.2))] [(.int (0 : Int32)), (.int (own_b (own_run n k 0).2.2))]))
      have fz := own_all n (by omega) k (by omega) hk1 hkn 0 (by decide) (by omega)
      have hz := hc140
      rw [own_lt j _ (by omega) (by omega)] at hz
      refine own_step (fun _ zk => XS.icmpNo X5.here hx rfl (hb hby at_148) rfl (teq (own_b0 fz (by omega))).2 zk) ?_
      show own_E p e below _ (T5.setTop (mkF m 151 #[.val (.int p1), .val (.int p2), .val (.int p3), .val (.int (Int32.ofNat n)), .val (.int (Int32.ofNat k)), .val (.int (Int32.ofNat (own_total n k))), .val (.int (Int32.ofNat j)), .val (.ref a), .val (.int (own_b (own_run n k 0).2.2)), .val (.int (own_b (own_run n k 0).2.2))] []))
      refine own_step (fun _ zk => XS.iload X5.here hx rfl (hb hby at_151) rfl zk) ?_
      show own_E p e below _ (T5.setTop (mkF m 153 #[.val (.int p1), .val (.int p2), .val (.int p3), .val (.int (Int32.ofNat n)), .val (.int (Int32.ofNat k)), .val (.int (Int32.ofNat (own_total n k))), .val (.int (Int32.ofNat j)), .val (.ref a), .val (.int (own_b (own_run n k 0).2.2)), .val (.int (own_b (own_run n k 0).2.2))] [(.int (own_b (own_run n k 0).2.2))]))
      refine own_step (fun _ zk => XS.iload X5.here hx rfl (hb hby at_153) rfl zk) ?_
      show own_E p e below _ (T5.setTop (mkF m 155 #[.val (.int p1), .val (.int p2), .val (.int p3), .val (.int (Int32.ofNat n)), .val (.int (Int32.ofNat k)), .val (.int (Int32.ofNat (own_total n k))), .val (.int (Int32.ofNat j)), .val (.ref a), .val (.int (own_b (own_run n k 0).2.2)), .val (.int (own_b (own_run n k 0).2.2))] [(.int (own_b (own_run n k 0).2.2)), (.int (own_b (own_run n k 0).2.2))]))
      refine own_step (fun _ zk => XS.icmpNo X5.here hx rfl (hb hby at_155) rfl (teq rfl).2 zk) ?_
      show own_E p e below _ (T5.setTop (mkF m 158 #[.val (.int p1), .val (.int p2), .val (.int p3), .val (.int (Int32.ofNat n)), .val (.int (Int32.ofNat k)), .val (.int (Int32.ofNat (own_total n k))), .val (.int (Int32.ofNat j)), .val (.ref a), .val (.int (own_b (own_run n k 0).2.2)), .val (.int (own_b (own_run n k 0).2.2))] []))
      refine own_step (fun _ zk => XS.iconst X5.here hx rfl (hb hby at_158) zk) ?_
      show own_E p e below _ (T5.setTop (mkF m 159 #[.val (.int p1), .val (.int p2), .val (.int p3), .val (.int (Int32.ofNat n)), .val (.int (Int32.ofNat k)), .val (.int (Int32.ofNat (own_total n k))), .val (.int (Int32.ofNat j)), .val (.ref a), .val (.int (own_b (own_run n k 0).2.2)), .val (.int (own_b (own_run n k 0).2.2))] [(.int (1 : Int32))]))
      refine own_step (fun _ zk => XS.goto X5.here hx rfl (pc0 := 159) (pc' := 163) rfl (hb hby at_159) (by decide) (by decide) zk) ?_
      show own_E p e below _ (T5.setTop (mkF m 163 #[.val (.int p1), .val (.int p2), .val (.int p3), .val (.int (Int32.ofNat n)), .val (.int (Int32.ofNat k)), .val (.int (Int32.ofNat (own_total n k))), .val (.int (Int32.ofNat j)), .val (.ref a), .val (.int (own_b (own_run n k 0).2.2)), .val (.int (own_b (own_run n k 0).2.2))] [(.int (1 : Int32))]))
      refine own_ret X5 hlk (v := some (.int (nar .boolean (1 : Int32)))) (fun h => by rw [Bd.returns] at h; cases h) ?_ (by decide) (by decide) (fun fs hr => retN X5 hx (t := .boolean) Bd.returns (by simp) (hb hby at_163) hr)
      show Q0 Z p1 p2 p3 h0 n0 _ T5.heap _
      rw [e5]
      exact ⟨by decide, N5⟩
  · skip
    refine own_step (fun _ zk => XS.icmpNo X3.here hx rfl (hb hby at_50) rfl (flt (fun z => jm1 ((own_lt j 1 (by omega) (by omega)).mp z))).1 zk) ?_
    show own_E p e below _ (T3.setTop (mkF m 53 #[.val (.int p1), .val (.int p2), .val (.int p3), .val (.int (Int32.ofNat n)), .val (.int (Int32.ofNat k)), .val (.int (Int32.ofNat (own_total n k))), .val (.int (Int32.ofNat j)), .val (.ref a), .unset, .unset] []))
    refine own_step (fun _ zk => XS.aload X3.here hx rfl (hb hby at_53) rfl rfl zk) ?_
    show own_E p e below _ (T3.setTop (mkF m 55 #[.val (.int p1), .val (.int p2), .val (.int p3), .val (.int (Int32.ofNat n)), .val (.int (Int32.ofNat k)), .val (.int (Int32.ofNat (own_total n k))), .val (.int (Int32.ofNat j)), .val (.ref a), .unset, .unset] [(.ref a)]))
    have fi0 := own_all n (by omega) k (by omega) hk1 hkn 0 (by decide) (by omega)
    obtain ⟨rp0, ep0⟩ := own_N_t HN3 (by rw [own_fine_p fi0]; exact decide_eq_true (by omega))
    rw [ep0] at HO3
    obtain ⟨_, _, qa6, _, qc6⟩ := isOf (T := T3) hZ e3 HO3.1
    obtain ⟨_, _, ⟨T6, zL6, zK6, zN6⟩, -, X6, ⟨zLc6, hQ6, zl6, zy6, zz6⟩, st6⟩ := X3.virtualBack hx (y := (⟨"com/example/tallier/tallier/protocol/RecoverySets", "next", "()[I"⟩ : MethodName)) (z := (⟨"com/example/tallier/tallier/protocol/RecoverySets", "next", "()[I"⟩ : MethodName)) hown (mvT hZ (hw _ (List.mem_of_getElem? (i := 38) rfl))) (mvT hZ (hw _ (List.mem_of_getElem? (i := 39) rfl))) (notFace_of_selects (args := #[]) (mvT hZ (hw _ (List.mem_of_getElem? (i := 41) rfl)))) (mvT hZ (hw _ (List.mem_of_getElem? (i := 41) rfl))) (mvT hZ (hw _ (List.mem_of_getElem? (i := 40) rfl))) (by decide) (backOf (W := 0) (rm6 l Z a0 hw [] a n k (own_run n k 0).1 (own_run n k 0).2.1 vc3 rp0 h3 n0 (Nat.le_trans Z0 K_3.1) hk1 (by omega) hn4 (own_fine_rg fi0) ge_a HO3 HR3 (own_fine_ok fi0)) hZ (hw _ (List.mem_of_getElem? (i := 42) rfl)) (hw _ (List.mem_of_getElem? (i := 7) rfl)) (by decide) (by decide)) qa6 qc6 (g := (mkF m 55 #[.val (.int p1), .val (.int p2), .val (.int p3), .val (.int (Int32.ofNat n)), .val (.int (Int32.ofNat k)), .val (.int (Int32.ofNat (own_total n k))), .val (.int (Int32.ofNat j)), .val (.ref a), .unset, .unset] [(.ref a)])) rfl (by rw [hml]; rfl) (Steps.refl _) (argsL := []) (rest := []) (lenOf pd_0_3 rfl) rfl (by show 2 * 0 + _ ≤ _; exact Nat.le_of_eq rfl) (hb hby at_55) (fun _ _ => ⟨rfl, e3, (by decide : 6 + 4 ≤ _), (by decide : 25 + 16 ≤ _)⟩)
    dsimp only [Pt.U, Pt.locs, Pt.cells, Pt.slots] at X6 zl6 zy6 zz6 st6 hQ6
    rw [show zK6 = 10 from zy6, show zN6 = 41 from zz6] at X6
    generalize e6 : T6.heap = h6 at hQ6
    obtain ⟨rfl, N6q, Kq6, vc6, vp6, HO6, HR6, HN6⟩ := hQ6
    have K_6 := Keep.trans K_3 Kq6 (allS (Or.inr gh_a) all0)
    replace HO6 : own_O Z h6 a n k (own_run n k 1).1 vc6 vp6 := HO6
    replace HR6 : own_R Z h6 n0 vc6 k (own_run n k 1).2.1 := HR6
    replace HN6 : own_N vp6 (own_run n k 1).2.2 := HN6
    have N6 : Fr n0 zL6 := by rw [zl6]; exact Fr.app N3 N6q
    refine own_step (fun _ zk => (st6).trans zk) ?_
    show own_E p e below _ (T6.setTop (mkF m 58 #[.val (.int p1), .val (.int p2), .val (.int p3), .val (.int (Int32.ofNat n)), .val (.int (Int32.ofNat k)), .val (.int (Int32.ofNat (own_total n k))), .val (.int (Int32.ofNat j)), .val (.ref a), .unset, .unset] [(.ref rp0)]))
    refine own_step (fun _ zk => Jvm.Free.XT.pop X6.here hx rfl (hb hby at_58) rfl rfl zk) ?_
    show own_E p e below _ (T6.setTop (mkF m 59 #[.val (.int p1), .val (.int p2), .val (.int p3), .val (.int (Int32.ofNat n)), .val (.int (Int32.ofNat k)), .val (.int (Int32.ofNat (own_total n k))), .val (.int (Int32.ofNat j)), .val (.ref a), .unset, .unset] []))
    refine own_step (fun _ zk => XS.iload X6.here hx rfl (hb hby at_59) rfl zk) ?_
    show own_E p e below _ (T6.setTop (mkF m 61 #[.val (.int p1), .val (.int p2), .val (.int p3), .val (.int (Int32.ofNat n)), .val (.int (Int32.ofNat k)), .val (.int (Int32.ofNat (own_total n k))), .val (.int (Int32.ofNat j)), .val (.ref a), .unset, .unset] [(.int (Int32.ofNat j))]))
    refine own_step (fun _ zk => XS.iconst X6.here hx rfl (hb hby at_61) zk) ?_
    show own_E p e below _ (T6.setTop (mkF m 62 #[.val (.int p1), .val (.int p2), .val (.int p3), .val (.int (Int32.ofNat n)), .val (.int (Int32.ofNat k)), .val (.int (Int32.ofNat (own_total n k))), .val (.int (Int32.ofNat j)), .val (.ref a), .unset, .unset] [(.int (2 : Int32)), (.int (Int32.ofNat j))]))
    by_cases jm2 : j < 2
    · skip
      refine own_step (fun _ zk => XS.icmpYes X6.here hx rfl (pc0 := 62) (pc' := 71) rfl (hb hby at_62) rfl (tlt ((own_lt j 2 (by omega) (by omega)).mpr (by omega))).1 (by decide) (by decide) zk) ?_
      show own_E p e below _ (T6.setTop (mkF m 71 #[.val (.int p1), .val (.int p2), .val (.int p3), .val (.int (Int32.ofNat n)), .val (.int (Int32.ofNat k)), .val (.int (Int32.ofNat (own_total n k))), .val (.int (Int32.ofNat j)), .val (.ref a), .unset, .unset] []))
      refine own_step (fun _ zk => XS.iload X6.here hx rfl (hb hby at_71) rfl zk) ?_
      show own_E p e below _ (T6.setTop (mkF m 73 #[.val (.int p1), .val (.int p2), .val (.int p3), .val (.int (Int32.ofNat n)), .val (.int (Int32.ofNat k)), .val (.int (Int32.ofNat (own_total n k))), .val (.int (Int32.ofNat j)), .val (.ref a), .unset, .unset] [(.int (Int32.ofNat j))]))
      refine own_step (fun _ zk => XS.iconst X6.here hx rfl (hb hby at_73) zk) ?_
      show own_E p e below _ (T6.setTop (mkF m 74 #[.val (.int p1), .val (.int p2), .val (.int p3), .val (.int (Int32.ofNat n)), .val (.int (Int32.ofNat k)), .val (.int (Int32.ofNat (own_total n k))), .val (.int (Int32.ofNat j)), .val (.ref a), .unset, .unset] [(.int (3 : Int32)), (.int (Int32.ofNat j))]))
      refine own_step (fun _ zk => XS.icmpYes X6.here hx rfl (pc0 := 74) (pc' := 83) rfl (hb hby at_74) rfl (tlt ((own_lt j 3 (by omega) (by omega)).mpr (by omega))).1 (by decide) (by decide) zk) ?_
      show own_E p e below _ (T6.setTop (mkF m 83 #[.val (.int p1), .val (.int p2), .val (.int p3), .val (.int (Int32.ofNat n)), .val (.int (Int32.ofNat k)), .val (.int (Int32.ofNat (own_total n k))), .val (.int (Int32.ofNat j)), .val (.ref a), .unset, .unset] []))
      refine own_step (fun _ zk => XS.iload X6.here hx rfl (hb hby at_83) rfl zk) ?_
      show own_E p e below _ (T6.setTop (mkF m 85 #[.val (.int p1), .val (.int p2), .val (.int p3), .val (.int (Int32.ofNat n)), .val (.int (Int32.ofNat k)), .val (.int (Int32.ofNat (own_total n k))), .val (.int (Int32.ofNat j)), .val (.ref a), .unset, .unset] [(.int (Int32.ofNat j))]))
      refine own_step (fun _ zk => XS.iconst X6.here hx rfl (hb hby at_85) zk) ?_
      show own_E p e below _ (T6.setTop (mkF m 86 #[.val (.int p1), .val (.int p2), .val (.int p3), .val (.int (Int32.ofNat n)), .val (.int (Int32.ofNat k)), .val (.int (Int32.ofNat (own_total n k))), .val (.int (Int32.ofNat j)), .val (.ref a), .unset, .unset] [(.int (4 : Int32)), (.int (Int32.ofNat j))]))
      refine own_step (fun _ zk => XS.icmpYes X6.here hx rfl (pc0 := 86) (pc' := 95) rfl (hb hby at_86) rfl (tlt ((own_lt j 4 (by omega) (by omega)).mpr (by omega))).1 (by decide) (by decide) zk) ?_
      show own_E p e below _ (T6.setTop (mkF m 95 #[.val (.int p1), .val (.int p2), .val (.int p3), .val (.int (Int32.ofNat n)), .val (.int (Int32.ofNat k)), .val (.int (Int32.ofNat (own_total n k))), .val (.int (Int32.ofNat j)), .val (.ref a), .unset, .unset] []))
      refine own_step (fun _ zk => XS.iload X6.here hx rfl (hb hby at_95) rfl zk) ?_
      show own_E p e below _ (T6.setTop (mkF m 97 #[.val (.int p1), .val (.int p2), .val (.int p3), .val (.int (Int32.ofNat n)), .val (.int (Int32.ofNat k)), .val (.int (Int32.ofNat (own_total n k))), .val (.int (Int32.ofNat j)), .val (.ref a), .unset, .unset] [(.int (Int32.ofNat j))]))
      refine own_step (fun _ zk => XS.iconst X6.here hx rfl (hb hby at_97) zk) ?_
      show own_E p e below _ (T6.setTop (mkF m 98 #[.val (.int p1), .val (.int p2), .val (.int p3), .val (.int (Int32.ofNat n)), .val (.int (Int32.ofNat k)), .val (.int (Int32.ofNat (own_total n k))), .val (.int (Int32.ofNat j)), .val (.ref a), .unset, .unset] [(.int (5 : Int32)), (.int (Int32.ofNat j))]))
      refine own_step (fun _ zk => XS.icmpYes X6.here hx rfl (pc0 := 98) (pc' := 107) rfl (hb hby at_98) rfl (tlt ((own_lt j 5 (by omega) (by omega)).mpr (by omega))).1 (by decide) (by decide) zk) ?_
      show own_E p e below _ (T6.setTop (mkF m 107 #[.val (.int p1), .val (.int p2), .val (.int p3), .val (.int (Int32.ofNat n)), .val (.int (Int32.ofNat k)), .val (.int (Int32.ofNat (own_total n k))), .val (.int (Int32.ofNat j)), .val (.ref a), .unset, .unset] []))
      refine own_step (fun _ zk => XS.iload X6.here hx rfl (hb hby at_107) rfl zk) ?_
      show own_E p e below _ (T6.setTop (mkF m 109 #[.val (.int p1), .val (.int p2), .val (.int p3), .val (.int (Int32.ofNat n)), .val (.int (Int32.ofNat k)), .val (.int (Int32.ofNat (own_total n k))), .val (.int (Int32.ofNat j)), .val (.ref a), .unset, .unset] [(.int (Int32.ofNat j))]))
      refine own_step (fun _ zk => XS.bipush X6.here hx rfl (hb hby at_109) zk) ?_
      show own_E p e below _ (T6.setTop (mkF m 111 #[.val (.int p1), .val (.int p2), .val (.int p3), .val (.int (Int32.ofNat n)), .val (.int (Int32.ofNat k)), .val (.int (Int32.ofNat (own_total n k))), .val (.int (Int32.ofNat j)), .val (.ref a), .unset, .unset] [(.int (6 : Int32)), (.int (Int32.ofNat j))]))
      refine own_step (fun _ zk => XS.icmpYes X6.here hx rfl (pc0 := 111) (pc' := 120) rfl (hb hby at_111) rfl (tlt ((own_lt j 6 (by omega) (by omega)).mpr (by omega))).1 (by decide) (by decide) zk) ?_
      show own_E p e below _ (T6.setTop (mkF m 120 #[.val (.int p1), .val (.int p2), .val (.int p3), .val (.int (Int32.ofNat n)), .val (.int (Int32.ofNat k)), .val (.int (Int32.ofNat (own_total n k))), .val (.int (Int32.ofNat j)), .val (.ref a), .unset, .unset] []))
      refine own_step (fun _ zk => XS.aload X6.here hx rfl (hb hby at_120) rfl rfl zk) ?_
      show own_E p e below _ (T6.setTop (mkF m 122 #[.val (.int p1), .val (.int p2), .val (.int p3), .val (.int (Int32.ofNat n)), .val (.int (Int32.ofNat k)), .val (.int (Int32.ofNat (own_total n k))), .val (.int (Int32.ofNat j)), .val (.ref a), .unset, .unset] [(.ref a)]))
      obtain ⟨_, _, qa7, _, qc7⟩ := isOf (T := T6) hZ e6 HO6.1
      obtain ⟨_, _, ⟨T7, zL7, zK7, zN7⟩, -, X7, ⟨zLc7, hQ7, zl7, zy7, zz7⟩, st7⟩ := X6.virtualBack hx (y := (⟨"com/example/tallier/tallier/protocol/RecoverySets", "hasNext", "()Z"⟩ : MethodName)) (z := (⟨"com/example/tallier/tallier/protocol/RecoverySets", "hasNext", "()Z"⟩ : MethodName)) hown (mvT hZ (hw _ (List.mem_of_getElem? (i := 33) rfl))) (mvT hZ (hw _ (List.mem_of_getElem? (i := 34) rfl))) (notFace_of_selects (args := #[]) (mvT hZ (hw _ (List.mem_of_getElem? (i := 36) rfl)))) (mvT hZ (hw _ (List.mem_of_getElem? (i := 36) rfl))) (mvT hZ (hw _ (List.mem_of_getElem? (i := 35) rfl))) (by decide) (backOf (W := 0) (rm5 l Z a0 hw [] a vp6 (own_run n k 1).2.2 h6 n0 (Nat.le_trans Z0 K_6.1) HO6.2.2.2.2.2 HN6) hZ (hw _ (List.mem_of_getElem? (i := 37) rfl)) (hw _ (List.mem_of_getElem? (i := 7) rfl)) (by decide) (by decide)) qa7 qc7 (g := (mkF m 122 #[.val (.int p1), .val (.int p2), .val (.int p3), .val (.int (Int32.ofNat n)), .val (.int (Int32.ofNat k)), .val (.int (Int32.ofNat (own_total n k))), .val (.int (Int32.ofNat j)), .val (.ref a), .unset, .unset] [(.ref a)])) rfl (by rw [hml]; rfl) (Steps.refl _) (argsL := []) (rest := []) (lenOf pd_0_2 rfl) rfl (by show 2 * 0 + _ ≤ _; exact Nat.le_of_eq rfl) (hb hby at_122) (fun _ _ => ⟨rfl, e6, (by decide : 10 + 0 ≤ _), (by decide : 41 + 0 ≤ _)⟩)
      dsimp only [Pt.U, Pt.locs, Pt.cells, Pt.slots] at X7 zl7 zy7 zz7 st7 hQ7
      rw [show zK7 = 10 from zy7, show zN7 = 41 from zz7] at X7
      obtain ⟨rfl, N7q, e7⟩ := hQ7
      have N7 : Fr n0 zL7 := by rw [zl7]; exact Fr.app N6 N7q
      refine own_step (fun _ zk => (st7).trans zk) ?_
      show own_E p e below _ (T7.setTop (mkF m 125 #[.val (.int p1), .val (.int p2), .val (.int p3), .val (.int (Int32.ofNat n)), .val (.int (Int32.ofNat k)), .val (.int (Int32.ofNat (own_total n k))), .val (.int (Int32.ofNat j)), .val (.ref a), .unset, .unset] [(.int (own_b (own_run n k 1).2.2))]))
      refine own_step (fun _ zk => XS.istore X7.here hx rfl (hb hby at_125) rfl (l' := #[.val (.int p1), .val (.int p2), .val (.int p3), .val (.int (Int32.ofNat n)), .val (.int (Int32.ofNat k)), .val (.int (Int32.ofNat (own_total n k))), .val (.int (Int32.ofNat j)), .val (.ref a), .val (.int (own_b (own_run n k 1).2.2)), .unset]) rfl zk) ?_
      show own_E p e below _ (T7.setTop (mkF m 127 #[.val (.int p1), .val (.int p2), .val (.int p3), .val (.int (Int32.ofNat n)), .val (.int (Int32.ofNat k)), .val (.int (Int32.ofNat (own_total n k))), .val (.int (Int32.ofNat j)), .val (.ref a), .val (.int (own_b (own_run n k 1).2.2)), .unset] []))
      refine own_step (fun _ zk => XS.aload X7.here hx rfl (hb hby at_127) rfl rfl zk) ?_
      show own_E p e below _ (T7.setTop (mkF m 129 #[.val (.int p1), .val (.int p2), .val (.int p3), .val (.int (Int32.ofNat n)), .val (.int (Int32.ofNat k)), .val (.int (Int32.ofNat (own_total n k))), .val (.int (Int32.ofNat j)), .val (.ref a), .val (.int (own_b (own_run n k 1).2.2)), .unset] [(.ref a)]))
      obtain ⟨_, _, qa8, _, qc8⟩ := isOf (T := T7) hZ e7 HO6.1
      obtain ⟨_, _, ⟨T8, zL8, zK8, zN8⟩, -, X8, ⟨zLc8, hQ8, zl8, zy8, zz8⟩, st8⟩ := X7.virtualBack hx (y := (⟨"com/example/tallier/tallier/protocol/RecoverySets", "hasNext", "()Z"⟩ : MethodName)) (z := (⟨"com/example/tallier/tallier/protocol/RecoverySets", "hasNext", "()Z"⟩ : MethodName)) hown (mvT hZ (hw _ (List.mem_of_getElem? (i := 33) rfl))) (mvT hZ (hw _ (List.mem_of_getElem? (i := 34) rfl))) (notFace_of_selects (args := #[]) (mvT hZ (hw _ (List.mem_of_getElem? (i := 36) rfl)))) (mvT hZ (hw _ (List.mem_of_getElem? (i := 36) rfl))) (mvT hZ (hw _ (List.mem_of_getElem? (i := 35) rfl))) (by decide) (backOf (W := 0) (rm5 l Z a0 hw [] a vp6 (own_run n k 1).2.2 h6 n0 (Nat.le_trans Z0 K_6.1) HO6.2.2.2.2.2 HN6) hZ (hw _ (List.mem_of_getElem? (i := 37) rfl)) (hw _ (List.mem_of_getElem? (i := 7) rfl)) (by decide) (by decide)) qa8 qc8 (g := (mkF m 129 #[.val (.int p1), .val (.int p2), .val (.int p3), .val (.int (Int32.ofNat n)), .val (.int (Int32.ofNat k)), .val (.int (Int32.ofNat (own_total n k))), .val (.int (Int32.ofNat j)), .val (.ref a), .val (.int (own_b (own_run n k 1).2.2)), .unset] [(.ref a)])) rfl (by rw [hml]; rfl) (Steps.refl _) (argsL := []) (rest := []) (lenOf pd_0_2 rfl) rfl (by show 2 * 0 + _ ≤ _; exact Nat.le_of_eq rfl) (hb hby at_129) (fun _ _ => ⟨rfl, e7, (by decide : 10 + 0 ≤ _), (by decide : 41 + 0 ≤ _)⟩)
      dsimp only [Pt.U, Pt.locs, Pt.cells, Pt.slots] at X8 zl8 zy8 zz8 st8 hQ8
      rw [show zK8 = 10 from zy8, show zN8 = 41 from zz8] at X8
      obtain ⟨rfl, N8q, e8⟩ := hQ8
      have N8 : Fr n0 zL8 := by rw [zl8]; exact Fr.app N7 N8q
      refine own_step (fun _ zk => (st8).trans zk) ?_
      show own_E p e below _ (T8.setTop (mkF m 132 #[.val (.int p1), .val (.int p2), .val (.int p3), .val (.int (Int32.ofNat n)), .val (.int (Int32.ofNat k)), .val (.int (Int32.ofNat (own_total n k))), .val (.int (Int32.ofNat j)), .val (.ref a), .val (.int (own_b (own_run n k 1).2.2)), .unset] [(.int (own_b (own_run n k 1).2.2))]))
      refine own_step (fun _ zk => XS.istore X8.here hx rfl (hb hby at_132) rfl (l' := #[.val (.int p1), .val (.int p2), .val (.int p3), .val (.int (Int32.ofNat n)), .val (.int (Int32.ofNat k)), .val (.int (Int32.ofNat (own_total n k))), .val (.int (Int32.ofNat j)), .val (.ref a), .val (.int (own_b (own_run n k 1).2.2)), .val (.int (own_b (own_run n k 1).2.2))]) rfl zk) ?_
      show own_E p e below _ (T8.setTop (mkF m 134 #[.val (.int p1), .val (.int p2), .val (.int p3), .val (.int (Int32.ofNat n)), .val (.int (Int32.ofNat k)), .val (.int (Int32.ofNat (own_total n k))), .val (.int (Int32.ofNat j)), .val (.ref a), .val (.int (own_b (own_run n k 1).2.2)), .val (.int (own_b (own_run n k 1).2.2))] []))
      refine own_step (fun _ zk => XS.iload X8.here hx rfl (hb hby at_134) rfl zk) ?_
      show own_E p e below _ (T8.setTop (mkF m 136 #[.val (.int p1), .val (.int p2), .val (.int p3), .val (.int (Int32.ofNat n)), .val (.int (Int32.ofNat k)), .val (.int (Int32.ofNat (own_total n k))), .val (.int (Int32.ofNat j)), .val (.ref a), .val (.int (own_b (own_run n k 1).2.2)), .val (.int (own_b (own_run n k 1).2.2))] [(.int (own_b (own_run n k 1).2.2))]))
      refine own_step (fun _ zk => XS.iload X8.here hx rfl (hb hby at_136) rfl zk) ?_
      show own_E p e below _ (T8.setTop (mkF m 138 #[.val (.int p1), .val (.int p2), .val (.int p3), .val (.int (Int32.ofNat n)), .val (.int (Int32.ofNat k)), .val (.int (Int32.ofNat (own_total n k))), .val (.int (Int32.ofNat j)), .val (.ref a), .val (.int (own_b (own_run n k 1).2.2)), .val (.int (own_b (own_run n k 1).2.2))] [(.int (Int32.ofNat j)), (.int (own_b (own_run n k 1).2.2))]))
      refine own_step (fun _ zk => XS.iload X8.here hx rfl (hb hby at_138) rfl zk) ?_
      show own_E p e below _ (T8.setTop (mkF m 140 #[.val (.int p1), .val (.int p2), .val (.int p3), .val (.int (Int32.ofNat n)), .val (.int (Int32.ofNat k)), .val (.int (Int32.ofNat (own_total n k))), .val (.int (Int32.ofNat j)), .val (.ref a), .val (.int (own_b (own_run n k 1).2.2)), .val (.int (own_b (own_run n k 1).2.2))] [(.int (Int32.ofNat (own_total n k))), (.int (Int32.ofNat j)), (.int (own_b (own_run n k 1).2.2))]))
      by_cases hc140 : (Int32.ofNat j) < (Int32.ofNat (own_total n k))
      · skip
        refine own_step (fun _ zk => XS.icmpNo X8.here hx rfl (hb hby at_140) rfl (tlt hc140).2.1 zk) ?_
        show own_E p e below _ (T8.setTop (mkF m 143 #[.val (.int p1), .val (.int p2), .val (.int p3), .val (.int (Int32.ofNat n)), .val (.int (Int32.ofNat k)), .val (.int (Int32.ofNat (own_total n k))), .val (.int (Int32.ofNat j)), .val (.ref a), .val (.int (own_b (own_run n k 1).2.2)), .val (.int (own_b (own_run n k 1).2.2))] [(.int (own_b (own_run n k 1).2.2))]))
        refine own_step (fun _ zk => XS.iconst X8.here hx rfl (hb hby at_143) zk) ?_
        show own_E p e below _ (T8.setTop (mkF m 144 #[.val (.int p1), .val (.int p2), .val (.int p3), .val (.int (Int32.ofNat n)), .val (.int (Int32.ofNat k)), .val (.int (Int32.ofNat (own_total n k))), .val (.int (Int32.ofNat j)), .val (.ref a), .val (.int (own_b (own_run n k 1).2.2)), .val (.int (own_b (own_run n k 1).2.2))] [(.int (1 : Int32)), (.int (own_b (own_run n k 1).2.2))]))
        refine own_step (fun _ zk => XS.goto X8.here hx rfl (pc0 := 144) (pc' := 148) rfl (hb hby at_144) (by decide) (by decide) zk) ?_
        show own_E p e below _ (T8.setTop (mkF m 148 #[.val (.int p1), .val (.int p2), .val (.int p3), .val (.int (Int32.ofNat n)), .val (.int (Int32.ofNat k)), .val (.int (Int32.ofNat (own_total n k))), .val (.int (Int32.ofNat j)), .val (.ref a), .val (.int (own_b (own_run n k 1).2.2)), .val (.int (own_b (own_run n k 1).2.2))] [(.int (1 : Int32)), (.int (own_b (own_run n k 1).2.2))]))
        have fz := own_all n (by omega) k (by omega) hk1 hkn 1 (by decide) (by omega)
        have hz := hc140
        rw [own_lt j _ (by omega) (by omega)] at hz
        refine own_step (fun _ zk => XS.icmpNo X8.here hx rfl (hb hby at_148) rfl (teq (own_b1 fz (by omega))).2 zk) ?_
        show own_E p e below _ (T8.setTop (mkF m 151 #[.val (.int p1), .val (.int p2), .val (.int p3), .val (.int (Int32.ofNat n)), .val (.int (Int32.ofNat k)), .val (.int (Int32.ofNat (own_total n k))), .val (.int (Int32.ofNat j)), .val (.ref a), .val (.int (own_b (own_run n k 1).2.2)), .val (.int (own_b (own_run n k 1).2.2))] []))
        refine own_step (fun _ zk => XS.iload X8.here hx rfl (hb hby at_151) rfl zk) ?_
        show own_E p e below _ (T8.setTop (mkF m 153 #[.val (.int p1), .val (.int p2), .val (.int p3), .val (.int (Int32.ofNat n)), .val (.int (Int32.ofNat k)), .val (.int (Int32.ofNat (own_total n k))), .val (.int (Int32.ofNat j)), .val (.ref a), .val (.int (own_b (own_run n k 1).2.2)), .val (.int (own_b (own_run n k 1).2.2))] [(.int (own_b (own_run n k 1).2.2))]))
        refine own_step (fun _ zk => XS.iload X8.here hx rfl (hb hby at_153) rfl zk) ?_
        show own_E p e below _ (T8.setTop (mkF m 155 #[.val (.int p1), .val (.int p2), .val (.int p3), .val (.int (Int32.ofNat n)), .val (.int (Int32.ofNat k)), .val (.int (Int32.ofNat (own_total n k))), .val (.int (Int32.ofNat j)), .val (.ref a), .val (.int (own_b (own_run n k 1).2.2)), .val (.int (own_b (own_run n k 1).2.2))] [(.int (own_b (own_run n k 1).2.2)), (.int (own_b (own_run n k 1).2.2))]))
        refine own_step (fun _ zk => XS.icmpNo X8.here hx rfl (hb hby at_155) rfl (teq rfl).2 zk) ?_
        show own_E p e below _ (T8.setTop (mkF m 158 #[.val (.int p1), .val (.int p2), .val (.int p3), .val (.int (Int32.ofNat n)), .val (.int (Int32.ofNat k)), .val (.int (Int32.ofNat (own_total n k))), .val (.int (Int32.ofNat j)), .val (.ref a), .val (.int (own_b (own_run n k 1).2.2)), .val (.int (own_b (own_run n k 1).2.2))] []))
        refine own_step (fun _ zk => XS.iconst X8.here hx rfl (hb hby at_158) zk) ?_
        show own_E p e below _ (T8.setTop (mkF m 159 #[.val (.int p1), .val (.int p2), .val (.int p3), .val (.int (Int32.ofNat n)), .val (.int (Int32.ofNat k)), .val (.int (Int32.ofNat (own_total n k))), .val (.int (Int32.ofNat j)), .val (.ref a), .val (.int (own_b (own_run n k 1).2.2)), .val (.int (own_b (own_run n k 1).2.2))] [(.int (1 : Int32))]))
        refine own_step (fun _ zk => XS.goto X8.here hx rfl (pc0 := 159) (pc' := 163) rfl (hb hby at_159) (by decide) (by decide) zk) ?_
        show own_E p e below _ (T8.setTop (mkF m 163 #[.val (.int p1), .val (.int p2), .val (.int p3), .val (.int (Int32.ofNat n)), .val (.int (Int32.ofNat k)), .val (.int (Int32.ofNat (own_total n k))), .val (.int (Int32.ofNat j)), .val (.ref a), .val (.int (own_b (own_run n k 1).2.2)), .val (.int (own_b (own_run n k 1).2.2))] [(.int (1 : Int32))]))
        refine own_ret X8 hlk (v := some (.int (nar .boolean (1 : Int32)))) (fun h => by rw [Bd.returns] at h; cases h) ?_ (by decide) (by decide) (fun fs hr => retN X8 hx (t := .boolean) Bd.returns (by simp) (hb hby at_163) hr)
        show Q0 Z p1 p2 p3 h0 n0 _ T8.heap _
        rw [e8]
        exact ⟨by decide, N8⟩
      · skip
        refine own_step (fun _ zk => XS.icmpYes X8.here hx rfl (pc0 := 140) (pc' := 147) rfl (hb hby at_140) rfl (flt hc140).2.1 (by decide) (by decide) zk) ?_
        show own_E p e below _ (T8.setTop (mkF m 147 #[.val (.int p1), .val (.int p2), .val (.int p3), .val (.int (Int32.ofNat n)), .val (.int (Int32.ofNat k)), .val (.int (Int32.ofNat (own_total n k))), .val (.int (Int32.ofNat j)), .val (.ref a), .val (.int (own_b (own_run n k 1).2.2)), .val (.int (own_b (own_run n k 1).2.2))] [(.int (own_b (own_run n k 1).2.2))]))
        refine own_step (fun _ zk => XS.iconst X8.here hx rfl (hb hby at_147) zk) ?_
        show own_E p e below _ (T8.setTop (mkF m 148 #[.val (.int p1), .val (.int p2), .val (.int p3), .val (.int (Int32.ofNat n)), .val (.int (Int32.ofNat k)), .val (.int (Int32.ofNat (own_total n k))), .val (.int (Int32.ofNat j)), .val (.ref a), .val (.int (own_b (own_run n k 1).2.2)), .val (.int (own_b (own_run n k 1).2.2))] [(.int (0 : Int32)), (.int (own_b (own_run n k 1).2.2))]))
        have fz := own_all n (by omega) k (by omega) hk1 hkn 1 (by decide) (by omega)
        have hz := hc140
        rw [own_lt j _ (by omega) (by omega)] at hz
        refine own_step (fun _ zk => XS.icmpNo X8.here hx rfl (hb hby at_148) rfl (teq (own_b0 fz (by omega))).2 zk) ?_
        show own_E p e below _ (T8.setTop (mkF m 151 #[.val (.int p1), .val (.int p2), .val (.int p3), .val (.int (Int32.ofNat n)), .val (.int (Int32.ofNat k)), .val (.int (Int32.ofNat (own_total n k))), .val (.int (Int32.ofNat j)), .val (.ref a), .val (.int (own_b (own_run n k 1).2.2)), .val (.int (own_b (own_run n k 1).2.2))] []))
        refine own_step (fun _ zk => XS.iload X8.here hx rfl (hb hby at_151) rfl zk) ?_
        show own_E p e below _ (T8.setTop (mkF m 153 #[.val (.int p1), .val (.int p2), .val (.int p3), .val (.int (Int32.ofNat n)), .val (.int (Int32.ofNat k)), .val (.int (Int32.ofNat (own_total n k))), .val (.int (Int32.ofNat j)), .val (.ref a), .val (.int (own_b (own_run n k 1).2.2)), .val (.int (own_b (own_run n k 1).2.2))] [(.int (own_b (own_run n k 1).2.2))]))
        refine own_step (fun _ zk => XS.iload X8.here hx rfl (hb hby at_153) rfl zk) ?_
        show own_E p e below _ (T8.setTop (mkF m 155 #[.val (.int p1), .val (.int p2), .val (.int p3), .val (.int (Int32.ofNat n)), .val (.int (Int32.ofNat k)), .val (.int (Int32.ofNat (own_total n k))), .val (.int (Int32.ofNat j)), .val (.ref a), .val (.int (own_b (own_run n k 1).2.2)), .val (.int (own_b (own_run n k 1).2.2))] [(.int (own_b (own_run n k 1).2.2)), (.int (own_b (own_run n k 1).2.2))]))
        refine own_step (fun _ zk => XS.icmpNo X8.here hx rfl (hb hby at_155) rfl (teq rfl).2 zk) ?_
        show own_E p e below _ (T8.setTop (mkF m 158 #[.val (.int p1), .val (.int p2), .val (.int p3), .val (.int (Int32.ofNat n)), .val (.int (Int32.ofNat k)), .val (.int (Int32.ofNat (own_total n k))), .val (.int (Int32.ofNat j)), .val (.ref a), .val (.int (own_b (own_run n k 1).2.2)), .val (.int (own_b (own_run n k 1).2.2))] []))
        refine own_step (fun _ zk => XS.iconst X8.here hx rfl (hb hby at_158) zk) ?_
        show own_E p e below _ (T8.setTop (mkF m 159 #[.val (.int p1), .val (.int p2), .val (.int p3), .val (.int (Int32.ofNat n)), .val (.int (Int32.ofNat k)), .val (.int (Int32.ofNat (own_total n k))), .val (.int (Int32.ofNat j)), .val (.ref a), .val (.int (own_b (own_run n k 1).2.2)), .val (.int (own_b (own_run n k 1).2.2))] [(.int (1 : Int32))]))
        refine own_step (fun _ zk => XS.goto X8.here hx rfl (pc0 := 159) (pc' := 163) rfl (hb hby at_159) (by decide) (by decide) zk) ?_
        show own_E p e below _ (T8.setTop (mkF m 163 #[.val (.int p1), .val (.int p2), .val (.int p3), .val (.int (Int32.ofNat n)), .val (.int (Int32.ofNat k)), .val (.int (Int32.ofNat (own_total n k))), .val (.int (Int32.ofNat j)), .val (.ref a), .val (.int (own_b (own_run n k 1).2.2)), .val (.int (own_b (own_run n k 1).2.2))] [(.int (1 : Int32))]))
        refine own_ret X8 hlk (v := some (.int (nar .boolean (1 : Int32)))) (fun h => by rw [Bd.returns] at h; cases h) ?_ (by decide) (by decide) (fun fs hr => retN X8 hx (t := .boolean) Bd.returns (by simp) (hb hby at_163) hr)
        show Q0 Z p1 p2 p3 h0 n0 _ T8.heap _
        rw [e8]
        exact ⟨by decide, N8⟩
    · skip
      refine own_step (fun _ zk => XS.icmpNo X6.here hx rfl (hb hby at_62) rfl (flt (fun z => jm2 ((own_lt j 2 (by omega) (by omega)).mp z))).1 zk) ?_
      show own_E p e below _ (T6.setTop (mkF m 65 #[.val (.int p1), .val (.int p2), .val (.int p3), .val (.int (Int32.ofNat n)), .val (.int (Int32.ofNat k)), .val (.int (Int32.ofNat (own_total n k))), .val (.int (Int32.ofNat j)), .val (.ref a), .unset, .unset] []))
      refine own_step (fun _ zk => XS.aload X6.here hx rfl (hb hby at_65) rfl rfl zk) ?_
      show own_E p e below _ (T6.setTop (mkF m 67 #[.val (.int p1), .val (.int p2), .val (.int p3), .val (.int (Int32.ofNat n)), .val (.int (Int32.ofNat k)), .val (.int (Int32.ofNat (own_total n k))), .val (.int (Int32.ofNat j)), .val (.ref a), .unset, .unset] [(.ref a)]))
      have fi1 := own_all n (by omega) k (by omega) hk1 hkn 1 (by decide) (by omega)
      obtain ⟨rp1, ep1⟩ := own_N_t HN6 (by rw [own_fine_p fi1]; exact decide_eq_true (by omega))
      rw [ep1] at HO6
      obtain ⟨_, _, qa9, _, qc9⟩ := isOf (T := T6) hZ e6 HO6.1
      obtain ⟨_, _, ⟨T9, zL9, zK9, zN9⟩, -, X9, ⟨zLc9, hQ9, zl9, zy9, zz9⟩, st9⟩ := X6.virtualBack hx (y := (⟨"com/example/tallier/tallier/protocol/RecoverySets", "next", "()[I"⟩ : MethodName)) (z := (⟨"com/example/tallier/tallier/protocol/RecoverySets", "next", "()[I"⟩ : MethodName)) hown (mvT hZ (hw _ (List.mem_of_getElem? (i := 38) rfl))) (mvT hZ (hw _ (List.mem_of_getElem? (i := 39) rfl))) (notFace_of_selects (args := #[]) (mvT hZ (hw _ (List.mem_of_getElem? (i := 41) rfl)))) (mvT hZ (hw _ (List.mem_of_getElem? (i := 41) rfl))) (mvT hZ (hw _ (List.mem_of_getElem? (i := 40) rfl))) (by decide) (backOf (W := 0) (rm6 l Z a0 hw [] a n k (own_run n k 1).1 (own_run n k 1).2.1 vc6 rp1 h6 n0 (Nat.le_trans Z0 K_6.1) hk1 (by omega) hn4 (own_fine_rg fi1) ge_a HO6 HR6 (own_fine_ok fi1)) hZ (hw _ (List.mem_of_getElem? (i := 42) rfl)) (hw _ (List.mem_of_getElem? (i := 7) rfl)) (by decide) (by decide)) qa9 qc9 (g := (mkF m 67 #[.val (.int p1), .val (.int p2), .val (.int p3), .val (.int (Int32.ofNat n)), .val (.int (Int32.ofNat k)), .val (.int (Int32.ofNat (own_total n k))), .val (.int (Int32.ofNat j)), .val (.ref a), .unset, .unset] [(.ref a)])) rfl (by rw [hml]; rfl) (Steps.refl _) (argsL := []) (rest := []) (lenOf pd_0_3 rfl) rfl (by show 2 * 0 + _ ≤ _; exact Nat.le_of_eq rfl) (hb hby at_67) (fun _ _ => ⟨rfl, e6, (by decide : 10 + 4 ≤ _), (by decide : 41 + 16 ≤ _)⟩)
      dsimp only [Pt.U, Pt.locs, Pt.cells, Pt.slots] at X9 zl9 zy9 zz9 st9 hQ9
      rw [show zK9 = 14 from zy9, show zN9 = 57 from zz9] at X9
      generalize e9 : T9.heap = h9 at hQ9
      obtain ⟨rfl, N9q, Kq9, vc9, vp9, HO9, HR9, HN9⟩ := hQ9
      have K_9 := Keep.trans K_6 Kq9 (allS (Or.inr gh_a) all0)
      replace HO9 : own_O Z h9 a n k (own_run n k 2).1 vc9 vp9 := HO9
      replace HR9 : own_R Z h9 n0 vc9 k (own_run n k 2).2.1 := HR9
      replace HN9 : own_N vp9 (own_run n k 2).2.2 := HN9
      have N9 : Fr n0 zL9 := by rw [zl9]; exact Fr.app N6 N9q
      refine own_step (fun _ zk => (st9).trans zk) ?_
      show own_E p e below _ (T9.setTop (mkF m 70 #[.val (.int p1), .val (.int p2), .val (.int p3), .val (.int (Int32.ofNat n)), .val (.int (Int32.ofNat k)), .val (.int (Int32.ofNat (own_total n k))), .val (.int (Int32.ofNat j)), .val (.ref a), .unset, .unset] [(.ref rp1)]))
      refine own_step (fun _ zk => Jvm.Free.XT.pop X9.here hx rfl (hb hby at_70) rfl rfl zk) ?_
      show own_E p e below _ (T9.setTop (mkF m 71 #[.val (.int p1), .val (.int p2), .val (.int p3), .val (.int (Int32.ofNat n)), .val (.int (Int32.ofNat k)), .val (.int (Int32.ofNat (own_total n k))), .val (.int (Int32.ofNat j)), .val (.ref a), .unset, .unset] []))
      refine own_step (fun _ zk => XS.iload X9.here hx rfl (hb hby at_71) rfl zk) ?_
      show own_E p e below _ (T9.setTop (mkF m 73 #[.val (.int p1), .val (.int p2), .val (.int p3), .val (.int (Int32.ofNat n)), .val (.int (Int32.ofNat k)), .val (.int (Int32.ofNat (own_total n k))), .val (.int (Int32.ofNat j)), .val (.ref a), .unset, .unset] [(.int (Int32.ofNat j))]))
      refine own_step (fun _ zk => XS.iconst X9.here hx rfl (hb hby at_73) zk) ?_
      show own_E p e below _ (T9.setTop (mkF m 74 #[.val (.int p1), .val (.int p2), .val (.int p3), .val (.int (Int32.ofNat n)), .val (.int (Int32.ofNat k)), .val (.int (Int32.ofNat (own_total n k))), .val (.int (Int32.ofNat j)), .val (.ref a), .unset, .unset] [(.int (3 : Int32)), (.int (Int32.ofNat j))]))
      by_cases jm3 : j < 3
      · skip
        refine own_step (fun _ zk => XS.icmpYes X9.here hx rfl (pc0 := 74) (pc' := 83) rfl (hb hby at_74) rfl (tlt ((own_lt j 3 (by omega) (by omega)).mpr (by omega))).1 (by decide) (by decide) zk) ?_
        show own_E p e below _ (T9.setTop (mkF m 83 #[.val (.int p1), .val (.int p2), .val (.int p3), .val (.int (Int32.ofNat n)), .val (.int (Int32.ofNat k)), .val (.int (Int32.ofNat (own_total n k))), .val (.int (Int32.ofNat j)), .val (.ref a), .unset, .unset] []))
        refine own_step (fun _ zk => XS.iload X9.here hx rfl (hb hby at_83) rfl zk) ?_
        show own_E p e below _ (T9.setTop (mkF m 85 #[.val (.int p1), .val (.int p2), .val (.int p3), .val (.int (Int32.ofNat n)), .val (.int (Int32.ofNat k)), .val (.int (Int32.ofNat (own_total n k))), .val (.int (Int32.ofNat j)), .val (.ref a), .unset, .unset] [(.int (Int32.ofNat j))]))
        refine own_step (fun _ zk => XS.iconst X9.here hx rfl (hb hby at_85) zk) ?_
        show own_E p e below _ (T9.setTop (mkF m 86 #[.val (.int p1), .val (.int p2), .val (.int p3), .val (.int (Int32.ofNat n)), .val (.int (Int32.ofNat k)), .val (.int (Int32.ofNat (own_total n k))), .val (.int (Int32.ofNat j)), .val (.ref a), .unset, .unset] [(.int (4 : Int32)), (.int (Int32.ofNat j))]))
        refine own_step (fun _ zk => XS.icmpYes X9.here hx rfl (pc0 := 86) (pc' := 95) rfl (hb hby at_86) rfl (tlt ((own_lt j 4 (by omega) (by omega)).mpr (by omega))).1 (by decide) (by decide) zk) ?_
        show own_E p e below _ (T9.setTop (mkF m 95 #[.val (.int p1), .val (.int p2), .val (.int p3), .val (.int (Int32.ofNat n)), .val (.int (Int32.ofNat k)), .val (.int (Int32.ofNat (own_total n k))), .val (.int (Int32.ofNat j)), .val (.ref a), .unset, .unset] []))
        refine own_step (fun _ zk => XS.iload X9.here hx rfl (hb hby at_95) rfl zk) ?_
        show own_E p e below _ (T9.setTop (mkF m 97 #[.val (.int p1), .val (.int p2), .val (.int p3), .val (.int (Int32.ofNat n)), .val (.int (Int32.ofNat k)), .val (.int (Int32.ofNat (own_total n k))), .val (.int (Int32.ofNat j)), .val (.ref a), .unset, .unset] [(.int (Int32.ofNat j))]))
        refine own_step (fun _ zk => XS.iconst X9.here hx rfl (hb hby at_97) zk) ?_
        show own_E p e below _ (T9.setTop (mkF m 98 #[.val (.int p1), .val (.int p2), .val (.int p3), .val (.int (Int32.ofNat n)), .val (.int (Int32.ofNat k)), .val (.int (Int32.ofNat (own_total n k))), .val (.int (Int32.ofNat j)), .val (.ref a), .unset, .unset] [(.int (5 : Int32)), (.int (Int32.ofNat j))]))
        refine own_step (fun _ zk => XS.icmpYes X9.here hx rfl (pc0 := 98) (pc' := 107) rfl (hb hby at_98) rfl (tlt ((own_lt j 5 (by omega) (by omega)).mpr (by omega))).1 (by decide) (by decide) zk) ?_
        show own_E p e below _ (T9.setTop (mkF m 107 #[.val (.int p1), .val (.int p2), .val (.int p3), .val (.int (Int32.ofNat n)), .val (.int (Int32.ofNat k)), .val (.int (Int32.ofNat (own_total n k))), .val (.int (Int32.ofNat j)), .val (.ref a), .unset, .unset] []))
        refine own_step (fun _ zk => XS.iload X9.here hx rfl (hb hby at_107) rfl zk) ?_
        show own_E p e below _ (T9.setTop (mkF m 109 #[.val (.int p1), .val (.int p2), .val (.int p3), .val (.int (Int32.ofNat n)), .val (.int (Int32.ofNat k)), .val (.int (Int32.ofNat (own_total n k))), .val (.int (Int32.ofNat j)), .val (.ref a), .unset, .unset] [(.int (Int32.ofNat j))]))
        refine own_step (fun _ zk => XS.bipush X9.here hx rfl (hb hby at_109) zk) ?_
        show own_E p e below _ (T9.setTop (mkF m 111 #[.val (.int p1), .val (.int p2), .val (.int p3), .val (.int (Int32.ofNat n)), .val (.int (Int32.ofNat k)), .val (.int (Int32.ofNat (own_total n k))), .val (.int (Int32.ofNat j)), .val (.ref a), .unset, .unset] [(.int (6 : Int32)), (.int (Int32.ofNat j))]))
        refine own_step (fun _ zk => XS.icmpYes X9.here hx rfl (pc0 := 111) (pc' := 120) rfl (hb hby at_111) rfl (tlt ((own_lt j 6 (by omega) (by omega)).mpr (by omega))).1 (by decide) (by decide) zk) ?_
        show own_E p e below _ (T9.setTop (mkF m 120 #[.val (.int p1), .val (.int p2), .val (.int p3), .val (.int (Int32.ofNat n)), .val (.int (Int32.ofNat k)), .val (.int (Int32.ofNat (own_total n k))), .val (.int (Int32.ofNat j)), .val (.ref a), .unset, .unset] []))
        refine own_step (fun _ zk => XS.aload X9.here hx rfl (hb hby at_120) rfl rfl zk) ?_
        show own_E p e below _ (T9.setTop (mkF m 122 #[.val (.int p1), .val (.int p2), .val (.int p3), .val (.int (Int32.ofNat n)), .val (.int (Int32.ofNat k)), .val (.int (Int32.ofNat (own_total n k))), .val (.int (Int32.ofNat j)), .val (.ref a), .unset, .unset] [(.ref a)]))
        obtain ⟨_, _, qa10, _, qc10⟩ := isOf (T := T9) hZ e9 HO9.1
        obtain ⟨_, _, ⟨T10, zL10, zK10, zN10⟩, -, X10, ⟨zLc10, hQ10, zl10, zy10, zz10⟩, st10⟩ := X9.virtualBack hx (y := (⟨"com/example/tallier/tallier/protocol/RecoverySets", "hasNext", "()Z"⟩ : MethodName)) (z := (⟨"com/example/tallier/tallier/protocol/RecoverySets", "hasNext", "()Z"⟩ : MethodName)) hown (mvT hZ (hw _ (List.mem_of_getElem? (i := 33) rfl))) (mvT hZ (hw _ (List.mem_of_getElem? (i := 34) rfl))) (notFace_of_selects (args := #[]) (mvT hZ (hw _ (List.mem_of_getElem? (i := 36) rfl)))) (mvT hZ (hw _ (List.mem_of_getElem? (i := 36) rfl))) (mvT hZ (hw _ (List.mem_of_getElem? (i := 35) rfl))) (by decide) (backOf (W := 0) (rm5 l Z a0 hw [] a vp9 (own_run n k 2).2.2 h9 n0 (Nat.le_trans Z0 K_9.1) HO9.2.2.2.2.2 HN9) hZ (hw _ (List.mem_of_getElem? (i := 37) rfl)) (hw _ (List.mem_of_getElem? (i := 7) rfl)) (by decide) (by decide)) qa10 qc10 (g := (mkF m 122 #[.val (.int p1), .val (.int p2), .val (.int p3), .val (.int (Int32.ofNat n)), .val (.int (Int32.ofNat k)), .val (.int (Int32.ofNat (own_total n k))), .val (.int (Int32.ofNat j)), .val (.ref a), .unset, .unset] [(.ref a)])) rfl (by rw [hml]; rfl) (Steps.refl _) (argsL := []) (rest := []) (lenOf pd_0_2 rfl) rfl (by show 2 * 0 + _ ≤ _; exact Nat.le_of_eq rfl) (hb hby at_122) (fun _ _ => ⟨rfl, e9, (by decide : 14 + 0 ≤ _), (by decide : 57 + 0 ≤ _)⟩)
        dsimp only [Pt.U, Pt.locs, Pt.cells, Pt.slots] at X10 zl10 zy10 zz10 st10 hQ10
        rw [show zK10 = 14 from zy10, show zN10 = 57 from zz10] at X10
        obtain ⟨rfl, N10q, e10⟩ := hQ10
        have N10 : Fr n0 zL10 := by rw [zl10]; exact Fr.app N9 N10q
        refine own_step (fun _ zk => (st10).trans zk) ?_
        show own_E p e below _ (T10.setTop (mkF m 125 #[.val (.int p1), .val (.int p2), .val (.int p3), .val (.int (Int32.ofNat n)), .val (.int (Int32.ofNat k)), .val (.int (Int32.ofNat (own_total n k))), .val (.int (Int32.ofNat j)), .val (.ref a), .unset, .unset] [(.int (own_b (own_run n k 2).2.2))]))
        refine own_step (fun _ zk => XS.istore X10.here hx rfl (hb hby at_125) rfl (l' := #[.val (.int p1), .val (.int p2), .val (.int p3), .val (.int (Int32.ofNat n)), .val (.int (Int32.ofNat k)), .val (.int (Int32.ofNat (own_total n k))), .val (.int (Int32.ofNat j)), .val (.ref a), .val (.int (own_b (own_run n k 2).2.2)), .unset]) rfl zk) ?_
        show own_E p e below _ (T10.setTop (mkF m 127 #[.val (.int p1), .val (.int p2), .val (.int p3), .val (.int (Int32.ofNat n)), .val (.int (Int32.ofNat k)), .val (.int (Int32.ofNat (own_total n k))), .val (.int (Int32.ofNat j)), .val (.ref a), .val (.int (own_b (own_run n k 2).2.2)), .unset] []))
        refine own_step (fun _ zk => XS.aload X10.here hx rfl (hb hby at_127) rfl rfl zk) ?_
        show own_E p e below _ (T10.setTop (mkF m 129 #[.val (.int p1), .val (.int p2), .val (.int p3), .val (.int (Int32.ofNat n)), .val (.int (Int32.ofNat k)), .val (.int (Int32.ofNat (own_total n k))), .val (.int (Int32.ofNat j)), .val (.ref a), .val (.int (own_b (own_run n k 2).2.2)), .unset] [(.ref a)]))
        obtain ⟨_, _, qa11, _, qc11⟩ := isOf (T := T10) hZ e10 HO9.1
        obtain ⟨_, _, ⟨T11, zL11, zK11, zN11⟩, -, X11, ⟨zLc11, hQ11, zl11, zy11, zz11⟩, st11⟩ := X10.virtualBack hx (y := (⟨"com/example/tallier/tallier/protocol/RecoverySets", "hasNext", "()Z"⟩ : MethodName)) (z := (⟨"com/example/tallier/tallier/protocol/RecoverySets", "hasNext", "()Z"⟩ : MethodName)) hown (mvT hZ (hw _ (List.mem_of_getElem? (i := 33) rfl))) (mvT hZ (hw _ (List.mem_of_getElem? (i := 34) rfl))) (notFace_of_selects (args := #[]) (mvT hZ (hw _ (List.mem_of_getElem? (i := 36) rfl)))) (mvT hZ (hw _ (List.mem_of_getElem? (i := 36) rfl))) (mvT hZ (hw _ (List.mem_of_getElem? (i := 35) rfl))) (by decide) (backOf (W := 0) (rm5 l Z a0 hw [] a vp9 (own_run n k 2).2.2 h9 n0 (Nat.le_trans Z0 K_9.1) HO9.2.2.2.2.2 HN9) hZ (hw _ (List.mem_of_getElem? (i := 37) rfl)) (hw _ (List.mem_of_getElem? (i := 7) rfl)) (by decide) (by decide)) qa11 qc11 (g := (mkF m 129 #[.val (.int p1), .val (.int p2), .val (.int p3), .val (.int (Int32.ofNat n)), .val (.int (Int32.ofNat k)), .val (.int (Int32.ofNat (own_total n k))), .val (.int (Int32.ofNat j)), .val (.ref a), .val (.int (own_b (own_run n k 2).2.2)), .unset] [(.ref a)])) rfl (by rw [hml]; rfl) (Steps.refl _) (argsL := []) (rest := []) (lenOf pd_0_2 rfl) rfl (by show 2 * 0 + _ ≤ _; exact Nat.le_of_eq rfl) (hb hby at_129) (fun _ _ => ⟨rfl, e10, (by decide : 14 + 0 ≤ _), (by decide : 57 + 0 ≤ _)⟩)
        dsimp only [Pt.U, Pt.locs, Pt.cells, Pt.slots] at X11 zl11 zy11 zz11 st11 hQ11
        rw [show zK11 = 14 from zy11, show zN11 = 57 from zz11] at X11
        obtain ⟨rfl, N11q, e11⟩ := hQ11
        have N11 : Fr n0 zL11 := by rw [zl11]; exact Fr.app N10 N11q
        refine own_step (fun _ zk => (st11).trans zk) ?_
        show own_E p e below _ (T11.setTop (mkF m 132 #[.val (.int p1), .val (.int p2), .val (.int p3), .val (.int (Int32.ofNat n)), .val (.int (Int32.ofNat k)), .val (.int (Int32.ofNat (own_total n k))), .val (.int (Int32.ofNat j)), .val (.ref a), .val (.int (own_b (own_run n k 2).2.2)), .unset] [(.int (own_b (own_run n k 2).2.2))]))
        refine own_step (fun _ zk => XS.istore X11.here hx rfl (hb hby at_132) rfl (l' := #[.val (.int p1), .val (.int p2), .val (.int p3), .val (.int (Int32.ofNat n)), .val (.int (Int32.ofNat k)), .val (.int (Int32.ofNat (own_total n k))), .val (.int (Int32.ofNat j)), .val (.ref a), .val (.int (own_b (own_run n k 2).2.2)), .val (.int (own_b (own_run n k 2).2.2))]) rfl zk) ?_
        show own_E p e below _ (T11.setTop (mkF m 134 #[.val (.int p1), .val (.int p2), .val (.int p3), .val (.int (Int32.ofNat n)), .val (.int (Int32.ofNat k)), .val (.int (Int32.ofNat (own_total n k))), .val (.int (Int32.ofNat j)), .val (.ref a), .val (.int (own_b (own_run n k 2).2.2)), .val (.int (own_b (own_run n k 2).2.2))] []))
        refine own_step (fun _ zk => XS.iload X11.here hx rfl (hb hby at_134) rfl zk) ?_
        show own_E p e below _ (T11.setTop (mkF m 136 #[.val (.int p1), .val (.int p2), .val (.int p3), .val (.int (Int32.ofNat n)), .val (.int (Int32.ofNat k)), .val (.int (Int32.ofNat (own_total n k))), .val (.int (Int32.ofNat j)), .val (.ref a), .val (.int (own_b (own_run n k 2).2.2)), .val (.int (own_b (own_run n k 2).2.2))] [(.int (own_b (own_run n k 2).2.2))]))
        refine own_step (fun _ zk => XS.iload X11.here hx rfl (hb hby at_136) rfl zk) ?_
        show own_E p e below _ (T11.setTop (mkF m 138 #[.val (.int p1), .val (.int p2), .val (.int p3), .val (.int (Int32.ofNat n)), .val (.int (Int32.ofNat k)), .val (.int (Int32.ofNat (own_total n k))), .val (.int (Int32.ofNat j)), .val (.ref a), .val (.int (own_b (own_run n k 2).2.2)), .val (.int (own_b (own_run n k 2).2.2))] [(.int (Int32.ofNat j)), (.int (own_b (own_run n k 2).2.2))]))
        refine own_step (fun _ zk => XS.iload X11.here hx rfl (hb hby at_138) rfl zk) ?_
        show own_E p e below _ (T11.setTop (mkF m 140 #[.val (.int p1), .val (.int p2), .val (.int p3), .val (.int (Int32.ofNat n)), .val (.int (Int32.ofNat k)), .val (.int (Int32.ofNat (own_total n k))), .val (.int (Int32.ofNat j)), .val (.ref a), .val (.int (own_b (own_run n k 2).2.2)), .val (.int (own_b (own_run n k 2).2.2))] [(.int (Int32.ofNat (own_total n k))), (.int (Int32.ofNat j)), (.int (own_b (own_run n k 2).2.2))]))
        by_cases hc140 : (Int32.ofNat j) < (Int32.ofNat (own_total n k))
        · skip
          refine own_step (fun _ zk => XS.icmpNo X11.here hx rfl (hb hby at_140) rfl (tlt hc140).2.1 zk) ?_
          show own_E p e below _ (T11.setTop (mkF m 143 #[.val (.int p1), .val (.int p2), .val (.int p3), .val (.int (Int32.ofNat n)), .val (.int (Int32.ofNat k)), .val (.int (Int32.ofNat (own_total n k))), .val (.int (Int32.ofNat j)), .val (.ref a), .val (.int (own_b (own_run n k 2).2.2)), .val (.int (own_b (own_run n k 2).2.2))] [(.int (own_b (own_run n k 2).2.2))]))
          refine own_step (fun _ zk => XS.iconst X11.here hx rfl (hb hby at_143) zk) ?_
          show own_E p e below _ (T11.setTop (mkF m 144 #[.val (.int p1), .val (.int p2), .val (.int p3), .val (.int (Int32.ofNat n)), .val (.int (Int32.ofNat k)), .val (.int (Int32.ofNat (own_total n k))), .val (.int (Int32.ofNat j)), .val (.ref a), .val (.int (own_b (own_run n k 2).2.2)), .val (.int (own_b (own_run n k 2).2.2))] [(.int (1 : Int32)), (.int (own_b (own_run n k 2).2.2))]))
          refine own_step (fun _ zk => XS.goto X11.here hx rfl (pc0 := 144) (pc' := 148) rfl (hb hby at_144) (by decide) (by decide) zk) ?_
          show own_E p e below _ (T11.setTop (mkF m 148 #[.val (.int p1), .val (.int p2), .val (.int p3), .val (.int (Int32.ofNat n)), .val (.int (Int32.ofNat k)), .val (.int (Int32.ofNat (own_total n k))), .val (.int (Int32.ofNat j)), .val (.ref a), .val (.int (own_b (own_run n k 2).2.2)), .val (.int (own_b (own_run n k 2).2.2))] [(.int (1 : Int32)), (.int (own_b (own_run n k 2).2.2))]))
          have fz := own_all n (by omega) k (by omega) hk1 hkn 2 (by decide) (by omega)
          have hz := hc140
          rw [own_lt j _ (by omega) (by omega)] at hz
          refine own_step (fun _ zk => XS.icmpNo X11.here hx rfl (hb hby at_148) rfl (teq (own_b1 fz (by omega))).2 zk) ?_
          show own_E p e below _ (T11.setTop (mkF m 151 #[.val (.int p1), .val (.int p2), .val (.int p3), .val (.int (Int32.ofNat n)), .val (.int (Int32.ofNat k)), .val (.int (Int32.ofNat (own_total n k))), .val (.int (Int32.ofNat j)), .val (.ref a), .val (.int (own_b (own_run n k 2).2.2)), .val (.int (own_b (own_run n k 2).2.2))] []))
          refine own_step (fun _ zk => XS.iload X11.here hx rfl (hb hby at_151) rfl zk) ?_
          show own_E p e below _ (T11.setTop (mkF m 153 #[.val (.int p1), .val (.int p2), .val (.int p3), .val (.int (Int32.ofNat n)), .val (.int (Int32.ofNat k)), .val (.int (Int32.ofNat (own_total n k))), .val (.int (Int32.ofNat j)), .val (.ref a), .val (.int (own_b (own_run n k 2).2.2)), .val (.int (own_b (own_run n k 2).2.2))] [(.int (own_b (own_run n k 2).2.2))]))
          refine own_step (fun _ zk => XS.iload X11.here hx rfl (hb hby at_153) rfl zk) ?_
          show own_E p e below _ (T11.setTop (mkF m 155 #[.val (.int p1), .val (.int p2), .val (.int p3), .val (.int (Int32.ofNat n)), .val (.int (Int32.ofNat k)), .val (.int (Int32.ofNat (own_total n k))), .val (.int (Int32.ofNat j)), .val (.ref a), .val (.int (own_b (own_run n k 2).2.2)), .val (.int (own_b (own_run n k 2).2.2))] [(.int (own_b (own_run n k 2).2.2)), (.int (own_b (own_run n k 2).2.2))]))
          refine own_step (fun _ zk => XS.icmpNo X11.here hx rfl (hb hby at_155) rfl (teq rfl).2 zk) ?_
          show own_E p e below _ (T11.setTop (mkF m 158 #[.val (.int p1), .val (.int p2), .val (.int p3), .val (.int (Int32.ofNat n)), .val (.int (Int32.ofNat k)), .val (.int (Int32.ofNat (own_total n k))), .val (.int (Int32.ofNat j)), .val (.ref a), .val (.int (own_b (own_run n k 2).2.2)), .val (.int (own_b (own_run n k 2).2.2))] []))
          refine own_step (fun _ zk => XS.iconst X11.here hx rfl (hb hby at_158) zk) ?_
          show own_E p e below _ (T11.setTop (mkF m 159 #[.val (.int p1), .val (.int p2), .val (.int p3), .val (.int (Int32.ofNat n)), .val (.int (Int32.ofNat k)), .val (.int (Int32.ofNat (own_total n k))), .val (.int (Int32.ofNat j)), .val (.ref a), .val (.int (own_b (own_run n k 2).2.2)), .val (.int (own_b (own_run n k 2).2.2))] [(.int (1 : Int32))]))
          refine own_step (fun _ zk => XS.goto X11.here hx rfl (pc0 := 159) (pc' := 163) rfl (hb hby at_159) (by decide) (by decide) zk) ?_
          show own_E p e below _ (T11.setTop (mkF m 163 #[.val (.int p1), .val (.int p2), .val (.int p3), .val (.int (Int32.ofNat n)), .val (.int (Int32.ofNat k)), .val (.int (Int32.ofNat (own_total n k))), .val (.int (Int32.ofNat j)), .val (.ref a), .val (.int (own_b (own_run n k 2).2.2)), .val (.int (own_b (own_run n k 2).2.2))] [(.int (1 : Int32))]))
          refine own_ret X11 hlk (v := some (.int (nar .boolean (1 : Int32)))) (fun h => by rw [Bd.returns] at h; cases h) ?_ (by decide) (by decide) (fun fs hr => retN X11 hx (t := .boolean) Bd.returns (by simp) (hb hby at_163) hr)
          show Q0 Z p1 p2 p3 h0 n0 _ T11.heap _
          rw [e11]
          exact ⟨by decide, N11⟩
        · skip
          refine own_step (fun _ zk => XS.icmpYes X11.here hx rfl (pc0 := 140) (pc' := 147) rfl (hb hby at_140) rfl (flt hc140).2.1 (by decide) (by decide) zk) ?_
          show own_E p e below _ (T11.setTop (mkF m 147 #[.val (.int p1), .val (.int p2), .val (.int p3), .val (.int (Int32.ofNat n)), .val (.int (Int32.ofNat k)), .val (.int (Int32.ofNat (own_total n k))), .val (.int (Int32.ofNat j)), .val (.ref a), .val (.int (own_b (own_run n k 2).2.2)), .val (.int (own_b (own_run n k 2).2.2))] [(.int (own_b (own_run n k 2).2.2))]))
          refine own_step (fun _ zk => XS.iconst X11.here hx rfl (hb hby at_147) zk) ?_
          show own_E p e below _ (T11.setTop (mkF m 148 #[.val (.int p1), .val (.int p2), .val (.int p3), .val (.int (Int32.ofNat n)), .val (.int (Int32.ofNat k)), .val (.int (Int32.ofNat (own_total n k))), .val (.int (Int32.ofNat j)), .val (.ref a), .val (.int (own_b (own_run n k 2).2.2)), .val (.int (own_b (own_run n k 2).2.2))] [(.int (0 : Int32)), (.int (own_b (own_run n k 2).2.2))]))
          have fz := own_all n (by omega) k (by omega) hk1 hkn 2 (by decide) (by omega)
          have hz := hc140
          rw [own_lt j _ (by omega) (by omega)] at hz
          refine own_step (fun _ zk => XS.icmpNo X11.here hx rfl (hb hby at_148) rfl (teq (own_b0 fz (by omega))).2 zk) ?_
          show own_E p e below _ (T11.setTop (mkF m 151 #[.val (.int p1), .val (.int p2), .val (.int p3), .val (.int (Int32.ofNat n)), .val (.int (Int32.ofNat k)), .val (.int (Int32.ofNat (own_total n k))), .val (.int (Int32.ofNat j)), .val (.ref a), .val (.int (own_b (own_run n k 2).2.2)), .val (.int (own_b (own_run n k 2).2.2))] []))
          refine own_step (fun _ zk => XS.iload X11.here hx rfl (hb hby at_151) rfl zk) ?_
          show own_E p e below _ (T11.setTop (mkF m 153 #[.val (.int p1), .val (.int p2), .val (.int p3), .val (.int (Int32.ofNat n)), .val (.int (Int32.ofNat k)), .val (.int (Int32.ofNat (own_total n k))), .val (.int (Int32.ofNat j)), .val (.ref a), .val (.int (own_b (own_run n k 2).2.2)), .val (.int (own_b (own_run n k 2).2.2))] [(.int (own_b (own_run n k 2).2.2))]))
          refine own_step (fun _ zk => XS.iload X11.here hx rfl (hb hby at_153) rfl zk) ?_
          show own_E p e below _ (T11.setTop (mkF m 155 #[.val (.int p1), .val (.int p2), .val (.int p3), .val (.int (Int32.ofNat n)), .val (.int (Int32.ofNat k)), .val (.int (Int32.ofNat (own_total n k))), .val (.int (Int32.ofNat j)), .val (.ref a), .val (.int (own_b (own_run n k 2).2.2)), .val (.int (own_b (own_run n k 2).2.2))] [(.int (own_b (own_run n k 2).2.2)), (.int (own_b (own_run n k 2).2.2))]))
          refine own_step (fun _ zk => XS.icmpNo X11.here hx rfl (hb hby at_155) rfl (teq rfl).2 zk) ?_
          show own_E p e below _ (T11.setTop (mkF m 158 #[.val (.int p1), .val (.int p2), .val (.int p3), .val (.int (Int32.ofNat n)), .val (.int (Int32.ofNat k)), .val (.int (Int32.ofNat (own_total n k))), .val (.int (Int32.ofNat j)), .val (.ref a), .val (.int (own_b (own_run n k 2).2.2)), .val (.int (own_b (own_run n k 2).2.2))] []))
          refine own_step (fun _ zk => XS.iconst X11.here hx rfl (hb hby at_158) zk) ?_
          show own_E p e below _ (T11.setTop (mkF m 159 #[.val (.int p1), .val (.int p2), .val (.int p3), .val (.int (Int32.ofNat n)), .val (.int (Int32.ofNat k)), .val (.int (Int32.ofNat (own_total n k))), .val (.int (Int32.ofNat j)), .val (.ref a), .val (.int (own_b (own_run n k 2).2.2)), .val (.int (own_b (own_run n k 2).2.2))] [(.int (1 : Int32))]))
          refine own_step (fun _ zk => XS.goto X11.here hx rfl (pc0 := 159) (pc' := 163) rfl (hb hby at_159) (by decide) (by decide) zk) ?_
          show own_E p e below _ (T11.setTop (mkF m 163 #[.val (.int p1), .val (.int p2), .val (.int p3), .val (.int (Int32.ofNat n)), .val (.int (Int32.ofNat k)), .val (.int (Int32.ofNat (own_total n k))), .val (.int (Int32.ofNat j)), .val (.ref a), .val (.int (own_b (own_run n k 2).2.2)), .val (.int (own_b (own_run n k 2).2.2))] [(.int (1 : Int32))]))
          refine own_ret X11 hlk (v := some (.int (nar .boolean (1 : Int32)))) (fun h => by rw [Bd.returns] at h; cases h) ?_ (by decide) (by decide) (fun fs hr => retN X11 hx (t := .boolean) Bd.returns (by simp) (hb hby at_163) hr)
          show Q0 Z p1 p2 p3 h0 n0 _ T11.heap _
          rw [e11]
          exact ⟨by decide, N11⟩
      · skip
        refine own_step (fun _ zk => XS.icmpNo X9.here hx rfl (hb hby at_74) rfl (flt (fun z => jm3 ((own_lt j 3 (by omega) (by omega)).mp z))).1 zk) ?_
        show own_E p e below _ (T9.setTop (mkF m 77 #[.val (.int p1), .val (.int p2), .val (.int p3), .val (.int (Int32.ofNat n)), .val (.int (Int32.ofNat k)), .val (.int (Int32.ofNat (own_total n k))), .val (.int (Int32.ofNat j)), .val (.ref a), .unset, .unset] []))
        refine own_step (fun _ zk => XS.aload X9.here hx rfl (hb hby at_77) rfl rfl zk) ?_
        show own_E p e below _ (T9.setTop (mkF m 79 #[.val (.int p1), .val (.int p2), .val (.int p3), .val (.int (Int32.ofNat n)), .val (.int (Int32.ofNat k)), .val (.int (Int32.ofNat (own_total n k))), .val (.int (Int32.ofNat j)), .val (.ref a), .unset, .unset] [(.ref a)]))
        have fi2 := own_all n (by omega) k (by omega) hk1 hkn 2 (by decide) (by omega)
        obtain ⟨rp2, ep2⟩ := own_N_t HN9 (by rw [own_fine_p fi2]; exact decide_eq_true (by omega))
        rw [ep2] at HO9
        obtain ⟨_, _, qa12, _, qc12⟩ := isOf (T := T9) hZ e9 HO9.1
        obtain ⟨_, _, ⟨T12, zL12, zK12, zN12⟩, -, X12, ⟨zLc12, hQ12, zl12, zy12, zz12⟩, st12⟩ := X9.virtualBack hx (y := (⟨"com/example/tallier/tallier/protocol/RecoverySets", "next", "()[I"⟩ : MethodName)) (z := (⟨"com/example/tallier/tallier/protocol/RecoverySets", "next", "()[I"⟩ : MethodName)) hown (mvT hZ (hw _ (List.mem_of_getElem? (i := 38) rfl))) (mvT hZ (hw _ (List.mem_of_getElem? (i := 39) rfl))) (notFace_of_selects (args := #[]) (mvT hZ (hw _ (List.mem_of_getElem? (i := 41) rfl)))) (mvT hZ (hw _ (List.mem_of_getElem? (i := 41) rfl))) (mvT hZ (hw _ (List.mem_of_getElem? (i := 40) rfl))) (by decide) (backOf (W := 0) (rm6 l Z a0 hw [] a n k (own_run n k 2).1 (own_run n k 2).2.1 vc9 rp2 h9 n0 (Nat.le_trans Z0 K_9.1) hk1 (by omega) hn4 (own_fine_rg fi2) ge_a HO9 HR9 (own_fine_ok fi2)) hZ (hw _ (List.mem_of_getElem? (i := 42) rfl)) (hw _ (List.mem_of_getElem? (i := 7) rfl)) (by decide) (by decide)) qa12 qc12 (g := (mkF m 79 #[.val (.int p1), .val (.int p2), .val (.int p3), .val (.int (Int32.ofNat n)), .val (.int (Int32.ofNat k)), .val (.int (Int32.ofNat (own_total n k))), .val (.int (Int32.ofNat j)), .val (.ref a), .unset, .unset] [(.ref a)])) rfl (by rw [hml]; rfl) (Steps.refl _) (argsL := []) (rest := []) (lenOf pd_0_3 rfl) rfl (by show 2 * 0 + _ ≤ _; exact Nat.le_of_eq rfl) (hb hby at_79) (fun _ _ => ⟨rfl, e9, (by decide : 14 + 4 ≤ _), (by decide : 57 + 16 ≤ _)⟩)
        dsimp only [Pt.U, Pt.locs, Pt.cells, Pt.slots] at X12 zl12 zy12 zz12 st12 hQ12
        rw [show zK12 = 18 from zy12, show zN12 = 73 from zz12] at X12
        generalize e12 : T12.heap = h12 at hQ12
        obtain ⟨rfl, N12q, Kq12, vc12, vp12, HO12, HR12, HN12⟩ := hQ12
        have K_12 := Keep.trans K_9 Kq12 (allS (Or.inr gh_a) all0)
        replace HO12 : own_O Z h12 a n k (own_run n k 3).1 vc12 vp12 := HO12
        replace HR12 : own_R Z h12 n0 vc12 k (own_run n k 3).2.1 := HR12
        replace HN12 : own_N vp12 (own_run n k 3).2.2 := HN12
        have N12 : Fr n0 zL12 := by rw [zl12]; exact Fr.app N9 N12q
        refine own_step (fun _ zk => (st12).trans zk) ?_
        show own_E p e below _ (T12.setTop (mkF m 82 #[.val (.int p1), .val (.int p2), .val (.int p3), .val (.int (Int32.ofNat n)), .val (.int (Int32.ofNat k)), .val (.int (Int32.ofNat (own_total n k))), .val (.int (Int32.ofNat j)), .val (.ref a), .unset, .unset] [(.ref rp2)]))
        refine own_step (fun _ zk => Jvm.Free.XT.pop X12.here hx rfl (hb hby at_82) rfl rfl zk) ?_
        show own_E p e below _ (T12.setTop (mkF m 83 #[.val (.int p1), .val (.int p2), .val (.int p3), .val (.int (Int32.ofNat n)), .val (.int (Int32.ofNat k)), .val (.int (Int32.ofNat (own_total n k))), .val (.int (Int32.ofNat j)), .val (.ref a), .unset, .unset] []))
        refine own_step (fun _ zk => XS.iload X12.here hx rfl (hb hby at_83) rfl zk) ?_
        show own_E p e below _ (T12.setTop (mkF m 85 #[.val (.int p1), .val (.int p2), .val (.int p3), .val (.int (Int32.ofNat n)), .val (.int (Int32.ofNat k)), .val (.int (Int32.ofNat (own_total n k))), .val (.int (Int32.ofNat j)), .val (.ref a), .unset, .unset] [(.int (Int32.ofNat j))]))
        refine own_step (fun _ zk => XS.iconst X12.here hx rfl (hb hby at_85) zk) ?_
        show own_E p e below _ (T12.setTop (mkF m 86 #[.val (.int p1), .val (.int p2), .val (.int p3), .val (.int (Int32.ofNat n)), .val (.int (Int32.ofNat k)), .val (.int (Int32.ofNat (own_total n k))), .val (.int (Int32.ofNat j)), .val (.ref a), .unset, .unset] [(.int (4 : Int32)), (.int (Int32.ofNat j))]))
        by_cases jm4 : j < 4
        · skip
          refine own_step (fun _ zk => XS.icmpYes X12.here hx rfl (pc0 := 86) (pc' := 95) rfl (hb hby at_86) rfl (tlt ((own_lt j 4 (by omega) (by omega)).mpr (by omega))).1 (by decide) (by decide) zk) ?_
          show own_E p e below _ (T12.setTop (mkF m 95 #[.val (.int p1), .val (.int p2), .val (.int p3), .val (.int (Int32.ofNat n)), .val (.int (Int32.ofNat k)), .val (.int (Int32.ofNat (own_total n k))), .val (.int (Int32.ofNat j)), .val (.ref a), .unset, .unset] []))
          refine own_step (fun _ zk => XS.iload X12.here hx rfl (hb hby at_95) rfl zk) ?_
          show own_E p e below _ (T12.setTop (mkF m 97 #[.val (.int p1), .val (.int p2), .val (.int p3), .val (.int (Int32.ofNat n)), .val (.int (Int32.ofNat k)), .val (.int (Int32.ofNat (own_total n k))), .val (.int (Int32.ofNat j)), .val (.ref a), .unset, .unset] [(.int (Int32.ofNat j))]))
          refine own_step (fun _ zk => XS.iconst X12.here hx rfl (hb hby at_97) zk) ?_
          show own_E p e below _ (T12.setTop (mkF m 98 #[.val (.int p1), .val (.int p2), .val (.int p3), .val (.int (Int32.ofNat n)), .val (.int (Int32.ofNat k)), .val (.int (Int32.ofNat (own_total n k))), .val (.int (Int32.ofNat j)), .val (.ref a), .unset, .unset] [(.int (5 : Int32)), (.int (Int32.ofNat j))]))
          refine own_step (fun _ zk => XS.icmpYes X12.here hx rfl (pc0 := 98) (pc' := 107) rfl (hb hby at_98) rfl (tlt ((own_lt j 5 (by omega) (by omega)).mpr (by omega))).1 (by decide) (by decide) zk) ?_
          show own_E p e below _ (T12.setTop (mkF m 107 #[.val (.int p1), .val (.int p2), .val (.int p3), .val (.int (Int32.ofNat n)), .val (.int (Int32.ofNat k)), .val (.int (Int32.ofNat (own_total n k))), .val (.int (Int32.ofNat j)), .val (.ref a), .unset, .unset] []))
          refine own_step (fun _ zk => XS.iload X12.here hx rfl (hb hby at_107) rfl zk) ?_
          show own_E p e below _ (T12.setTop (mkF m 109 #[.val (.int p1), .val (.int p2), .val (.int p3), .val (.int (Int32.ofNat n)), .val (.int (Int32.ofNat k)), .val (.int (Int32.ofNat (own_total n k))), .val (.int (Int32.ofNat j)), .val (.ref a), .unset, .unset] [(.int (Int32.ofNat j))]))
          refine own_step (fun _ zk => XS.bipush X12.here hx rfl (hb hby at_109) zk) ?_
          show own_E p e below _ (T12.setTop (mkF m 111 #[.val (.int p1), .val (.int p2), .val (.int p3), .val (.int (Int32.ofNat n)), .val (.int (Int32.ofNat k)), .val (.int (Int32.ofNat (own_total n k))), .val (.int (Int32.ofNat j)), .val (.ref a), .unset, .unset] [(.int (6 : Int32)), (.int (Int32.ofNat j))]))
          refine own_step (fun _ zk => XS.icmpYes X12.here hx rfl (pc0 := 111) (pc' := 120) rfl (hb hby at_111) rfl (tlt ((own_lt j 6 (by omega) (by omega)).mpr (by omega))).1 (by decide) (by decide) zk) ?_
          show own_E p e below _ (T12.setTop (mkF m 120 #[.val (.int p1), .val (.int p2), .val (.int p3), .val (.int (Int32.ofNat n)), .val (.int (Int32.ofNat k)), .val (.int (Int32.ofNat (own_total n k))), .val (.int (Int32.ofNat j)), .val (.ref a), .unset, .unset] []))
          refine own_step (fun _ zk => XS.aload X12.here hx rfl (hb hby at_120) rfl rfl zk) ?_
          show own_E p e below _ (T12.setTop (mkF m 122 #[.val (.int p1), .val (.int p2), .val (.int p3), .val (.int (Int32.ofNat n)), .val (.int (Int32.ofNat k)), .val (.int (Int32.ofNat (own_total n k))), .val (.int (Int32.ofNat j)), .val (.ref a), .unset, .unset] [(.ref a)]))
          obtain ⟨_, _, qa13, _, qc13⟩ := isOf (T := T12) hZ e12 HO12.1
          obtain ⟨_, _, ⟨T13, zL13, zK13, zN13⟩, -, X13, ⟨zLc13, hQ13, zl13, zy13, zz13⟩, st13⟩ := X12.virtualBack hx (y := (⟨"com/example/tallier/tallier/protocol/RecoverySets", "hasNext", "()Z"⟩ : MethodName)) (z := (⟨"com/example/tallier/tallier/protocol/RecoverySets", "hasNext", "()Z"⟩ : MethodName)) hown (mvT hZ (hw _ (List.mem_of_getElem? (i := 33) rfl))) (mvT hZ (hw _ (List.mem_of_getElem? (i := 34) rfl))) (notFace_of_selects (args := #[]) (mvT hZ (hw _ (List.mem_of_getElem? (i := 36) rfl)))) (mvT hZ (hw _ (List.mem_of_getElem? (i := 36) rfl))) (mvT hZ (hw _ (List.mem_of_getElem? (i := 35) rfl))) (by decide) (backOf (W := 0) (rm5 l Z a0 hw [] a vp12 (own_run n k 3).2.2 h12 n0 (Nat.le_trans Z0 K_12.1) HO12.2.2.2.2.2 HN12) hZ (hw _ (List.mem_of_getElem? (i := 37) rfl)) (hw _ (List.mem_of_getElem? (i := 7) rfl)) (by decide) (by decide)) qa13 qc13 (g := (mkF m 122 #[.val (.int p1), .val (.int p2), .val (.int p3), .val (.int (Int32.ofNat n)), .val (.int (Int32.ofNat k)), .val (.int (Int32.ofNat (own_total n k))), .val (.int (Int32.ofNat j)), .val (.ref a), .unset, .unset] [(.ref a)])) rfl (by rw [hml]; rfl) (Steps.refl _) (argsL := []) (rest := []) (lenOf pd_0_2 rfl) rfl (by show 2 * 0 + _ ≤ _; exact Nat.le_of_eq rfl) (hb hby at_122) (fun _ _ => ⟨rfl, e12, (by decide : 18 + 0 ≤ _), (by decide : 73 + 0 ≤ _)⟩)
          dsimp only [Pt.U, Pt.locs, Pt.cells, Pt.slots] at X13 zl13 zy13 zz13 st13 hQ13
          rw [show zK13 = 18 from zy13, show zN13 = 73 from zz13] at X13
          obtain ⟨rfl, N13q, e13⟩ := hQ13
          have N13 : Fr n0 zL13 := by rw [zl13]; exact Fr.app N12 N13q
          refine own_step (fun _ zk => (st13).trans zk) ?_
          show own_E p e below _ (T13.setTop (mkF m 125 #[.val (.int p1), .val (.int p2), .val (.int p3), .val (.int (Int32.ofNat n)), .val (.int (Int32.ofNat k)), .val (.int (Int32.ofNat (own_total n k))), .val (.int (Int32.ofNat j)), .val (.ref a), .unset, .unset] [(.int (own_b (own_run n k 3).2.2))]))
          refine own_step (fun _ zk => XS.istore X13.here hx rfl (hb hby at_125) rfl (l' := #[.val (.int p1), .val (.int p2), .val (.int p3), .val (.int (Int32.ofNat n)), .val (.int (Int32.ofNat k)), .val (.int (Int32.ofNat (own_total n k))), .val (.int (Int32.ofNat j)), .val (.ref a), .val (.int (own_b (own_run n k 3).2.2)), .unset]) rfl zk) ?_
          show own_E p e below _ (T13.setTop (mkF m 127 #[.val (.int p1), .val (.int p2), .val (.int p3), .val (.int (Int32.ofNat n)), .val (.int (Int32.ofNat k)), .val (.int (Int32.ofNat (own_total n k))), .val (.int (Int32.ofNat j)), .val (.ref a), .val (.int (own_b (own_run n k 3).2.2)), .unset] []))
          refine own_step (fun _ zk => XS.aload X13.here hx rfl (hb hby at_127) rfl rfl zk) ?_
          show own_E p e below _ (T13.setTop (mkF m 129 #[.val (.int p1), .val (.int p2), .val (.int p3), .val (.int (Int32.ofNat n)), .val (.int (Int32.ofNat k)), .val (.int (Int32.ofNat (own_total n k))), .val (.int (Int32.ofNat j)), .val (.ref a), .val (.int (own_b (own_run n k 3).2.2)), .unset] [(.ref a)]))
          obtain ⟨_, _, qa14, _, qc14⟩ := isOf (T := T13) hZ e13 HO12.1
          obtain ⟨_, _, ⟨T14, zL14, zK14, zN14⟩, -, X14, ⟨zLc14, hQ14, zl14, zy14, zz14⟩, st14⟩ := X13.virtualBack hx (y := (⟨"com/example/tallier/tallier/protocol/RecoverySets", "hasNext", "()Z"⟩ : MethodName)) (z := (⟨"com/example/tallier/tallier/protocol/RecoverySets", "hasNext", "()Z"⟩ : MethodName)) hown (mvT hZ (hw _ (List.mem_of_getElem? (i := 33) rfl))) (mvT hZ (hw _ (List.mem_of_getElem? (i := 34) rfl))) (notFace_of_selects (args := #[]) (mvT hZ (hw _ (List.mem_of_getElem? (i := 36) rfl)))) (mvT hZ (hw _ (List.mem_of_getElem? (i := 36) rfl))) (mvT hZ (hw _ (List.mem_of_getElem? (i := 35) rfl))) (by decide) (backOf (W := 0) (rm5 l Z a0 hw [] a vp12 (own_run n k 3).2.2 h12 n0 (Nat.le_trans Z0 K_12.1) HO12.2.2.2.2.2 HN12) hZ (hw _ (List.mem_of_getElem? (i := 37) rfl)) (hw _ (List.mem_of_getElem? (i := 7) rfl)) (by decide) (by decide)) qa14 qc14 (g := (mkF m 129 #[.val (.int p1), .val (.int p2), .val (.int p3), .val (.int (Int32.ofNat n)), .val (.int (Int32.ofNat k)), .val (.int (Int32.ofNat (own_total n k))), .val (.int (Int32.ofNat j)), .val (.ref a), .val (.int (own_b (own_run n k 3).2.2)), .unset] [(.ref a)])) rfl (by rw [hml]; rfl) (Steps.refl _) (argsL := []) (rest := []) (lenOf pd_0_2 rfl) rfl (by show 2 * 0 + _ ≤ _; exact Nat.le_of_eq rfl) (hb hby at_129) (fun _ _ => ⟨rfl, e13, (by decide : 18 + 0 ≤ _), (by decide : 73 + 0 ≤ _)⟩)
          dsimp only [Pt.U, Pt.locs, Pt.cells, Pt.slots] at X14 zl14 zy14 zz14 st14 hQ14
          rw [show zK14 = 18 from zy14, show zN14 = 73 from zz14] at X14
          obtain ⟨rfl, N14q, e14⟩ := hQ14
          have N14 : Fr n0 zL14 := by rw [zl14]; exact Fr.app N13 N14q
          refine own_step (fun _ zk => (st14).trans zk) ?_
          show own_E p e below _ (T14.setTop (mkF m 132 #[.val (.int p1), .val (.int p2), .val (.int p3), .val (.int (Int32.ofNat n)), .val (.int (Int32.ofNat k)), .val (.int (Int32.ofNat (own_total n k))), .val (.int (Int32.ofNat j)), .val (.ref a), .val (.int (own_b (own_run n k 3).2.2)), .unset] [(.int (own_b (own_run n k 3).2.2))]))
          refine own_step (fun _ zk => XS.istore X14.here hx rfl (hb hby at_132) rfl (l' := #[.val (.int p1), .val (.int p2), .val (.int p3), .val (.int (Int32.ofNat n)), .val (.int (Int32.ofNat k)), .val (.int (Int32.ofNat (own_total n k))), .val (.int (Int32.ofNat j)), .val (.ref a), .val (.int (own_b (own_run n k 3).2.2)), .val (.int (own_b (own_run n k 3).2.2))]) rfl zk) ?_
          show own_E p e below _ (T14.setTop (mkF m 134 #[.val (.int p1), .val (.int p2), .val (.int p3), .val (.int (Int32.ofNat n)), .val (.int (Int32.ofNat k)), .val (.int (Int32.ofNat (own_total n k))), .val (.int (Int32.ofNat j)), .val (.ref a), .val (.int (own_b (own_run n k 3).2.2)), .val (.int (own_b (own_run n k 3).2.2))] []))
          refine own_step (fun _ zk => XS.iload X14.here hx rfl (hb hby at_134) rfl zk) ?_
          show own_E p e below _ (T14.setTop (mkF m 136 #[.val (.int p1), .val (.int p2), .val (.int p3), .val (.int (Int32.ofNat n)), .val (.int (Int32.ofNat k)), .val (.int (Int32.ofNat (own_total n k))), .val (.int (Int32.ofNat j)), .val (.ref a), .val (.int (own_b (own_run n k 3).2.2)), .val (.int (own_b (own_run n k 3).2.2))] [(.int (own_b (own_run n k 3).2.2))]))
          refine own_step (fun _ zk => XS.iload X14.here hx rfl (hb hby at_136) rfl zk) ?_
          show own_E p e below _ (T14.setTop (mkF m 138 #[.val (.int p1), .val (.int p2), .val (.int p3), .val (.int (Int32.ofNat n)), .val (.int (Int32.ofNat k)), .val (.int (Int32.ofNat (own_total n k))), .val (.int (Int32.ofNat j)), .val (.ref a), .val (.int (own_b (own_run n k 3).2.2)), .val (.int (own_b (own_run n k 3).2.2))] [(.int (Int32.ofNat j)), (.int (own_b (own_run n k 3).2.2))]))
          refine own_step (fun _ zk => XS.iload X14.here hx rfl (hb hby at_138) rfl zk) ?_
          show own_E p e below _ (T14.setTop (mkF m 140 #[.val (.int p1), .val (.int p2), .val (.int p3), .val (.int (Int32.ofNat n)), .val (.int (Int32.ofNat k)), .val (.int (Int32.ofNat (own_total n k))), .val (.int (Int32.ofNat j)), .val (.ref a), .val (.int (own_b (own_run n k 3).2.2)), .val (.int (own_b (own_run n k 3).2.2))] [(.int (Int32.ofNat (own_total n k))), (.int (Int32.ofNat j)), (.int (own_b (own_run n k 3).2.2))]))
          by_cases hc140 : (Int32.ofNat j) < (Int32.ofNat (own_total n k))
          · skip
            refine own_step (fun _ zk => XS.icmpNo X14.here hx rfl (hb hby at_140) rfl (tlt hc140).2.1 zk) ?_
            show own_E p e below _ (T14.setTop (mkF m 143 #[.val (.int p1), .val (.int p2), .val (.int p3), .val (.int (Int32.ofNat n)), .val (.int (Int32.ofNat k)), .val (.int (Int32.ofNat (own_total n k))), .val (.int (Int32.ofNat j)), .val (.ref a), .val (.int (own_b (own_run n k 3).2.2)), .val (.int (own_b (own_run n k 3).2.2))] [(.int (own_b (own_run n k 3).2.2))]))
            refine own_step (fun _ zk => XS.iconst X14.here hx rfl (hb hby at_143) zk) ?_
            show own_E p e below _ (T14.setTop (mkF m 144 #[.val (.int p1), .val (.int p2), .val (.int p3), .val (.int (Int32.ofNat n)), .val (.int (Int32.ofNat k)), .val (.int (Int32.ofNat (own_total n k))), .val (.int (Int32.ofNat j)), .val (.ref a), .val (.int (own_b (own_run n k 3).2.2)), .val (.int (own_b (own_run n k 3).2.2))] [(.int (1 : Int32)), (.int (own_b (own_run n k 3).2.2))]))
            refine own_step (fun _ zk => XS.goto X14.here hx rfl (pc0 := 144) (pc' := 148) rfl (hb hby at_144) (by decide) (by decide) zk) ?_
            show own_E p e below _ (T14.setTop (mkF m 148 #[.val (.int p1), .val (.int p2), .val (.int p3), .val (.int (Int32.ofNat n)), .val (.int (Int32.ofNat k)), .val (.int (Int32.ofNat (own_total n k))), .val (.int (Int32.ofNat j)), .val (.ref a), .val (.int (own_b (own_run n k 3).2.2)), .val (.int (own_b (own_run n k 3).2.2))] [(.int (1 : Int32)), (.int (own_b (own_run n k 3).2.2))]))
            have fz := own_all n (by omega) k (by omega) hk1 hkn 3 (by decide) (by omega)
            have hz := hc140
            rw [own_lt j _ (by omega) (by omega)] at hz
            refine own_step (fun _ zk => XS.icmpNo X14.here hx rfl (hb hby at_148) rfl (teq (own_b1 fz (by omega))).2 zk) ?_
            show own_E p e below _ (T14.setTop (mkF m 151 #[.val (.int p1), .val (.int p2), .val (.int p3), .val (.int (Int32.ofNat n)), .val (.int (Int32.ofNat k)), .val (.int (Int32.ofNat (own_total n k))), .val (.int (Int32.ofNat j)), .val (.ref a), .val (.int (own_b (own_run n k 3).2.2)), .val (.int (own_b (own_run n k 3).2.2))] []))
            refine own_step (fun _ zk => XS.iload X14.here hx rfl (hb hby at_151) rfl zk) ?_
            show own_E p e below _ (T14.setTop (mkF m 153 #[.val (.int p1), .val (.int p2), .val (.int p3), .val (.int (Int32.ofNat n)), .val (.int (Int32.ofNat k)), .val (.int (Int32.ofNat (own_total n k))), .val (.int (Int32.ofNat j)), .val (.ref a), .val (.int (own_b (own_run n k 3).2.2)), .val (.int (own_b (own_run n k 3).2.2))] [(.int (own_b (own_run n k 3).2.2))]))
            refine own_step (fun _ zk => XS.iload X14.here hx rfl (hb hby at_153) rfl zk) ?_
            show own_E p e below _ (T14.setTop (mkF m 155 #[.val (.int p1), .val (.int p2), .val (.int p3), .val (.int (Int32.ofNat n)), .val (.int (Int32.ofNat k)), .val (.int (Int32.ofNat (own_total n k))), .val (.int (Int32.ofNat j)), .val (.ref a), .val (.int (own_b (own_run n k 3).2.2)), .val (.int (own_b (own_run n k 3).2.2))] [(.int (own_b (own_run n k 3).2.2)), (.int (own_b (own_run n k 3).2.2))]))
            refine own_step (fun _ zk => XS.icmpNo X14.here hx rfl (hb hby at_155) rfl (teq rfl).2 zk) ?_
            show own_E p e below _ (T14.setTop (mkF m 158 #[.val (.int p1), .val (.int p2), .val (.int p3), .val (.int (Int32.ofNat n)), .val (.int (Int32.ofNat k)), .val (.int (Int32.ofNat (own_total n k))), .val (.int (Int32.ofNat j)), .val (.ref a), .val (.int (own_b (own_run n k 3).2.2)), .val (.int (own_b (own_run n k 3).2.2))] []))
            refine own_step (fun _ zk => XS.iconst X14.here hx rfl (hb hby at_158) zk) ?_
            show own_E p e below _ (T14.setTop (mkF m 159 #[.val (.int p1), .val (.int p2), .val (.int p3), .val (.int (Int32.ofNat n)), .val (.int (Int32.ofNat k)), .val (.int (Int32.ofNat (own_total n k))), .val (.int (Int32.ofNat j)), .val (.ref a), .val (.int (own_b (own_run n k 3).2.2)), .val (.int (own_b (own_run n k 3).2.2))] [(.int (1 : Int32))]))
            refine own_step (fun _ zk => XS.goto X14.here hx rfl (pc0 := 159) (pc' := 163) rfl (hb hby at_159) (by decide) (by decide) zk) ?_
            show own_E p e below _ (T14.setTop (mkF m 163 #[.val (.int p1), .val (.int p2), .val (.int p3), .val (.int (Int32.ofNat n)), .val (.int (Int32.ofNat k)), .val (.int (Int32.ofNat (own_total n k))), .val (.int (Int32.ofNat j)), .val (.ref a), .val (.int (own_b (own_run n k 3).2.2)), .val (.int (own_b (own_run n k 3).2.2))] [(.int (1 : Int32))]))
            refine own_ret X14 hlk (v := some (.int (nar .boolean (1 : Int32)))) (fun h => by rw [Bd.returns] at h; cases h) ?_ (by decide) (by decide) (fun fs hr => retN X14 hx (t := .boolean) Bd.returns (by simp) (hb hby at_163) hr)
            show Q0 Z p1 p2 p3 h0 n0 _ T14.heap _
            rw [e14]
            exact ⟨by decide, N14⟩
          · skip
            refine own_step (fun _ zk => XS.icmpYes X14.here hx rfl (pc0 := 140) (pc' := 147) rfl (hb hby at_140) rfl (flt hc140).2.1 (by decide) (by decide) zk) ?_
            show own_E p e below _ (T14.setTop (mkF m 147 #[.val (.int p1), .val (.int p2), .val (.int p3), .val (.int (Int32.ofNat n)), .val (.int (Int32.ofNat k)), .val (.int (Int32.ofNat (own_total n k))), .val (.int (Int32.ofNat j)), .val (.ref a), .val (.int (own_b (own_run n k 3).2.2)), .val (.int (own_b (own_run n k 3).2.2))] [(.int (own_b (own_run n k 3).2.2))]))
            refine own_step (fun _ zk => XS.iconst X14.here hx rfl (hb hby at_147) zk) ?_
            show own_E p e below _ (T14.setTop (mkF m 148 #[.val (.int p1), .val (.int p2), .val (.int p3), .val (.int (Int32.ofNat n)), .val (.int (Int32.ofNat k)), .val (.int (Int32.ofNat (own_total n k))), .val (.int (Int32.ofNat j)), .val (.ref a), .val (.int (own_b (own_run n k 3).2.2)), .val (.int (own_b (own_run n k 3).2.2))] [(.int (0 : Int32)), (.int (own_b (own_run n k 3).2.2))]))
            have fz := own_all n (by omega) k (by omega) hk1 hkn 3 (by decide) (by omega)
            have hz := hc140
            rw [own_lt j _ (by omega) (by omega)] at hz
            refine own_step (fun _ zk => XS.icmpNo X14.here hx rfl (hb hby at_148) rfl (teq (own_b0 fz (by omega))).2 zk) ?_
            show own_E p e below _ (T14.setTop (mkF m 151 #[.val (.int p1), .val (.int p2), .val (.int p3), .val (.int (Int32.ofNat n)), .val (.int (Int32.ofNat k)), .val (.int (Int32.ofNat (own_total n k))), .val (.int (Int32.ofNat j)), .val (.ref a), .val (.int (own_b (own_run n k 3).2.2)), .val (.int (own_b (own_run n k 3).2.2))] []))
            refine own_step (fun _ zk => XS.iload X14.here hx rfl (hb hby at_151) rfl zk) ?_
            show own_E p e below _ (T14.setTop (mkF m 153 #[.val (.int p1), .val (.int p2), .val (.int p3), .val (.int (Int32.ofNat n)), .val (.int (Int32.ofNat k)), .val (.int (Int32.ofNat (own_total n k))), .val (.int (Int32.ofNat j)), .val (.ref a), .val (.int (own_b (own_run n k 3).2.2)), .val (.int (own_b (own_run n k 3).2.2))] [(.int (own_b (own_run n k 3).2.2))]))
            refine own_step (fun _ zk => XS.iload X14.here hx rfl (hb hby at_153) rfl zk) ?_
            show own_E p e below _ (T14.setTop (mkF m 155 #[.val (.int p1), .val (.int p2), .val (.int p3), .val (.int (Int32.ofNat n)), .val (.int (Int32.ofNat k)), .val (.int (Int32.ofNat (own_total n k))), .val (.int (Int32.ofNat j)), .val (.ref a), .val (.int (own_b (own_run n k 3).2.2)), .val (.int (own_b (own_run n k 3).2.2))] [(.int (own_b (own_run n k 3).2.2)), (.int (own_b (own_run n k 3).2.2))]))
            refine own_step (fun _ zk => XS.icmpNo X14.here hx rfl (hb hby at_155) rfl (teq rfl).2 zk) ?_
            show own_E p e below _ (T14.setTop (mkF m 158 #[.val (.int p1), .val (.int p2), .val (.int p3), .val (.int (Int32.ofNat n)), .val (.int (Int32.ofNat k)), .val (.int (Int32.ofNat (own_total n k))), .val (.int (Int32.ofNat j)), .val (.ref a), .val (.int (own_b (own_run n k 3).2.2)), .val (.int (own_b (own_run n k 3).2.2))] []))
            refine own_step (fun _ zk => XS.iconst X14.here hx rfl (hb hby at_158) zk) ?_
            show own_E p e below _ (T14.setTop (mkF m 159 #[.val (.int p1), .val (.int p2), .val (.int p3), .val (.int (Int32.ofNat n)), .val (.int (Int32.ofNat k)), .val (.int (Int32.ofNat (own_total n k))), .val (.int (Int32.ofNat j)), .val (.ref a), .val (.int (own_b (own_run n k 3).2.2)), .val (.int (own_b (own_run n k 3).2.2))] [(.int (1 : Int32))]))
            refine own_step (fun _ zk => XS.goto X14.here hx rfl (pc0 := 159) (pc' := 163) rfl (hb hby at_159) (by decide) (by decide) zk) ?_
            show own_E p e below _ (T14.setTop (mkF m 163 #[.val (.int p1), .val (.int p2), .val (.int p3), .val (.int (Int32.ofNat n)), .val (.int (Int32.ofNat k)), .val (.int (Int32.ofNat (own_total n k))), .val (.int (Int32.ofNat j)), .val (.ref a), .val (.int (own_b (own_run n k 3).2.2)), .val (.int (own_b (own_run n k 3).2.2))] [(.int (1 : Int32))]))
            refine own_ret X14 hlk (v := some (.int (nar .boolean (1 : Int32)))) (fun h => by rw [Bd.returns] at h; cases h) ?_ (by decide) (by decide) (fun fs hr => retN X14 hx (t := .boolean) Bd.returns (by simp) (hb hby at_163) hr)
            show Q0 Z p1 p2 p3 h0 n0 _ T14.heap _
            rw [e14]
            exact ⟨by decide, N14⟩
        · skip
          refine own_step (fun _ zk => XS.icmpNo X12.here hx rfl (hb hby at_86) rfl (flt (fun z => jm4 ((own_lt j 4 (by omega) (by omega)).mp z))).1 zk) ?_
          show own_E p e below _ (T12.setTop (mkF m 89 #[.val (.int p1), .val (.int p2), .val (.int p3), .val (.int (Int32.ofNat n)), .val (.int (Int32.ofNat k)), .val (.int (Int32.ofNat (own_total n k))), .val (.int (Int32.ofNat j)), .val (.ref a), .unset, .unset] []))
          refine own_step (fun _ zk => XS.aload X12.here hx rfl (hb hby at_89) rfl rfl zk) ?_
          show own_E p e below _ (T12.setTop (mkF m 91 #[.val (.int p1), .val (.int p2), .val (.int p3), .val (.int (Int32.ofNat n)), .val (.int (Int32.ofNat k)), .val (.int (Int32.ofNat (own_total n k))), .val (.int (Int32.ofNat j)), .val (.ref a), .unset, .unset] [(.ref a)]))
          have fi3 := own_all n (by omega) k (by omega) hk1 hkn 3 (by decide) (by omega)
          obtain ⟨rp3, ep3⟩ := own_N_t HN12 (by rw [own_fine_p fi3]; exact decide_eq_true (by omega))
          rw [ep3] at HO12
          obtain ⟨_, _, qa15, _, qc15⟩ := isOf (T := T12) hZ e12 HO12.1
          obtain ⟨_, _, ⟨T15, zL15, zK15, zN15⟩, -, X15, ⟨zLc15, hQ15, zl15, zy15, zz15⟩, st15⟩ := X12.virtualBack hx (y := (⟨"com/example/tallier/tallier/protocol/RecoverySets", "next", "()[I"⟩ : MethodName)) (z := (⟨"com/example/tallier/tallier/protocol/RecoverySets", "next", "()[I"⟩ : MethodName)) hown (mvT hZ (hw _ (List.mem_of_getElem? (i := 38) rfl))) (mvT hZ (hw _ (List.mem_of_getElem? (i := 39) rfl))) (notFace_of_selects (args := #[]) (mvT hZ (hw _ (List.mem_of_getElem? (i := 41) rfl)))) (mvT hZ (hw _ (List.mem_of_getElem? (i := 41) rfl))) (mvT hZ (hw _ (List.mem_of_getElem? (i := 40) rfl))) (by decide) (backOf (W := 0) (rm6 l Z a0 hw [] a n k (own_run n k 3).1 (own_run n k 3).2.1 vc12 rp3 h12 n0 (Nat.le_trans Z0 K_12.1) hk1 (by omega) hn4 (own_fine_rg fi3) ge_a HO12 HR12 (own_fine_ok fi3)) hZ (hw _ (List.mem_of_getElem? (i := 42) rfl)) (hw _ (List.mem_of_getElem? (i := 7) rfl)) (by decide) (by decide)) qa15 qc15 (g := (mkF m 91 #[.val (.int p1), .val (.int p2), .val (.int p3), .val (.int (Int32.ofNat n)), .val (.int (Int32.ofNat k)), .val (.int (Int32.ofNat (own_total n k))), .val (.int (Int32.ofNat j)), .val (.ref a), .unset, .unset] [(.ref a)])) rfl (by rw [hml]; rfl) (Steps.refl _) (argsL := []) (rest := []) (lenOf pd_0_3 rfl) rfl (by show 2 * 0 + _ ≤ _; exact Nat.le_of_eq rfl) (hb hby at_91) (fun _ _ => ⟨rfl, e12, (by decide : 18 + 4 ≤ _), (by decide : 73 + 16 ≤ _)⟩)
          dsimp only [Pt.U, Pt.locs, Pt.cells, Pt.slots] at X15 zl15 zy15 zz15 st15 hQ15
          rw [show zK15 = 22 from zy15, show zN15 = 89 from zz15] at X15
          generalize e15 : T15.heap = h15 at hQ15
          obtain ⟨rfl, N15q, Kq15, vc15, vp15, HO15, HR15, HN15⟩ := hQ15
          have K_15 := Keep.trans K_12 Kq15 (allS (Or.inr gh_a) all0)
          replace HO15 : own_O Z h15 a n k (own_run n k 4).1 vc15 vp15 := HO15
          replace HR15 : own_R Z h15 n0 vc15 k (own_run n k 4).2.1 := HR15
          replace HN15 : own_N vp15 (own_run n k 4).2.2 := HN15
          have N15 : Fr n0 zL15 := by rw [zl15]; exact Fr.app N12 N15q
          refine own_step (fun _ zk => (st15).trans zk) ?_
          show own_E p e below _ (T15.setTop (mkF m 94 #[.val (.int p1), .val (.int p2), .val (.int p3), .val (.int (Int32.ofNat n)), .val (.int (Int32.ofNat k)), .val (.int (Int32.ofNat (own_total n k))), .val (.int (Int32.ofNat j)), .val (.ref a), .unset, .unset] [(.ref rp3)]))
          refine own_step (fun _ zk => Jvm.Free.XT.pop X15.here hx rfl (hb hby at_94) rfl rfl zk) ?_
          show own_E p e below _ (T15.setTop (mkF m 95 #[.val (.int p1), .val (.int p2), .val (.int p3), .val (.int (Int32.ofNat n)), .val (.int (Int32.ofNat k)), .val (.int (Int32.ofNat (own_total n k))), .val (.int (Int32.ofNat j)), .val (.ref a), .unset, .unset] []))
          refine own_step (fun _ zk => XS.iload X15.here hx rfl (hb hby at_95) rfl zk) ?_
          show own_E p e below _ (T15.setTop (mkF m 97 #[.val (.int p1), .val (.int p2), .val (.int p3), .val (.int (Int32.ofNat n)), .val (.int (Int32.ofNat k)), .val (.int (Int32.ofNat (own_total n k))), .val (.int (Int32.ofNat j)), .val (.ref a), .unset, .unset] [(.int (Int32.ofNat j))]))
          refine own_step (fun _ zk => XS.iconst X15.here hx rfl (hb hby at_97) zk) ?_
          show own_E p e below _ (T15.setTop (mkF m 98 #[.val (.int p1), .val (.int p2), .val (.int p3), .val (.int (Int32.ofNat n)), .val (.int (Int32.ofNat k)), .val (.int (Int32.ofNat (own_total n k))), .val (.int (Int32.ofNat j)), .val (.ref a), .unset, .unset] [(.int (5 : Int32)), (.int (Int32.ofNat j))]))
          by_cases jm5 : j < 5
          · skip
            refine own_step (fun _ zk => XS.icmpYes X15.here hx rfl (pc0 := 98) (pc' := 107) rfl (hb hby at_98) rfl (tlt ((own_lt j 5 (by omega) (by omega)).mpr (by omega))).1 (by decide) (by decide) zk) ?_
            show own_E p e below _ (T15.setTop (mkF m 107 #[.val (.int p1), .val (.int p2), .val (.int p3), .val (.int (Int32.ofNat n)), .val (.int (Int32.ofNat k)), .val (.int (Int32.ofNat (own_total n k))), .val (.int (Int32.ofNat j)), .val (.ref a), .unset, .unset] []))
            refine own_step (fun _ zk => XS.iload X15.here hx rfl (hb hby at_107) rfl zk) ?_
            show own_E p e below _ (T15.setTop (mkF m 109 #[.val (.int p1), .val (.int p2), .val (.int p3), .val (.int (Int32.ofNat n)), .val (.int (Int32.ofNat k)), .val (.int (Int32.ofNat (own_total n k))), .val (.int (Int32.ofNat j)), .val (.ref a), .unset, .unset] [(.int (Int32.ofNat j))]))
            refine own_step (fun _ zk => XS.bipush X15.here hx rfl (hb hby at_109) zk) ?_
            show own_E p e below _ (T15.setTop (mkF m 111 #[.val (.int p1), .val (.int p2), .val (.int p3), .val (.int (Int32.ofNat n)), .val (.int (Int32.ofNat k)), .val (.int (Int32.ofNat (own_total n k))), .val (.int (Int32.ofNat j)), .val (.ref a), .unset, .unset] [(.int (6 : Int32)), (.int (Int32.ofNat j))]))
            refine own_step (fun _ zk => XS.icmpYes X15.here hx rfl (pc0 := 111) (pc' := 120) rfl (hb hby at_111) rfl (tlt ((own_lt j 6 (by omega) (by omega)).mpr (by omega))).1 (by decide) (by decide) zk) ?_
            show own_E p e below _ (T15.setTop (mkF m 120 #[.val (.int p1), .val (.int p2), .val (.int p3), .val (.int (Int32.ofNat n)), .val (.int (Int32.ofNat k)), .val (.int (Int32.ofNat (own_total n k))), .val (.int (Int32.ofNat j)), .val (.ref a), .unset, .unset] []))
            refine own_step (fun _ zk => XS.aload X15.here hx rfl (hb hby at_120) rfl rfl zk) ?_
            show own_E p e below _ (T15.setTop (mkF m 122 #[.val (.int p1), .val (.int p2), .val (.int p3), .val (.int (Int32.ofNat n)), .val (.int (Int32.ofNat k)), .val (.int (Int32.ofNat (own_total n k))), .val (.int (Int32.ofNat j)), .val (.ref a), .unset, .unset] [(.ref a)]))
            obtain ⟨_, _, qa16, _, qc16⟩ := isOf (T := T15) hZ e15 HO15.1
            obtain ⟨_, _, ⟨T16, zL16, zK16, zN16⟩, -, X16, ⟨zLc16, hQ16, zl16, zy16, zz16⟩, st16⟩ := X15.virtualBack hx (y := (⟨"com/example/tallier/tallier/protocol/RecoverySets", "hasNext", "()Z"⟩ : MethodName)) (z := (⟨"com/example/tallier/tallier/protocol/RecoverySets", "hasNext", "()Z"⟩ : MethodName)) hown (mvT hZ (hw _ (List.mem_of_getElem? (i := 33) rfl))) (mvT hZ (hw _ (List.mem_of_getElem? (i := 34) rfl))) (notFace_of_selects (args := #[]) (mvT hZ (hw _ (List.mem_of_getElem? (i := 36) rfl)))) (mvT hZ (hw _ (List.mem_of_getElem? (i := 36) rfl))) (mvT hZ (hw _ (List.mem_of_getElem? (i := 35) rfl))) (by decide) (backOf (W := 0) (rm5 l Z a0 hw [] a vp15 (own_run n k 4).2.2 h15 n0 (Nat.le_trans Z0 K_15.1) HO15.2.2.2.2.2 HN15) hZ (hw _ (List.mem_of_getElem? (i := 37) rfl)) (hw _ (List.mem_of_getElem? (i := 7) rfl)) (by decide) (by decide)) qa16 qc16 (g := (mkF m 122 #[.val (.int p1), .val (.int p2), .val (.int p3), .val (.int (Int32.ofNat n)), .val (.int (Int32.ofNat k)), .val (.int (Int32.ofNat (own_total n k))), .val (.int (Int32.ofNat j)), .val (.ref a), .unset, .unset] [(.ref a)])) rfl (by rw [hml]; rfl) (Steps.refl _) (argsL := []) (rest := []) (lenOf pd_0_2 rfl) rfl (by show 2 * 0 + _ ≤ _; exact Nat.le_of_eq rfl) (hb hby at_122) (fun _ _ => ⟨rfl, e15, (by decide : 22 + 0 ≤ _), (by decide : 89 + 0 ≤ _)⟩)
            dsimp only [Pt.U, Pt.locs, Pt.cells, Pt.slots] at X16 zl16 zy16 zz16 st16 hQ16
            rw [show zK16 = 22 from zy16, show zN16 = 89 from zz16] at X16
            obtain ⟨rfl, N16q, e16⟩ := hQ16
            have N16 : Fr n0 zL16 := by rw [zl16]; exact Fr.app N15 N16q
            refine own_step (fun _ zk => (st16).trans zk) ?_
            show own_E p e below _ (T16.setTop (mkF m 125 #[.val (.int p1), .val (.int p2), .val (.int p3), .val (.int (Int32.ofNat n)), .val (.int (Int32.ofNat k)), .val (.int (Int32.ofNat (own_total n k))), .val (.int (Int32.ofNat j)), .val (.ref a), .unset, .unset] [(.int (own_b (own_run n k 4).2.2))]))
            refine own_step (fun _ zk => XS.istore X16.here hx rfl (hb hby at_125) rfl (l' := #[.val (.int p1), .val (.int p2), .val (.int p3), .val (.int (Int32.ofNat n)), .val (.int (Int32.ofNat k)), .val (.int (Int32.ofNat (own_total n k))), .val (.int (Int32.ofNat j)), .val (.ref a), .val (.int (own_b (own_run n k 4).2.2)), .unset]) rfl zk) ?_
            show own_E p e below _ (T16.setTop (mkF m 127 #[.val (.int p1), .val (.int p2), .val (.int p3), .val (.int (Int32.ofNat n)), .val (.int (Int32.ofNat k)), .val (.int (Int32.ofNat (own_total n k))), .val (.int (Int32.ofNat j)), .val (.ref a), .val (.int (own_b (own_run n k 4).2.2)), .unset] []))
            refine own_step (fun _ zk => XS.aload X16.here hx rfl (hb hby at_127) rfl rfl zk) ?_
            show own_E p e below _ (T16.setTop (mkF m 129 #[.val (.int p1), .val (.int p2), .val (.int p3), .val (.int (Int32.ofNat n)), .val (.int (Int32.ofNat k)), .val (.int (Int32.ofNat (own_total n k))), .val (.int (Int32.ofNat j)), .val (.ref a), .val (.int (own_b (own_run n k 4).2.2)), .unset] [(.ref a)]))
            obtain ⟨_, _, qa17, _, qc17⟩ := isOf (T := T16) hZ e16 HO15.1
            obtain ⟨_, _, ⟨T17, zL17, zK17, zN17⟩, -, X17, ⟨zLc17, hQ17, zl17, zy17, zz17⟩, st17⟩ := X16.virtualBack hx (y := (⟨"com/example/tallier/tallier/protocol/RecoverySets", "hasNext", "()Z"⟩ : MethodName)) (z := (⟨"com/example/tallier/tallier/protocol/RecoverySets", "hasNext", "()Z"⟩ : MethodName)) hown (mvT hZ (hw _ (List.mem_of_getElem? (i := 33) rfl))) (mvT hZ (hw _ (List.mem_of_getElem? (i := 34) rfl))) (notFace_of_selects (args := #[]) (mvT hZ (hw _ (List.mem_of_getElem? (i := 36) rfl)))) (mvT hZ (hw _ (List.mem_of_getElem? (i := 36) rfl))) (mvT hZ (hw _ (List.mem_of_getElem? (i := 35) rfl))) (by decide) (backOf (W := 0) (rm5 l Z a0 hw [] a vp15 (own_run n k 4).2.2 h15 n0 (Nat.le_trans Z0 K_15.1) HO15.2.2.2.2.2 HN15) hZ (hw _ (List.mem_of_getElem? (i := 37) rfl)) (hw _ (List.mem_of_getElem? (i := 7) rfl)) (by decide) (by decide)) qa17 qc17 (g := (mkF m 129 #[.val (.int p1), .val (.int p2), .val (.int p3), .val (.int (Int32.ofNat n)), .val (.int (Int32.ofNat k)), .val (.int (Int32.ofNat (own_total n k))), .val (.int (Int32.ofNat j)), .val (.ref a), .val (.int (own_b (own_run n k 4).2.2)), .unset] [(.ref a)])) rfl (by rw [hml]; rfl) (Steps.refl _) (argsL := []) (rest := []) (lenOf pd_0_2 rfl) rfl (by show 2 * 0 + _ ≤ _; exact Nat.le_of_eq rfl) (hb hby at_129) (fun _ _ => ⟨rfl, e16, (by decide : 22 + 0 ≤ _), (by decide : 89 + 0 ≤ _)⟩)
            dsimp only [Pt.U, Pt.locs, Pt.cells, Pt.slots] at X17 zl17 zy17 zz17 st17 hQ17
            rw [show zK17 = 22 from zy17, show zN17 = 89 from zz17] at X17
            obtain ⟨rfl, N17q, e17⟩ := hQ17
            have N17 : Fr n0 zL17 := by rw [zl17]; exact Fr.app N16 N17q
            refine own_step (fun _ zk => (st17).trans zk) ?_
            show own_E p e below _ (T17.setTop (mkF m 132 #[.val (.int p1), .val (.int p2), .val (.int p3), .val (.int (Int32.ofNat n)), .val (.int (Int32.ofNat k)), .val (.int (Int32.ofNat (own_total n k))), .val (.int (Int32.ofNat j)), .val (.ref a), .val (.int (own_b (own_run n k 4).2.2)), .unset] [(.int (own_b (own_run n k 4).2.2))]))
            refine own_step (fun _ zk => XS.istore X17.here hx rfl (hb hby at_132) rfl (l' := #[.val (.int p1), .val (.int p2), .val (.int p3), .val (.int (Int32.ofNat n)), .val (.int (Int32.ofNat k)), .val (.int (Int32.ofNat (own_total n k))), .val (.int (Int32.ofNat j)), .val (.ref a), .val (.int (own_b (own_run n k 4).2.2)), .val (.int (own_b (own_run n k 4).2.2))]) rfl zk) ?_
            show own_E p e below _ (T17.setTop (mkF m 134 #[.val (.int p1), .val (.int p2), .val (.int p3), .val (.int (Int32.ofNat n)), .val (.int (Int32.ofNat k)), .val (.int (Int32.ofNat (own_total n k))), .val (.int (Int32.ofNat j)), .val (.ref a), .val (.int (own_b (own_run n k 4).2.2)), .val (.int (own_b (own_run n k 4).2.2))] []))
            refine own_step (fun _ zk => XS.iload X17.here hx rfl (hb hby at_134) rfl zk) ?_
            show own_E p e below _ (T17.setTop (mkF m 136 #[.val (.int p1), .val (.int p2), .val (.int p3), .val (.int (Int32.ofNat n)), .val (.int (Int32.ofNat k)), .val (.int (Int32.ofNat (own_total n k))), .val (.int (Int32.ofNat j)), .val (.ref a), .val (.int (own_b (own_run n k 4).2.2)), .val (.int (own_b (own_run n k 4).2.2))] [(.int (own_b (own_run n k 4).2.2))]))
            refine own_step (fun _ zk => XS.iload X17.here hx rfl (hb hby at_136) rfl zk) ?_
            show own_E p e below _ (T17.setTop (mkF m 138 #[.val (.int p1), .val (.int p2), .val (.int p3), .val (.int (Int32.ofNat n)), .val (.int (Int32.ofNat k)), .val (.int (Int32.ofNat (own_total n k))), .val (.int (Int32.ofNat j)), .val (.ref a), .val (.int (own_b (own_run n k 4).2.2)), .val (.int (own_b (own_run n k 4).2.2))] [(.int (Int32.ofNat j)), (.int (own_b (own_run n k 4).2.2))]))
            refine own_step (fun _ zk => XS.iload X17.here hx rfl (hb hby at_138) rfl zk) ?_
            show own_E p e below _ (T17.setTop (mkF m 140 #[.val (.int p1), .val (.int p2), .val (.int p3), .val (.int (Int32.ofNat n)), .val (.int (Int32.ofNat k)), .val (.int (Int32.ofNat (own_total n k))), .val (.int (Int32.ofNat j)), .val (.ref a), .val (.int (own_b (own_run n k 4).2.2)), .val (.int (own_b (own_run n k 4).2.2))] [(.int (Int32.ofNat (own_total n k))), (.int (Int32.ofNat j)), (.int (own_b (own_run n k 4).2.2))]))
            by_cases hc140 : (Int32.ofNat j) < (Int32.ofNat (own_total n k))
            · skip
              refine own_step (fun _ zk => XS.icmpNo X17.here hx rfl (hb hby at_140) rfl (tlt hc140).2.1 zk) ?_
              show own_E p e below _ (T17.setTop (mkF m 143 #[.val (.int p1), .val (.int p2), .val (.int p3), .val (.int (Int32.ofNat n)), .val (.int (Int32.ofNat k)), .val (.int (Int32.ofNat (own_total n k))), .val (.int (Int32.ofNat j)), .val (.ref a), .val (.int (own_b (own_run n k 4).2.2)), .val (.int (own_b (own_run n k 4).2.2))] [(.int (own_b (own_run n k 4).2.2))]))
              refine own_step (fun _ zk => XS.iconst X17.here hx rfl (hb hby at_143) zk) ?_
              show own_E p e below _ (T17.setTop (mkF m 144 #[.val (.int p1), .val (.int p2), .val (.int p3), .val (.int (Int32.ofNat n)), .val (.int (Int32.ofNat k)), .val (.int (Int32.ofNat (own_total n k))), .val (.int (Int32.ofNat j)), .val (.ref a), .val (.int (own_b (own_run n k 4).2.2)), .val (.int (own_b (own_run n k 4).2.2))] [(.int (1 : Int32)), (.int (own_b (own_run n k 4).2.2))]))
              refine own_step (fun _ zk => XS.goto X17.here hx rfl (pc0 := 144) (pc' := 148) rfl (hb hby at_144) (by decide) (by decide) zk) ?_
              show own_E p e below _ (T17.setTop (mkF m 148 #[.val (.int p1), .val (.int p2), .val (.int p3), .val (.int (Int32.ofNat n)), .val (.int (Int32.ofNat k)), .val (.int (Int32.ofNat (own_total n k))), .val (.int (Int32.ofNat j)), .val (.ref a), .val (.int (own_b (own_run n k 4).2.2)), .val (.int (own_b (own_run n k 4).2.2))] [(.int (1 : Int32)), (.int (own_b (own_run n k 4).2.2))]))
              have fz := own_all n (by omega) k (by omega) hk1 hkn 4 (by decide) (by omega)
              have hz := hc140
              rw [own_lt j _ (by omega) (by omega)] at hz
              refine own_step (fun _ zk => XS.icmpNo X17.here hx rfl (hb hby at_148) rfl (teq (own_b1 fz (by omega))).2 zk) ?_
              show own_E p e below _ (T17.setTop (mkF m 151 #[.val (.int p1), .val (.int p2), .val (.int p3), .val (.int (Int32.ofNat n)), .val (.int (Int32.ofNat k)), .val (.int (Int32.ofNat (own_total n k))), .val (.int (Int32.ofNat j)), .val (.ref a), .val (.int (own_b (own_run n k 4).2.2)), .val (.int (own_b (own_run n k 4).2.2))] []))
              refine own_step (fun _ zk => XS.iload X17.here hx rfl (hb hby at_151) rfl zk) ?_
              show own_E p e below _ (T17.setTop (mkF m 153 #[.val (.int p1), .val (.int p2), .val (.int p3), .val (.int (Int32.ofNat n)), .val (.int (Int32.ofNat k)), .val (.int (Int32.ofNat (own_total n k))), .val (.int (Int32.ofNat j)), .val (.ref a), .val (.int (own_b (own_run n k 4).2.2)), .val (.int (own_b (own_run n k 4).2.2))] [(.int (own_b (own_run n k 4).2.2))]))
              refine own_step (fun _ zk => XS.iload X17.here hx rfl (hb hby at_153) rfl zk) ?_
              show own_E p e below _ (T17.setTop (mkF m 155 #[.val (.int p1), .val (.int p2), .val (.int p3), .val (.int (Int32.ofNat n)), .val (.int (Int32.ofNat k)), .val (.int (Int32.ofNat (own_total n k))), .val (.int (Int32.ofNat j)), .val (.ref a), .val (.int (own_b (own_run n k 4).2.2)), .val (.int (own_b (own_run n k 4).2.2))] [(.int (own_b (own_run n k 4).2.2)), (.int (own_b (own_run n k 4).2.2))]))
              refine own_step (fun _ zk => XS.icmpNo X17.here hx rfl (hb hby at_155) rfl (teq rfl).2 zk) ?_
              show own_E p e below _ (T17.setTop (mkF m 158 #[.val (.int p1), .val (.int p2), .val (.int p3), .val (.int (Int32.ofNat n)), .val (.int (Int32.ofNat k)), .val (.int (Int32.ofNat (own_total n k))), .val (.int (Int32.ofNat j)), .val (.ref a), .val (.int (own_b (own_run n k 4).2.2)), .val (.int (own_b (own_run n k 4).2.2))] []))
              refine own_step (fun _ zk => XS.iconst X17.here hx rfl (hb hby at_158) zk) ?_
              show own_E p e below _ (T17.setTop (mkF m 159 #[.val (.int p1), .val (.int p2), .val (.int p3), .val (.int (Int32.ofNat n)), .val (.int (Int32.ofNat k)), .val (.int (Int32.ofNat (own_total n k))), .val (.int (Int32.ofNat j)), .val (.ref a), .val (.int (own_b (own_run n k 4).2.2)), .val (.int (own_b (own_run n k 4).2.2))] [(.int (1 : Int32))]))
              refine own_step (fun _ zk => XS.goto X17.here hx rfl (pc0 := 159) (pc' := 163) rfl (hb hby at_159) (by decide) (by decide) zk) ?_
              show own_E p e below _ (T17.setTop (mkF m 163 #[.val (.int p1), .val (.int p2), .val (.int p3), .val (.int (Int32.ofNat n)), .val (.int (Int32.ofNat k)), .val (.int (Int32.ofNat (own_total n k))), .val (.int (Int32.ofNat j)), .val (.ref a), .val (.int (own_b (own_run n k 4).2.2)), .val (.int (own_b (own_run n k 4).2.2))] [(.int (1 : Int32))]))
              refine own_ret X17 hlk (v := some (.int (nar .boolean (1 : Int32)))) (fun h => by rw [Bd.returns] at h; cases h) ?_ (by decide) (by decide) (fun fs hr => retN X17 hx (t := .boolean) Bd.returns (by simp) (hb hby at_163) hr)
              show Q0 Z p1 p2 p3 h0 n0 _ T17.heap _
              rw [e17]
              exact ⟨by decide, N17⟩
            · skip
              refine own_step (fun _ zk => XS.icmpYes X17.here hx rfl (pc0 := 140) (pc' := 147) rfl (hb hby at_140) rfl (flt hc140).2.1 (by decide) (by decide) zk) ?_
              show own_E p e below _ (T17.setTop (mkF m 147 #[.val (.int p1), .val (.int p2), .val (.int p3), .val (.int (Int32.ofNat n)), .val (.int (Int32.ofNat k)), .val (.int (Int32.ofNat (own_total n k))), .val (.int (Int32.ofNat j)), .val (.ref a), .val (.int (own_b (own_run n k 4).2.2)), .val (.int (own_b (own_run n k 4).2.2))] [(.int (own_b (own_run n k 4).2.2))]))
              refine own_step (fun _ zk => XS.iconst X17.here hx rfl (hb hby at_147) zk) ?_
              show own_E p e below _ (T17.setTop (mkF m 148 #[.val (.int p1), .val (.int p2), .val (.int p3), .val (.int (Int32.ofNat n)), .val (.int (Int32.ofNat k)), .val (.int (Int32.ofNat (own_total n k))), .val (.int (Int32.ofNat j)), .val (.ref a), .val (.int (own_b (own_run n k 4).2.2)), .val (.int (own_b (own_run n k 4).2.2))] [(.int (0 : Int32)), (.int (own_b (own_run n k 4).2.2))]))
              have fz := own_all n (by omega) k (by omega) hk1 hkn 4 (by decide) (by omega)
              have hz := hc140
              rw [own_lt j _ (by omega) (by omega)] at hz
              refine own_step (fun _ zk => XS.icmpNo X17.here hx rfl (hb hby at_148) rfl (teq (own_b0 fz (by omega))).2 zk) ?_
              show own_E p e below _ (T17.setTop (mkF m 151 #[.val (.int p1), .val (.int p2), .val (.int p3), .val (.int (Int32.ofNat n)), .val (.int (Int32.ofNat k)), .val (.int (Int32.ofNat (own_total n k))), .val (.int (Int32.ofNat j)), .val (.ref a), .val (.int (own_b (own_run n k 4).2.2)), .val (.int (own_b (own_run n k 4).2.2))] []))
              refine own_step (fun _ zk => XS.iload X17.here hx rfl (hb hby at_151) rfl zk) ?_
              show own_E p e below _ (T17.setTop (mkF m 153 #[.val (.int p1), .val (.int p2), .val (.int p3), .val (.int (Int32.ofNat n)), .val (.int (Int32.ofNat k)), .val (.int (Int32.ofNat (own_total n k))), .val (.int (Int32.ofNat j)), .val (.ref a), .val (.int (own_b (own_run n k 4).2.2)), .val (.int (own_b (own_run n k 4).2.2))] [(.int (own_b (own_run n k 4).2.2))]))
              refine own_step (fun _ zk => XS.iload X17.here hx rfl (hb hby at_153) rfl zk) ?_
              show own_E p e below _ (T17.setTop (mkF m 155 #[.val (.int p1), .val (.int p2), .val (.int p3), .val (.int (Int32.ofNat n)), .val (.int (Int32.ofNat k)), .val (.int (Int32.ofNat (own_total n k))), .val (.int (Int32.ofNat j)), .val (.ref a), .val (.int (own_b (own_run n k 4).2.2)), .val (.int (own_b (own_run n k 4).2.2))] [(.int (own_b (own_run n k 4).2.2)), (.int (own_b (own_run n k 4).2.2))]))
              refine own_step (fun _ zk => XS.icmpNo X17.here hx rfl (hb hby at_155) rfl (teq rfl).2 zk) ?_
              show own_E p e below _ (T17.setTop (mkF m 158 #[.val (.int p1), .val (.int p2), .val (.int p3), .val (.int (Int32.ofNat n)), .val (.int (Int32.ofNat k)), .val (.int (Int32.ofNat (own_total n k))), .val (.int (Int32.ofNat j)), .val (.ref a), .val (.int (own_b (own_run n k 4).2.2)), .val (.int (own_b (own_run n k 4).2.2))] []))
              refine own_step (fun _ zk => XS.iconst X17.here hx rfl (hb hby at_158) zk) ?_
              show own_E p e below _ (T17.setTop (mkF m 159 #[.val (.int p1), .val (.int p2), .val (.int p3), .val (.int (Int32.ofNat n)), .val (.int (Int32.ofNat k)), .val (.int (Int32.ofNat (own_total n k))), .val (.int (Int32.ofNat j)), .val (.ref a), .val (.int (own_b (own_run n k 4).2.2)), .val (.int (own_b (own_run n k 4).2.2))] [(.int (1 : Int32))]))
              refine own_step (fun _ zk => XS.goto X17.here hx rfl (pc0 := 159) (pc' := 163) rfl (hb hby at_159) (by decide) (by decide) zk) ?_
              show own_E p e below _ (T17.setTop (mkF m 163 #[.val (.int p1), .val (.int p2), .val (.int p3), .val (.int (Int32.ofNat n)), .val (.int (Int32.ofNat k)), .val (.int (Int32.ofNat (own_total n k))), .val (.int (Int32.ofNat j)), .val (.ref a), .val (.int (own_b (own_run n k 4).2.2)), .val (.int (own_b (own_run n k 4).2.2))] [(.int (1 : Int32))]))
              refine own_ret X17 hlk (v := some (.int (nar .boolean (1 : Int32)))) (fun h => by rw [Bd.returns] at h; cases h) ?_ (by decide) (by decide) (fun fs hr => retN X17 hx (t := .boolean) Bd.returns (by simp) (hb hby at_163) hr)
              show Q0 Z p1 p2 p3 h0 n0 _ T17.heap _
              rw [e17]
              exact ⟨by decide, N17⟩
          · skip
            refine own_step (fun _ zk => XS.icmpNo X15.here hx rfl (hb hby at_98) rfl (flt (fun z => jm5 ((own_lt j 5 (by omega) (by omega)).mp z))).1 zk) ?_
            show own_E p e below _ (T15.setTop (mkF m 101 #[.val (.int p1), .val (.int p2), .val (.int p3), .val (.int (Int32.ofNat n)), .val (.int (Int32.ofNat k)), .val (.int (Int32.ofNat (own_total n k))), .val (.int (Int32.ofNat j)), .val (.ref a), .unset, .unset] []))
            refine own_step (fun _ zk => XS.aload X15.here hx rfl (hb hby at_101) rfl rfl zk) ?_
            show own_E p e below _ (T15.setTop (mkF m 103 #[.val (.int p1), .val (.int p2), .val (.int p3), .val (.int (Int32.ofNat n)), .val (.int (Int32.ofNat k)), .val (.int (Int32.ofNat (own_total n k))), .val (.int (Int32.ofNat j)), .val (.ref a), .unset, .unset] [(.ref a)]))
            have fi4 := own_all n (by omega) k (by omega) hk1 hkn 4 (by decide) (by omega)
            obtain ⟨rp4, ep4⟩ := own_N_t HN15 (by rw [own_fine_p fi4]; exact decide_eq_true (by omega))
            rw [ep4] at HO15
            obtain ⟨_, _, qa18, _, qc18⟩ := isOf (T := T15) hZ e15 HO15.1
            obtain ⟨_, _, ⟨T18, zL18, zK18, zN18⟩, -, X18, ⟨zLc18, hQ18, zl18, zy18, zz18⟩, st18⟩ := X15.virtualBack hx (y := (⟨"com/example/tallier/tallier/protocol/RecoverySets", "next", "()[I"⟩ : MethodName)) (z := (⟨"com/example/tallier/tallier/protocol/RecoverySets", "next", "()[I"⟩ : MethodName)) hown (mvT hZ (hw _ (List.mem_of_getElem? (i := 38) rfl))) (mvT hZ (hw _ (List.mem_of_getElem? (i := 39) rfl))) (notFace_of_selects (args := #[]) (mvT hZ (hw _ (List.mem_of_getElem? (i := 41) rfl)))) (mvT hZ (hw _ (List.mem_of_getElem? (i := 41) rfl))) (mvT hZ (hw _ (List.mem_of_getElem? (i := 40) rfl))) (by decide) (backOf (W := 0) (rm6 l Z a0 hw [] a n k (own_run n k 4).1 (own_run n k 4).2.1 vc15 rp4 h15 n0 (Nat.le_trans Z0 K_15.1) hk1 (by omega) hn4 (own_fine_rg fi4) ge_a HO15 HR15 (own_fine_ok fi4)) hZ (hw _ (List.mem_of_getElem? (i := 42) rfl)) (hw _ (List.mem_of_getElem? (i := 7) rfl)) (by decide) (by decide)) qa18 qc18 (g := (mkF m 103 #[.val (.int p1), .val (.int p2), .val (.int p3), .val (.int (Int32.ofNat n)), .val (.int (Int32.ofNat k)), .val (.int (Int32.ofNat (own_total n k))), .val (.int (Int32.ofNat j)), .val (.ref a), .unset, .unset] [(.ref a)])) rfl (by rw [hml]; rfl) (Steps.refl _) (argsL := []) (rest := []) (lenOf pd_0_3 rfl) rfl (by show 2 * 0 + _ ≤ _; exact Nat.le_of_eq rfl) (hb hby at_103) (fun _ _ => ⟨rfl, e15, (by decide : 22 + 4 ≤ _), (by decide : 89 + 16 ≤ _)⟩)
            dsimp only [Pt.U, Pt.locs, Pt.cells, Pt.slots] at X18 zl18 zy18 zz18 st18 hQ18
            rw [show zK18 = 26 from zy18, show zN18 = 105 from zz18] at X18
            generalize e18 : T18.heap = h18 at hQ18
            obtain ⟨rfl, N18q, Kq18, vc18, vp18, HO18, HR18, HN18⟩ := hQ18
            have K_18 := Keep.trans K_15 Kq18 (allS (Or.inr gh_a) all0)
            replace HO18 : own_O Z h18 a n k (own_run n k 5).1 vc18 vp18 := HO18
            replace HR18 : own_R Z h18 n0 vc18 k (own_run n k 5).2.1 := HR18
            replace HN18 : own_N vp18 (own_run n k 5).2.2 := HN18
            have N18 : Fr n0 zL18 := by rw [zl18]; exact Fr.app N15 N18q
            refine own_step (fun _ zk => (st18).trans zk) ?_
            show own_E p e below _ (T18.setTop (mkF m 106 #[.val (.int p1), .val (.int p2), .val (.int p3), .val (.int (Int32.ofNat n)), .val (.int (Int32.ofNat k)), .val (.int (Int32.ofNat (own_total n k))), .val (.int (Int32.ofNat j)), .val (.ref a), .unset, .unset] [(.ref rp4)]))
            refine own_step (fun _ zk => Jvm.Free.XT.pop X18.here hx rfl (hb hby at_106) rfl rfl zk) ?_
            show own_E p e below _ (T18.setTop (mkF m 107 #[.val (.int p1), .val (.int p2), .val (.int p3), .val (.int (Int32.ofNat n)), .val (.int (Int32.ofNat k)), .val (.int (Int32.ofNat (own_total n k))), .val (.int (Int32.ofNat j)), .val (.ref a), .unset, .unset] []))
            refine own_step (fun _ zk => XS.iload X18.here hx rfl (hb hby at_107) rfl zk) ?_
            show own_E p e below _ (T18.setTop (mkF m 109 #[.val (.int p1), .val (.int p2), .val (.int p3), .val (.int (Int32.ofNat n)), .val (.int (Int32.ofNat k)), .val (.int (Int32.ofNat (own_total n k))), .val (.int (Int32.ofNat j)), .val (.ref a), .unset, .unset] [(.int (Int32.ofNat j))]))
            refine own_step (fun _ zk => XS.bipush X18.here hx rfl (hb hby at_109) zk) ?_
            show own_E p e below _ (T18.setTop (mkF m 111 #[.val (.int p1), .val (.int p2), .val (.int p3), .val (.int (Int32.ofNat n)), .val (.int (Int32.ofNat k)), .val (.int (Int32.ofNat (own_total n k))), .val (.int (Int32.ofNat j)), .val (.ref a), .unset, .unset] [(.int (6 : Int32)), (.int (Int32.ofNat j))]))
            by_cases jm6 : j < 6
            · skip
              refine own_step (fun _ zk => XS.icmpYes X18.here hx rfl (pc0 := 111) (pc' := 120) rfl (hb hby at_111) rfl (tlt ((own_lt j 6 (by omega) (by omega)).mpr (by omega))).1 (by decide) (by decide) zk) ?_
              show own_E p e below _ (T18.setTop (mkF m 120 #[.val (.int p1), .val (.int p2), .val (.int p3), .val (.int (Int32.ofNat n)), .val (.int (Int32.ofNat k)), .val (.int (Int32.ofNat (own_total n k))), .val (.int (Int32.ofNat j)), .val (.ref a), .unset, .unset] []))
              refine own_step (fun _ zk => XS.aload X18.here hx rfl (hb hby at_120) rfl rfl zk) ?_
              show own_E p e below _ (T18.setTop (mkF m 122 #[.val (.int p1), .val (.int p2), .val (.int p3), .val (.int (Int32.ofNat n)), .val (.int (Int32.ofNat k)), .val (.int (Int32.ofNat (own_total n k))), .val (.int (Int32.ofNat j)), .val (.ref a), .unset, .unset] [(.ref a)]))
              obtain ⟨_, _, qa19, _, qc19⟩ := isOf (T := T18) hZ e18 HO18.1
              obtain ⟨_, _, ⟨T19, zL19, zK19, zN19⟩, -, X19, ⟨zLc19, hQ19, zl19, zy19, zz19⟩, st19⟩ := X18.virtualBack hx (y := (⟨"com/example/tallier/tallier/protocol/RecoverySets", "hasNext", "()Z"⟩ : MethodName)) (z := (⟨"com/example/tallier/tallier/protocol/RecoverySets", "hasNext", "()Z"⟩ : MethodName)) hown (mvT hZ (hw _ (List.mem_of_getElem? (i := 33) rfl))) (mvT hZ (hw _ (List.mem_of_getElem? (i := 34) rfl))) (notFace_of_selects (args := #[]) (mvT hZ (hw _ (List.mem_of_getElem? (i := 36) rfl)))) (mvT hZ (hw _ (List.mem_of_getElem? (i := 36) rfl))) (mvT hZ (hw _ (List.mem_of_getElem? (i := 35) rfl))) (by decide) (backOf (W := 0) (rm5 l Z a0 hw [] a vp18 (own_run n k 5).2.2 h18 n0 (Nat.le_trans Z0 K_18.1) HO18.2.2.2.2.2 HN18) hZ (hw _ (List.mem_of_getElem? (i := 37) rfl)) (hw _ (List.mem_of_getElem? (i := 7) rfl)) (by decide) (by decide)) qa19 qc19 (g := (mkF m 122 #[.val (.int p1), .val (.int p2), .val (.int p3), .val (.int (Int32.ofNat n)), .val (.int (Int32.ofNat k)), .val (.int (Int32.ofNat (own_total n k))), .val (.int (Int32.ofNat j)), .val (.ref a), .unset, .unset] [(.ref a)])) rfl (by rw [hml]; rfl) (Steps.refl _) (argsL := []) (rest := []) (lenOf pd_0_2 rfl) rfl (by show 2 * 0 + _ ≤ _; exact Nat.le_of_eq rfl) (hb hby at_122) (fun _ _ => ⟨rfl, e18, (by decide : 26 + 0 ≤ _), (by decide : 105 + 0 ≤ _)⟩)
              dsimp only [Pt.U, Pt.locs, Pt.cells, Pt.slots] at X19 zl19 zy19 zz19 st19 hQ19
              rw [show zK19 = 26 from zy19, show zN19 = 105 from zz19] at X19
              obtain ⟨rfl, N19q, e19⟩ := hQ19
              have N19 : Fr n0 zL19 := by rw [zl19]; exact Fr.app N18 N19q
              refine own_step (fun _ zk => (st19).trans zk) ?_
              show own_E p e below _ (T19.setTop (mkF m 125 #[.val (.int p1), .val (.int p2), .val (.int p3), .val (.int (Int32.ofNat n)), .val (.int (Int32.ofNat k)), .val (.int (Int32.ofNat (own_total n k))), .val (.int (Int32.ofNat j)), .val (.ref a), .unset, .unset] [(.int (own_b (own_run n k 5).2.2))]))
              refine own_step (fun _ zk => XS.istore X19.here hx rfl (hb hby at_125) rfl (l' := #[.val (.int p1), .val (.int p2), .val (.int p3), .val (.int (Int32.ofNat n)), .val (.int (Int32.ofNat k)), .val (.int (Int32.ofNat (own_total n k))), .val (.int (Int32.ofNat j)), .val (.ref a), .val (.int (own_b (own_run n k 5).2.2)), .unset]) rfl zk) ?_
              show own_E p e below _ (T19.setTop (mkF m 127 #[.val (.int p1), .val (.int p2), .val (.int p3), .val (.int (Int32.ofNat n)), .val (.int (Int32.ofNat k)), .val (.int (Int32.ofNat (own_total n k))), .val (.int (Int32.ofNat j)), .val (.ref a), .val (.int (own_b (own_run n k 5).2.2)), .unset] []))
              refine own_step (fun _ zk => XS.aload X19.here hx rfl (hb hby at_127) rfl rfl zk) ?_
              show own_E p e below _ (T19.setTop (mkF m 129 #[.val (.int p1), .val (.int p2), .val (.int p3), .val (.int (Int32.ofNat n)), .val (.int (Int32.ofNat k)), .val (.int (Int32.ofNat (own_total n k))), .val (.int (Int32.ofNat j)), .val (.ref a), .val (.int (own_b (own_run n k 5).2.2)), .unset] [(.ref a)]))
              obtain ⟨_, _, qa20, _, qc20⟩ := isOf (T := T19) hZ e19 HO18.1
              obtain ⟨_, _, ⟨T20, zL20, zK20, zN20⟩, -, X20, ⟨zLc20, hQ20, zl20, zy20, zz20⟩, st20⟩ := X19.virtualBack hx (y := (⟨"com/example/tallier/tallier/protocol/RecoverySets", "hasNext", "()Z"⟩ : MethodName)) (z := (⟨"com/example/tallier/tallier/protocol/RecoverySets", "hasNext", "()Z"⟩ : MethodName)) hown (mvT hZ (hw _ (List.mem_of_getElem? (i := 33) rfl))) (mvT hZ (hw _ (List.mem_of_getElem? (i := 34) rfl))) (notFace_of_selects (args := #[]) (mvT hZ (hw _ (List.mem_of_getElem? (i := 36) rfl)))) (mvT hZ (hw _ (List.mem_of_getElem? (i := 36) rfl))) (mvT hZ (hw _ (List.mem_of_getElem? (i := 35) rfl))) (by decide) (backOf (W := 0) (rm5 l Z a0 hw [] a vp18 (own_run n k 5).2.2 h18 n0 (Nat.le_trans Z0 K_18.1) HO18.2.2.2.2.2 HN18) hZ (hw _ (List.mem_of_getElem? (i := 37) rfl)) (hw _ (List.mem_of_getElem? (i := 7) rfl)) (by decide) (by decide)) qa20 qc20 (g := (mkF m 129 #[.val (.int p1), .val (.int p2), .val (.int p3), .val (.int (Int32.ofNat n)), .val (.int (Int32.ofNat k)), .val (.int (Int32.ofNat (own_total n k))), .val (.int (Int32.ofNat j)), .val (.ref a), .val (.int (own_b (own_run n k 5).2.2)), .unset] [(.ref a)])) rfl (by rw [hml]; rfl) (Steps.refl _) (argsL := []) (rest := []) (lenOf pd_0_2 rfl) rfl (by show 2 * 0 + _ ≤ _; exact Nat.le_of_eq rfl) (hb hby at_129) (fun _ _ => ⟨rfl, e19, (by decide : 26 + 0 ≤ _), (by decide : 105 + 0 ≤ _)⟩)
              dsimp only [Pt.U, Pt.locs, Pt.cells, Pt.slots] at X20 zl20 zy20 zz20 st20 hQ20
              rw [show zK20 = 26 from zy20, show zN20 = 105 from zz20] at X20
              obtain ⟨rfl, N20q, e20⟩ := hQ20
              have N20 : Fr n0 zL20 := by rw [zl20]; exact Fr.app N19 N20q
              refine own_step (fun _ zk => (st20).trans zk) ?_
              show own_E p e below _ (T20.setTop (mkF m 132 #[.val (.int p1), .val (.int p2), .val (.int p3), .val (.int (Int32.ofNat n)), .val (.int (Int32.ofNat k)), .val (.int (Int32.ofNat (own_total n k))), .val (.int (Int32.ofNat j)), .val (.ref a), .val (.int (own_b (own_run n k 5).2.2)), .unset] [(.int (own_b (own_run n k 5).2.2))]))
              refine own_step (fun _ zk => XS.istore X20.here hx rfl (hb hby at_132) rfl (l' := #[.val (.int p1), .val (.int p2), .val (.int p3), .val (.int (Int32.ofNat n)), .val (.int (Int32.ofNat k)), .val (.int (Int32.ofNat (own_total n k))), .val (.int (Int32.ofNat j)), .val (.ref a), .val (.int (own_b (own_run n k 5).2.2)), .val (.int (own_b (own_run n k 5).2.2))]) rfl zk) ?_
              show own_E p e below _ (T20.setTop (mkF m 134 #[.val (.int p1), .val (.int p2), .val (.int p3), .val (.int (Int32.ofNat n)), .val (.int (Int32.ofNat k)), .val (.int (Int32.ofNat (own_total n k))), .val (.int (Int32.ofNat j)), .val (.ref a), .val (.int (own_b (own_run n k 5).2.2)), .val (.int (own_b (own_run n k 5).2.2))] []))
              refine own_step (fun _ zk => XS.iload X20.here hx rfl (hb hby at_134) rfl zk) ?_
              show own_E p e below _ (T20.setTop (mkF m 136 #[.val (.int p1), .val (.int p2), .val (.int p3), .val (.int (Int32.ofNat n)), .val (.int (Int32.ofNat k)), .val (.int (Int32.ofNat (own_total n k))), .val (.int (Int32.ofNat j)), .val (.ref a), .val (.int (own_b (own_run n k 5).2.2)), .val (.int (own_b (own_run n k 5).2.2))] [(.int (own_b (own_run n k 5).2.2))]))
              refine own_step (fun _ zk => XS.iload X20.here hx rfl (hb hby at_136) rfl zk) ?_
              show own_E p e below _ (T20.setTop (mkF m 138 #[.val (.int p1), .val (.int p2), .val (.int p3), .val (.int (Int32.ofNat n)), .val (.int (Int32.ofNat k)), .val (.int (Int32.ofNat (own_total n k))), .val (.int (Int32.ofNat j)), .val (.ref a), .val (.int (own_b (own_run n k 5).2.2)), .val (.int (own_b (own_run n k 5).2.2))] [(.int (Int32.ofNat j)), (.int (own_b (own_run n k 5).2.2))]))
              refine own_step (fun _ zk => XS.iload X20.here hx rfl (hb hby at_138) rfl zk) ?_
              show own_E p e below _ (T20.setTop (mkF m 140 #[.val (.int p1), .val (.int p2), .val (.int p3), .val (.int (Int32.ofNat n)), .val (.int (Int32.ofNat k)), .val (.int (Int32.ofNat (own_total n k))), .val (.int (Int32.ofNat j)), .val (.ref a), .val (.int (own_b (own_run n k 5).2.2)), .val (.int (own_b (own_run n k 5).2.2))] [(.int (Int32.ofNat (own_total n k))), (.int (Int32.ofNat j)), (.int (own_b (own_run n k 5).2.2))]))
              by_cases hc140 : (Int32.ofNat j) < (Int32.ofNat (own_total n k))
              · skip
                refine own_step (fun _ zk => XS.icmpNo X20.here hx rfl (hb hby at_140) rfl (tlt hc140).2.1 zk) ?_
                show own_E p e below _ (T20.setTop (mkF m 143 #[.val (.int p1), .val (.int p2), .val (.int p3), .val (.int (Int32.ofNat n)), .val (.int (Int32.ofNat k)), .val (.int (Int32.ofNat (own_total n k))), .val (.int (Int32.ofNat j)), .val (.ref a), .val (.int (own_b (own_run n k 5).2.2)), .val (.int (own_b (own_run n k 5).2.2))] [(.int (own_b (own_run n k 5).2.2))]))
                refine own_step (fun _ zk => XS.iconst X20.here hx rfl (hb hby at_143) zk) ?_
                show own_E p e below _ (T20.setTop (mkF m 144 #[.val (.int p1), .val (.int p2), .val (.int p3), .val (.int (Int32.ofNat n)), .val (.int (Int32.ofNat k)), .val (.int (Int32.ofNat (own_total n k))), .val (.int (Int32.ofNat j)), .val (.ref a), .val (.int (own_b (own_run n k 5).2.2)), .val (.int (own_b (own_run n k 5).2.2))] [(.int (1 : Int32)), (.int (own_b (own_run n k 5).2.2))]))
                refine own_step (fun _ zk => XS.goto X20.here hx rfl (pc0 := 144) (pc' := 148) rfl (hb hby at_144) (by decide) (by decide) zk) ?_
                show own_E p e below _ (T20.setTop (mkF m 148 #[.val (.int p1), .val (.int p2), .val (.int p3), .val (.int (Int32.ofNat n)), .val (.int (Int32.ofNat k)), .val (.int (Int32.ofNat (own_total n k))), .val (.int (Int32.ofNat j)), .val (.ref a), .val (.int (own_b (own_run n k 5).2.2)), .val (.int (own_b (own_run n k 5).2.2))] [(.int (1 : Int32)), (.int (own_b (own_run n k 5).2.2))]))
                have fz := own_all n (by omega) k (by omega) hk1 hkn 5 (by decide) (by omega)
                have hz := hc140
                rw [own_lt j _ (by omega) (by omega)] at hz
                refine own_step (fun _ zk => XS.icmpNo X20.here hx rfl (hb hby at_148) rfl (teq (own_b1 fz (by omega))).2 zk) ?_
                show own_E p e below _ (T20.setTop (mkF m 151 #[.val (.int p1), .val (.int p2), .val (.int p3), .val (.int (Int32.ofNat n)), .val (.int (Int32.ofNat k)), .val (.int (Int32.ofNat (own_total n k))), .val (.int (Int32.ofNat j)), .val (.ref a), .val (.int (own_b (own_run n k 5).2.2)), .val (.int (own_b (own_run n k 5).2.2))] []))
                refine own_step (fun _ zk => XS.iload X20.here hx rfl (hb hby at_151) rfl zk) ?_
                show own_E p e below _ (T20.setTop (mkF m 153 #[.val (.int p1), .val (.int p2), .val (.int p3), .val (.int (Int32.ofNat n)), .val (.int (Int32.ofNat k)), .val (.int (Int32.ofNat (own_total n k))), .val (.int (Int32.ofNat j)), .val (.ref a), .val (.int (own_b (own_run n k 5).2.2)), .val (.int (own_b (own_run n k 5).2.2))] [(.int (own_b (own_run n k 5).2.2))]))
                refine own_step (fun _ zk => XS.iload X20.here hx rfl (hb hby at_153) rfl zk) ?_
                show own_E p e below _ (T20.setTop (mkF m 155 #[.val (.int p1), .val (.int p2), .val (.int p3), .val (.int (Int32.ofNat n)), .val (.int (Int32.ofNat k)), .val (.int (Int32.ofNat (own_total n k))), .val (.int (Int32.ofNat j)), .val (.ref a), .val (.int (own_b (own_run n k 5).2.2)), .val (.int (own_b (own_run n k 5).2.2))] [(.int (own_b (own_run n k 5).2.2)), (.int (own_b (own_run n k 5).2.2))]))
                refine own_step (fun _ zk => XS.icmpNo X20.here hx rfl (hb hby at_155) rfl (teq rfl).2 zk) ?_
                show own_E p e below _ (T20.setTop (mkF m 158 #[.val (.int p1), .val (.int p2), .val (.int p3), .val (.int (Int32.ofNat n)), .val (.int (Int32.ofNat k)), .val (.int (Int32.ofNat (own_total n k))), .val (.int (Int32.ofNat j)), .val (.ref a), .val (.int (own_b (own_run n k 5).2.2)), .val (.int (own_b (own_run n k 5).2.2))] []))
                refine own_step (fun _ zk => XS.iconst X20.here hx rfl (hb hby at_158) zk) ?_
                show own_E p e below _ (T20.setTop (mkF m 159 #[.val (.int p1), .val (.int p2), .val (.int p3), .val (.int (Int32.ofNat n)), .val (.int (Int32.ofNat k)), .val (.int (Int32.ofNat (own_total n k))), .val (.int (Int32.ofNat j)), .val (.ref a), .val (.int (own_b (own_run n k 5).2.2)), .val (.int (own_b (own_run n k 5).2.2))] [(.int (1 : Int32))]))
                refine own_step (fun _ zk => XS.goto X20.here hx rfl (pc0 := 159) (pc' := 163) rfl (hb hby at_159) (by decide) (by decide) zk) ?_
                show own_E p e below _ (T20.setTop (mkF m 163 #[.val (.int p1), .val (.int p2), .val (.int p3), .val (.int (Int32.ofNat n)), .val (.int (Int32.ofNat k)), .val (.int (Int32.ofNat (own_total n k))), .val (.int (Int32.ofNat j)), .val (.ref a), .val (.int (own_b (own_run n k 5).2.2)), .val (.int (own_b (own_run n k 5).2.2))] [(.int (1 : Int32))]))
                refine own_ret X20 hlk (v := some (.int (nar .boolean (1 : Int32)))) (fun h => by rw [Bd.returns] at h; cases h) ?_ (by decide) (by decide) (fun fs hr => retN X20 hx (t := .boolean) Bd.returns (by simp) (hb hby at_163) hr)
                show Q0 Z p1 p2 p3 h0 n0 _ T20.heap _
                rw [e20]
                exact ⟨by decide, N20⟩
              · skip
                refine own_step (fun _ zk => XS.icmpYes X20.here hx rfl (pc0 := 140) (pc' := 147) rfl (hb hby at_140) rfl (flt hc140).2.1 (by decide) (by decide) zk) ?_
                show own_E p e below _ (T20.setTop (mkF m 147 #[.val (.int p1), .val (.int p2), .val (.int p3), .val (.int (Int32.ofNat n)), .val (.int (Int32.ofNat k)), .val (.int (Int32.ofNat (own_total n k))), .val (.int (Int32.ofNat j)), .val (.ref a), .val (.int (own_b (own_run n k 5).2.2)), .val (.int (own_b (own_run n k 5).2.2))] [(.int (own_b (own_run n k 5).2.2))]))
                refine own_step (fun _ zk => XS.iconst X20.here hx rfl (hb hby at_147) zk) ?_
                show own_E p e below _ (T20.setTop (mkF m 148 #[.val (.int p1), .val (.int p2), .val (.int p3), .val (.int (Int32.ofNat n)), .val (.int (Int32.ofNat k)), .val (.int (Int32.ofNat (own_total n k))), .val (.int (Int32.ofNat j)), .val (.ref a), .val (.int (own_b (own_run n k 5).2.2)), .val (.int (own_b (own_run n k 5).2.2))] [(.int (0 : Int32)), (.int (own_b (own_run n k 5).2.2))]))
                have fz := own_all n (by omega) k (by omega) hk1 hkn 5 (by decide) (by omega)
                have hz := hc140
                rw [own_lt j _ (by omega) (by omega)] at hz
                refine own_step (fun _ zk => XS.icmpNo X20.here hx rfl (hb hby at_148) rfl (teq (own_b0 fz (by omega))).2 zk) ?_
                show own_E p e below _ (T20.setTop (mkF m 151 #[.val (.int p1), .val (.int p2), .val (.int p3), .val (.int (Int32.ofNat n)), .val (.int (Int32.ofNat k)), .val (.int (Int32.ofNat (own_total n k))), .val (.int (Int32.ofNat j)), .val (.ref a), .val (.int (own_b (own_run n k 5).2.2)), .val (.int (own_b (own_run n k 5).2.2))] []))
                refine own_step (fun _ zk => XS.iload X20.here hx rfl (hb hby at_151) rfl zk) ?_
                show own_E p e below _ (T20.setTop (mkF m 153 #[.val (.int p1), .val (.int p2), .val (.int p3), .val (.int (Int32.ofNat n)), .val (.int (Int32.ofNat k)), .val (.int (Int32.ofNat (own_total n k))), .val (.int (Int32.ofNat j)), .val (.ref a), .val (.int (own_b (own_run n k 5).2.2)), .val (.int (own_b (own_run n k 5).2.2))] [(.int (own_b (own_run n k 5).2.2))]))
                refine own_step (fun _ zk => XS.iload X20.here hx rfl (hb hby at_153) rfl zk) ?_
                show own_E p e below _ (T20.setTop (mkF m 155 #[.val (.int p1), .val (.int p2), .val (.int p3), .val (.int (Int32.ofNat n)), .val (.int (Int32.ofNat k)), .val (.int (Int32.ofNat (own_total n k))), .val (.int (Int32.ofNat j)), .val (.ref a), .val (.int (own_b (own_run n k 5).2.2)), .val (.int (own_b (own_run n k 5).2.2))] [(.int (own_b (own_run n k 5).2.2)), (.int (own_b (own_run n k 5).2.2))]))
                refine own_step (fun _ zk => XS.icmpNo X20.here hx rfl (hb hby at_155) rfl (teq rfl).2 zk) ?_
                show own_E p e below _ (T20.setTop (mkF m 158 #[.val (.int p1), .val (.int p2), .val (.int p3), .val (.int (Int32.ofNat n)), .val (.int (Int32.ofNat k)), .val (.int (Int32.ofNat (own_total n k))), .val (.int (Int32.ofNat j)), .val (.ref a), .val (.int (own_b (own_run n k 5).2.2)), .val (.int (own_b (own_run n k 5).2.2))] []))
                refine own_step (fun _ zk => XS.iconst X20.here hx rfl (hb hby at_158) zk) ?_
                show own_E p e below _ (T20.setTop (mkF m 159 #[.val (.int p1), .val (.int p2), .val (.int p3), .val (.int (Int32.ofNat n)), .val (.int (Int32.ofNat k)), .val (.int (Int32.ofNat (own_total n k))), .val (.int (Int32.ofNat j)), .val (.ref a), .val (.int (own_b (own_run n k 5).2.2)), .val (.int (own_b (own_run n k 5).2.2))] [(.int (1 : Int32))]))
                refine own_step (fun _ zk => XS.goto X20.here hx rfl (pc0 := 159) (pc' := 163) rfl (hb hby at_159) (by decide) (by decide) zk) ?_
                show own_E p e below _ (T20.setTop (mkF m 163 #[.val (.int p1), .val (.int p2), .val (.int p3), .val (.int (Int32.ofNat n)), .val (.int (Int32.ofNat k)), .val (.int (Int32.ofNat (own_total n k))), .val (.int (Int32.ofNat j)), .val (.ref a), .val (.int (own_b (own_run n k 5).2.2)), .val (.int (own_b (own_run n k 5).2.2))] [(.int (1 : Int32))]))
                refine own_ret X20 hlk (v := some (.int (nar .boolean (1 : Int32)))) (fun h => by rw [Bd.returns] at h; cases h) ?_ (by decide) (by decide) (fun fs hr => retN X20 hx (t := .boolean) Bd.returns (by simp) (hb hby at_163) hr)
                show Q0 Z p1 p2 p3 h0 n0 _ T20.heap _
                rw [e20]
                exact ⟨by decide, N20⟩
            · skip
              refine own_step (fun _ zk => XS.icmpNo X18.here hx rfl (hb hby at_111) rfl (flt (fun z => jm6 ((own_lt j 6 (by omega) (by omega)).mp z))).1 zk) ?_
              show own_E p e below _ (T18.setTop (mkF m 114 #[.val (.int p1), .val (.int p2), .val (.int p3), .val (.int (Int32.ofNat n)), .val (.int (Int32.ofNat k)), .val (.int (Int32.ofNat (own_total n k))), .val (.int (Int32.ofNat j)), .val (.ref a), .unset, .unset] []))
              refine own_step (fun _ zk => XS.aload X18.here hx rfl (hb hby at_114) rfl rfl zk) ?_
              show own_E p e below _ (T18.setTop (mkF m 116 #[.val (.int p1), .val (.int p2), .val (.int p3), .val (.int (Int32.ofNat n)), .val (.int (Int32.ofNat k)), .val (.int (Int32.ofNat (own_total n k))), .val (.int (Int32.ofNat j)), .val (.ref a), .unset, .unset] [(.ref a)]))
              have fi5 := own_all n (by omega) k (by omega) hk1 hkn 5 (by decide) (by omega)
              obtain ⟨rp5, ep5⟩ := own_N_t HN18 (by rw [own_fine_p fi5]; exact decide_eq_true (by omega))
              rw [ep5] at HO18
              obtain ⟨_, _, qa21, _, qc21⟩ := isOf (T := T18) hZ e18 HO18.1
              obtain ⟨_, _, ⟨T21, zL21, zK21, zN21⟩, -, X21, ⟨zLc21, hQ21, zl21, zy21, zz21⟩, st21⟩ := X18.virtualBack hx (y := (⟨"com/example/tallier/tallier/protocol/RecoverySets", "next", "()[I"⟩ : MethodName)) (z := (⟨"com/example/tallier/tallier/protocol/RecoverySets", "next", "()[I"⟩ : MethodName)) hown (mvT hZ (hw _ (List.mem_of_getElem? (i := 38) rfl))) (mvT hZ (hw _ (List.mem_of_getElem? (i := 39) rfl))) (notFace_of_selects (args := #[]) (mvT hZ (hw _ (List.mem_of_getElem? (i := 41) rfl)))) (mvT hZ (hw _ (List.mem_of_getElem? (i := 41) rfl))) (mvT hZ (hw _ (List.mem_of_getElem? (i := 40) rfl))) (by decide) (backOf (W := 0) (rm6 l Z a0 hw [] a n k (own_run n k 5).1 (own_run n k 5).2.1 vc18 rp5 h18 n0 (Nat.le_trans Z0 K_18.1) hk1 (by omega) hn4 (own_fine_rg fi5) ge_a HO18 HR18 (own_fine_ok fi5)) hZ (hw _ (List.mem_of_getElem? (i := 42) rfl)) (hw _ (List.mem_of_getElem? (i := 7) rfl)) (by decide) (by decide)) qa21 qc21 (g := (mkF m 116 #[.val (.int p1), .val (.int p2), .val (.int p3), .val (.int (Int32.ofNat n)), .val (.int (Int32.ofNat k)), .val (.int (Int32.ofNat (own_total n k))), .val (.int (Int32.ofNat j)), .val (.ref a), .unset, .unset] [(.ref a)])) rfl (by rw [hml]; rfl) (Steps.refl _) (argsL := []) (rest := []) (lenOf pd_0_3 rfl) rfl (by show 2 * 0 + _ ≤ _; exact Nat.le_of_eq rfl) (hb hby at_116) (fun _ _ => ⟨rfl, e18, (by decide : 26 + 4 ≤ _), (by decide : 105 + 16 ≤ _)⟩)
              dsimp only [Pt.U, Pt.locs, Pt.cells, Pt.slots] at X21 zl21 zy21 zz21 st21 hQ21
              rw [show zK21 = 30 from zy21, show zN21 = 121 from zz21] at X21
              generalize e21 : T21.heap = h21 at hQ21
              obtain ⟨rfl, N21q, Kq21, vc21, vp21, HO21, HR21, HN21⟩ := hQ21
              have K_21 := Keep.trans K_18 Kq21 (allS (Or.inr gh_a) all0)
              replace HO21 : own_O Z h21 a n k (own_run n k 6).1 vc21 vp21 := HO21
              replace HR21 : own_R Z h21 n0 vc21 k (own_run n k 6).2.1 := HR21
              replace HN21 : own_N vp21 (own_run n k 6).2.2 := HN21
              have N21 : Fr n0 zL21 := by rw [zl21]; exact Fr.app N18 N21q
              refine own_step (fun _ zk => (st21).trans zk) ?_
              show own_E p e below _ (T21.setTop (mkF m 119 #[.val (.int p1), .val (.int p2), .val (.int p3), .val (.int (Int32.ofNat n)), .val (.int (Int32.ofNat k)), .val (.int (Int32.ofNat (own_total n k))), .val (.int (Int32.ofNat j)), .val (.ref a), .unset, .unset] [(.ref rp5)]))
              refine own_step (fun _ zk => Jvm.Free.XT.pop X21.here hx rfl (hb hby at_119) rfl rfl zk) ?_
              show own_E p e below _ (T21.setTop (mkF m 120 #[.val (.int p1), .val (.int p2), .val (.int p3), .val (.int (Int32.ofNat n)), .val (.int (Int32.ofNat k)), .val (.int (Int32.ofNat (own_total n k))), .val (.int (Int32.ofNat j)), .val (.ref a), .unset, .unset] []))
              refine own_step (fun _ zk => XS.aload X21.here hx rfl (hb hby at_120) rfl rfl zk) ?_
              show own_E p e below _ (T21.setTop (mkF m 122 #[.val (.int p1), .val (.int p2), .val (.int p3), .val (.int (Int32.ofNat n)), .val (.int (Int32.ofNat k)), .val (.int (Int32.ofNat (own_total n k))), .val (.int (Int32.ofNat j)), .val (.ref a), .unset, .unset] [(.ref a)]))
              obtain ⟨_, _, qa22, _, qc22⟩ := isOf (T := T21) hZ e21 HO21.1
              obtain ⟨_, _, ⟨T22, zL22, zK22, zN22⟩, -, X22, ⟨zLc22, hQ22, zl22, zy22, zz22⟩, st22⟩ := X21.virtualBack hx (y := (⟨"com/example/tallier/tallier/protocol/RecoverySets", "hasNext", "()Z"⟩ : MethodName)) (z := (⟨"com/example/tallier/tallier/protocol/RecoverySets", "hasNext", "()Z"⟩ : MethodName)) hown (mvT hZ (hw _ (List.mem_of_getElem? (i := 33) rfl))) (mvT hZ (hw _ (List.mem_of_getElem? (i := 34) rfl))) (notFace_of_selects (args := #[]) (mvT hZ (hw _ (List.mem_of_getElem? (i := 36) rfl)))) (mvT hZ (hw _ (List.mem_of_getElem? (i := 36) rfl))) (mvT hZ (hw _ (List.mem_of_getElem? (i := 35) rfl))) (by decide) (backOf (W := 0) (rm5 l Z a0 hw [] a vp21 (own_run n k 6).2.2 h21 n0 (Nat.le_trans Z0 K_21.1) HO21.2.2.2.2.2 HN21) hZ (hw _ (List.mem_of_getElem? (i := 37) rfl)) (hw _ (List.mem_of_getElem? (i := 7) rfl)) (by decide) (by decide)) qa22 qc22 (g := (mkF m 122 #[.val (.int p1), .val (.int p2), .val (.int p3), .val (.int (Int32.ofNat n)), .val (.int (Int32.ofNat k)), .val (.int (Int32.ofNat (own_total n k))), .val (.int (Int32.ofNat j)), .val (.ref a), .unset, .unset] [(.ref a)])) rfl (by rw [hml]; rfl) (Steps.refl _) (argsL := []) (rest := []) (lenOf pd_0_2 rfl) rfl (by show 2 * 0 + _ ≤ _; exact Nat.le_of_eq rfl) (hb hby at_122) (fun _ _ => ⟨rfl, e21, (by decide : 30 + 0 ≤ _), (by decide : 121 + 0 ≤ _)⟩)
              dsimp only [Pt.U, Pt.locs, Pt.cells, Pt.slots] at X22 zl22 zy22 zz22 st22 hQ22
              rw [show zK22 = 30 from zy22, show zN22 = 121 from zz22] at X22
              obtain ⟨rfl, N22q, e22⟩ := hQ22
              have N22 : Fr n0 zL22 := by rw [zl22]; exact Fr.app N21 N22q
              refine own_step (fun _ zk => (st22).trans zk) ?_
              show own_E p e below _ (T22.setTop (mkF m 125 #[.val (.int p1), .val (.int p2), .val (.int p3), .val (.int (Int32.ofNat n)), .val (.int (Int32.ofNat k)), .val (.int (Int32.ofNat (own_total n k))), .val (.int (Int32.ofNat j)), .val (.ref a), .unset, .unset] [(.int (own_b (own_run n k 6).2.2))]))
              refine own_step (fun _ zk => XS.istore X22.here hx rfl (hb hby at_125) rfl (l' := #[.val (.int p1), .val (.int p2), .val (.int p3), .val (.int (Int32.ofNat n)), .val (.int (Int32.ofNat k)), .val (.int (Int32.ofNat (own_total n k))), .val (.int (Int32.ofNat j)), .val (.ref a), .val (.int (own_b (own_run n k 6).2.2)), .unset]) rfl zk) ?_
              show own_E p e below _ (T22.setTop (mkF m 127 #[.val (.int p1), .val (.int p2), .val (.int p3), .val (.int (Int32.ofNat n)), .val (.int (Int32.ofNat k)), .val (.int (Int32.ofNat (own_total n k))), .val (.int (Int32.ofNat j)), .val (.ref a), .val (.int (own_b (own_run n k 6).2.2)), .unset] []))
              refine own_step (fun _ zk => XS.aload X22.here hx rfl (hb hby at_127) rfl rfl zk) ?_
              show own_E p e below _ (T22.setTop (mkF m 129 #[.val (.int p1), .val (.int p2), .val (.int p3), .val (.int (Int32.ofNat n)), .val (.int (Int32.ofNat k)), .val (.int (Int32.ofNat (own_total n k))), .val (.int (Int32.ofNat j)), .val (.ref a), .val (.int (own_b (own_run n k 6).2.2)), .unset] [(.ref a)]))
              obtain ⟨_, _, qa23, _, qc23⟩ := isOf (T := T22) hZ e22 HO21.1
              obtain ⟨_, _, ⟨T23, zL23, zK23, zN23⟩, -, X23, ⟨zLc23, hQ23, zl23, zy23, zz23⟩, st23⟩ := X22.virtualBack hx (y := (⟨"com/example/tallier/tallier/protocol/RecoverySets", "hasNext", "()Z"⟩ : MethodName)) (z := (⟨"com/example/tallier/tallier/protocol/RecoverySets", "hasNext", "()Z"⟩ : MethodName)) hown (mvT hZ (hw _ (List.mem_of_getElem? (i := 33) rfl))) (mvT hZ (hw _ (List.mem_of_getElem? (i := 34) rfl))) (notFace_of_selects (args := #[]) (mvT hZ (hw _ (List.mem_of_getElem? (i := 36) rfl)))) (mvT hZ (hw _ (List.mem_of_getElem? (i := 36) rfl))) (mvT hZ (hw _ (List.mem_of_getElem? (i := 35) rfl))) (by decide) (backOf (W := 0) (rm5 l Z a0 hw [] a vp21 (own_run n k 6).2.2 h21 n0 (Nat.le_trans Z0 K_21.1) HO21.2.2.2.2.2 HN21) hZ (hw _ (List.mem_of_getElem? (i := 37) rfl)) (hw _ (List.mem_of_getElem? (i := 7) rfl)) (by decide) (by decide)) qa23 qc23 (g := (mkF m 129 #[.val (.int p1), .val (.int p2), .val (.int p3), .val (.int (Int32.ofNat n)), .val (.int (Int32.ofNat k)), .val (.int (Int32.ofNat (own_total n k))), .val (.int (Int32.ofNat j)), .val (.ref a), .val (.int (own_b (own_run n k 6).2.2)), .unset] [(.ref a)])) rfl (by rw [hml]; rfl) (Steps.refl _) (argsL := []) (rest := []) (lenOf pd_0_2 rfl) rfl (by show 2 * 0 + _ ≤ _; exact Nat.le_of_eq rfl) (hb hby at_129) (fun _ _ => ⟨rfl, e22, (by decide : 30 + 0 ≤ _), (by decide : 121 + 0 ≤ _)⟩)
              dsimp only [Pt.U, Pt.locs, Pt.cells, Pt.slots] at X23 zl23 zy23 zz23 st23 hQ23
              rw [show zK23 = 30 from zy23, show zN23 = 121 from zz23] at X23
              obtain ⟨rfl, N23q, e23⟩ := hQ23
              have N23 : Fr n0 zL23 := by rw [zl23]; exact Fr.app N22 N23q
              refine own_step (fun _ zk => (st23).trans zk) ?_
              show own_E p e below _ (T23.setTop (mkF m 132 #[.val (.int p1), .val (.int p2), .val (.int p3), .val (.int (Int32.ofNat n)), .val (.int (Int32.ofNat k)), .val (.int (Int32.ofNat (own_total n k))), .val (.int (Int32.ofNat j)), .val (.ref a), .val (.int (own_b (own_run n k 6).2.2)), .unset] [(.int (own_b (own_run n k 6).2.2))]))
              refine own_step (fun _ zk => XS.istore X23.here hx rfl (hb hby at_132) rfl (l' := #[.val (.int p1), .val (.int p2), .val (.int p3), .val (.int (Int32.ofNat n)), .val (.int (Int32.ofNat k)), .val (.int (Int32.ofNat (own_total n k))), .val (.int (Int32.ofNat j)), .val (.ref a), .val (.int (own_b (own_run n k 6).2.2)), .val (.int (own_b (own_run n k 6).2.2))]) rfl zk) ?_
              show own_E p e below _ (T23.setTop (mkF m 134 #[.val (.int p1), .val (.int p2), .val (.int p3), .val (.int (Int32.ofNat n)), .val (.int (Int32.ofNat k)), .val (.int (Int32.ofNat (own_total n k))), .val (.int (Int32.ofNat j)), .val (.ref a), .val (.int (own_b (own_run n k 6).2.2)), .val (.int (own_b (own_run n k 6).2.2))] []))
              refine own_step (fun _ zk => XS.iload X23.here hx rfl (hb hby at_134) rfl zk) ?_
              show own_E p e below _ (T23.setTop (mkF m 136 #[.val (.int p1), .val (.int p2), .val (.int p3), .val (.int (Int32.ofNat n)), .val (.int (Int32.ofNat k)), .val (.int (Int32.ofNat (own_total n k))), .val (.int (Int32.ofNat j)), .val (.ref a), .val (.int (own_b (own_run n k 6).2.2)), .val (.int (own_b (own_run n k 6).2.2))] [(.int (own_b (own_run n k 6).2.2))]))
              refine own_step (fun _ zk => XS.iload X23.here hx rfl (hb hby at_136) rfl zk) ?_
              show own_E p e below _ (T23.setTop (mkF m 138 #[.val (.int p1), .val (.int p2), .val (.int p3), .val (.int (Int32.ofNat n)), .val (.int (Int32.ofNat k)), .val (.int (Int32.ofNat (own_total n k))), .val (.int (Int32.ofNat j)), .val (.ref a), .val (.int (own_b (own_run n k 6).2.2)), .val (.int (own_b (own_run n k 6).2.2))] [(.int (Int32.ofNat j)), (.int (own_b (own_run n k 6).2.2))]))
              refine own_step (fun _ zk => XS.iload X23.here hx rfl (hb hby at_138) rfl zk) ?_
              show own_E p e below _ (T23.setTop (mkF m 140 #[.val (.int p1), .val (.int p2), .val (.int p3), .val (.int (Int32.ofNat n)), .val (.int (Int32.ofNat k)), .val (.int (Int32.ofNat (own_total n k))), .val (.int (Int32.ofNat j)), .val (.ref a), .val (.int (own_b (own_run n k 6).2.2)), .val (.int (own_b (own_run n k 6).2.2))] [(.int (Int32.ofNat (own_total n k))), (.int (Int32.ofNat j)), (.int (own_b (own_run n k 6).2.2))]))
              by_cases hc140 : (Int32.ofNat j) < (Int32.ofNat (own_total n k))
              · skip
                refine own_step (fun _ zk => XS.icmpNo X23.here hx rfl (hb hby at_140) rfl (tlt hc140).2.1 zk) ?_
                show own_E p e below _ (T23.setTop (mkF m 143 #[.val (.int p1), .val (.int p2), .val (.int p3), .val (.int (Int32.ofNat n)), .val (.int (Int32.ofNat k)), .val (.int (Int32.ofNat (own_total n k))), .val (.int (Int32.ofNat j)), .val (.ref a), .val (.int (own_b (own_run n k 6).2.2)), .val (.int (own_b (own_run n k 6).2.2))] [(.int (own_b (own_run n k 6).2.2))]))
                refine own_step (fun _ zk => XS.iconst X23.here hx rfl (hb hby at_143) zk) ?_
                show own_E p e below _ (T23.setTop (mkF m 144 #[.val (.int p1), .val (.int p2), .val (.int p3), .val (.int (Int32.ofNat n)), .val (.int (Int32.ofNat k)), .val (.int (Int32.ofNat (own_total n k))), .val (.int (Int32.ofNat j)), .val (.ref a), .val (.int (own_b (own_run n k 6).2.2)), .val (.int (own_b (own_run n k 6).2.2))] [(.int (1 : Int32)), (.int (own_b (own_run n k 6).2.2))]))
                refine own_step (fun _ zk => XS.goto X23.here hx rfl (pc0 := 144) (pc' := 148) rfl (hb hby at_144) (by decide) (by decide) zk) ?_
                show own_E p e below _ (T23.setTop (mkF m 148 #[.val (.int p1), .val (.int p2), .val (.int p3), .val (.int (Int32.ofNat n)), .val (.int (Int32.ofNat k)), .val (.int (Int32.ofNat (own_total n k))), .val (.int (Int32.ofNat j)), .val (.ref a), .val (.int (own_b (own_run n k 6).2.2)), .val (.int (own_b (own_run n k 6).2.2))] [(.int (1 : Int32)), (.int (own_b (own_run n k 6).2.2))]))
                have fz := own_all n (by omega) k (by omega) hk1 hkn 6 (by decide) (by omega)
                have hz := hc140
                rw [own_lt j _ (by omega) (by omega)] at hz
                refine own_step (fun _ zk => XS.icmpNo X23.here hx rfl (hb hby at_148) rfl (teq (own_b1 fz (by omega))).2 zk) ?_
                show own_E p e below _ (T23.setTop (mkF m 151 #[.val (.int p1), .val (.int p2), .val (.int p3), .val (.int (Int32.ofNat n)), .val (.int (Int32.ofNat k)), .val (.int (Int32.ofNat (own_total n k))), .val (.int (Int32.ofNat j)), .val (.ref a), .val (.int (own_b (own_run n k 6).2.2)), .val (.int (own_b (own_run n k 6).2.2))] []))
                refine own_step (fun _ zk => XS.iload X23.here hx rfl (hb hby at_151) rfl zk) ?_
                show own_E p e below _ (T23.setTop (mkF m 153 #[.val (.int p1), .val (.int p2), .val (.int p3), .val (.int (Int32.ofNat n)), .val (.int (Int32.ofNat k)), .val (.int (Int32.ofNat (own_total n k))), .val (.int (Int32.ofNat j)), .val (.ref a), .val (.int (own_b (own_run n k 6).2.2)), .val (.int (own_b (own_run n k 6).2.2))] [(.int (own_b (own_run n k 6).2.2))]))
                refine own_step (fun _ zk => XS.iload X23.here hx rfl (hb hby at_153) rfl zk) ?_
                show own_E p e below _ (T23.setTop (mkF m 155 #[.val (.int p1), .val (.int p2), .val (.int p3), .val (.int (Int32.ofNat n)), .val (.int (Int32.ofNat k)), .val (.int (Int32.ofNat (own_total n k))), .val (.int (Int32.ofNat j)), .val (.ref a), .val (.int (own_b (own_run n k 6).2.2)), .val (.int (own_b (own_run n k 6).2.2))] [(.int (own_b (own_run n k 6).2.2)), (.int (own_b (own_run n k 6).2.2))]))
                refine own_step (fun _ zk => XS.icmpNo X23.here hx rfl (hb hby at_155) rfl (teq rfl).2 zk) ?_
                show own_E p e below _ (T23.setTop (mkF m 158 #[.val (.int p1), .val (.int p2), .val (.int p3), .val (.int (Int32.ofNat n)), .val (.int (Int32.ofNat k)), .val (.int (Int32.ofNat (own_total n k))), .val (.int (Int32.ofNat j)), .val (.ref a), .val (.int (own_b (own_run n k 6).2.2)), .val (.int (own_b (own_run n k 6).2.2))] []))
                refine own_step (fun _ zk => XS.iconst X23.here hx rfl (hb hby at_158) zk) ?_
                show own_E p e below _ (T23.setTop (mkF m 159 #[.val (.int p1), .val (.int p2), .val (.int p3), .val (.int (Int32.ofNat n)), .val (.int (Int32.ofNat k)), .val (.int (Int32.ofNat (own_total n k))), .val (.int (Int32.ofNat j)), .val (.ref a), .val (.int (own_b (own_run n k 6).2.2)), .val (.int (own_b (own_run n k 6).2.2))] [(.int (1 : Int32))]))
                refine own_step (fun _ zk => XS.goto X23.here hx rfl (pc0 := 159) (pc' := 163) rfl (hb hby at_159) (by decide) (by decide) zk) ?_
                show own_E p e below _ (T23.setTop (mkF m 163 #[.val (.int p1), .val (.int p2), .val (.int p3), .val (.int (Int32.ofNat n)), .val (.int (Int32.ofNat k)), .val (.int (Int32.ofNat (own_total n k))), .val (.int (Int32.ofNat j)), .val (.ref a), .val (.int (own_b (own_run n k 6).2.2)), .val (.int (own_b (own_run n k 6).2.2))] [(.int (1 : Int32))]))
                refine own_ret X23 hlk (v := some (.int (nar .boolean (1 : Int32)))) (fun h => by rw [Bd.returns] at h; cases h) ?_ (by decide) (by decide) (fun fs hr => retN X23 hx (t := .boolean) Bd.returns (by simp) (hb hby at_163) hr)
                show Q0 Z p1 p2 p3 h0 n0 _ T23.heap _
                rw [e23]
                exact ⟨by decide, N23⟩
              · skip
                refine own_step (fun _ zk => XS.icmpYes X23.here hx rfl (pc0 := 140) (pc' := 147) rfl (hb hby at_140) rfl (flt hc140).2.1 (by decide) (by decide) zk) ?_
                show own_E p e below _ (T23.setTop (mkF m 147 #[.val (.int p1), .val (.int p2), .val (.int p3), .val (.int (Int32.ofNat n)), .val (.int (Int32.ofNat k)), .val (.int (Int32.ofNat (own_total n k))), .val (.int (Int32.ofNat j)), .val (.ref a), .val (.int (own_b (own_run n k 6).2.2)), .val (.int (own_b (own_run n k 6).2.2))] [(.int (own_b (own_run n k 6).2.2))]))
                refine own_step (fun _ zk => XS.iconst X23.here hx rfl (hb hby at_147) zk) ?_
                show own_E p e below _ (T23.setTop (mkF m 148 #[.val (.int p1), .val (.int p2), .val (.int p3), .val (.int (Int32.ofNat n)), .val (.int (Int32.ofNat k)), .val (.int (Int32.ofNat (own_total n k))), .val (.int (Int32.ofNat j)), .val (.ref a), .val (.int (own_b (own_run n k 6).2.2)), .val (.int (own_b (own_run n k 6).2.2))] [(.int (0 : Int32)), (.int (own_b (own_run n k 6).2.2))]))
                have fz := own_all n (by omega) k (by omega) hk1 hkn 6 (by decide) (by omega)
                have hz := hc140
                rw [own_lt j _ (by omega) (by omega)] at hz
                refine own_step (fun _ zk => XS.icmpNo X23.here hx rfl (hb hby at_148) rfl (teq (own_b0 fz (by omega))).2 zk) ?_
                show own_E p e below _ (T23.setTop (mkF m 151 #[.val (.int p1), .val (.int p2), .val (.int p3), .val (.int (Int32.ofNat n)), .val (.int (Int32.ofNat k)), .val (.int (Int32.ofNat (own_total n k))), .val (.int (Int32.ofNat j)), .val (.ref a), .val (.int (own_b (own_run n k 6).2.2)), .val (.int (own_b (own_run n k 6).2.2))] []))
                refine own_step (fun _ zk => XS.iload X23.here hx rfl (hb hby at_151) rfl zk) ?_
                show own_E p e below _ (T23.setTop (mkF m 153 #[.val (.int p1), .val (.int p2), .val (.int p3), .val (.int (Int32.ofNat n)), .val (.int (Int32.ofNat k)), .val (.int (Int32.ofNat (own_total n k))), .val (.int (Int32.ofNat j)), .val (.ref a), .val (.int (own_b (own_run n k 6).2.2)), .val (.int (own_b (own_run n k 6).2.2))] [(.int (own_b (own_run n k 6).2.2))]))
                refine own_step (fun _ zk => XS.iload X23.here hx rfl (hb hby at_153) rfl zk) ?_
                show own_E p e below _ (T23.setTop (mkF m 155 #[.val (.int p1), .val (.int p2), .val (.int p3), .val (.int (Int32.ofNat n)), .val (.int (Int32.ofNat k)), .val (.int (Int32.ofNat (own_total n k))), .val (.int (Int32.ofNat j)), .val (.ref a), .val (.int (own_b (own_run n k 6).2.2)), .val (.int (own_b (own_run n k 6).2.2))] [(.int (own_b (own_run n k 6).2.2)), (.int (own_b (own_run n k 6).2.2))]))
                refine own_step (fun _ zk => XS.icmpNo X23.here hx rfl (hb hby at_155) rfl (teq rfl).2 zk) ?_
                show own_E p e below _ (T23.setTop (mkF m 158 #[.val (.int p1), .val (.int p2), .val (.int p3), .val (.int (Int32.ofNat n)), .val (.int (Int32.ofNat k)), .val (.int (Int32.ofNat (own_total n k))), .val (.int (Int32.ofNat j)), .val (.ref a), .val (.int (own_b (own_run n k 6).2.2)), .val (.int (own_b (own_run n k 6).2.2))] []))
                refine own_step (fun _ zk => XS.iconst X23.here hx rfl (hb hby at_158) zk) ?_
                show own_E p e below _ (T23.setTop (mkF m 159 #[.val (.int p1), .val (.int p2), .val (.int p3), .val (.int (Int32.ofNat n)), .val (.int (Int32.ofNat k)), .val (.int (Int32.ofNat (own_total n k))), .val (.int (Int32.ofNat j)), .val (.ref a), .val (.int (own_b (own_run n k 6).2.2)), .val (.int (own_b (own_run n k 6).2.2))] [(.int (1 : Int32))]))
                refine own_step (fun _ zk => XS.goto X23.here hx rfl (pc0 := 159) (pc' := 163) rfl (hb hby at_159) (by decide) (by decide) zk) ?_
                show own_E p e below _ (T23.setTop (mkF m 163 #[.val (.int p1), .val (.int p2), .val (.int p3), .val (.int (Int32.ofNat n)), .val (.int (Int32.ofNat k)), .val (.int (Int32.ofNat (own_total n k))), .val (.int (Int32.ofNat j)), .val (.ref a), .val (.int (own_b (own_run n k 6).2.2)), .val (.int (own_b (own_run n k 6).2.2))] [(.int (1 : Int32))]))
                refine own_ret X23 hlk (v := some (.int (nar .boolean (1 : Int32)))) (fun h => by rw [Bd.returns] at h; cases h) ?_ (by decide) (by decide) (fun fs hr => retN X23 hx (t := .boolean) Bd.returns (by simp) (hb hby at_163) hr)
                show Q0 Z p1 p2 p3 h0 n0 _ T23.heap _
                rw [e23]
                exact ⟨by decide, N23⟩
set_option maxRecDepth 65536 in
set_option maxHeartbeats 40000000 in
theorem comes_1 {Post : Tables → Env → Array Value → State → Outcome → State → Prop} (hpost : ∀ tb e args s v u, (limb_1_1.after args s (.returned v) u = true ∧ limb_1_2.after args s (.returned v) u = true ∧ True) → FrameEnd s (.returned v) u (Jvm.fieldLocs frame_1_writes args s ++ Jvm.arrayLocs frame_1_arrays args s ++ Jvm.staticLocs frame_1_statics s) 32 128 → Post tb e args s (.returned v) u) :
    ArmFor flags0 classFile x code maxLocals ret World_1 tables_1 room_1 Calls_1 rest_1 Pre_1 Post := by
  intro l hfl _ _ p e ha hc hk s m args below hf hA hF happ hP
  obtain ⟨hcalls, hrest, hpre⟩ := hP
  obtain ⟨-, -, -, hnamed, -, -, -, hat⟩ := (Spec.applies_iff hf).mp happ
  obtain ⟨hg, hn⟩ := and_e (Cond.before_iff.mp (show (Jvm.Cond.and given_1 narrow_1).before args s = true from hpre))
  obtain ⟨gc, gr0⟩ := and_e hg
  obtain ⟨gi0, gr1⟩ := and_e gr0
  obtain ⟨gi1, gr2⟩ := and_e gr1
  have gi2 := gr2
  obtain ⟨w0, w1, w2, rfl⟩ : ∃ w0 w1 w2 : Value, args = #[w0, w1, w2] := by
    have hs : args.size = 3 := by simpa [Cond.value, given_1] using gc
    obtain ⟨L⟩ := args
    match L, hs with
    | [w0, w1, w2], _ => exact ⟨w0, w1, w2, rfl⟩
  have hw := fun d (hd : d ∈ tables_1) => atoms_spec (ws := Jvm.Cond.code x code maxLocals ret :: tables_1) hat d (List.mem_cons_of_mem _ hd)
  obtain ⟨i0, ei0⟩ := is_v gi0
  obtain rfl : w0 = (.int i0) := Option.some.inj ei0
  obtain ⟨i1, ei1⟩ := is_v gi1
  obtain rfl : w1 = (.int i1) := Option.some.inj ei1
  obtain ⟨i2, ei2⟩ := is_v gi2
  obtain rfl : w2 = (.int i2) := Option.some.inj ei2
  obtain ⟨n, o, h1, h2, h3, _, L, rfl, ⟨rfl, N⟩, hq⟩ := rm0 l s _ hw tables_1 i0 i1 i2 s.heap s.heap.size (Nat.le_refl _) p e ha hc hk s m _ below hf ((Spec.applies_iff_loose hf).mp happ).1 ⟨rfl, State.Warmed39.refl s, rfl⟩ trivial
  refine ⟨n, _, h1, h2, h3, hpost _ _ _ _ _ _ ⟨Cond.after_iff.mpr rfl, Cond.after_iff.mpr (eq_i res_at (Term.int_eval (1)) rfl), trivial⟩ ⟨hq.1, hq.2.1, (hq.2.2.sift fun y hy => Or.inr (N y hy)).mono (by decide) (by decide)⟩⟩
theorem main_1_1 : Claimed_1_1 := comes_1 fun _ _ _ _ _ _ h hF => ⟨h.1, hF⟩
theorem main_1_2 : Claimed_1_2 := comes_1 fun _ _ _ _ _ _ h hF => ⟨h.2.1, hF⟩
end Jvm.Pilot.@@N@@
namespace Jvm.Pilot.@@N@@
open Jvm Jvm.ClassFile Sem Op Lib Jvm.Free Jvm.Stand Jvm.Pilot.@@N@@.Jvm.D
/-! MADE BY PROGRAM (witnessworld.py) out of the Statement's table words and the real class files: 10 classes; the members and pool entries that the words name. The judged class is class 1, her method 2. -/
namespace start1
open Jvm.ClassFile
def u (s : String) : CpInfo := .utf8 (stringToUtf16 s)
/-- a pool by its gaps: so many unusable entries, then the entry; so many at the end -/
def gap : Nat → List CpInfo → List CpInfo
  | 0, r => r
  | n + 1, r => .unusable :: gap n r
def poolList (es : List (Nat × CpInfo)) (last : Nat) : List CpInfo := es.foldr (fun e r => gap e.1 (e.2 :: r)) (gap last [])
def pool (es : List (Nat × CpInfo)) (last : Nat) : Array CpInfo := ⟨poolList es last⟩
def fileOf (pool : Array CpInfo) (this : Nat) (attrs : Array Attribute := #[]) (ms : Array MethodInfo := #[]) (fl : Nat := 33) (sup : Nat := 0) (ifs : Array Nat := #[]) (fds : Array FieldInfo := #[]) : ClassFile where
  minorVersion := 0
  majorVersion := 65
  constantPool := pool
  accessFlags := fl
  thisClass := this
  superClass := sup
  interfaces := ifs
  fields := fds
  methods := ms
  attributes := attrs
def plain (name : String) (sup : Option ClassId) : Class where
  name := name
  kind := .ordinary
  loader := none
  accessFlags := 33
  super := sup
  interfaces := #[]
  cf := none
  fields := #[]
  methods := #[]
  instanceTypes := #[]
  staticTypes := #[]
  resolved := #[]
  callSites := []
  init := .initialized
  statics := none
  mirror := none

def pool0 : Array CpInfo := pool [(5, u "<init>"), (0, u "()V"), (1, .class_ 10), (1, u "java/lang/Object"), (85, u "clone"), (0, u "()Ljava/lang/Object;")] 26

def k0c0 : Code := { maxStack := 0, maxLocals := 1, code := object_method_1_code, exceptionTable := #[], attributes := #[] }
def k0m0 : Method := { name := "<init>", desc := "()V", sig := { parameters := [], returnType := none }, accessFlags := 1, code := some k0c0 }
def k0m1 : Method := { name := "clone", desc := "()Ljava/lang/Object;", sig := { parameters := [], returnType := some (.object "java/lang/Object") }, accessFlags := 260, code := none }
/-- java/lang/Object -/
def k0 : Class := { plain "java/lang/Object" none with
  accessFlags := 33
  interfaces := #[]
  cf := some (fileOf pool0 8 #[] #[{ accessFlags := 1, nameIndex := 5, descriptorIndex := 6, attributes := #[] }, { accessFlags := 260, nameIndex := 96, descriptorIndex := 97, attributes := #[] }] 33 0 #[] #[])
  fields := #[]
  methods := #[k0m0, k0m1]
  instanceTypes := #[]
  staticTypes := #[]
  resolved := Array.replicate 124 none
  statics := none }

def pool1 : Array CpInfo := pool [(2, .class_ 4), (1, u "java/lang/Object"), (0, u "<init>"), (0, u "()V"), (0, .integer 2147483647), (0, .methodref 9 10), (0, .class_ 11), (0, .nameAndType 12 13), (0, u "com/example/tallier/tallier/protocol/RecoverySetsHasNextPinLaw"), (0, u "choose"), (0, u "(II)I"), (0, .class_ 15), (0, u "com/example/tallier/tallier/protocol/RecoverySets"), (0, .methodref 14 17), (0, .nameAndType 5 18), (0, u "(II)V"), (0, .methodref 14 20), (0, .nameAndType 21 22), (0, u "next"), (0, u "()[I"), (0, .methodref 14 24), (0, .nameAndType 25 26), (0, u "hasNext"), (0, u "()Z"), (3, u "law"), (0, u "(III)Z")] 2

def k1m0 : Method := { name := "<init>", desc := "()V", sig := { parameters := [], returnType := none }, accessFlags := 1, code := none }
def k1c1 : Code := { maxStack := 3, maxLocals := 2, code := method_2_code, exceptionTable := #[], attributes := #[] }
def k1m1 : Method := { name := "choose", desc := "(II)I", sig := { parameters := [.int, .int], returnType := some .int }, accessFlags := 10, code := some k1c1 }
def k1c2 : Code := { maxStack := 4, maxLocals := 10, code := code, exceptionTable := #[], attributes := #[] }
def k1m2 : Method := { name := "law", desc := "(III)Z", sig := { parameters := [.int, .int, .int], returnType := some .boolean }, accessFlags := 9, code := some k1c2 }
/-- com/example/tallier/tallier/protocol/RecoverySetsHasNextPinLaw -/
def k1 : Class := { plain "com/example/tallier/tallier/protocol/RecoverySetsHasNextPinLaw" (some 0) with
  accessFlags := 49
  interfaces := #[]
  cf := some (fileOf pool1 9 #[] #[{ accessFlags := 1, nameIndex := 5, descriptorIndex := 6, attributes := #[] }, { accessFlags := 10, nameIndex := 12, descriptorIndex := 13, attributes := #[] }, { accessFlags := 9, nameIndex := 30, descriptorIndex := 31, attributes := #[] }] 49 2 #[] #[])
  fields := #[]
  methods := #[k1m0, k1m1, k1m2]
  instanceTypes := #[]
  staticTypes := #[]
  resolved := Array.replicate 34 none
  statics := none }

def pool2 : Array CpInfo := pool [(16, .class_ 18), (1, u "java/util/Iterator"), (12, .class_ 32), (0, u "java/lang/Object")] 20

/-- java/util/Iterator -/
def k2 : Class := { plain "java/util/Iterator" (some 0) with
  accessFlags := 1537
  interfaces := #[]
  cf := some (fileOf pool2 16 #[] #[] 1537 31 #[] #[])
  fields := #[]
  methods := #[]
  instanceTypes := #[]
  staticTypes := #[]
  resolved := Array.replicate 53 none
  statics := none }

def pool3 : Array CpInfo := pool [(1, .methodref 2 3), (0, .class_ 4), (0, .nameAndType 5 6), (0, u "java/lang/Object"), (0, u "<init>"), (0, u "()V"), (9, .fieldref 17 18), (0, .class_ 19), (0, .nameAndType 20 21), (0, u "com/example/tallier/tallier/protocol/RecoverySets"), (0, u "n"), (0, u "I"), (0, .fieldref 17 23), (0, .nameAndType 24 21), (0, u "k"), (0, .methodref 17 26), (0, .nameAndType 27 28), (0, u "consecutive"), (0, u "(I)[I"), (0, .fieldref 17 30), (0, .nameAndType 31 32), (0, u "colex"), (0, u "[I"), (0, .methodref 17 34), (0, .nameAndType 35 36), (0, u "advance"), (0, u "()[I"), (0, .fieldref 17 38), (0, .nameAndType 39 32), (0, u "pending"), (3, .fieldref 17 44), (0, .nameAndType 45 21), (0, u "runsGiven"), (0, .methodref 17 47), (0, .nameAndType 48 49), (0, u "isRun"), (0, u "([I)Z"), (0, .methodref 17 51), (0, .nameAndType 52 53), (0, u "colexAfter"), (0, u "([I)[I"), (0, .methodref 55 56), (0, .class_ 32), (0, .nameAndType 57 58), (0, u "clone"), (0, u "()Ljava/lang/Object;"), (2, u "next"), (0, .class_ 63), (0, u "java/util/Iterator"), (0, u "(II)V"), (3, u "hasNext"), (0, u "()Z")] 19

def k3c0 : Code := { maxStack := 4, maxLocals := 3, code := prog_10_method_1_code, exceptionTable := #[], attributes := #[] }
def k3m0 : Method := { name := "<init>", desc := "(II)V", sig := { parameters := [.int, .int], returnType := none }, accessFlags := 0, code := some k3c0 }
def k3c1 : Code := { maxStack := 1, maxLocals := 1, code := prog_10_method_2_code, exceptionTable := #[], attributes := #[] }
def k3m1 : Method := { name := "hasNext", desc := "()Z", sig := { parameters := [], returnType := some .boolean }, accessFlags := 1, code := some k3c1 }
def k3c2 : Code := { maxStack := 2, maxLocals := 2, code := prog_10_method_3_code, exceptionTable := #[], attributes := #[] }
def k3m2 : Method := { name := "next", desc := "()[I", sig := { parameters := [], returnType := some (.array .int) }, accessFlags := 1, code := some k3c2 }
def k3c3 : Code := { maxStack := 3, maxLocals := 2, code := prog_10_method_4_code, exceptionTable := #[], attributes := #[] }
def k3m3 : Method := { name := "advance", desc := "()[I", sig := { parameters := [], returnType := some (.array .int) }, accessFlags := 2, code := some k3c3 }
def k3c4 : Code := { maxStack := 3, maxLocals := 2, code := prog_10_method_5_code, exceptionTable := #[], attributes := #[] }
def k3m4 : Method := { name := "isRun", desc := "([I)Z", sig := { parameters := [(.array .int)], returnType := some .boolean }, accessFlags := 2, code := some k3c4 }
def k3c5 : Code := { maxStack := 4, maxLocals := 6, code := prog_10_method_6_code, exceptionTable := #[], attributes := #[] }
def k3m5 : Method := { name := "colexAfter", desc := "([I)[I", sig := { parameters := [(.array .int)], returnType := some (.array .int) }, accessFlags := 2, code := some k3c5 }
def k3c6 : Code := { maxStack := 4, maxLocals := 4, code := prog_10_method_7_code, exceptionTable := #[], attributes := #[] }
def k3m6 : Method := { name := "consecutive", desc := "(I)[I", sig := { parameters := [.int], returnType := some (.array .int) }, accessFlags := 2, code := some k3c6 }
/-- com/example/tallier/tallier/protocol/RecoverySets -/
def k3 : Class := { plain "com/example/tallier/tallier/protocol/RecoverySets" (some 0) with
  accessFlags := 32
  interfaces := #[2]
  cf := some (fileOf pool3 17 #[] #[{ accessFlags := 0, nameIndex := 5, descriptorIndex := 64, attributes := #[] }, { accessFlags := 1, nameIndex := 68, descriptorIndex := 69, attributes := #[] }, { accessFlags := 1, nameIndex := 61, descriptorIndex := 36, attributes := #[] }, { accessFlags := 2, nameIndex := 35, descriptorIndex := 36, attributes := #[] }, { accessFlags := 2, nameIndex := 48, descriptorIndex := 49, attributes := #[] }, { accessFlags := 2, nameIndex := 52, descriptorIndex := 53, attributes := #[] }, { accessFlags := 2, nameIndex := 27, descriptorIndex := 28, attributes := #[] }] 32 2 #[62] #[{ accessFlags := 18, nameIndex := 20, descriptorIndex := 21, attributes := #[] }, { accessFlags := 18, nameIndex := 24, descriptorIndex := 21, attributes := #[] }, { accessFlags := 2, nameIndex := 45, descriptorIndex := 21, attributes := #[] }, { accessFlags := 2, nameIndex := 31, descriptorIndex := 32, attributes := #[] }, { accessFlags := 2, nameIndex := 39, descriptorIndex := 32, attributes := #[] }])
  fields := #[{ name := "n", type := .int, accessFlags := 18, slot := 0, constantValue := 0 }, { name := "k", type := .int, accessFlags := 18, slot := 1, constantValue := 0 }, { name := "runsGiven", type := .int, accessFlags := 2, slot := 2, constantValue := 0 }, { name := "colex", type := (.array .int), accessFlags := 2, slot := 3, constantValue := 0 }, { name := "pending", type := (.array .int), accessFlags := 2, slot := 4, constantValue := 0 }]
  methods := #[k3m0, k3m1, k3m2, k3m3, k3m4, k3m5, k3m6]
  instanceTypes := #[.int, .int, .int, (.array .int), (.array .int)]
  staticTypes := #[]
  resolved := Array.replicate 89 none
  statics := none }

def pool4 : Array CpInfo := pool [(1, .class_ 2), (0, u "java/lang/Cloneable"), (0, .class_ 4), (0, u "java/lang/Object")] 2

/-- java/lang/Cloneable -/
def k4 : Class := { plain "java/lang/Cloneable" (some 0) with
  accessFlags := 1537
  interfaces := #[]
  cf := some (fileOf pool4 1 #[] #[] 1537 3 #[] #[])
  fields := #[]
  methods := #[]
  instanceTypes := #[]
  staticTypes := #[]
  resolved := Array.replicate 7 none
  statics := none }

def pool5 : Array CpInfo := pool [(1, u "java/io/Serializable"), (0, .class_ 1), (0, u "java/lang/Object"), (0, .class_ 3)] 3

/-- java/io/Serializable -/
def k5 : Class := { plain "java/io/Serializable" (some 0) with
  accessFlags := 1537
  interfaces := #[]
  cf := some (fileOf pool5 2 #[] #[] 1537 4 #[] #[])
  fields := #[]
  methods := #[]
  instanceTypes := #[]
  staticTypes := #[]
  resolved := Array.replicate 8 none
  statics := none }

/-- the primitive byte -/
def k6 : Class := { plain "byte" none with kind := .primitive 'B', accessFlags := 0x411 }
/-- [B -/
def k7 : Class := { plain "[B" (some 0) with kind := .array 6 .byte, interfaces := #[4, 5], accessFlags := 1041 }

/-- the primitive int -/
def k8 : Class := { plain "int" none with kind := .primitive 'I', accessFlags := 0x411 }
/-- [I -/
def k9 : Class := { plain "[I" (some 0) with kind := .array 8 .int, interfaces := #[4, 5], accessFlags := 1041 }

def heap : Heap := #[]
def classes : Array Class := #[k0, k1, k2, k3, k4, k5, k6, k7, k8, k9]
def interned : List (Array UInt16 × Addr) := []
def slotsUsed : Nat := 0
def theMethod : MethodId := ⟨1, 2⟩
def args0 : Array Value := #[.int 7, .int 9, .int 4]
def aboutOver (below : List Frame) : State where
  vm := { classes := classes, interned := interned.toArray }
  heap := heap
  slotsUsed := slotsUsed
  threads := #[{ frames := .invoking theMethod args0 :: below }]
def below0 : List Frame := [.native { method := ⟨0, 0⟩, args := #[] }]
def about1 : State := aboutOver below0
def p0 : Program := .bare "" "" ""
def e0 : Env := launch0.env 0 0 0
theorem w_frames : about1.frames = Frame.invoking theMethod args0 :: below0 := rfl
set_option maxRecDepth 65536 in
theorem w_args : argsFit about1.vm theMethod args0 = true := by decide +kernel
set_option maxRecDepth 65536 in
theorem w_heap : heapFits about1 = true := by decide +kernel
set_option maxRecDepth 65536 in
theorem w_runnable : about1.curStatus? = some .runnable := by decide +kernel
set_option maxRecDepth 65536 in
theorem w_alone : about1.alone = true := by decide +kernel
set_option maxRecDepth 65536 in
theorem w_named : about1.methodNamed? x = some theMethod := by decide +kernel
set_option maxRecDepth 65536 in
theorem w_hears : about1.hears theMethod below0 = true := by decide +kernel
set_option maxRecDepth 65536 in
theorem w_ripe : about1.ripe theMethod args0 below0 = true := by decide +kernel
theorem w_running : about1.status = .running := rfl
set_option maxRecDepth 65536 in
theorem w_room : about1.hasRoom e0.platform room_1 = true :=
  launch0.hasRoom_least _ room_1 (by decide +kernel) (by decide +kernel) (by decide +kernel) (by decide +kernel) (by decide +kernel) (by decide +kernel)
theorem allAtoms_all (ts : List Jvm.Cond) (a : Array Jvm.Value) (st : Jvm.State) : (allAtoms ts).before a st = ts.all (fun c => c.before a st) := by
  induction ts with
  | nil => rfl
  | cons c t ih =>
    show (Jvm.Cond.and c (allAtoms t)).before a st = _
    rw [Jvm.Cond.before_and, ih, List.all_cons]
def words1 : List Jvm.Cond := Jvm.Cond.code x code maxLocals ret :: tables_1
/-- a 'code' word, met by the world's own term for the bytes: nothing is compared byte by byte -/
theorem code_word {y : MethodName} {bytes : ByteArray} {mx : Nat} {rt : Option FieldType} {a : Array Value} {s : State} {m : MethodId} {meth : Method} {c : Code} (h1 : s.methodNamed? y = some m) (h2 : s.vm.method? m = some meth) (h3 : meth.code = some c) (h4 : c.code = bytes)
    (h5 : (c.maxLocals == mx && c.exceptionTable.isEmpty && decide (c.maxStack ≤ mostOperands) && decide (meth.sig.returnType = rt) && !meth.locks && decide (parseMethodDescriptor y.desc = some meth.sig)) = true) : (Jvm.Cond.code y bytes mx rt).before a s = true := by
  simp only [Bool.and_eq_true, beq_iff_eq, Bool.not_eq_true', decide_eq_true_eq] at h5
  obtain ⟨⟨⟨⟨⟨g1, g2⟩, g3⟩, g4⟩, g5⟩, g6⟩ := h5
  simp [Cond.before, Cond.holds, Cond.value, h1, h2, h3, h4, g1, g2, g3, g4, g5, g6]
def isCode : Jvm.Cond → Bool
  | .code _ _ _ _ => true
  | _ => false
theorem all_split {L : List Jvm.Cond} {P : Jvm.Cond → Bool} (h1 : L.all (fun c => isCode c || P c) = true) (h2 : ∀ c ∈ L.filter isCode, P c = true) : L.all P = true := by
  refine List.all_eq_true.mpr fun c hc => ?_
  have h := List.all_eq_true.mp h1 c hc
  rcases Bool.eq_false_or_eq_true (isCode c) with hi | hi
  · exact h2 c (List.mem_filter.mpr ⟨hc, hi⟩)
  · simpa [hi] using h
set_option maxRecDepth 65536 in
theorem w_c0 : (Jvm.Cond.code x code maxLocals ret).before args0 about1 = true := code_word (m := ⟨1, 2⟩) (meth := k1m2) (c := k1c2) (by decide +kernel) rfl rfl rfl (by decide +kernel)
set_option maxRecDepth 65536 in
theorem w_c1 : (Jvm.Cond.code ({ cls := "com/example/tallier/tallier/protocol/RecoverySetsHasNextPinLaw", name := "choose", desc := "(II)I" } : Jvm.MethodName) method_2_code (2 : Nat) (Option.some Jvm.ClassFile.FieldType.int)).before args0 about1 = true := code_word (m := ⟨1, 1⟩) (meth := k1m1) (c := k1c1) (by decide +kernel) rfl rfl rfl (by decide +kernel)
set_option maxRecDepth 65536 in
theorem w_c2 : (Jvm.Cond.code ({ cls := "com/example/tallier/tallier/protocol/RecoverySets", name := "<init>", desc := "(II)V" } : Jvm.MethodName) prog_10_method_1_code (3 : Nat) (Option.none : Option Jvm.ClassFile.FieldType)).before args0 about1 = true := code_word (m := ⟨3, 0⟩) (meth := k3m0) (c := k3c0) (by decide +kernel) rfl rfl rfl (by decide +kernel)
set_option maxRecDepth 65536 in
theorem w_c3 : (Jvm.Cond.code ({ cls := "java/lang/Object", name := "<init>", desc := "()V" } : Jvm.MethodName) object_method_1_code (1 : Nat) (Option.none : Option Jvm.ClassFile.FieldType)).before args0 about1 = true := code_word (m := ⟨0, 0⟩) (meth := k0m0) (c := k0c0) (by decide +kernel) rfl rfl rfl (by decide +kernel)
set_option maxRecDepth 65536 in
theorem w_c4 : (Jvm.Cond.code ({ cls := "com/example/tallier/tallier/protocol/RecoverySets", name := "consecutive", desc := "(I)[I" } : Jvm.MethodName) prog_10_method_7_code (4 : Nat) (Option.some (Jvm.ClassFile.FieldType.array Jvm.ClassFile.FieldType.int))).before args0 about1 = true := code_word (m := ⟨3, 6⟩) (meth := k3m6) (c := k3c6) (by decide +kernel) rfl rfl rfl (by decide +kernel)
set_option maxRecDepth 65536 in
theorem w_c5 : (Jvm.Cond.code ({ cls := "com/example/tallier/tallier/protocol/RecoverySets", name := "advance", desc := "()[I" } : Jvm.MethodName) prog_10_method_4_code (2 : Nat) (Option.some (Jvm.ClassFile.FieldType.array Jvm.ClassFile.FieldType.int))).before args0 about1 = true := code_word (m := ⟨3, 3⟩) (meth := k3m3) (c := k3c3) (by decide +kernel) rfl rfl rfl (by decide +kernel)
set_option maxRecDepth 65536 in
theorem w_c6 : (Jvm.Cond.code ({ cls := "com/example/tallier/tallier/protocol/RecoverySets", name := "hasNext", desc := "()Z" } : Jvm.MethodName) prog_10_method_2_code (1 : Nat) (Option.some Jvm.ClassFile.FieldType.boolean)).before args0 about1 = true := code_word (m := ⟨3, 1⟩) (meth := k3m1) (c := k3c1) (by decide +kernel) rfl rfl rfl (by decide +kernel)
set_option maxRecDepth 65536 in
theorem w_c7 : (Jvm.Cond.code ({ cls := "com/example/tallier/tallier/protocol/RecoverySets", name := "next", desc := "()[I" } : Jvm.MethodName) prog_10_method_3_code (2 : Nat) (Option.some (Jvm.ClassFile.FieldType.array Jvm.ClassFile.FieldType.int))).before args0 about1 = true := code_word (m := ⟨3, 2⟩) (meth := k3m2) (c := k3c2) (by decide +kernel) rfl rfl rfl (by decide +kernel)
set_option maxRecDepth 65536 in
theorem w_c8 : (Jvm.Cond.code ({ cls := "com/example/tallier/tallier/protocol/RecoverySets", name := "isRun", desc := "([I)Z" } : Jvm.MethodName) prog_10_method_5_code (2 : Nat) (Option.some Jvm.ClassFile.FieldType.boolean)).before args0 about1 = true := code_word (m := ⟨3, 4⟩) (meth := k3m4) (c := k3c4) (by decide +kernel) rfl rfl rfl (by decide +kernel)
set_option maxRecDepth 65536 in
theorem w_c9 : (Jvm.Cond.code ({ cls := "com/example/tallier/tallier/protocol/RecoverySets", name := "colexAfter", desc := "([I)[I" } : Jvm.MethodName) prog_10_method_6_code (6 : Nat) (Option.some (Jvm.ClassFile.FieldType.array Jvm.ClassFile.FieldType.int))).before args0 about1 = true := code_word (m := ⟨3, 5⟩) (meth := k3m5) (c := k3c5) (by decide +kernel) rfl rfl rfl (by decide +kernel)
def codes1 : List Jvm.Cond := [Jvm.Cond.code x code maxLocals ret, Jvm.Cond.code ({ cls := "com/example/tallier/tallier/protocol/RecoverySetsHasNextPinLaw", name := "choose", desc := "(II)I" } : Jvm.MethodName) method_2_code (2 : Nat) (Option.some Jvm.ClassFile.FieldType.int), Jvm.Cond.code ({ cls := "com/example/tallier/tallier/protocol/RecoverySets", name := "<init>", desc := "(II)V" } : Jvm.MethodName) prog_10_method_1_code (3 : Nat) (Option.none : Option Jvm.ClassFile.FieldType), Jvm.Cond.code ({ cls := "java/lang/Object", name := "<init>", desc := "()V" } : Jvm.MethodName) object_method_1_code (1 : Nat) (Option.none : Option Jvm.ClassFile.FieldType), Jvm.Cond.code ({ cls := "com/example/tallier/tallier/protocol/RecoverySets", name := "consecutive", desc := "(I)[I" } : Jvm.MethodName) prog_10_method_7_code (4 : Nat) (Option.some (Jvm.ClassFile.FieldType.array Jvm.ClassFile.FieldType.int)), Jvm.Cond.code ({ cls := "com/example/tallier/tallier/protocol/RecoverySets", name := "advance", desc := "()[I" } : Jvm.MethodName) prog_10_method_4_code (2 : Nat) (Option.some (Jvm.ClassFile.FieldType.array Jvm.ClassFile.FieldType.int)), Jvm.Cond.code ({ cls := "com/example/tallier/tallier/protocol/RecoverySets", name := "hasNext", desc := "()Z" } : Jvm.MethodName) prog_10_method_2_code (1 : Nat) (Option.some Jvm.ClassFile.FieldType.boolean), Jvm.Cond.code ({ cls := "com/example/tallier/tallier/protocol/RecoverySets", name := "next", desc := "()[I" } : Jvm.MethodName) prog_10_method_3_code (2 : Nat) (Option.some (Jvm.ClassFile.FieldType.array Jvm.ClassFile.FieldType.int)), Jvm.Cond.code ({ cls := "com/example/tallier/tallier/protocol/RecoverySets", name := "isRun", desc := "([I)Z" } : Jvm.MethodName) prog_10_method_5_code (2 : Nat) (Option.some Jvm.ClassFile.FieldType.boolean), Jvm.Cond.code ({ cls := "com/example/tallier/tallier/protocol/RecoverySets", name := "colexAfter", desc := "([I)[I" } : Jvm.MethodName) prog_10_method_6_code (6 : Nat) (Option.some (Jvm.ClassFile.FieldType.array Jvm.ClassFile.FieldType.int))]
set_option maxRecDepth 65536 in
theorem codes_eq : words1.filter isCode = codes1 := rfl
theorem w_codes : ∀ c ∈ words1.filter isCode, c.before args0 about1 = true := by
  rw [codes_eq]
  intro c hc
  simp only [codes1, List.mem_cons, List.not_mem_nil, or_false] at hc
  rcases hc with rfl | rfl | rfl | rfl | rfl | rfl | rfl | rfl | rfl | rfl
  · exact w_c0
  · exact w_c1
  · exact w_c2
  · exact w_c3
  · exact w_c4
  · exact w_c5
  · exact w_c6
  · exact w_c7
  · exact w_c8
  · exact w_c9
set_option maxRecDepth 65536 in
theorem w_t1 : (words1.take 24).all (fun c => isCode c || c.before args0 about1) = true := by decide +kernel
set_option maxRecDepth 65536 in
theorem w_t2 : ((words1.drop 24).take 24).all (fun c => isCode c || c.before args0 about1) = true := by decide +kernel
set_option maxRecDepth 65536 in
theorem w_t3 : ((words1.drop 24).drop 24).all (fun c => isCode c || c.before args0 about1) = true := by decide +kernel
theorem w_tables : (allAtoms (Jvm.Cond.code x code maxLocals ret :: tables_1)).before args0 about1 = true := by
  rw [allAtoms_all]
  show words1.all (fun c => c.before args0 about1) = true
  refine all_split ?_ w_codes
  rw [← List.take_append_drop 24 words1, List.all_append, w_t1, ← List.take_append_drop 24 (words1.drop 24), List.all_append, w_t2, w_t3]
  rfl
set_option maxRecDepth 65536 in
theorem w_case : (Jvm.Cond.and given_1 narrow_1).before args0 about1 = true := by decide +kernel
theorem w_applies : (headSpec (Jvm.Cond.code x code maxLocals ret :: tables_1) room_1).applies x e0.platform about1 = true :=
  (Spec.applies_iff w_frames).mpr ⟨w_running, w_runnable, w_alone, w_named, w_hears, w_ripe, w_room, w_tables⟩
theorem atStart : AtStart classFile x code maxLocals ret World_1 tables_1 room_1 Calls_1 rest_1 Pre_1 launch0 p0 e0 about1 theMethod args0 below0 :=
  ⟨lists_1, trivial, launch0.admits_env _ _ _, launch0.least_env, fairChoices_fair.cas, fairChoices_fair.clock, w_frames, w_args, w_heap, w_applies, trivial, trivial, w_case⟩
end start1
theorem witness_1 : WitnessClaimed_1 := ⟨start1.p0, start1.e0, start1.about1, start1.theMethod, start1.args0, start1.below0, start1.atStart⟩
end Jvm.Pilot.@@N@@
