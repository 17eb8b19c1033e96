import JvmDerived
import JvmDerived.Pilot.@@N@@Statement
import JvmDerived.Pilot.@@N@@Code
set_option linter.unusedVariables false
set_option linter.unusedSimpArgs false
@@BLOCK:NumsL.lean.txt@@
namespace Jvm.RoadKit
open Sem ClassFile Op Lib Jvm.Stand Jvm.Free Jvm.LawKit
section New
variable {p : Program} {l : Launch} {e : Env} {R : Room} {s : State} {m : MethodId} {args : Array Value} {below : List Frame} {meth : Method} {c : Code} {T : State} {locs : List Loc} {cells slots : Nat}
theorem retI (X : Stand p l e R s m args below meth c T locs cells slots) (hx : p.tables.exec = Jvm.exec) {pc : Nat} {Ls : Array Slot} {z : Int32} {rest : List Value} (hret : meth.sig.returnType = some .int) (hd : decode c.code pc = .ok (.ireturn, 1)) {fs : List Frame}
    (hl : ∀ (f : JFrame) (acts : List Action), f.method = m → f.locked = none → f.entered = [] → (doReturn e (T.setTop f) acts (some (.int z))).1 = T.setFrames fs) : Steps p.tables e below (T.setTop (mkF m pc Ls (.int z :: rest))) (T.setFrames fs) := by
  have hm' : T.vm.method? m = some meth := X.method'
  have hn : narrow .int (.int z) = .int z := rfl
  show Steps p.tables e below (T.setTop { method := m, pc := pc, locals := Ls, stack := _ :: rest, locked := none }) _
  jvm_step X.here [X.here.top, hx, hd, hm', hret, hn]
  first | (intro acts; rw [hl _ acts rfl rfl rfl]) | rw [hl _ _ rfl rfl rfl]
  exact Steps.refl _
end New
end Jvm.RoadKit
namespace Jvm.Pilot.@@N@@
open Jvm Jvm.ClassFile Sem Op Lib Jvm.Free Jvm.Stand Jvm.LawKit Jvm.RoadKit Bundle Jvm.Pilot.@@N@@.Jvm.D

/-! the road's own words: where a run ends, by steps taken one after the other -/
def own_E (p : Program) (e : Env) (below : List Frame) (G : State → Outcome → Prop) (U : State) : Prop := ∃ s₂ o, Steps p.tables e below U s₂ ∧ s₂.status = .running ∧ Ended s₂ below o ∧ G s₂ o
theorem own_step {p : Program} {e : Env} {below : List Frame} {G : State → Outcome → Prop} {U U' : State} (h : ∀ t, Steps p.tables e below U' t → Steps p.tables e below U t) (k : own_E p e below G U') : own_E p e below G U :=
  let ⟨a, b, c, d⟩ := k; ⟨a, b, h _ c, d⟩
theorem own_ret {p : Program} {l : Launch} {e : Env} {R : Room} {s : State} {m : MethodId} {args : Array Value} {below : List Frame} {meth : Method} {c : Code} {T : State} {locs : List Loc} {cells slots C S : Nat} {Q : Option Value → Heap → List Loc → Prop} {U : State}
    (X : Stand p l e R s m args below meth c T locs cells slots) (hlk : meth.locks = false) {v : Option Value} (hv : meth.sig.returnType = none → v = none) (hq : Q v T.heap locs) (hc : cells ≤ C) (hs : slots ≤ S)
    (hst : ∀ fs, (∀ (f : JFrame) (acts : List Action), f.method = m → f.locked = none → f.entered = [] → (doReturn e (T.setTop f) acts v).1 = T.setFrames fs) → Steps p.tables e below U (T.setFrames fs)) :
    own_E p e below (fun U' o => ∃ v L, o = .returned v ∧ Q v U'.heap L ∧ FrameEnd s o U' L C S) U := by
  obtain ⟨fs, hr, hrun, hended, hW, hsame⟩ := X.leave (v := v) hv hlk
  exact ⟨_, _, hst fs hr, hrun, hended, v, locs, rfl, hq, ⟨_, rfl⟩, hW, hsame.mono hc hs⟩
theorem own_lc_gt_t {x y : Int64} (h : y < x) : ifCond.holds .gt (Jvm.Free.XT.cmpL x y) = true := by delta Jvm.Free.XT.cmpL; rw [if_pos h]; decide
theorem own_lc_gt_f {x y : Int64} (h : ¬ y < x) : ifCond.holds .gt (Jvm.Free.XT.cmpL x y) = false := by delta Jvm.Free.XT.cmpL; rw [if_neg h]; split <;> decide
theorem own_lc_le_f {x y : Int64} (h : y < x) : ifCond.holds .le (Jvm.Free.XT.cmpL x y) = false := by delta Jvm.Free.XT.cmpL; rw [if_pos h]; decide
theorem own_lc_le_t {x y : Int64} (h : ¬ y < x) : ifCond.holds .le (Jvm.Free.XT.cmpL x y) = true := by delta Jvm.Free.XT.cmpL; rw [if_neg h]; split <;> decide
theorem own_lt3 {x y : Int64} (h : x < y) : Jvm.Free.XT.cmpL x y = -1 := by
  delta Jvm.Free.XT.cmpL
  rw [if_neg (by rw [Int64.lt_iff_toInt_lt] at *; omega), if_neg (by intro e; subst e; rw [Int64.lt_iff_toInt_lt] at h; omega)]
theorem own_ge3 {x y : Int64} (h : ¬ x < y) : Jvm.Free.XT.cmpL x y = 1 ∨ Jvm.Free.XT.cmpL x y = 0 := by
  delta Jvm.Free.XT.cmpL
  by_cases h1 : y < x
  · rw [if_pos h1]; exact Or.inl rfl
  · rw [if_neg h1, if_pos (by rw [Int64.lt_iff_toInt_lt] at h h1; exact Int64.toInt_inj.mp (by omega))]; exact Or.inr rfl
theorem own_lc_lt_t {x y : Int64} (h : x < y) : ifCond.holds .lt (Jvm.Free.XT.cmpL x y) = true := by rw [own_lt3 h]; decide
theorem own_lc_lt_f {x y : Int64} (h : ¬ x < y) : ifCond.holds .lt (Jvm.Free.XT.cmpL x y) = false := by rcases own_ge3 h with e | e <;> rw [e] <;> decide
theorem own_lc_ge_f {x y : Int64} (h : x < y) : ifCond.holds .ge (Jvm.Free.XT.cmpL x y) = false := by rw [own_lt3 h]; decide
theorem own_lc_ge_t {x y : Int64} (h : ¬ x < y) : ifCond.holds .ge (Jvm.Free.XT.cmpL x y) = true := by rcases own_ge3 h with e | e <;> rw [e] <;> decide
theorem own_eq3 {x y : Int64} (h : x = y) : Jvm.Free.XT.cmpL x y = 0 := by
  subst h; delta Jvm.Free.XT.cmpL; rw [if_neg (by rw [Int64.lt_iff_toInt_lt]; omega), if_pos rfl]
theorem own_ne3 {x y : Int64} (h : ¬ x = y) : Jvm.Free.XT.cmpL x y = 1 ∨ Jvm.Free.XT.cmpL x y = -1 := by
  delta Jvm.Free.XT.cmpL
  by_cases h1 : y < x
  · rw [if_pos h1]; exact Or.inl rfl
  · rw [if_neg h1, if_neg h]; exact Or.inr rfl
theorem own_lc_eq_t {x y : Int64} (h : x = y) : ifCond.holds .eq (Jvm.Free.XT.cmpL x y) = true := by rw [own_eq3 h]; decide
theorem own_lc_eq_f {x y : Int64} (h : ¬ x = y) : ifCond.holds .eq (Jvm.Free.XT.cmpL x y) = false := by rcases own_ne3 h with e | e <;> rw [e] <;> decide
theorem own_lc_ne_f {x y : Int64} (h : x = y) : ifCond.holds .ne (Jvm.Free.XT.cmpL x y) = false := by rw [own_eq3 h]; decide
theorem own_lc_ne_t {x y : Int64} (h : ¬ x = y) : ifCond.holds .ne (Jvm.Free.XT.cmpL x y) = true := by rcases own_ne3 h with e | e <;> rw [e] <;> decide
theorem own_i32_rem (x y : Int32) : (x - (x / y) * y).toInt = x.toInt.tmod y.toInt := by
  have a := (x % y).toInt_lt; have b := (x % y).le_toInt
  rw [Int32.toInt_mod] at a b
  rw [Int32.toInt_sub, Int32.toInt_mul, Int32.toInt_div, Int.bmod_mul_bmod, Int.sub_bmod_bmod, Int.mul_comm, ← Int.tmod_def]
  exact Jvm.Kit.bmod32 b a
/-- (x & MAX) % n for a positive n -/
theorem own_pick (x n : Int32) (hn : 0 < n.toInt) : ((x &&& (2147483647 : Int32)) - ((x &&& (2147483647 : Int32)) / n) * n).toInt = (x.toInt % 2 ^ 31) % n.toInt := by
  rw [own_i32_rem, Jvm.Kit.i32_mask x 2147483647 (k := 31) (by decide) (by decide), Int.tmod_eq_emod_of_nonneg (Int.emod_nonneg _ (by decide))]
theorem own_ofNat (x : Int32) (h : 0 ≤ x.toInt) : ∃ k : Nat, x = Int32.ofNat k ∧ (k : Int) = x.toInt := by
  refine ⟨x.toInt.toNat, ?_, by omega⟩
  have := x.toInt_lt
  apply Int32.toInt_inj.mp
  rw [Int32.toInt_ofNat_of_lt (by omega)]; omega

/-! arrays: how many places, and what each holds -/
def own_A (Z : State) (h : Heap) (a : Addr) (ty : FieldType) (n : Nat) (f : Nat → Value) : Prop := ∃ c : Cell, Arr Z h a c ty ∧ c.slots.size = n ∧ ∀ j, j < n → c.slots[j]? = some (f j)
section OwnA
variable {p : Program} {l : Launch} {e : Env} {R : Room} {s : State} {m : MethodId} {args : Array Value} {below : List Frame} {meth : Method} {c : Code} {T : State} {locs : List Loc} {cells slots : Nat} {Z : State} {h h' : Heap} {a b : Addr} {ty : FieldType} {n : Nat} {f f' : Nat → Value} {sl : Nat} {v : Value}
theorem own_A_lt (F : own_A Z h a ty n f) : a < h.size := by obtain ⟨c, A, -⟩ := F; exact A.lt
theorem own_A_ext (E : Ext h h') (F : own_A Z h a ty n f) : own_A Z h' a ty n f := by obtain ⟨c, A, r⟩ := F; exact ⟨c, A.ext E, r⟩
theorem own_A_keep {ws : List Addr} (K : Keep h h' ws) (q : a ∉ ws) (F : own_A Z h a ty n f) : own_A Z h' a ty n f := by obtain ⟨c, A, r⟩ := F; exact ⟨c, ⟨K.2.1 a c A.1 q, A.2⟩, r⟩
theorem own_A_other (W : Wr h h' b sl v) (q : a ≠ b) (F : own_A Z h a ty n f) : own_A Z h' a ty n f := by obtain ⟨c, A, r⟩ := F; exact ⟨c, A.other W q, r⟩
theorem own_A_new {k : ClassId} {z : Int32} (A : Arr Z h a (newA k ty z) ty) (hz : z.toNatClampNeg = n) : own_A Z h a ty n (fun _ => defaultValue ty) :=
  ⟨_, A, (sz_new _ _ _).trans hz, fun j hj => by simp [newA, hz, hj]⟩
theorem own_A_set (W : Wr h h' a sl v) (F : own_A Z h a ty n f) : own_A Z h' a ty n (fun j => if j = sl then v else f j) := by
  obtain ⟨c, A, S, H⟩ := F
  refine ⟨_, A.same W, (sz_set _ _ _).trans S, fun j hj => ?_⟩
  show (c.slots.setIfInBounds sl v)[j]? = some (if j = sl then v else f j)
  by_cases u : j = sl
  · subst u; rw [if_pos rfl, Array.getElem?_setIfInBounds_self_of_lt (by rw [S]; exact hj)]
  · rw [if_neg u, Array.getElem?_setIfInBounds_ne (Ne.symm u)]; exact H j hj
theorem own_A_eq (F : own_A Z h a ty n f) (q : ∀ j, j < n → f j = f' j) : own_A Z h a ty n f' := by
  obtain ⟨c, A, S, H⟩ := F; exact ⟨c, A, S, fun j hj => by rw [H j hj, q j hj]⟩
/-- the place j is the number i -/
theorem own_clamp {j : Int32} {i : Nat} (hj : j.toInt = (i : Int)) : j.toNatClampNeg = i := by
  show j.toInt.toNat = i; omega
theorem own_in {j : Int32} {i : Nat} (hj : j.toInt = (i : Int)) (hi : i < n) {k : Nat} (hk : k = n) : ¬ (j < 0 ∨ k ≤ j.toNatClampNeg) := by
  rw [own_clamp hj]
  rintro (q | q)
  · rw [Int32.lt_iff_toInt_lt, hj] at q
    have : (0 : Int32).toInt = 0 := rfl
    omega
  · omega
theorem own_ldI (X : Stand p l e R s m args below meth c T locs cells slots) (hx : p.tables.exec = Jvm.exec) (hZ : Z.Warmed39 s.vm) (eT : T.heap = h) (F : own_A Z h a .int n f) {j : Int32} (i : Nat) (hj : j.toInt = (i : Int)) (hi : i < n) {g : JFrame} (hg : g.method = m) {rest : List Value} (hs : g.stack = .int j :: .ref a :: rest) (hd : decode c.code g.pc = .ok (.iaload, 1)) {target : State}
    (hr : Steps p.tables e below (T.setTop { g with pc := g.pc + 1, stack := f i :: rest }) target) : Steps p.tables e below (T.setTop g) target := by
  obtain ⟨cl, A, S, H⟩ := F
  exact X.iaload hx (by rw [eT]; exact A.1) (State.isArrayOf_alike hZ.alike A.2.1) A.2.2 (own_in hj hi S) (by rw [own_clamp hj]; exact H i hi) hg hs hd _ hr
theorem own_ldJ (X : Stand p l e R s m args below meth c T locs cells slots) (hx : p.tables.exec = Jvm.exec) (hZ : Z.Warmed39 s.vm) (eT : T.heap = h) (F : own_A Z h a .long n f) {j : Int32} (i : Nat) (hj : j.toInt = (i : Int)) (hi : i < n) {g : JFrame} (hg : g.method = m) {rest : List Value} (hs : g.stack = .int j :: .ref a :: rest) (hd : decode c.code g.pc = .ok (.laload, 1)) {target : State}
    (hr : Steps p.tables e below (T.setTop { g with pc := g.pc + 1, stack := f i :: rest }) target) : Steps p.tables e below (T.setTop g) target := by
  obtain ⟨cl, A, S, H⟩ := F
  exact X.laload hx (by rw [eT]; exact A.1) (State.isArrayOf_alike hZ.alike A.2.1) A.2.2 (own_in hj hi S) (by rw [own_clamp hj]; exact H i hi) hg hs hd _ hr
theorem own_ldB (X : Stand p l e R s m args below meth c T locs cells slots) (hx : p.tables.exec = Jvm.exec) (hZ : Z.Warmed39 s.vm) (eT : T.heap = h) (F : own_A Z h a .byte n f) {j : Int32} (i : Nat) (hj : j.toInt = (i : Int)) (hi : i < n) {g : JFrame} (hg : g.method = m) {rest : List Value} (hs : g.stack = .int j :: .ref a :: rest) (hd : decode c.code g.pc = .ok (.baload, 1)) {target : State}
    (hr : Steps p.tables e below (T.setTop { g with pc := g.pc + 1, stack := f i :: rest }) target) : Steps p.tables e below (T.setTop g) target := by
  obtain ⟨cl, A, S, H⟩ := F
  exact X.baloadBytes hx (by rw [eT]; exact A.1) (State.isArrayOf_alike hZ.alike A.2.1) A.2.2 (own_in hj hi S) (by rw [own_clamp hj]; exact H i hi) hg hs hd _ hr
theorem own_len (X : Stand p l e R s m args below meth c T locs cells slots) (hx : p.tables.exec = Jvm.exec) (hZ : Z.Warmed39 s.vm) (eT : T.heap = h) (F : own_A Z h a ty n f) {g : JFrame} (hg : g.method = m) {rest : List Value} (hs : g.stack = .ref a :: rest) (hd : decode c.code g.pc = .ok (.arraylength, 1)) {target : State}
    (hr : Steps p.tables e below (T.setTop { g with pc := g.pc + 1, stack := .int (Int32.ofNat n) :: rest }) target) : Steps p.tables e below (T.setTop g) target := by
  obtain ⟨cl, A, S, H⟩ := F
  refine X.arraylength hx (by rw [eT]; exact A.1) (State.isArrayOf_alike hZ.alike A.2.1) hg hs hd _ ?_
  rw [S]; exact hr
theorem own_stI (X : Stand p l e R s m args below meth c T locs cells slots) (hx : p.tables.exec = Jvm.exec) (hZ : Z.Warmed39 s.vm) (eT : T.heap = h) (F : own_A Z h a .int n f) {j x : Int32} (i : Nat) (hj : j.toInt = (i : Int)) (hi : i < n) {g : JFrame} (hg : g.method = m) {rest : List Value} (hs : g.stack = .int x :: .int j :: .ref a :: rest) (hd : decode c.code g.pc = .ok (.iastore, 1)) :
    ∃ T' h', Stand p l e R s m args below meth c T' (locs ++ [⟨a, i⟩]) cells slots ∧ T'.heap = h' ∧ Wr h h' a i (.int x) ∧ ∀ target, Steps p.tables e below (T'.setTop { g with pc := g.pc + 1, stack := rest }) target → Steps p.tables e below (T.setTop g) target := by
  obtain ⟨cl, A, S, H⟩ := F
  have r := stI X hx hZ eT A (own_in hj hi S) hg hs hd
  rwa [own_clamp hj] at r
theorem own_stJ (X : Stand p l e R s m args below meth c T locs cells slots) (hx : p.tables.exec = Jvm.exec) (hZ : Z.Warmed39 s.vm) (eT : T.heap = h) (F : own_A Z h a .long n f) {j : Int32} {x : Int64} (i : Nat) (hj : j.toInt = (i : Int)) (hi : i < n) {g : JFrame} (hg : g.method = m) {rest : List Value} (hs : g.stack = .long x :: .int j :: .ref a :: rest) (hd : decode c.code g.pc = .ok (.lastore, 1)) :
    ∃ T' h', Stand p l e R s m args below meth c T' (locs ++ [⟨a, i⟩]) cells slots ∧ T'.heap = h' ∧ Wr h h' a i (.long x) ∧ ∀ target, Steps p.tables e below (T'.setTop { g with pc := g.pc + 1, stack := rest }) target → Steps p.tables e below (T.setTop g) target := by
  obtain ⟨cl, A, S, H⟩ := F
  have r := stJ X hx hZ eT A (own_in hj hi S) hg hs hd
  rwa [own_clamp hj] at r
theorem own_stB (X : Stand p l e R s m args below meth c T locs cells slots) (hx : p.tables.exec = Jvm.exec) (hZ : Z.Warmed39 s.vm) (eT : T.heap = h) (F : own_A Z h a .byte n f) {j x : Int32} (i : Nat) (hj : j.toInt = (i : Int)) (hi : i < n) {g : JFrame} (hg : g.method = m) {rest : List Value} (hs : g.stack = .int x :: .int j :: .ref a :: rest) (hd : decode c.code g.pc = .ok (.bastore, 1)) :
    ∃ T' h', Stand p l e R s m args below meth c T' (locs ++ [⟨a, i⟩]) cells slots ∧ T'.heap = h' ∧ Wr h h' a i (.int (nar .byte x)) ∧ ∀ target, Steps p.tables e below (T'.setTop { g with pc := g.pc + 1, stack := rest }) target → Steps p.tables e below (T.setTop g) target := by
  obtain ⟨cl, A, S, H⟩ := F
  have r := stB X hx hZ eT A (own_in hj hi S) hg hs hd
  rwa [own_clamp hj] at r
end OwnA
def own_pk (p1 : Int64) (p2 p3 : Int32) : Int32 := if ((Jvm.Free.XT.ushr p2 p3) &&& (1 : Int32)) = (0 : Int32) then nar .byte (Int8.toInt32 (Int32.toInt8 (Int64.toInt32 (Jvm.Free.XT.ushrL p1 ((8 : Int32) * p3))))) else nar .byte (10 : Int32)
theorem own_bytes {Z : State} {h : Heap} {a : Addr} {n : Nat} {f : Nat → Value} (F : own_A Z h a .byte n f) (q : ∀ j, ∃ x, f j = .int x) : ∃ g : Nat → Int32, own_A Z h a .byte n (fun j => .int (g j)) :=
  ⟨fun j => Classical.choose (q j), own_A_eq F fun j _ => Classical.choose_spec (q j)⟩
def own_nl (g : Nat → Int32) (i s l : Int32) : Int32 := if i < s then 0 else if i < l then (if g i.toInt.toNat = (10 : Int32) then 1 else 0) else 0
def own_find (g : Nat → Int32) : Nat → Nat → Nat
  | s, 0 => s
  | s, n + 1 => if g s = (10 : Int32) then s else own_find g (s + 1) n
theorem own_find_yes {g : Nat → Int32} {s n : Nat} (h : g s = (10 : Int32)) : own_find g s (n + 1) = s := by
  show (if g s = (10 : Int32) then s else own_find g (s + 1) n) = s
  rw [if_pos h]
theorem own_find_no {g : Nat → Int32} {s n : Nat} (h : ¬ g s = (10 : Int32)) : own_find g s (n + 1) = own_find g (s + 1) n := by
  show (if g s = (10 : Int32) then s else own_find g (s + 1) n) = _
  rw [if_neg h]
theorem own_nlj {i s : Int32} (hs : 0 ≤ s.toInt) (h : ¬ i < s) : i.toInt = ((i.toInt.toNat : Nat) : Int) := by
  rw [Int32.lt_iff_toInt_lt] at h; omega
theorem own_nli {i s l : Int32} (hl : l.toInt ≤ 6) (hs : 0 ≤ s.toInt) (h : ¬ i < s) (h' : i < l) : i.toInt.toNat < 6 := by
  rw [Int32.lt_iff_toInt_lt] at h h'; omega
theorem own_toInt (k : Nat) (h : k < 2147483648) : (Int32.ofNat k).toInt = (k : Int) := Int32.toInt_ofNat_of_lt (by omega)
theorem own_i1 {p : Int32} {n i : Nat} (hp : p = Int32.ofNat n) (h : n ≤ i) (h6 : i < 2147483648) : ¬ (Int32.ofNat i) < p := by
  rw [hp, Int32.lt_iff_toInt_lt, own_toInt i h6, own_toInt n (by omega)]; omega
theorem own_i2 {p : Int32} {n i : Nat} (hp : p = Int32.ofNat n) (h : i < n) (h6 : n < 2147483648) : (Int32.ofNat i) < p := by
  rw [hp, Int32.lt_iff_toInt_lt, own_toInt i (by omega), own_toInt n h6]; omega
theorem own_i3 {i : Nat} (h : i < 2147483648) : (Int32.ofNat i).toInt = (i : Int) := own_toInt i h
theorem own_succ (i : Nat) : (Int32.ofNat i) + (1 : Int32) = Int32.ofNat (i + 1) := (Int32.ofNat_add i 1).symm
theorem own_lim (p B : Int32) (h : ((p &&& (2147483647 : Int32)) - ((p &&& (2147483647 : Int32)) / (7 : Int32)) * (7 : Int32)) = B) : ∃ n : Nat, B = Int32.ofNat n ∧ n ≤ 6 := by
  have e : ((p &&& (2147483647 : Int32)) - ((p &&& (2147483647 : Int32)) / (7 : Int32)) * (7 : Int32)).toInt = (p.toInt % 2 ^ 31) % 7 := own_pick p 7 (by decide)
  rw [h] at e
  obtain ⟨k, h1, h2⟩ := own_ofNat B (by omega)
  exact ⟨k, h1, by omega⟩
theorem own_l1 {B : Int32} {n : Nat} (h : B = Int32.ofNat n) (h6 : n ≤ 6) : (B + (1 : Int32)).toInt = (n : Int) + 1 := by
  rw [h, own_succ, own_toInt _ (by omega)]; rfl
theorem own_lim_nz {B : Int32} {n : Nat} (h : B = Int32.ofNat n) (h6 : n ≤ 6) : (B + (1 : Int32)) ≠ 0 := by
  intro q
  have := own_l1 h h6
  rw [q] at this
  have z : (0 : Int32).toInt = 0 := rfl
  omega
theorem own_sta (p B S : Int32) (n : Nat) (h : B = Int32.ofNat n) (h6 : n ≤ 6) (q : ((p &&& (2147483647 : Int32)) - ((p &&& (2147483647 : Int32)) / (B + (1 : Int32))) * (B + (1 : Int32))) = S) : ∃ k : Nat, S = Int32.ofNat k ∧ k ≤ n := by
  have e := own_pick p (B + 1) (by rw [own_l1 h h6]; omega)
  rw [q, own_l1 h h6] at e
  have a := Int.emod_nonneg (p.toInt % 2 ^ 31) (show (n : Int) + 1 ≠ 0 by omega)
  have b := Int.emod_lt_of_pos (p.toInt % 2 ^ 31) (show (0 : Int) < (n : Int) + 1 by omega)
  obtain ⟨k, h1, h2⟩ := own_ofNat S (by omega)
  exact ⟨k, h1, by omega⟩
theorem own_p0 {S : Int32} {k : Nat} (h : S = Int32.ofNat k) (h6 : k ≤ 6) : 0 ≤ S.toInt := by rw [h, own_toInt k (by omega)]; omega
theorem own_p6 {S : Int32} {k : Nat} (h : S = Int32.ofNat k) (h6 : k ≤ 6) : S.toInt ≤ 6 := by rw [h, own_toInt k (by omega)]; omega
theorem own_nl_iff (g : Nat → Int32) {S L : Int32} {nS nL : Nat} (hS : S = Int32.ofNat nS) (hL : L = Int32.ofNat nL) (hSL : nS ≤ nL) (hL6 : nL ≤ 6) (i : Nat) (hi : i < 6) : own_nl g (Int32.ofNat i) S L = 0 ↔ ¬ (nS ≤ i ∧ i < nL ∧ g i = (10 : Int32)) := by
  subst hS; subst hL
  unfold own_nl
  have e : ((i : Int)).toNat = i := by omega
  simp only [Int32.lt_iff_toInt_lt, own_toInt i (by omega), own_toInt nS (by omega), own_toInt nL (by omega), e]
  by_cases h1 : (i : Int) < nS
  · simp only [h1, if_true, true_iff]; omega
  · by_cases h2 : (i : Int) < nL
    · by_cases h3 : g i = (10 : Int32)
      · simp only [h1, h2, h3, if_true, if_false]; constructor
        · intro q; exact absurd q (by decide)
        · intro q; exact absurd ⟨by omega, by omega, trivial⟩ q
      · simp [h1, h2, h3]
    · simp only [h1, h2, if_false, true_iff]; omega
theorem own_find_none (g : Nat → Int32) : ∀ (n s : Nat), (∀ j, s ≤ j → j < s + n → ¬ g j = (10 : Int32)) → own_find g s n = s + n
  | 0, s, _ => rfl
  | n + 1, s, h => by
    unfold own_find
    rw [if_neg (h s (by omega) (by omega)), own_find_none g n (s + 1) fun j h1 h2 => h j (by omega) (by omega)]; omega
theorem own_find_at (g : Nat → Int32) : ∀ (n s i : Nat), s ≤ i → i < s + n → g i = (10 : Int32) → (∀ j, s ≤ j → j < i → ¬ g j = (10 : Int32)) → own_find g s n = i
  | 0, s, i, h1, h2, _, _ => by omega
  | n + 1, s, i, h1, h2, h3, h4 => by
    unfold own_find
    by_cases e : s = i
    · subst e; rw [if_pos h3]
    · rw [if_neg (h4 s (by omega) (by omega))]
      exact own_find_at g n (s + 1) i (by omega) (by omega) h3 fun j q1 q2 => h4 j (by omega) q2
theorem own_exp (g : Nat → Int32) {S L : Int32} {nS nL : Nat} (hS : S = Int32.ofNat nS) (hL : L = Int32.ofNat nL) (hSL : nS ≤ nL) (hL6 : nL ≤ 6) (i : Nat) (hi : i < 6) (h : ¬ own_nl g (Int32.ofNat i) S L = 0) (hp : ∀ j, j < i → own_nl g (Int32.ofNat j) S L = 0) :
    Int32.ofNat (own_find g nS (nL - nS)) = Int32.ofNat i := by
  rw [own_nl_iff g hS hL hSL hL6 i hi] at h
  have h' := Decidable.not_not.mp h
  rw [own_find_at g (nL - nS) nS i h'.1 (by omega) h'.2.2 fun j q1 q2 q3 => ((own_nl_iff g hS hL hSL hL6 j (by omega)).mp (hp j q2)) ⟨q1, by omega, q3⟩]
theorem own_exp_none (g : Nat → Int32) {S L : Int32} {nS nL : Nat} (hS : S = Int32.ofNat nS) (hL : L = Int32.ofNat nL) (hSL : nS ≤ nL) (hL6 : nL ≤ 6) (hp : ∀ j, j < 6 → own_nl g (Int32.ofNat j) S L = 0) :
    Int32.ofNat (own_find g nS (nL - nS)) = Int32.ofNat nL := by
  rw [own_find_none g (nL - nS) nS fun j q1 q2 q3 => ((own_nl_iff g hS hL hSL hL6 j (by omega)).mp (hp j (by omega))) ⟨q1, by omega, q3⟩]
  congr 1; omega
theorem d1_0 : decode method_2_code 0 = .ok (.iload_n 2, 1) := by decide +kernel
theorem d1_1 : decode method_2_code 1 = .ok (.iload_n 3, 1) := by decide +kernel
theorem d1_2 : decode method_2_code 2 = .ok (.iushr, 1) := by decide +kernel
theorem d1_3 : decode method_2_code 3 = .ok (.iconst 1, 1) := by decide +kernel
theorem d1_4 : decode method_2_code 4 = .ok (.iand, 1) := by decide +kernel
theorem d1_5 : decode method_2_code 5 = .ok (.ifCond .eq 6, 3) := by decide +kernel
theorem d1_8 : decode method_2_code 8 = .ok (.bipush 10, 2) := by decide +kernel
theorem d1_10 : decode method_2_code 10 = .ok (.ireturn, 1) := by decide +kernel
theorem d1_11 : decode method_2_code 11 = .ok (.lload_n 0, 1) := by decide +kernel
theorem d1_12 : decode method_2_code 12 = .ok (.bipush 8, 2) := by decide +kernel
theorem d1_14 : decode method_2_code 14 = .ok (.iload_n 3, 1) := by decide +kernel
theorem d1_15 : decode method_2_code 15 = .ok (.imul, 1) := by decide +kernel
theorem d1_16 : decode method_2_code 16 = .ok (.lushr, 1) := by decide +kernel
theorem d1_17 : decode method_2_code 17 = .ok (.l2i, 1) := by decide +kernel
theorem d1_18 : decode method_2_code 18 = .ok (.i2b, 1) := by decide +kernel
theorem d1_19 : decode method_2_code 19 = .ok (.ireturn, 1) := by decide +kernel
theorem pn_1 : plainName "com/example/tokenwright/tokenwright/store/LogLineEndPinLaw" = true := by first | (simp [plainName, overriddenIn]; done) | decide +kernel
theorem ef_1 (m : MethodId) (p1 : Int64) (p2 : Int32) (p3 : Int32)  : entryFrame m #[(.long p1), (.int p2), (.int p3)] 4 = mkF m 0 #[.val (.long p1), .second, .val (.int p2), .val (.int p3)] [] := by first | (simp [entryFrame, mkF, argsToLocals, Value.category]; done) | rfl
def Q1 (Z : State) (p1 : Int64) (p2 : Int32) (p3 : Int32)  (h0 : Heap) (n0 : Nat) (v : Option Value) (h : Heap) (L : List Loc) : Prop := v = some (.int (own_pk p1 p2 p3)) ∧ Fr n0 L ∧ h = h0
set_option maxRecDepth 65536 in
set_option maxHeartbeats 40000000 in
theorem rm1 (l : Launch) (Z : State) (a0 : Array Value) (hw : ∀ d ∈ tables_1, d.before a0 Z = true) (ws : List Jvm.Cond) (p1 : Int64) (p2 : Int32) (p3 : Int32)  (h0 : Heap) (n0 : Nat) (Z0 : n0 ≤ h0.size)  :
    MetFree l (⟨"com/example/tokenwright/tokenwright/store/LogLineEndPinLaw", "pick", "(JII)B"⟩ : MethodName) (head1 (Jvm.Cond.code (⟨"com/example/tokenwright/tokenwright/store/LogLineEndPinLaw", "pick", "(JII)B"⟩ : MethodName) method_2_code 4 (some .byte) :: ws) ({ frames := 0, cells := 0, slots := 0, locals := 0 } : Room)) (fun a U => a = #[(.long p1), (.int p2), (.int p3)] ∧ Z.Warmed39 U.vm ∧ U.heap = h0) (fun _ _ _ _ _ => True) (fun _ U o U' => ∃ v L, o = .returned v ∧ Q1 Z p1 p2 p3 h0 n0 v U'.heap L ∧ FrameEnd U o U' L ({ frames := 0, cells := 0, slots := 0, locals := 0 } : Room).cells ({ frames := 0, cells := 0, slots := 0, locals := 0 } : Room).slots) := by
  refine MetFree.of_bodySF (plainFor_of_name pn_1) hisR ?_
  intro p e s m args below meth c s₁ Bd hml0 hP hK
  obtain ⟨rfl, hZ, hh⟩ := hP
  have hx := Bd.exec
  have hby := Bd.bytes
  have hml : c.maxLocals = 4 := hml0
  have hown : s.vm.findClass "com/example/tokenwright/tokenwright/store/LogLineEndPinLaw" = some m.cls := findClass_of_methodNamed Bd.named
  have hnm := (name_of_methodNamed Bd.named Bd.method).1
  have hlk : meth.locks = false := Bd.notSynchronized
  have X0 : Stand p l e ({ frames := 0, cells := 0, slots := 0, locals := 0 } : Room) s m #[(.long p1), (.int p2), (.int p3)] below meth c s₁ [] 0 0 := Stand.of_body Bd
  have e0 : s₁.heap = h0 := by rw [← hh, Bd.state]; rfl
  have N0 := Fr.nil n0
  refine own_step (p := p) (e := e) (below := below) (U' := s₁.setTop (mkF m 0 #[.val (.long p1), .second, .val (.int p2), .val (.int p3)] [])) (fun _ zk => castTop (ef_1 m p1 p2 p3 ) zk) ?_
  refine own_step (fun _ zk => XS.iloadN X0.here hx rfl (hb hby d1_0) rfl zk) ?_
  show own_E p e below _ (s₁.setTop (mkF m 1 #[.val (.long p1), .second, .val (.int p2), .val (.int p3)] [(.int p2)]))
  refine own_step (fun _ zk => XS.iloadN X0.here hx rfl (hb hby d1_1) rfl zk) ?_
  show own_E p e below _ (s₁.setTop (mkF m 2 #[.val (.long p1), .second, .val (.int p2), .val (.int p3)] [(.int p3), (.int p2)]))
  refine own_step (fun _ zk => Jvm.Free.XT.iushr X0.here hx rfl (hb hby d1_2) rfl zk) ?_
  show own_E p e below _ (s₁.setTop (mkF m 3 #[.val (.long p1), .second, .val (.int p2), .val (.int p3)] [(.int (Jvm.Free.XT.ushr p2 p3))]))
  refine own_step (fun _ zk => XS.iconst X0.here hx rfl (hb hby d1_3) zk) ?_
  show own_E p e below _ (s₁.setTop (mkF m 4 #[.val (.long p1), .second, .val (.int p2), .val (.int p3)] [(.int (1 : Int32)), (.int (Jvm.Free.XT.ushr p2 p3))]))
  refine own_step (fun _ zk => XS.iand X0.here hx rfl (hb hby d1_4) rfl zk) ?_
  show own_E p e below _ (s₁.setTop (mkF m 5 #[.val (.long p1), .second, .val (.int p2), .val (.int p3)] [(.int ((Jvm.Free.XT.ushr p2 p3) &&& (1 : Int32)))]))
  by_cases hc5 : ((Jvm.Free.XT.ushr p2 p3) &&& (1 : Int32)) = (0 : Int32)
  · skip
    refine own_step (fun _ zk => XS.ifYes X0.here hx rfl (pc0 := 5) (pc' := 11) rfl (hb hby d1_5) rfl ((if0 _ _).trans (teq hc5).1) (by decide) (by decide) zk) ?_
    show own_E p e below _ (s₁.setTop (mkF m 11 #[.val (.long p1), .second, .val (.int p2), .val (.int p3)] []))
    refine own_step (fun _ zk => Jvm.Free.XT.lloadN X0.here hx rfl (hb hby d1_11) rfl zk) ?_
    show own_E p e below _ (s₁.setTop (mkF m 12 #[.val (.long p1), .second, .val (.int p2), .val (.int p3)] [(.long p1)]))
    refine own_step (fun _ zk => XS.bipush X0.here hx rfl (hb hby d1_12) zk) ?_
    show own_E p e below _ (s₁.setTop (mkF m 14 #[.val (.long p1), .second, .val (.int p2), .val (.int p3)] [(.int (8 : Int32)), (.long p1)]))
    refine own_step (fun _ zk => XS.iloadN X0.here hx rfl (hb hby d1_14) rfl zk) ?_
    show own_E p e below _ (s₁.setTop (mkF m 15 #[.val (.long p1), .second, .val (.int p2), .val (.int p3)] [(.int p3), (.int (8 : Int32)), (.long p1)]))
    refine own_step (fun _ zk => XS.imul X0.here hx rfl (hb hby d1_15) rfl zk) ?_
    show own_E p e below _ (s₁.setTop (mkF m 16 #[.val (.long p1), .second, .val (.int p2), .val (.int p3)] [(.int ((8 : Int32) * p3)), (.long p1)]))
    refine own_step (fun _ zk => Jvm.Free.XT.lushr X0.here hx rfl (hb hby d1_16) rfl zk) ?_
    show own_E p e below _ (s₁.setTop (mkF m 17 #[.val (.long p1), .second, .val (.int p2), .val (.int p3)] [(.long (Jvm.Free.XT.ushrL p1 ((8 : Int32) * p3)))]))
    refine own_step (fun _ zk => Jvm.Free.XT.l2i X0.here hx rfl (hb hby d1_17) rfl zk) ?_
    show own_E p e below _ (s₁.setTop (mkF m 18 #[.val (.long p1), .second, .val (.int p2), .val (.int p3)] [(.int (Int64.toInt32 (Jvm.Free.XT.ushrL p1 ((8 : Int32) * p3))))]))
    refine own_step (fun _ zk => Jvm.Free.XT.i2b X0.here hx rfl (hb hby d1_18) rfl zk) ?_
    show own_E p e below _ (s₁.setTop (mkF m 19 #[.val (.long p1), .second, .val (.int p2), .val (.int p3)] [(.int (Int8.toInt32 (Int32.toInt8 (Int64.toInt32 (Jvm.Free.XT.ushrL p1 ((8 : Int32) * p3))))))]))
    refine own_ret X0 hlk (v := some (.int (nar .byte (Int8.toInt32 (Int32.toInt8 (Int64.toInt32 (Jvm.Free.XT.ushrL p1 ((8 : Int32) * p3)))))))) (fun h => by rw [Bd.returns] at h; cases h) ?_ (by decide) (by decide) (fun fs hr => retN X0 hx (t := .byte) Bd.returns (by simp) (hb hby d1_19) hr)
    show Q1 Z p1 p2 p3 h0 n0 _ s₁.heap _
    rw [e0]
    refine ⟨congrArg (fun z => some (Value.int z)) ?_, N0, rfl⟩
    simp only [own_pk, hc5, if_true, if_false]
  · skip
    refine own_step (fun _ zk => XS.ifNo X0.here hx rfl (hb hby d1_5) rfl ((if0 _ _).trans (feq hc5).1) zk) ?_
    show own_E p e below _ (s₁.setTop (mkF m 8 #[.val (.long p1), .second, .val (.int p2), .val (.int p3)] []))
    refine own_step (fun _ zk => XS.bipush X0.here hx rfl (hb hby d1_8) zk) ?_
    show own_E p e below _ (s₁.setTop (mkF m 10 #[.val (.long p1), .second, .val (.int p2), .val (.int p3)] [(.int (10 : Int32))]))
    refine own_ret X0 hlk (v := some (.int (nar .byte (10 : Int32)))) (fun h => by rw [Bd.returns] at h; cases h) ?_ (by decide) (by decide) (fun fs hr => retN X0 hx (t := .byte) Bd.returns (by simp) (hb hby d1_10) hr)
    show Q1 Z p1 p2 p3 h0 n0 _ s₁.heap _
    rw [e0]
    refine ⟨congrArg (fun z => some (Value.int z)) ?_, N0, rfl⟩
    simp only [own_pk, hc5, if_true, if_false]
theorem d2_0 : decode method_3_code 0 = .ok (.iload_n 1, 1) := by decide +kernel
theorem d2_1 : decode method_3_code 1 = .ok (.iload_n 2, 1) := by decide +kernel
theorem d2_2 : decode method_3_code 2 = .ok (.if_icmp .lt 20, 3) := by decide +kernel
theorem d2_5 : decode method_3_code 5 = .ok (.iload_n 1, 1) := by decide +kernel
theorem d2_6 : decode method_3_code 6 = .ok (.iload_n 3, 1) := by decide +kernel
theorem d2_7 : decode method_3_code 7 = .ok (.if_icmp .ge 15, 3) := by decide +kernel
theorem d2_10 : decode method_3_code 10 = .ok (.aload_n 0, 1) := by decide +kernel
theorem d2_11 : decode method_3_code 11 = .ok (.iload_n 1, 1) := by decide +kernel
theorem d2_12 : decode method_3_code 12 = .ok (.baload, 1) := by decide +kernel
theorem d2_13 : decode method_3_code 13 = .ok (.bipush 10, 2) := by decide +kernel
theorem d2_15 : decode method_3_code 15 = .ok (.if_icmp .ne 7, 3) := by decide +kernel
theorem d2_18 : decode method_3_code 18 = .ok (.iconst 1, 1) := by decide +kernel
theorem d2_19 : decode method_3_code 19 = .ok (.goto 4, 3) := by decide +kernel
theorem d2_22 : decode method_3_code 22 = .ok (.iconst 0, 1) := by decide +kernel
theorem d2_23 : decode method_3_code 23 = .ok (.ireturn, 1) := by decide +kernel
theorem pn_2 : plainName "com/example/tokenwright/tokenwright/store/LogLineEndPinLaw" = true := by first | (simp [plainName, overriddenIn]; done) | decide +kernel
theorem ef_2 (m : MethodId) (a1 : Addr) (p2 : Int32) (p3 : Int32) (p4 : Int32)  : entryFrame m #[(.ref a1), (.int p2), (.int p3), (.int p4)] 4 = mkF m 0 #[.val (.ref a1), .val (.int p2), .val (.int p3), .val (.int p4)] [] := by first | (simp [entryFrame, mkF, argsToLocals, Value.category]; done) | rfl
def Q2 (Z : State) (a1 : Addr) (p2 : Int32) (p3 : Int32) (p4 : Int32) (g : Nat → Int32) (h0 : Heap) (n0 : Nat) (v : Option Value) (h : Heap) (L : List Loc) : Prop := v = some (.int (own_nl g p2 p3 p4)) ∧ Fr n0 L ∧ h = h0
set_option maxRecDepth 65536 in
set_option maxHeartbeats 40000000 in
theorem rm2 (l : Launch) (Z : State) (a0 : Array Value) (hw : ∀ d ∈ tables_1, d.before a0 Z = true) (ws : List Jvm.Cond) (a1 : Addr) (p2 : Int32) (p3 : Int32) (p4 : Int32) (g : Nat → Int32) (h0 : Heap) (n0 : Nat) (Z0 : n0 ≤ h0.size) (F : own_A Z h0 a1 .byte 6 (fun j => .int (g j))) (hs0 : 0 ≤ p3.toInt) (hl6 : p4.toInt ≤ 6) :
    MetFree l (⟨"com/example/tokenwright/tokenwright/store/LogLineEndPinLaw", "nl", "([BIII)Z"⟩ : MethodName) (head1 (Jvm.Cond.code (⟨"com/example/tokenwright/tokenwright/store/LogLineEndPinLaw", "nl", "([BIII)Z"⟩ : MethodName) method_3_code 4 (some .boolean) :: ws) ({ frames := 0, cells := 0, slots := 0, locals := 0 } : Room)) (fun a U => a = #[(.ref a1), (.int p2), (.int p3), (.int p4)] ∧ Z.Warmed39 U.vm ∧ U.heap = h0) (fun _ _ _ _ _ => True) (fun _ U o U' => ∃ v L, o = .returned v ∧ Q2 Z a1 p2 p3 p4 g h0 n0 v U'.heap L ∧ FrameEnd U o U' L ({ frames := 0, cells := 0, slots := 0, locals := 0 } : Room).cells ({ frames := 0, cells := 0, slots := 0, locals := 0 } : Room).slots) := by
  refine MetFree.of_bodySF (plainFor_of_name pn_2) hisR ?_
  intro p e s m args below meth c s₁ Bd hml0 hP hK
  obtain ⟨rfl, hZ, hh⟩ := hP
  have hx := Bd.exec
  have hby := Bd.bytes
  have hml : c.maxLocals = 4 := hml0
  have hown : s.vm.findClass "com/example/tokenwright/tokenwright/store/LogLineEndPinLaw" = some m.cls := findClass_of_methodNamed Bd.named
  have hnm := (name_of_methodNamed Bd.named Bd.method).1
  have hlk : meth.locks = false := Bd.notSynchronized
  have X0 : Stand p l e ({ frames := 0, cells := 0, slots := 0, locals := 0 } : Room) s m #[(.ref a1), (.int p2), (.int p3), (.int p4)] below meth c s₁ [] 0 0 := Stand.of_body Bd
  have e0 : s₁.heap = h0 := by rw [← hh, Bd.state]; rfl
  have N0 := Fr.nil n0
  refine own_step (p := p) (e := e) (below := below) (U' := s₁.setTop (mkF m 0 #[.val (.ref a1), .val (.int p2), .val (.int p3), .val (.int p4)] [])) (fun _ zk => castTop (ef_2 m a1 p2 p3 p4 ) zk) ?_
  refine own_step (fun _ zk => XS.iloadN X0.here hx rfl (hb hby d2_0) rfl zk) ?_
  show own_E p e below _ (s₁.setTop (mkF m 1 #[.val (.ref a1), .val (.int p2), .val (.int p3), .val (.int p4)] [(.int p2)]))
  refine own_step (fun _ zk => XS.iloadN X0.here hx rfl (hb hby d2_1) rfl zk) ?_
  show own_E p e below _ (s₁.setTop (mkF m 2 #[.val (.ref a1), .val (.int p2), .val (.int p3), .val (.int p4)] [(.int p3), (.int p2)]))
  by_cases hc2 : p2 < p3
  · skip
    refine own_step (fun _ zk => XS.icmpYes X0.here hx rfl (pc0 := 2) (pc' := 22) rfl (hb hby d2_2) rfl (tlt hc2).1 (by decide) (by decide) zk) ?_
    show own_E p e below _ (s₁.setTop (mkF m 22 #[.val (.ref a1), .val (.int p2), .val (.int p3), .val (.int p4)] []))
    refine own_step (fun _ zk => XS.iconst X0.here hx rfl (hb hby d2_22) zk) ?_
    show own_E p e below _ (s₁.setTop (mkF m 23 #[.val (.ref a1), .val (.int p2), .val (.int p3), .val (.int p4)] [(.int (0 : Int32))]))
    refine own_ret X0 hlk (v := some (.int (nar .boolean (0 : Int32)))) (fun h => by rw [Bd.returns] at h; cases h) ?_ (by decide) (by decide) (fun fs hr => retN X0 hx (t := .boolean) Bd.returns (by simp) (hb hby d2_23) hr)
    show Q2 Z a1 p2 p3 p4 g h0 n0 _ s₁.heap _
    rw [e0]
    refine ⟨congrArg (fun z => some (Value.int z)) ?_, N0, rfl⟩
    simp only [own_nl, hc2, if_true, if_false]; decide
  · skip
    refine own_step (fun _ zk => XS.icmpNo X0.here hx rfl (hb hby d2_2) rfl (flt hc2).1 zk) ?_
    show own_E p e below _ (s₁.setTop (mkF m 5 #[.val (.ref a1), .val (.int p2), .val (.int p3), .val (.int p4)] []))
    refine own_step (fun _ zk => XS.iloadN X0.here hx rfl (hb hby d2_5) rfl zk) ?_
    show own_E p e below _ (s₁.setTop (mkF m 6 #[.val (.ref a1), .val (.int p2), .val (.int p3), .val (.int p4)] [(.int p2)]))
    refine own_step (fun _ zk => XS.iloadN X0.here hx rfl (hb hby d2_6) rfl zk) ?_
    show own_E p e below _ (s₁.setTop (mkF m 7 #[.val (.ref a1), .val (.int p2), .val (.int p3), .val (.int p4)] [(.int p4), (.int p2)]))
    by_cases hc7 : p2 < p4
    · skip
      refine own_step (fun _ zk => XS.icmpNo X0.here hx rfl (hb hby d2_7) rfl (tlt hc7).2.1 zk) ?_
      show own_E p e below _ (s₁.setTop (mkF m 10 #[.val (.ref a1), .val (.int p2), .val (.int p3), .val (.int p4)] []))
      refine own_step (fun _ zk => XS.aloadN X0.here hx rfl (hb hby d2_10) rfl rfl zk) ?_
      show own_E p e below _ (s₁.setTop (mkF m 11 #[.val (.ref a1), .val (.int p2), .val (.int p3), .val (.int p4)] [(.ref a1)]))
      refine own_step (fun _ zk => XS.iloadN X0.here hx rfl (hb hby d2_11) rfl zk) ?_
      show own_E p e below _ (s₁.setTop (mkF m 12 #[.val (.ref a1), .val (.int p2), .val (.int p3), .val (.int p4)] [(.int p2), (.ref a1)]))
      refine own_step (fun _ zk => own_ldB X0 hx hZ e0 F (p2.toInt.toNat) (own_nlj hs0 hc2) (own_nli hl6 hs0 hc2 hc7) (g := (mkF m 12 #[.val (.ref a1), .val (.int p2), .val (.int p3), .val (.int p4)] [(.int p2), (.ref a1)])) rfl rfl (hb hby d2_12) zk) ?_
      show own_E p e below _ (s₁.setTop (mkF m 13 #[.val (.ref a1), .val (.int p2), .val (.int p3), .val (.int p4)] [(.int (g p2.toInt.toNat))]))
      refine own_step (fun _ zk => XS.bipush X0.here hx rfl (hb hby d2_13) zk) ?_
      show own_E p e below _ (s₁.setTop (mkF m 15 #[.val (.ref a1), .val (.int p2), .val (.int p3), .val (.int p4)] [(.int (10 : Int32)), (.int (g p2.toInt.toNat))]))
      by_cases hc15 : (g p2.toInt.toNat) = (10 : Int32)
      · skip
        refine own_step (fun _ zk => XS.icmpNo X0.here hx rfl (hb hby d2_15) rfl (teq hc15).2 zk) ?_
        show own_E p e below _ (s₁.setTop (mkF m 18 #[.val (.ref a1), .val (.int p2), .val (.int p3), .val (.int p4)] []))
        refine own_step (fun _ zk => XS.iconst X0.here hx rfl (hb hby d2_18) zk) ?_
        show own_E p e below _ (s₁.setTop (mkF m 19 #[.val (.ref a1), .val (.int p2), .val (.int p3), .val (.int p4)] [(.int (1 : Int32))]))
        refine own_step (fun _ zk => XS.goto X0.here hx rfl (pc0 := 19) (pc' := 23) rfl (hb hby d2_19) (by decide) (by decide) zk) ?_
        show own_E p e below _ (s₁.setTop (mkF m 23 #[.val (.ref a1), .val (.int p2), .val (.int p3), .val (.int p4)] [(.int (1 : Int32))]))
        refine own_ret X0 hlk (v := some (.int (nar .boolean (1 : Int32)))) (fun h => by rw [Bd.returns] at h; cases h) ?_ (by decide) (by decide) (fun fs hr => retN X0 hx (t := .boolean) Bd.returns (by simp) (hb hby d2_23) hr)
        show Q2 Z a1 p2 p3 p4 g h0 n0 _ s₁.heap _
        rw [e0]
        refine ⟨congrArg (fun z => some (Value.int z)) ?_, N0, rfl⟩
        simp only [own_nl, hc2, hc7, hc15, if_true, if_false]; decide
      · skip
        refine own_step (fun _ zk => XS.icmpYes X0.here hx rfl (pc0 := 15) (pc' := 22) rfl (hb hby d2_15) rfl (feq hc15).2 (by decide) (by decide) zk) ?_
        show own_E p e below _ (s₁.setTop (mkF m 22 #[.val (.ref a1), .val (.int p2), .val (.int p3), .val (.int p4)] []))
        refine own_step (fun _ zk => XS.iconst X0.here hx rfl (hb hby d2_22) zk) ?_
        show own_E p e below _ (s₁.setTop (mkF m 23 #[.val (.ref a1), .val (.int p2), .val (.int p3), .val (.int p4)] [(.int (0 : Int32))]))
        refine own_ret X0 hlk (v := some (.int (nar .boolean (0 : Int32)))) (fun h => by rw [Bd.returns] at h; cases h) ?_ (by decide) (by decide) (fun fs hr => retN X0 hx (t := .boolean) Bd.returns (by simp) (hb hby d2_23) hr)
        show Q2 Z a1 p2 p3 p4 g h0 n0 _ s₁.heap _
        rw [e0]
        refine ⟨congrArg (fun z => some (Value.int z)) ?_, N0, rfl⟩
        simp only [own_nl, hc2, hc7, hc15, if_true, if_false]; decide
    · skip
      refine own_step (fun _ zk => XS.icmpYes X0.here hx rfl (pc0 := 7) (pc' := 22) rfl (hb hby d2_7) rfl (flt hc7).2.1 (by decide) (by decide) zk) ?_
      show own_E p e below _ (s₁.setTop (mkF m 22 #[.val (.ref a1), .val (.int p2), .val (.int p3), .val (.int p4)] []))
      refine own_step (fun _ zk => XS.iconst X0.here hx rfl (hb hby d2_22) zk) ?_
      show own_E p e below _ (s₁.setTop (mkF m 23 #[.val (.ref a1), .val (.int p2), .val (.int p3), .val (.int p4)] [(.int (0 : Int32))]))
      refine own_ret X0 hlk (v := some (.int (nar .boolean (0 : Int32)))) (fun h => by rw [Bd.returns] at h; cases h) ?_ (by decide) (by decide) (fun fs hr => retN X0 hx (t := .boolean) Bd.returns (by simp) (hb hby d2_23) hr)
      show Q2 Z a1 p2 p3 p4 g h0 n0 _ s₁.heap _
      rw [e0]
      refine ⟨congrArg (fun z => some (Value.int z)) ?_, N0, rfl⟩
      simp only [own_nl, hc2, hc7, if_true, if_false]; decide
theorem d3_0 : decode prog_121_method_3_code 0 = .ok (.iload_n 1, 1) := by decide +kernel
theorem d3_1 : decode prog_121_method_3_code 1 = .ok (.istore_n 3, 1) := by decide +kernel
theorem d3_2 : decode prog_121_method_3_code 2 = .ok (.iload_n 3, 1) := by decide +kernel
theorem d3_3 : decode prog_121_method_3_code 3 = .ok (.iload_n 2, 1) := by decide +kernel
theorem d3_4 : decode prog_121_method_3_code 4 = .ok (.if_icmp .ge 17, 3) := by decide +kernel
theorem d3_7 : decode prog_121_method_3_code 7 = .ok (.aload_n 0, 1) := by decide +kernel
theorem d3_8 : decode prog_121_method_3_code 8 = .ok (.iload_n 3, 1) := by decide +kernel
theorem d3_9 : decode prog_121_method_3_code 9 = .ok (.baload, 1) := by decide +kernel
theorem d3_10 : decode prog_121_method_3_code 10 = .ok (.bipush 10, 2) := by decide +kernel
theorem d3_12 : decode prog_121_method_3_code 12 = .ok (.if_icmp .eq 9, 3) := by decide +kernel
theorem d3_15 : decode prog_121_method_3_code 15 = .ok (.iinc 3 1, 3) := by decide +kernel
theorem d3_18 : decode prog_121_method_3_code 18 = .ok (.goto (-16), 3) := by decide +kernel
theorem d3_21 : decode prog_121_method_3_code 21 = .ok (.iload_n 3, 1) := by decide +kernel
theorem d3_22 : decode prog_121_method_3_code 22 = .ok (.ireturn, 1) := by decide +kernel
theorem pn_3 : plainName "com/example/tokenwright/tokenwright/store/LogLine" = true := by first | (simp [plainName, overriddenIn]; done) | decide +kernel
theorem ef_3 (m : MethodId) (a1 : Addr) (p2 : Int32) (p3 : Int32)  : entryFrame m #[(.ref a1), (.int p2), (.int p3)] 4 = mkF m 0 #[.val (.ref a1), .val (.int p2), .val (.int p3), .unset] [] := by first | (simp [entryFrame, mkF, argsToLocals, Value.category]; done) | rfl
def Q3 (Z : State) (a1 : Addr) (p2 : Int32) (p3 : Int32) (g : Nat → Int32) (k n : Nat) (h0 : Heap) (n0 : Nat) (v : Option Value) (h : Heap) (L : List Loc) : Prop := v = some (.int (Int32.ofNat (own_find g k n))) ∧ Fr n0 L ∧ h = h0
set_option maxRecDepth 65536 in
set_option maxHeartbeats 40000000 in
theorem rm3 (l : Launch) (Z : State) (a0 : Array Value) (hw : ∀ d ∈ tables_1, d.before a0 Z = true) (ws : List Jvm.Cond) (a1 : Addr) (p2 : Int32) (p3 : Int32) (g : Nat → Int32) (k n : Nat) (h0 : Heap) (n0 : Nat) (Z0 : n0 ≤ h0.size) (F : own_A Z h0 a1 .byte 6 (fun j => .int (g j))) (hk : p2 = Int32.ofNat k) (hn : p3 = Int32.ofNat (k + n)) (h6 : k + n ≤ 6) :
    MetFree l (⟨"com/example/tokenwright/tokenwright/store/LogLine", "end", "([BII)I"⟩ : MethodName) (head1 (Jvm.Cond.code (⟨"com/example/tokenwright/tokenwright/store/LogLine", "end", "([BII)I"⟩ : MethodName) prog_121_method_3_code 4 (some .int) :: ws) ({ frames := 0, cells := 0, slots := 0, locals := 0 } : Room)) (fun a U => a = #[(.ref a1), (.int p2), (.int p3)] ∧ Z.Warmed39 U.vm ∧ U.heap = h0) (fun _ _ _ _ _ => True) (fun _ U o U' => ∃ v L, o = .returned v ∧ Q3 Z a1 p2 p3 g k n h0 n0 v U'.heap L ∧ FrameEnd U o U' L ({ frames := 0, cells := 0, slots := 0, locals := 0 } : Room).cells ({ frames := 0, cells := 0, slots := 0, locals := 0 } : Room).slots) := by
  refine MetFree.of_bodySF (plainFor_of_name pn_3) hisR ?_
  intro p e s m args below meth c s₁ Bd hml0 hP hK
  obtain ⟨rfl, hZ, hh⟩ := hP
  have hx := Bd.exec
  have hby := Bd.bytes
  have hml : c.maxLocals = 4 := hml0
  have hown : s.vm.findClass "com/example/tokenwright/tokenwright/store/LogLine" = some m.cls := findClass_of_methodNamed Bd.named
  have hnm := (name_of_methodNamed Bd.named Bd.method).1
  have hlk : meth.locks = false := Bd.notSynchronized
  have X0 : Stand p l e ({ frames := 0, cells := 0, slots := 0, locals := 0 } : Room) s m #[(.ref a1), (.int p2), (.int p3)] below meth c s₁ [] 0 0 := Stand.of_body Bd
  have e0 : s₁.heap = h0 := by rw [← hh, Bd.state]; rfl
  have N0 := Fr.nil n0
  refine own_step (p := p) (e := e) (below := below) (U' := s₁.setTop (mkF m 0 #[.val (.ref a1), .val (.int p2), .val (.int p3), .unset] [])) (fun _ zk => castTop (ef_3 m a1 p2 p3 ) zk) ?_
  refine own_step (fun _ zk => XS.iloadN X0.here hx rfl (hb hby d3_0) rfl zk) ?_
  show own_E p e below _ (s₁.setTop (mkF m 1 #[.val (.ref a1), .val (.int p2), .val (.int p3), .unset] [(.int p2)]))
  refine own_step (fun _ zk => XS.istoreN X0.here hx rfl (hb hby d3_1) rfl (l' := #[.val (.ref a1), .val (.int p2), .val (.int p3), .val (.int p2)]) rfl zk) ?_
  show own_E p e below _ (s₁.setTop (mkF m 2 #[.val (.ref a1), .val (.int p2), .val (.int p3), .val (.int p2)] []))
  have loop : ∀ (r i : Nat), i + r = k + n → own_find g i r = own_find g k n → own_E p e below (fun (U' : State) (o : Outcome) => ∃ v L, o = .returned v ∧ Q3 Z a1 p2 p3 g k n h0 n0 v U'.heap L ∧ FrameEnd s o U' L ({ frames := 0, cells := 0, slots := 0, locals := 0 } : Room).cells ({ frames := 0, cells := 0, slots := 0, locals := 0 } : Room).slots) (s₁.setTop (mkF m 2 #[.val (.ref a1), .val (.int p2), .val (.int p3), .val (.int (Int32.ofNat i))] [])) := by
    intro r
    induction r with
    | zero =>
      intro i hi hf
      have hc4 : ¬ (Int32.ofNat i) < p3 := own_i1 (n := k + n) hn (by omega) (by omega)
      refine own_step (fun _ zk => XS.iloadN X0.here hx rfl (hb hby d3_2) rfl zk) ?_
      show own_E p e below _ (s₁.setTop (mkF m 3 #[.val (.ref a1), .val (.int p2), .val (.int p3), .val (.int (Int32.ofNat i))] [(.int (Int32.ofNat i))]))
      refine own_step (fun _ zk => XS.iloadN X0.here hx rfl (hb hby d3_3) rfl zk) ?_
      show own_E p e below _ (s₁.setTop (mkF m 4 #[.val (.ref a1), .val (.int p2), .val (.int p3), .val (.int (Int32.ofNat i))] [(.int p3), (.int (Int32.ofNat i))]))
      refine own_step (fun _ zk => XS.icmpYes X0.here hx rfl (pc0 := 4) (pc' := 21) rfl (hb hby d3_4) rfl (flt hc4).2.1 (by decide) (by decide) zk) ?_
      show own_E p e below _ (s₁.setTop (mkF m 21 #[.val (.ref a1), .val (.int p2), .val (.int p3), .val (.int (Int32.ofNat i))] []))
      refine own_step (fun _ zk => XS.iloadN X0.here hx rfl (hb hby d3_21) rfl zk) ?_
      show own_E p e below _ (s₁.setTop (mkF m 22 #[.val (.ref a1), .val (.int p2), .val (.int p3), .val (.int (Int32.ofNat i))] [(.int (Int32.ofNat i))]))
      refine own_ret X0 hlk (v := some (.int (Int32.ofNat i))) (fun h => by rw [Bd.returns] at h; cases h) ?_ (by decide) (by decide) (fun fs hr => retI X0 hx Bd.returns (hb hby d3_22) hr)
      show Q3 Z a1 p2 p3 g k n h0 n0 _ s₁.heap _
      rw [e0]
      refine ⟨congrArg (fun z => some (Value.int z)) ?_, N0, rfl⟩
      rw [← hf]; rfl
    | succ r ih =>
      intro i hi hf
      have hc4 : (Int32.ofNat i) < p3 := own_i2 (n := k + n) hn (by omega) (by omega)
      refine own_step (fun _ zk => XS.iloadN X0.here hx rfl (hb hby d3_2) rfl zk) ?_
      show own_E p e below _ (s₁.setTop (mkF m 3 #[.val (.ref a1), .val (.int p2), .val (.int p3), .val (.int (Int32.ofNat i))] [(.int (Int32.ofNat i))]))
      refine own_step (fun _ zk => XS.iloadN X0.here hx rfl (hb hby d3_3) rfl zk) ?_
      show own_E p e below _ (s₁.setTop (mkF m 4 #[.val (.ref a1), .val (.int p2), .val (.int p3), .val (.int (Int32.ofNat i))] [(.int p3), (.int (Int32.ofNat i))]))
      refine own_step (fun _ zk => XS.icmpNo X0.here hx rfl (hb hby d3_4) rfl (tlt hc4).2.1 zk) ?_
      show own_E p e below _ (s₁.setTop (mkF m 7 #[.val (.ref a1), .val (.int p2), .val (.int p3), .val (.int (Int32.ofNat i))] []))
      refine own_step (fun _ zk => XS.aloadN X0.here hx rfl (hb hby d3_7) rfl rfl zk) ?_
      show own_E p e below _ (s₁.setTop (mkF m 8 #[.val (.ref a1), .val (.int p2), .val (.int p3), .val (.int (Int32.ofNat i))] [(.ref a1)]))
      refine own_step (fun _ zk => XS.iloadN X0.here hx rfl (hb hby d3_8) rfl zk) ?_
      show own_E p e below _ (s₁.setTop (mkF m 9 #[.val (.ref a1), .val (.int p2), .val (.int p3), .val (.int (Int32.ofNat i))] [(.int (Int32.ofNat i)), (.ref a1)]))
      refine own_step (fun _ zk => own_ldB X0 hx hZ e0 F i (own_i3 (by omega)) (by omega) (g := (mkF m 9 #[.val (.ref a1), .val (.int p2), .val (.int p3), .val (.int (Int32.ofNat i))] [(.int (Int32.ofNat i)), (.ref a1)])) rfl rfl (hb hby d3_9) zk) ?_
      show own_E p e below _ (s₁.setTop (mkF m 10 #[.val (.ref a1), .val (.int p2), .val (.int p3), .val (.int (Int32.ofNat i))] [(.int (g i))]))
      refine own_step (fun _ zk => XS.bipush X0.here hx rfl (hb hby d3_10) zk) ?_
      show own_E p e below _ (s₁.setTop (mkF m 12 #[.val (.ref a1), .val (.int p2), .val (.int p3), .val (.int (Int32.ofNat i))] [(.int (10 : Int32)), (.int (g i))]))
      by_cases hc12 : (g i) = (10 : Int32)
      · skip
        refine own_step (fun _ zk => XS.icmpYes X0.here hx rfl (pc0 := 12) (pc' := 21) rfl (hb hby d3_12) rfl (teq hc12).1 (by decide) (by decide) zk) ?_
        show own_E p e below _ (s₁.setTop (mkF m 21 #[.val (.ref a1), .val (.int p2), .val (.int p3), .val (.int (Int32.ofNat i))] []))
        refine own_step (fun _ zk => XS.iloadN X0.here hx rfl (hb hby d3_21) rfl zk) ?_
        show own_E p e below _ (s₁.setTop (mkF m 22 #[.val (.ref a1), .val (.int p2), .val (.int p3), .val (.int (Int32.ofNat i))] [(.int (Int32.ofNat i))]))
        refine own_ret X0 hlk (v := some (.int (Int32.ofNat i))) (fun h => by rw [Bd.returns] at h; cases h) ?_ (by decide) (by decide) (fun fs hr => retI X0 hx Bd.returns (hb hby d3_22) hr)
        show Q3 Z a1 p2 p3 g k n h0 n0 _ s₁.heap _
        rw [e0]
        refine ⟨congrArg (fun z => some (Value.int z)) ?_, N0, rfl⟩
        rw [← hf, own_find_yes hc12]
      · skip
        refine own_step (fun _ zk => XS.icmpNo X0.here hx rfl (hb hby d3_12) rfl (feq hc12).1 zk) ?_
        show own_E p e below _ (s₁.setTop (mkF m 15 #[.val (.ref a1), .val (.int p2), .val (.int p3), .val (.int (Int32.ofNat i))] []))
        refine own_step (fun _ zk => XS.iinc X0.here hx rfl (hb hby d3_15) rfl (l' := #[.val (.ref a1), .val (.int p2), .val (.int p3), .val (.int ((Int32.ofNat i) + (1 : Int32)))]) rfl zk) ?_
        show own_E p e below _ (s₁.setTop (mkF m 18 #[.val (.ref a1), .val (.int p2), .val (.int p3), .val (.int ((Int32.ofNat i) + (1 : Int32)))] []))
        refine own_step (fun _ zk => XS.goto X0.here hx rfl (pc0 := 18) (pc' := 2) rfl (hb hby d3_18) (by decide) (by decide) zk) ?_
        show own_E p e below _ (s₁.setTop (mkF m 2 #[.val (.ref a1), .val (.int p2), .val (.int p3), .val (.int ((Int32.ofNat i) + (1 : Int32)))] []))
        rw [show (Int32.ofNat i) + (1 : Int32) = Int32.ofNat (i + 1) from own_succ i]
        exact ih (i + 1) (by omega) (by rw [← hf, own_find_no hc12])
  subst hk
  exact loop n k rfl rfl
theorem pd_0_0 : parseMethodDescriptor "(JII)B" = some ⟨[.long, .int, .int], some .byte⟩ := by decide +kernel
theorem pd_0_1 : parseMethodDescriptor "([BIII)Z" = some ⟨[(.array .byte), .int, .int, .int], some .boolean⟩ := by decide +kernel
theorem pd_0_2 : parseMethodDescriptor "([BII)I" = some ⟨[(.array .byte), .int, .int], some .int⟩ := by decide +kernel
theorem pn_0 : plainName "com/example/tokenwright/tokenwright/store/LogLineEndPinLaw" = true := by first | (simp [plainName, overriddenIn]; done) | decide +kernel
theorem ef_0 (m : MethodId) (p1 : Int64) (p2 : Int32) (p3 : Int32) (p4 : Int32)  : entryFrame m #[(.long p1), (.int p2), (.int p3), (.int p4)] maxLocals = mkF m 0 #[.val (.long p1), .second, .val (.int p2), .val (.int p3), .val (.int p4), .unset, .unset, .unset, .unset, .unset] [] := by first | (simp [entryFrame, mkF, argsToLocals, Value.category, maxLocals]; done) | rfl
def Q0 (Z : State) (p1 : Int64) (p2 : Int32) (p3 : Int32) (p4 : Int32)  (h0 : Heap) (n0 : Nat) (v : Option Value) (h : Heap) (L : List Loc) : Prop := v = some (.int 1) ∧ Fr n0 L
set_option maxRecDepth 65536 in
set_option maxHeartbeats 40000000 in
theorem rm0 (l : Launch) (Z : State) (a0 : Array Value) (hw : ∀ d ∈ tables_1, d.before a0 Z = true) (ws : List Jvm.Cond) (p1 : Int64) (p2 : Int32) (p3 : Int32) (p4 : Int32)  (h0 : Heap) (n0 : Nat) (Z0 : n0 ≤ h0.size)  :
    MetFree l x (head1 (Jvm.Cond.code x code maxLocals ret :: ws) room_1) (fun a U => a = #[(.long p1), (.int p2), (.int p3), (.int p4)] ∧ Z.Warmed39 U.vm ∧ U.heap = h0) (fun _ _ _ _ _ => True) (fun _ U o U' => ∃ v L, o = .returned v ∧ Q0 Z p1 p2 p3 p4 h0 n0 v U'.heap L ∧ FrameEnd U o U' L room_1.cells room_1.slots) := by
  refine MetFree.of_bodySF (plainFor_of_name pn_0) hisR ?_
  intro p e s m args below meth c s₁ Bd hml0 hP hK
  obtain ⟨rfl, hZ, hh⟩ := hP
  have hx := Bd.exec
  have hby := Bd.bytes
  have hml : c.maxLocals = 10 := hml0
  have hown : s.vm.findClass "com/example/tokenwright/tokenwright/store/LogLineEndPinLaw" = some m.cls := findClass_of_methodNamed Bd.named
  have hnm := (name_of_methodNamed Bd.named Bd.method).1
  have hlk : meth.locks = false := Bd.notSynchronized
  have X0 : Stand p l e room_1 s m #[(.long p1), (.int p2), (.int p3), (.int p4)] below meth c s₁ [] 0 0 := Stand.of_body Bd
  have e0 : s₁.heap = h0 := by rw [← hh, Bd.state]; rfl
  have N0 := Fr.nil n0
  refine own_step (p := p) (e := e) (below := below) (U' := s₁.setTop (mkF m 0 #[.val (.long p1), .second, .val (.int p2), .val (.int p3), .val (.int p4), .unset, .unset, .unset, .unset, .unset] [])) (fun _ zk => castTop (ef_0 m p1 p2 p3 p4 ) zk) ?_
  have K_0 : Keep h0 h0 [] := Keep.refl _ _
  refine own_step (fun _ zk => XS.bipush X0.here hx rfl (hb hby at_0) zk) ?_
  show own_E p e below _ (s₁.setTop (mkF m 2 #[.val (.long p1), .second, .val (.int p2), .val (.int p3), .val (.int p4), .unset, .unset, .unset, .unset, .unset] [(.int (6 : Int32))]))
  obtain ⟨T1, h1, c1, X1, e1, E1, A1, st1⟩ := newP X0 hx hZ (hw _ (List.mem_of_getElem? (i := 0) rfl)) e0 (g := (mkF m 2 #[.val (.long p1), .second, .val (.int p2), .val (.int p3), .val (.int p4), .unset, .unset, .unset, .unset, .unset] [(.int (6 : Int32))])) rfl (hb hby at_2) rfl (by decide) (cap := 6) (by decide) (by decide) (by decide) (by decide) 
  obtain ⟨b, g_b⟩ : ∃ z, z = h0.size := ⟨_, rfl⟩
  rw [← g_b] at A1 st1
  have gh_b : h0.size ≤ b := Nat.le_trans K_0.1 (Nat.le_of_eq g_b.symm)
  have ge_b : n0 ≤ b := Nat.le_trans Z0 gh_b
  have K_1 := Keep.ext K_0 E1
  have A_1 : own_A Z h1 b .byte 6 (fun _ => defaultValue .byte) := own_A_new A1 (by decide)
  refine own_step st1 ?_
  show own_E p e below _ (T1.setTop (mkF m 4 #[.val (.long p1), .second, .val (.int p2), .val (.int p3), .val (.int p4), .unset, .unset, .unset, .unset, .unset] [(.ref b)]))
  refine own_step (fun _ zk => XS.astore X1.here hx rfl (hb hby at_4) rfl rfl (l' := #[.val (.long p1), .second, .val (.int p2), .val (.int p3), .val (.int p4), .val (.ref b), .unset, .unset, .unset, .unset]) rfl zk) ?_
  show own_E p e below _ (T1.setTop (mkF m 6 #[.val (.long p1), .second, .val (.int p2), .val (.int p3), .val (.int p4), .val (.ref b), .unset, .unset, .unset, .unset] []))
  refine own_step (fun _ zk => XS.aload X1.here hx rfl (hb hby at_6) rfl rfl zk) ?_
  show own_E p e below _ (T1.setTop (mkF m 8 #[.val (.long p1), .second, .val (.int p2), .val (.int p3), .val (.int p4), .val (.ref b), .unset, .unset, .unset, .unset] [(.ref b)]))
  refine own_step (fun _ zk => XS.iconst X1.here hx rfl (hb hby at_8) zk) ?_
  show own_E p e below _ (T1.setTop (mkF m 9 #[.val (.long p1), .second, .val (.int p2), .val (.int p3), .val (.int p4), .val (.ref b), .unset, .unset, .unset, .unset] [(.int (0 : Int32)), (.ref b)]))
  refine own_step (fun _ zk => Jvm.Free.XT.lloadN X1.here hx rfl (hb hby at_9) rfl zk) ?_
  show own_E p e below _ (T1.setTop (mkF m 10 #[.val (.long p1), .second, .val (.int p2), .val (.int p3), .val (.int p4), .val (.ref b), .unset, .unset, .unset, .unset] [(.long p1), (.int (0 : Int32)), (.ref b)]))
  refine own_step (fun _ zk => XS.iloadN X1.here hx rfl (hb hby at_10) rfl zk) ?_
  show own_E p e below _ (T1.setTop (mkF m 11 #[.val (.long p1), .second, .val (.int p2), .val (.int p3), .val (.int p4), .val (.ref b), .unset, .unset, .unset, .unset] [(.int p2), (.long p1), (.int (0 : Int32)), (.ref b)]))
  refine own_step (fun _ zk => XS.iconst X1.here hx rfl (hb hby at_11) zk) ?_
  show own_E p e below _ (T1.setTop (mkF m 12 #[.val (.long p1), .second, .val (.int p2), .val (.int p3), .val (.int p4), .val (.ref b), .unset, .unset, .unset, .unset] [(.int (0 : Int32)), (.int p2), (.long p1), (.int (0 : Int32)), (.ref b)]))
  obtain ⟨_, _, ⟨T2, L2, k2, n2⟩, -, X2, ⟨Lc2, hQ2, l2, y2, z2⟩, st2⟩ := Jvm.LawKit.callS X1 hx (y := (⟨"com/example/tokenwright/tokenwright/store/LogLineEndPinLaw", "pick", "(JII)B"⟩ : MethodName)) hown (mvT hZ (hw _ (List.mem_of_getElem? (i := 1) rfl))) (mvT hZ (hw _ (List.mem_of_getElem? (i := 2) rfl))) (mvT hZ (hw _ (List.mem_of_getElem? (i := 3) rfl))) (mvT hZ (hw _ (List.mem_of_getElem? (i := 4) rfl))) (by decide) (backOf (W := 2) (rm1 l Z a0 hw [] p1 p2 (0 : Int32)  h1 n0 (Nat.le_trans Z0 K_1.1)) hZ (hw _ (List.mem_of_getElem? (i := 4) rfl)) (hw _ (List.mem_of_getElem? (i := 3) rfl)) (by decide) (by decide)) (g := (mkF m 12 #[.val (.long p1), .second, .val (.int p2), .val (.int p3), .val (.int p4), .val (.ref b), .unset, .unset, .unset, .unset] [(.int (0 : Int32)), (.int p2), (.long p1), (.int (0 : Int32)), (.ref b)])) rfl (by rw [hml]; rfl) (argsL := [(.long p1), (.int p2), (.int (0 : Int32))]) (rest := [(.int (0 : Int32)), (.ref b)]) (lenOf pd_0_0 rfl) rfl (by show 2 * 0 + _ ≤ _; exact Nat.le_of_eq rfl) (hb hby at_12) (fun _ _ => ⟨rfl, e1, (by decide : 1 + 0 ≤ _), (by decide : 6 + 0 ≤ _)⟩)
  dsimp only [Pt.U, Pt.locs, Pt.cells, Pt.slots] at X2 l2 y2 z2 st2 hQ2
  subst l2 y2 z2
  obtain ⟨rfl, N2q, e2⟩ := hQ2
  have N2 := Fr.app N0 N2q
  refine own_step (st2) ?_
  show own_E p e below _ (T2.setTop (mkF m 15 #[.val (.long p1), .second, .val (.int p2), .val (.int p3), .val (.int p4), .val (.ref b), .unset, .unset, .unset, .unset] [(.int (own_pk p1 p2 (0 : Int32))), (.int (0 : Int32)), (.ref b)]))
  obtain ⟨T3, h3, X3, e3, W3, st3⟩ := own_stB X2 hx hZ e2 A_1 0 (by decide) (by decide) (g := (mkF m 15 #[.val (.long p1), .second, .val (.int p2), .val (.int p3), .val (.int p4), .val (.ref b), .unset, .unset, .unset, .unset] [(.int (own_pk p1 p2 (0 : Int32))), (.int (0 : Int32)), (.ref b)])) rfl rfl (hb hby at_15)
  have N3 := Fr.snoc X3 N2 ge_b
  have A_3 := own_A_set W3 A_1
  have K_3 := Keep.wr K_1 W3 (Or.inr gh_b)
  refine own_step st3 ?_
  show own_E p e below _ (T3.setTop (mkF m 16 #[.val (.long p1), .second, .val (.int p2), .val (.int p3), .val (.int p4), .val (.ref b), .unset, .unset, .unset, .unset] []))
  refine own_step (fun _ zk => XS.aload X3.here hx rfl (hb hby at_16) rfl rfl zk) ?_
  show own_E p e below _ (T3.setTop (mkF m 18 #[.val (.long p1), .second, .val (.int p2), .val (.int p3), .val (.int p4), .val (.ref b), .unset, .unset, .unset, .unset] [(.ref b)]))
  refine own_step (fun _ zk => XS.iconst X3.here hx rfl (hb hby at_18) zk) ?_
  show own_E p e below _ (T3.setTop (mkF m 19 #[.val (.long p1), .second, .val (.int p2), .val (.int p3), .val (.int p4), .val (.ref b), .unset, .unset, .unset, .unset] [(.int (1 : Int32)), (.ref b)]))
  refine own_step (fun _ zk => Jvm.Free.XT.lloadN X3.here hx rfl (hb hby at_19) rfl zk) ?_
  show own_E p e below _ (T3.setTop (mkF m 20 #[.val (.long p1), .second, .val (.int p2), .val (.int p3), .val (.int p4), .val (.ref b), .unset, .unset, .unset, .unset] [(.long p1), (.int (1 : Int32)), (.ref b)]))
  refine own_step (fun _ zk => XS.iloadN X3.here hx rfl (hb hby at_20) rfl zk) ?_
  show own_E p e below _ (T3.setTop (mkF m 21 #[.val (.long p1), .second, .val (.int p2), .val (.int p3), .val (.int p4), .val (.ref b), .unset, .unset, .unset, .unset] [(.int p2), (.long p1), (.int (1 : Int32)), (.ref b)]))
  refine own_step (fun _ zk => XS.iconst X3.here hx rfl (hb hby at_21) zk) ?_
  show own_E p e below _ (T3.setTop (mkF m 22 #[.val (.long p1), .second, .val (.int p2), .val (.int p3), .val (.int p4), .val (.ref b), .unset, .unset, .unset, .unset] [(.int (1 : Int32)), (.int p2), (.long p1), (.int (1 : Int32)), (.ref b)]))
  obtain ⟨_, _, ⟨T4, L4, k4, n4⟩, -, X4, ⟨Lc4, hQ4, l4, y4, z4⟩, st4⟩ := Jvm.LawKit.callS X3 hx (y := (⟨"com/example/tokenwright/tokenwright/store/LogLineEndPinLaw", "pick", "(JII)B"⟩ : MethodName)) hown (mvT hZ (hw _ (List.mem_of_getElem? (i := 1) rfl))) (mvT hZ (hw _ (List.mem_of_getElem? (i := 2) rfl))) (mvT hZ (hw _ (List.mem_of_getElem? (i := 3) rfl))) (mvT hZ (hw _ (List.mem_of_getElem? (i := 4) rfl))) (by decide) (backOf (W := 2) (rm1 l Z a0 hw [] p1 p2 (1 : Int32)  h3 n0 (Nat.le_trans Z0 K_3.1)) hZ (hw _ (List.mem_of_getElem? (i := 4) rfl)) (hw _ (List.mem_of_getElem? (i := 3) rfl)) (by decide) (by decide)) (g := (mkF m 22 #[.val (.long p1), .second, .val (.int p2), .val (.int p3), .val (.int p4), .val (.ref b), .unset, .unset, .unset, .unset] [(.int (1 : Int32)), (.int p2), (.long p1), (.int (1 : Int32)), (.ref b)])) rfl (by rw [hml]; rfl) (argsL := [(.long p1), (.int p2), (.int (1 : Int32))]) (rest := [(.int (1 : Int32)), (.ref b)]) (lenOf pd_0_0 rfl) rfl (by show 2 * 0 + _ ≤ _; exact Nat.le_of_eq rfl) (hb hby at_22) (fun _ _ => ⟨rfl, e3, (by decide : 1 + 0 ≤ _), (by decide : 6 + 0 ≤ _)⟩)
  dsimp only [Pt.U, Pt.locs, Pt.cells, Pt.slots] at X4 l4 y4 z4 st4 hQ4
  subst l4 y4 z4
  obtain ⟨rfl, N4q, e4⟩ := hQ4
  have N4 := Fr.app N3 N4q
  refine own_step (st4) ?_
  show own_E p e below _ (T4.setTop (mkF m 25 #[.val (.long p1), .second, .val (.int p2), .val (.int p3), .val (.int p4), .val (.ref b), .unset, .unset, .unset, .unset] [(.int (own_pk p1 p2 (1 : Int32))), (.int (1 : Int32)), (.ref b)]))
  obtain ⟨T5, h5, X5, e5, W5, st5⟩ := own_stB X4 hx hZ e4 A_3 1 (by decide) (by decide) (g := (mkF m 25 #[.val (.long p1), .second, .val (.int p2), .val (.int p3), .val (.int p4), .val (.ref b), .unset, .unset, .unset, .unset] [(.int (own_pk p1 p2 (1 : Int32))), (.int (1 : Int32)), (.ref b)])) rfl rfl (hb hby at_25)
  have N5 := Fr.snoc X5 N4 ge_b
  have A_5 := own_A_set W5 A_3
  have K_5 := Keep.wr K_3 W5 (Or.inr gh_b)
  refine own_step st5 ?_
  show own_E p e below _ (T5.setTop (mkF m 26 #[.val (.long p1), .second, .val (.int p2), .val (.int p3), .val (.int p4), .val (.ref b), .unset, .unset, .unset, .unset] []))
  refine own_step (fun _ zk => XS.aload X5.here hx rfl (hb hby at_26) rfl rfl zk) ?_
  show own_E p e below _ (T5.setTop (mkF m 28 #[.val (.long p1), .second, .val (.int p2), .val (.int p3), .val (.int p4), .val (.ref b), .unset, .unset, .unset, .unset] [(.ref b)]))
  refine own_step (fun _ zk => XS.iconst X5.here hx rfl (hb hby at_28) zk) ?_
  show own_E p e below _ (T5.setTop (mkF m 29 #[.val (.long p1), .second, .val (.int p2), .val (.int p3), .val (.int p4), .val (.ref b), .unset, .unset, .unset, .unset] [(.int (2 : Int32)), (.ref b)]))
  refine own_step (fun _ zk => Jvm.Free.XT.lloadN X5.here hx rfl (hb hby at_29) rfl zk) ?_
  show own_E p e below _ (T5.setTop (mkF m 30 #[.val (.long p1), .second, .val (.int p2), .val (.int p3), .val (.int p4), .val (.ref b), .unset, .unset, .unset, .unset] [(.long p1), (.int (2 : Int32)), (.ref b)]))
  refine own_step (fun _ zk => XS.iloadN X5.here hx rfl (hb hby at_30) rfl zk) ?_
  show own_E p e below _ (T5.setTop (mkF m 31 #[.val (.long p1), .second, .val (.int p2), .val (.int p3), .val (.int p4), .val (.ref b), .unset, .unset, .unset, .unset] [(.int p2), (.long p1), (.int (2 : Int32)), (.ref b)]))
  refine own_step (fun _ zk => XS.iconst X5.here hx rfl (hb hby at_31) zk) ?_
  show own_E p e below _ (T5.setTop (mkF m 32 #[.val (.long p1), .second, .val (.int p2), .val (.int p3), .val (.int p4), .val (.ref b), .unset, .unset, .unset, .unset] [(.int (2 : Int32)), (.int p2), (.long p1), (.int (2 : Int32)), (.ref b)]))
  obtain ⟨_, _, ⟨T6, L6, k6, n6⟩, -, X6, ⟨Lc6, hQ6, l6, y6, z6⟩, st6⟩ := Jvm.LawKit.callS X5 hx (y := (⟨"com/example/tokenwright/tokenwright/store/LogLineEndPinLaw", "pick", "(JII)B"⟩ : MethodName)) hown (mvT hZ (hw _ (List.mem_of_getElem? (i := 1) rfl))) (mvT hZ (hw _ (List.mem_of_getElem? (i := 2) rfl))) (mvT hZ (hw _ (List.mem_of_getElem? (i := 3) rfl))) (mvT hZ (hw _ (List.mem_of_getElem? (i := 4) rfl))) (by decide) (backOf (W := 2) (rm1 l Z a0 hw [] p1 p2 (2 : Int32)  h5 n0 (Nat.le_trans Z0 K_5.1)) hZ (hw _ (List.mem_of_getElem? (i := 4) rfl)) (hw _ (List.mem_of_getElem? (i := 3) rfl)) (by decide) (by decide)) (g := (mkF m 32 #[.val (.long p1), .second, .val (.int p2), .val (.int p3), .val (.int p4), .val (.ref b), .unset, .unset, .unset, .unset] [(.int (2 : Int32)), (.int p2), (.long p1), (.int (2 : Int32)), (.ref b)])) rfl (by rw [hml]; rfl) (argsL := [(.long p1), (.int p2), (.int (2 : Int32))]) (rest := [(.int (2 : Int32)), (.ref b)]) (lenOf pd_0_0 rfl) rfl (by show 2 * 0 + _ ≤ _; exact Nat.le_of_eq rfl) (hb hby at_32) (fun _ _ => ⟨rfl, e5, (by decide : 1 + 0 ≤ _), (by decide : 6 + 0 ≤ _)⟩)
  dsimp only [Pt.U, Pt.locs, Pt.cells, Pt.slots] at X6 l6 y6 z6 st6 hQ6
  subst l6 y6 z6
  obtain ⟨rfl, N6q, e6⟩ := hQ6
  have N6 := Fr.app N5 N6q
  refine own_step (st6) ?_
  show own_E p e below _ (T6.setTop (mkF m 35 #[.val (.long p1), .second, .val (.int p2), .val (.int p3), .val (.int p4), .val (.ref b), .unset, .unset, .unset, .unset] [(.int (own_pk p1 p2 (2 : Int32))), (.int (2 : Int32)), (.ref b)]))
  obtain ⟨T7, h7, X7, e7, W7, st7⟩ := own_stB X6 hx hZ e6 A_5 2 (by decide) (by decide) (g := (mkF m 35 #[.val (.long p1), .second, .val (.int p2), .val (.int p3), .val (.int p4), .val (.ref b), .unset, .unset, .unset, .unset] [(.int (own_pk p1 p2 (2 : Int32))), (.int (2 : Int32)), (.ref b)])) rfl rfl (hb hby at_35)
  have N7 := Fr.snoc X7 N6 ge_b
  have A_7 := own_A_set W7 A_5
  have K_7 := Keep.wr K_5 W7 (Or.inr gh_b)
  refine own_step st7 ?_
  show own_E p e below _ (T7.setTop (mkF m 36 #[.val (.long p1), .second, .val (.int p2), .val (.int p3), .val (.int p4), .val (.ref b), .unset, .unset, .unset, .unset] []))
  refine own_step (fun _ zk => XS.aload X7.here hx rfl (hb hby at_36) rfl rfl zk) ?_
  show own_E p e below _ (T7.setTop (mkF m 38 #[.val (.long p1), .second, .val (.int p2), .val (.int p3), .val (.int p4), .val (.ref b), .unset, .unset, .unset, .unset] [(.ref b)]))
  refine own_step (fun _ zk => XS.iconst X7.here hx rfl (hb hby at_38) zk) ?_
  show own_E p e below _ (T7.setTop (mkF m 39 #[.val (.long p1), .second, .val (.int p2), .val (.int p3), .val (.int p4), .val (.ref b), .unset, .unset, .unset, .unset] [(.int (3 : Int32)), (.ref b)]))
  refine own_step (fun _ zk => Jvm.Free.XT.lloadN X7.here hx rfl (hb hby at_39) rfl zk) ?_
  show own_E p e below _ (T7.setTop (mkF m 40 #[.val (.long p1), .second, .val (.int p2), .val (.int p3), .val (.int p4), .val (.ref b), .unset, .unset, .unset, .unset] [(.long p1), (.int (3 : Int32)), (.ref b)]))
  refine own_step (fun _ zk => XS.iloadN X7.here hx rfl (hb hby at_40) rfl zk) ?_
  show own_E p e below _ (T7.setTop (mkF m 41 #[.val (.long p1), .second, .val (.int p2), .val (.int p3), .val (.int p4), .val (.ref b), .unset, .unset, .unset, .unset] [(.int p2), (.long p1), (.int (3 : Int32)), (.ref b)]))
  refine own_step (fun _ zk => XS.iconst X7.here hx rfl (hb hby at_41) zk) ?_
  show own_E p e below _ (T7.setTop (mkF m 42 #[.val (.long p1), .second, .val (.int p2), .val (.int p3), .val (.int p4), .val (.ref b), .unset, .unset, .unset, .unset] [(.int (3 : Int32)), (.int p2), (.long p1), (.int (3 : Int32)), (.ref b)]))
  obtain ⟨_, _, ⟨T8, L8, k8, n8⟩, -, X8, ⟨Lc8, hQ8, l8, y8, z8⟩, st8⟩ := Jvm.LawKit.callS X7 hx (y := (⟨"com/example/tokenwright/tokenwright/store/LogLineEndPinLaw", "pick", "(JII)B"⟩ : MethodName)) hown (mvT hZ (hw _ (List.mem_of_getElem? (i := 1) rfl))) (mvT hZ (hw _ (List.mem_of_getElem? (i := 2) rfl))) (mvT hZ (hw _ (List.mem_of_getElem? (i := 3) rfl))) (mvT hZ (hw _ (List.mem_of_getElem? (i := 4) rfl))) (by decide) (backOf (W := 2) (rm1 l Z a0 hw [] p1 p2 (3 : Int32)  h7 n0 (Nat.le_trans Z0 K_7.1)) hZ (hw _ (List.mem_of_getElem? (i := 4) rfl)) (hw _ (List.mem_of_getElem? (i := 3) rfl)) (by decide) (by decide)) (g := (mkF m 42 #[.val (.long p1), .second, .val (.int p2), .val (.int p3), .val (.int p4), .val (.ref b), .unset, .unset, .unset, .unset] [(.int (3 : Int32)), (.int p2), (.long p1), (.int (3 : Int32)), (.ref b)])) rfl (by rw [hml]; rfl) (argsL := [(.long p1), (.int p2), (.int (3 : Int32))]) (rest := [(.int (3 : Int32)), (.ref b)]) (lenOf pd_0_0 rfl) rfl (by show 2 * 0 + _ ≤ _; exact Nat.le_of_eq rfl) (hb hby at_42) (fun _ _ => ⟨rfl, e7, (by decide : 1 + 0 ≤ _), (by decide : 6 + 0 ≤ _)⟩)
  dsimp only [Pt.U, Pt.locs, Pt.cells, Pt.slots] at X8 l8 y8 z8 st8 hQ8
  subst l8 y8 z8
  obtain ⟨rfl, N8q, e8⟩ := hQ8
  have N8 := Fr.app N7 N8q
  refine own_step (st8) ?_
  show own_E p e below _ (T8.setTop (mkF m 45 #[.val (.long p1), .second, .val (.int p2), .val (.int p3), .val (.int p4), .val (.ref b), .unset, .unset, .unset, .unset] [(.int (own_pk p1 p2 (3 : Int32))), (.int (3 : Int32)), (.ref b)]))
  obtain ⟨T9, h9, X9, e9, W9, st9⟩ := own_stB X8 hx hZ e8 A_7 3 (by decide) (by decide) (g := (mkF m 45 #[.val (.long p1), .second, .val (.int p2), .val (.int p3), .val (.int p4), .val (.ref b), .unset, .unset, .unset, .unset] [(.int (own_pk p1 p2 (3 : Int32))), (.int (3 : Int32)), (.ref b)])) rfl rfl (hb hby at_45)
  have N9 := Fr.snoc X9 N8 ge_b
  have A_9 := own_A_set W9 A_7
  have K_9 := Keep.wr K_7 W9 (Or.inr gh_b)
  refine own_step st9 ?_
  show own_E p e below _ (T9.setTop (mkF m 46 #[.val (.long p1), .second, .val (.int p2), .val (.int p3), .val (.int p4), .val (.ref b), .unset, .unset, .unset, .unset] []))
  refine own_step (fun _ zk => XS.aload X9.here hx rfl (hb hby at_46) rfl rfl zk) ?_
  show own_E p e below _ (T9.setTop (mkF m 48 #[.val (.long p1), .second, .val (.int p2), .val (.int p3), .val (.int p4), .val (.ref b), .unset, .unset, .unset, .unset] [(.ref b)]))
  refine own_step (fun _ zk => XS.iconst X9.here hx rfl (hb hby at_48) zk) ?_
  show own_E p e below _ (T9.setTop (mkF m 49 #[.val (.long p1), .second, .val (.int p2), .val (.int p3), .val (.int p4), .val (.ref b), .unset, .unset, .unset, .unset] [(.int (4 : Int32)), (.ref b)]))
  refine own_step (fun _ zk => Jvm.Free.XT.lloadN X9.here hx rfl (hb hby at_49) rfl zk) ?_
  show own_E p e below _ (T9.setTop (mkF m 50 #[.val (.long p1), .second, .val (.int p2), .val (.int p3), .val (.int p4), .val (.ref b), .unset, .unset, .unset, .unset] [(.long p1), (.int (4 : Int32)), (.ref b)]))
  refine own_step (fun _ zk => XS.iloadN X9.here hx rfl (hb hby at_50) rfl zk) ?_
  show own_E p e below _ (T9.setTop (mkF m 51 #[.val (.long p1), .second, .val (.int p2), .val (.int p3), .val (.int p4), .val (.ref b), .unset, .unset, .unset, .unset] [(.int p2), (.long p1), (.int (4 : Int32)), (.ref b)]))
  refine own_step (fun _ zk => XS.iconst X9.here hx rfl (hb hby at_51) zk) ?_
  show own_E p e below _ (T9.setTop (mkF m 52 #[.val (.long p1), .second, .val (.int p2), .val (.int p3), .val (.int p4), .val (.ref b), .unset, .unset, .unset, .unset] [(.int (4 : Int32)), (.int p2), (.long p1), (.int (4 : Int32)), (.ref b)]))
  obtain ⟨_, _, ⟨T10, L10, k10, n10⟩, -, X10, ⟨Lc10, hQ10, l10, y10, z10⟩, st10⟩ := Jvm.LawKit.callS X9 hx (y := (⟨"com/example/tokenwright/tokenwright/store/LogLineEndPinLaw", "pick", "(JII)B"⟩ : MethodName)) hown (mvT hZ (hw _ (List.mem_of_getElem? (i := 1) rfl))) (mvT hZ (hw _ (List.mem_of_getElem? (i := 2) rfl))) (mvT hZ (hw _ (List.mem_of_getElem? (i := 3) rfl))) (mvT hZ (hw _ (List.mem_of_getElem? (i := 4) rfl))) (by decide) (backOf (W := 2) (rm1 l Z a0 hw [] p1 p2 (4 : Int32)  h9 n0 (Nat.le_trans Z0 K_9.1)) hZ (hw _ (List.mem_of_getElem? (i := 4) rfl)) (hw _ (List.mem_of_getElem? (i := 3) rfl)) (by decide) (by decide)) (g := (mkF m 52 #[.val (.long p1), .second, .val (.int p2), .val (.int p3), .val (.int p4), .val (.ref b), .unset, .unset, .unset, .unset] [(.int (4 : Int32)), (.int p2), (.long p1), (.int (4 : Int32)), (.ref b)])) rfl (by rw [hml]; rfl) (argsL := [(.long p1), (.int p2), (.int (4 : Int32))]) (rest := [(.int (4 : Int32)), (.ref b)]) (lenOf pd_0_0 rfl) rfl (by show 2 * 0 + _ ≤ _; exact Nat.le_of_eq rfl) (hb hby at_52) (fun _ _ => ⟨rfl, e9, (by decide : 1 + 0 ≤ _), (by decide : 6 + 0 ≤ _)⟩)
  dsimp only [Pt.U, Pt.locs, Pt.cells, Pt.slots] at X10 l10 y10 z10 st10 hQ10
  subst l10 y10 z10
  obtain ⟨rfl, N10q, e10⟩ := hQ10
  have N10 := Fr.app N9 N10q
  refine own_step (st10) ?_
  show own_E p e below _ (T10.setTop (mkF m 55 #[.val (.long p1), .second, .val (.int p2), .val (.int p3), .val (.int p4), .val (.ref b), .unset, .unset, .unset, .unset] [(.int (own_pk p1 p2 (4 : Int32))), (.int (4 : Int32)), (.ref b)]))
  obtain ⟨T11, h11, X11, e11, W11, st11⟩ := own_stB X10 hx hZ e10 A_9 4 (by decide) (by decide) (g := (mkF m 55 #[.val (.long p1), .second, .val (.int p2), .val (.int p3), .val (.int p4), .val (.ref b), .unset, .unset, .unset, .unset] [(.int (own_pk p1 p2 (4 : Int32))), (.int (4 : Int32)), (.ref b)])) rfl rfl (hb hby at_55)
  have N11 := Fr.snoc X11 N10 ge_b
  have A_11 := own_A_set W11 A_9
  have K_11 := Keep.wr K_9 W11 (Or.inr gh_b)
  refine own_step st11 ?_
  show own_E p e below _ (T11.setTop (mkF m 56 #[.val (.long p1), .second, .val (.int p2), .val (.int p3), .val (.int p4), .val (.ref b), .unset, .unset, .unset, .unset] []))
  refine own_step (fun _ zk => XS.aload X11.here hx rfl (hb hby at_56) rfl rfl zk) ?_
  show own_E p e below _ (T11.setTop (mkF m 58 #[.val (.long p1), .second, .val (.int p2), .val (.int p3), .val (.int p4), .val (.ref b), .unset, .unset, .unset, .unset] [(.ref b)]))
  refine own_step (fun _ zk => XS.iconst X11.here hx rfl (hb hby at_58) zk) ?_
  show own_E p e below _ (T11.setTop (mkF m 59 #[.val (.long p1), .second, .val (.int p2), .val (.int p3), .val (.int p4), .val (.ref b), .unset, .unset, .unset, .unset] [(.int (5 : Int32)), (.ref b)]))
  refine own_step (fun _ zk => Jvm.Free.XT.lloadN X11.here hx rfl (hb hby at_59) rfl zk) ?_
  show own_E p e below _ (T11.setTop (mkF m 60 #[.val (.long p1), .second, .val (.int p2), .val (.int p3), .val (.int p4), .val (.ref b), .unset, .unset, .unset, .unset] [(.long p1), (.int (5 : Int32)), (.ref b)]))
  refine own_step (fun _ zk => XS.iloadN X11.here hx rfl (hb hby at_60) rfl zk) ?_
  show own_E p e below _ (T11.setTop (mkF m 61 #[.val (.long p1), .second, .val (.int p2), .val (.int p3), .val (.int p4), .val (.ref b), .unset, .unset, .unset, .unset] [(.int p2), (.long p1), (.int (5 : Int32)), (.ref b)]))
  refine own_step (fun _ zk => XS.iconst X11.here hx rfl (hb hby at_61) zk) ?_
  show own_E p e below _ (T11.setTop (mkF m 62 #[.val (.long p1), .second, .val (.int p2), .val (.int p3), .val (.int p4), .val (.ref b), .unset, .unset, .unset, .unset] [(.int (5 : Int32)), (.int p2), (.long p1), (.int (5 : Int32)), (.ref b)]))
  obtain ⟨_, _, ⟨T12, L12, k12, n12⟩, -, X12, ⟨Lc12, hQ12, l12, y12, z12⟩, st12⟩ := Jvm.LawKit.callS X11 hx (y := (⟨"com/example/tokenwright/tokenwright/store/LogLineEndPinLaw", "pick", "(JII)B"⟩ : MethodName)) hown (mvT hZ (hw _ (List.mem_of_getElem? (i := 1) rfl))) (mvT hZ (hw _ (List.mem_of_getElem? (i := 2) rfl))) (mvT hZ (hw _ (List.mem_of_getElem? (i := 3) rfl))) (mvT hZ (hw _ (List.mem_of_getElem? (i := 4) rfl))) (by decide) (backOf (W := 2) (rm1 l Z a0 hw [] p1 p2 (5 : Int32)  h11 n0 (Nat.le_trans Z0 K_11.1)) hZ (hw _ (List.mem_of_getElem? (i := 4) rfl)) (hw _ (List.mem_of_getElem? (i := 3) rfl)) (by decide) (by decide)) (g := (mkF m 62 #[.val (.long p1), .second, .val (.int p2), .val (.int p3), .val (.int p4), .val (.ref b), .unset, .unset, .unset, .unset] [(.int (5 : Int32)), (.int p2), (.long p1), (.int (5 : Int32)), (.ref b)])) rfl (by rw [hml]; rfl) (argsL := [(.long p1), (.int p2), (.int (5 : Int32))]) (rest := [(.int (5 : Int32)), (.ref b)]) (lenOf pd_0_0 rfl) rfl (by show 2 * 0 + _ ≤ _; exact Nat.le_of_eq rfl) (hb hby at_62) (fun _ _ => ⟨rfl, e11, (by decide : 1 + 0 ≤ _), (by decide : 6 + 0 ≤ _)⟩)
  dsimp only [Pt.U, Pt.locs, Pt.cells, Pt.slots] at X12 l12 y12 z12 st12 hQ12
  subst l12 y12 z12
  obtain ⟨rfl, N12q, e12⟩ := hQ12
  have N12 := Fr.app N11 N12q
  refine own_step (st12) ?_
  show own_E p e below _ (T12.setTop (mkF m 65 #[.val (.long p1), .second, .val (.int p2), .val (.int p3), .val (.int p4), .val (.ref b), .unset, .unset, .unset, .unset] [(.int (own_pk p1 p2 (5 : Int32))), (.int (5 : Int32)), (.ref b)]))
  obtain ⟨T13, h13, X13, e13, W13, st13⟩ := own_stB X12 hx hZ e12 A_11 5 (by decide) (by decide) (g := (mkF m 65 #[.val (.long p1), .second, .val (.int p2), .val (.int p3), .val (.int p4), .val (.ref b), .unset, .unset, .unset, .unset] [(.int (own_pk p1 p2 (5 : Int32))), (.int (5 : Int32)), (.ref b)])) rfl rfl (hb hby at_65)
  have N13 := Fr.snoc X13 N12 ge_b
  have A_13 := own_A_set W13 A_11
  have K_13 := Keep.wr K_11 W13 (Or.inr gh_b)
  refine own_step st13 ?_
  show own_E p e below _ (T13.setTop (mkF m 66 #[.val (.long p1), .second, .val (.int p2), .val (.int p3), .val (.int p4), .val (.ref b), .unset, .unset, .unset, .unset] []))
  obtain ⟨g, hg⟩ := own_bytes A_13 (fun j => by (repeat' split) <;> exact ⟨_, rfl⟩)
  refine own_step (fun _ zk => XS.iload X13.here hx rfl (hb hby at_66) rfl zk) ?_
  show own_E p e below _ (T13.setTop (mkF m 68 #[.val (.long p1), .second, .val (.int p2), .val (.int p3), .val (.int p4), .val (.ref b), .unset, .unset, .unset, .unset] [(.int p4)]))
  refine own_step (fun _ zk => X13.ldcInt hx (v := 2147483647) hown (mvT hZ (hw _ (List.mem_of_getElem? (i := 5) rfl))) (g := (mkF m 68 #[.val (.long p1), .second, .val (.int p2), .val (.int p3), .val (.int p4), .val (.ref b), .unset, .unset, .unset, .unset] [(.int p4)])) rfl (hb hby at_68) _ zk) ?_
  show own_E p e below _ (T13.setTop (mkF m 70 #[.val (.long p1), .second, .val (.int p2), .val (.int p3), .val (.int p4), .val (.ref b), .unset, .unset, .unset, .unset] [(.int (2147483647 : Int32)), (.int p4)]))
  refine own_step (fun _ zk => XS.iand X13.here hx rfl (hb hby at_70) rfl zk) ?_
  show own_E p e below _ (T13.setTop (mkF m 71 #[.val (.long p1), .second, .val (.int p2), .val (.int p3), .val (.int p4), .val (.ref b), .unset, .unset, .unset, .unset] [(.int (p4 &&& (2147483647 : Int32)))]))
  refine own_step (fun _ zk => XS.bipush X13.here hx rfl (hb hby at_71) zk) ?_
  show own_E p e below _ (T13.setTop (mkF m 73 #[.val (.long p1), .second, .val (.int p2), .val (.int p3), .val (.int p4), .val (.ref b), .unset, .unset, .unset, .unset] [(.int (7 : Int32)), (.int (p4 &&& (2147483647 : Int32)))]))
  refine own_step (fun _ zk => XS.irem X13.here hx rfl (hb hby at_73) rfl (by decide) zk) ?_
  show own_E p e below _ (T13.setTop (mkF m 74 #[.val (.long p1), .second, .val (.int p2), .val (.int p3), .val (.int p4), .val (.ref b), .unset, .unset, .unset, .unset] [(.int ((p4 &&& (2147483647 : Int32)) - ((p4 &&& (2147483647 : Int32)) / (7 : Int32)) * (7 : Int32)))]))
  generalize hLm : ((p4 &&& (2147483647 : Int32)) - ((p4 &&& (2147483647 : Int32)) / (7 : Int32)) * (7 : Int32)) = Lm
  show own_E p e below _ (T13.setTop (mkF m 74 #[.val (.long p1), .second, .val (.int p2), .val (.int p3), .val (.int p4), .val (.ref b), .unset, .unset, .unset, .unset] [(.int Lm)]))
  obtain ⟨nL, hL, hL6⟩ := own_lim _ _ hLm
  refine own_step (fun _ zk => XS.istore X13.here hx rfl (hb hby at_74) rfl (l' := #[.val (.long p1), .second, .val (.int p2), .val (.int p3), .val (.int p4), .val (.ref b), .val (.int Lm), .unset, .unset, .unset]) rfl zk) ?_
  show own_E p e below _ (T13.setTop (mkF m 76 #[.val (.long p1), .second, .val (.int p2), .val (.int p3), .val (.int p4), .val (.ref b), .val (.int Lm), .unset, .unset, .unset] []))
  refine own_step (fun _ zk => XS.iloadN X13.here hx rfl (hb hby at_76) rfl zk) ?_
  show own_E p e below _ (T13.setTop (mkF m 77 #[.val (.long p1), .second, .val (.int p2), .val (.int p3), .val (.int p4), .val (.ref b), .val (.int Lm), .unset, .unset, .unset] [(.int p3)]))
  refine own_step (fun _ zk => X13.ldcInt hx (v := 2147483647) hown (mvT hZ (hw _ (List.mem_of_getElem? (i := 5) rfl))) (g := (mkF m 77 #[.val (.long p1), .second, .val (.int p2), .val (.int p3), .val (.int p4), .val (.ref b), .val (.int Lm), .unset, .unset, .unset] [(.int p3)])) rfl (hb hby at_77) _ zk) ?_
  show own_E p e below _ (T13.setTop (mkF m 79 #[.val (.long p1), .second, .val (.int p2), .val (.int p3), .val (.int p4), .val (.ref b), .val (.int Lm), .unset, .unset, .unset] [(.int (2147483647 : Int32)), (.int p3)]))
  refine own_step (fun _ zk => XS.iand X13.here hx rfl (hb hby at_79) rfl zk) ?_
  show own_E p e below _ (T13.setTop (mkF m 80 #[.val (.long p1), .second, .val (.int p2), .val (.int p3), .val (.int p4), .val (.ref b), .val (.int Lm), .unset, .unset, .unset] [(.int (p3 &&& (2147483647 : Int32)))]))
  refine own_step (fun _ zk => XS.iload X13.here hx rfl (hb hby at_80) rfl zk) ?_
  show own_E p e below _ (T13.setTop (mkF m 82 #[.val (.long p1), .second, .val (.int p2), .val (.int p3), .val (.int p4), .val (.ref b), .val (.int Lm), .unset, .unset, .unset] [(.int Lm), (.int (p3 &&& (2147483647 : Int32)))]))
  refine own_step (fun _ zk => XS.iconst X13.here hx rfl (hb hby at_82) zk) ?_
  show own_E p e below _ (T13.setTop (mkF m 83 #[.val (.long p1), .second, .val (.int p2), .val (.int p3), .val (.int p4), .val (.ref b), .val (.int Lm), .unset, .unset, .unset] [(.int (1 : Int32)), (.int Lm), (.int (p3 &&& (2147483647 : Int32)))]))
  refine own_step (fun _ zk => XS.iadd X13.here hx rfl (hb hby at_83) rfl zk) ?_
  show own_E p e below _ (T13.setTop (mkF m 84 #[.val (.long p1), .second, .val (.int p2), .val (.int p3), .val (.int p4), .val (.ref b), .val (.int Lm), .unset, .unset, .unset] [(.int (Lm + (1 : Int32))), (.int (p3 &&& (2147483647 : Int32)))]))
  refine own_step (fun _ zk => XS.irem X13.here hx rfl (hb hby at_84) rfl (own_lim_nz hL hL6) zk) ?_
  show own_E p e below _ (T13.setTop (mkF m 85 #[.val (.long p1), .second, .val (.int p2), .val (.int p3), .val (.int p4), .val (.ref b), .val (.int Lm), .unset, .unset, .unset] [(.int ((p3 &&& (2147483647 : Int32)) - ((p3 &&& (2147483647 : Int32)) / (Lm + (1 : Int32))) * (Lm + (1 : Int32))))]))
  generalize hSt : ((p3 &&& (2147483647 : Int32)) - ((p3 &&& (2147483647 : Int32)) / (Lm + (1 : Int32))) * (Lm + (1 : Int32))) = St
  show own_E p e below _ (T13.setTop (mkF m 85 #[.val (.long p1), .second, .val (.int p2), .val (.int p3), .val (.int p4), .val (.ref b), .val (.int Lm), .unset, .unset, .unset] [(.int St)]))
  obtain ⟨nS, hS, hSL⟩ := own_sta _ _ _ nL hL hL6 hSt
  refine own_step (fun _ zk => XS.istore X13.here hx rfl (hb hby at_85) rfl (l' := #[.val (.long p1), .second, .val (.int p2), .val (.int p3), .val (.int p4), .val (.ref b), .val (.int Lm), .val (.int St), .unset, .unset]) rfl zk) ?_
  show own_E p e below _ (T13.setTop (mkF m 87 #[.val (.long p1), .second, .val (.int p2), .val (.int p3), .val (.int p4), .val (.ref b), .val (.int Lm), .val (.int St), .unset, .unset] []))
  refine own_step (fun _ zk => XS.aload X13.here hx rfl (hb hby at_87) rfl rfl zk) ?_
  show own_E p e below _ (T13.setTop (mkF m 89 #[.val (.long p1), .second, .val (.int p2), .val (.int p3), .val (.int p4), .val (.ref b), .val (.int Lm), .val (.int St), .unset, .unset] [(.ref b)]))
  refine own_step (fun _ zk => XS.iconst X13.here hx rfl (hb hby at_89) zk) ?_
  show own_E p e below _ (T13.setTop (mkF m 90 #[.val (.long p1), .second, .val (.int p2), .val (.int p3), .val (.int p4), .val (.ref b), .val (.int Lm), .val (.int St), .unset, .unset] [(.int (0 : Int32)), (.ref b)]))
  refine own_step (fun _ zk => XS.iload X13.here hx rfl (hb hby at_90) rfl zk) ?_
  show own_E p e below _ (T13.setTop (mkF m 92 #[.val (.long p1), .second, .val (.int p2), .val (.int p3), .val (.int p4), .val (.ref b), .val (.int Lm), .val (.int St), .unset, .unset] [(.int St), (.int (0 : Int32)), (.ref b)]))
  refine own_step (fun _ zk => XS.iload X13.here hx rfl (hb hby at_92) rfl zk) ?_
  show own_E p e below _ (T13.setTop (mkF m 94 #[.val (.long p1), .second, .val (.int p2), .val (.int p3), .val (.int p4), .val (.ref b), .val (.int Lm), .val (.int St), .unset, .unset] [(.int Lm), (.int St), (.int (0 : Int32)), (.ref b)]))
  obtain ⟨_, _, ⟨T14, L14, k14, n14⟩, -, X14, ⟨Lc14, hQ14, l14, y14, z14⟩, st14⟩ := Jvm.LawKit.callS X13 hx (y := (⟨"com/example/tokenwright/tokenwright/store/LogLineEndPinLaw", "nl", "([BIII)Z"⟩ : MethodName)) hown (mvT hZ (hw _ (List.mem_of_getElem? (i := 6) rfl))) (mvT hZ (hw _ (List.mem_of_getElem? (i := 7) rfl))) (mvT hZ (hw _ (List.mem_of_getElem? (i := 3) rfl))) (mvT hZ (hw _ (List.mem_of_getElem? (i := 8) rfl))) (by decide) (backOf (W := 0) (rm2 l Z a0 hw [] b (0 : Int32) St Lm g h13 n0 (Nat.le_trans Z0 K_13.1) hg (own_p0 hS (by omega)) (own_p6 hL hL6)) hZ (hw _ (List.mem_of_getElem? (i := 8) rfl)) (hw _ (List.mem_of_getElem? (i := 3) rfl)) (by decide) (by decide)) (g := (mkF m 94 #[.val (.long p1), .second, .val (.int p2), .val (.int p3), .val (.int p4), .val (.ref b), .val (.int Lm), .val (.int St), .unset, .unset] [(.int Lm), (.int St), (.int (0 : Int32)), (.ref b)])) rfl (by rw [hml]; rfl) (argsL := [(.ref b), (.int (0 : Int32)), (.int St), (.int Lm)]) (rest := []) (lenOf pd_0_1 rfl) rfl (by show 2 * 0 + _ ≤ _; exact Nat.le_of_eq rfl) (hb hby at_94) (fun _ _ => ⟨rfl, e13, (by decide : 1 + 0 ≤ _), (by decide : 6 + 0 ≤ _)⟩)
  dsimp only [Pt.U, Pt.locs, Pt.cells, Pt.slots] at X14 l14 y14 z14 st14 hQ14
  subst l14 y14 z14
  obtain ⟨rfl, N14q, e14⟩ := hQ14
  have N14 := Fr.app N13 N14q
  refine own_step (st14) ?_
  show own_E p e below _ (T14.setTop (mkF m 97 #[.val (.long p1), .second, .val (.int p2), .val (.int p3), .val (.int p4), .val (.ref b), .val (.int Lm), .val (.int St), .unset, .unset] [(.int (own_nl g (0 : Int32) St Lm))]))
  by_cases hc97 : (own_nl g (0 : Int32) St Lm) = (0 : Int32)
  · skip
    refine own_step (fun _ zk => XS.ifYes X14.here hx rfl (pc0 := 97) (pc' := 106) rfl (hb hby at_97) rfl ((if0 _ _).trans (teq hc97).1) (by decide) (by decide) zk) ?_
    show own_E p e below _ (T14.setTop (mkF m 106 #[.val (.long p1), .second, .val (.int p2), .val (.int p3), .val (.int p4), .val (.ref b), .val (.int Lm), .val (.int St), .unset, .unset] []))
    refine own_step (fun _ zk => XS.aload X14.here hx rfl (hb hby at_106) rfl rfl zk) ?_
    show own_E p e below _ (T14.setTop (mkF m 108 #[.val (.long p1), .second, .val (.int p2), .val (.int p3), .val (.int p4), .val (.ref b), .val (.int Lm), .val (.int St), .unset, .unset] [(.ref b)]))
    refine own_step (fun _ zk => XS.iconst X14.here hx rfl (hb hby at_108) zk) ?_
    show own_E p e below _ (T14.setTop (mkF m 109 #[.val (.long p1), .second, .val (.int p2), .val (.int p3), .val (.int p4), .val (.ref b), .val (.int Lm), .val (.int St), .unset, .unset] [(.int (1 : Int32)), (.ref b)]))
    refine own_step (fun _ zk => XS.iload X14.here hx rfl (hb hby at_109) rfl zk) ?_
    show own_E p e below _ (T14.setTop (mkF m 111 #[.val (.long p1), .second, .val (.int p2), .val (.int p3), .val (.int p4), .val (.ref b), .val (.int Lm), .val (.int St), .unset, .unset] [(.int St), (.int (1 : Int32)), (.ref b)]))
    refine own_step (fun _ zk => XS.iload X14.here hx rfl (hb hby at_111) rfl zk) ?_
    show own_E p e below _ (T14.setTop (mkF m 113 #[.val (.long p1), .second, .val (.int p2), .val (.int p3), .val (.int p4), .val (.ref b), .val (.int Lm), .val (.int St), .unset, .unset] [(.int Lm), (.int St), (.int (1 : Int32)), (.ref b)]))
    obtain ⟨_, _, ⟨T15, L15, k15, n15⟩, -, X15, ⟨Lc15, hQ15, l15, y15, z15⟩, st15⟩ := Jvm.LawKit.callS X14 hx (y := (⟨"com/example/tokenwright/tokenwright/store/LogLineEndPinLaw", "nl", "([BIII)Z"⟩ : MethodName)) hown (mvT hZ (hw _ (List.mem_of_getElem? (i := 6) rfl))) (mvT hZ (hw _ (List.mem_of_getElem? (i := 7) rfl))) (mvT hZ (hw _ (List.mem_of_getElem? (i := 3) rfl))) (mvT hZ (hw _ (List.mem_of_getElem? (i := 8) rfl))) (by decide) (backOf (W := 0) (rm2 l Z a0 hw [] b (1 : Int32) St Lm g h13 n0 (Nat.le_trans Z0 K_13.1) hg (own_p0 hS (by omega)) (own_p6 hL hL6)) hZ (hw _ (List.mem_of_getElem? (i := 8) rfl)) (hw _ (List.mem_of_getElem? (i := 3) rfl)) (by decide) (by decide)) (g := (mkF m 113 #[.val (.long p1), .second, .val (.int p2), .val (.int p3), .val (.int p4), .val (.ref b), .val (.int Lm), .val (.int St), .unset, .unset] [(.int Lm), (.int St), (.int (1 : Int32)), (.ref b)])) rfl (by rw [hml]; rfl) (argsL := [(.ref b), (.int (1 : Int32)), (.int St), (.int Lm)]) (rest := []) (lenOf pd_0_1 rfl) rfl (by show 2 * 0 + _ ≤ _; exact Nat.le_of_eq rfl) (hb hby at_113) (fun _ _ => ⟨rfl, e14, (by decide : 1 + 0 ≤ _), (by decide : 6 + 0 ≤ _)⟩)
    dsimp only [Pt.U, Pt.locs, Pt.cells, Pt.slots] at X15 l15 y15 z15 st15 hQ15
    subst l15 y15 z15
    obtain ⟨rfl, N15q, e15⟩ := hQ15
    have N15 := Fr.app N14 N15q
    refine own_step (st15) ?_
    show own_E p e below _ (T15.setTop (mkF m 116 #[.val (.long p1), .second, .val (.int p2), .val (.int p3), .val (.int p4), .val (.ref b), .val (.int Lm), .val (.int St), .unset, .unset] [(.int (own_nl g (1 : Int32) St Lm))]))
    by_cases hc116 : (own_nl g (1 : Int32) St Lm) = (0 : Int32)
    · skip
      refine own_step (fun _ zk => XS.ifYes X15.here hx rfl (pc0 := 116) (pc' := 125) rfl (hb hby at_116) rfl ((if0 _ _).trans (teq hc116).1) (by decide) (by decide) zk) ?_
      show own_E p e below _ (T15.setTop (mkF m 125 #[.val (.long p1), .second, .val (.int p2), .val (.int p3), .val (.int p4), .val (.ref b), .val (.int Lm), .val (.int St), .unset, .unset] []))
      refine own_step (fun _ zk => XS.aload X15.here hx rfl (hb hby at_125) rfl rfl zk) ?_
      show own_E p e below _ (T15.setTop (mkF m 127 #[.val (.long p1), .second, .val (.int p2), .val (.int p3), .val (.int p4), .val (.ref b), .val (.int Lm), .val (.int St), .unset, .unset] [(.ref b)]))
      refine own_step (fun _ zk => XS.iconst X15.here hx rfl (hb hby at_127) zk) ?_
      show own_E p e below _ (T15.setTop (mkF m 128 #[.val (.long p1), .second, .val (.int p2), .val (.int p3), .val (.int p4), .val (.ref b), .val (.int Lm), .val (.int St), .unset, .unset] [(.int (2 : Int32)), (.ref b)]))
      refine own_step (fun _ zk => XS.iload X15.here hx rfl (hb hby at_128) rfl zk) ?_
      show own_E p e below _ (T15.setTop (mkF m 130 #[.val (.long p1), .second, .val (.int p2), .val (.int p3), .val (.int p4), .val (.ref b), .val (.int Lm), .val (.int St), .unset, .unset] [(.int St), (.int (2 : Int32)), (.ref b)]))
      refine own_step (fun _ zk => XS.iload X15.here hx rfl (hb hby at_130) rfl zk) ?_
      show own_E p e below _ (T15.setTop (mkF m 132 #[.val (.long p1), .second, .val (.int p2), .val (.int p3), .val (.int p4), .val (.ref b), .val (.int Lm), .val (.int St), .unset, .unset] [(.int Lm), (.int St), (.int (2 : Int32)), (.ref b)]))
      obtain ⟨_, _, ⟨T16, L16, k16, n16⟩, -, X16, ⟨Lc16, hQ16, l16, y16, z16⟩, st16⟩ := Jvm.LawKit.callS X15 hx (y := (⟨"com/example/tokenwright/tokenwright/store/LogLineEndPinLaw", "nl", "([BIII)Z"⟩ : MethodName)) hown (mvT hZ (hw _ (List.mem_of_getElem? (i := 6) rfl))) (mvT hZ (hw _ (List.mem_of_getElem? (i := 7) rfl))) (mvT hZ (hw _ (List.mem_of_getElem? (i := 3) rfl))) (mvT hZ (hw _ (List.mem_of_getElem? (i := 8) rfl))) (by decide) (backOf (W := 0) (rm2 l Z a0 hw [] b (2 : Int32) St Lm g h13 n0 (Nat.le_trans Z0 K_13.1) hg (own_p0 hS (by omega)) (own_p6 hL hL6)) hZ (hw _ (List.mem_of_getElem? (i := 8) rfl)) (hw _ (List.mem_of_getElem? (i := 3) rfl)) (by decide) (by decide)) (g := (mkF m 132 #[.val (.long p1), .second, .val (.int p2), .val (.int p3), .val (.int p4), .val (.ref b), .val (.int Lm), .val (.int St), .unset, .unset] [(.int Lm), (.int St), (.int (2 : Int32)), (.ref b)])) rfl (by rw [hml]; rfl) (argsL := [(.ref b), (.int (2 : Int32)), (.int St), (.int Lm)]) (rest := []) (lenOf pd_0_1 rfl) rfl (by show 2 * 0 + _ ≤ _; exact Nat.le_of_eq rfl) (hb hby at_132) (fun _ _ => ⟨rfl, e15, (by decide : 1 + 0 ≤ _), (by decide : 6 + 0 ≤ _)⟩)
      dsimp only [Pt.U, Pt.locs, Pt.cells, Pt.slots] at X16 l16 y16 z16 st16 hQ16
      subst l16 y16 z16
      obtain ⟨rfl, N16q, e16⟩ := hQ16
      have N16 := Fr.app N15 N16q
      refine own_step (st16) ?_
      show own_E p e below _ (T16.setTop (mkF m 135 #[.val (.long p1), .second, .val (.int p2), .val (.int p3), .val (.int p4), .val (.ref b), .val (.int Lm), .val (.int St), .unset, .unset] [(.int (own_nl g (2 : Int32) St Lm))]))
      by_cases hc135 : (own_nl g (2 : Int32) St Lm) = (0 : Int32)
      · skip
        refine own_step (fun _ zk => XS.ifYes X16.here hx rfl (pc0 := 135) (pc' := 144) rfl (hb hby at_135) rfl ((if0 _ _).trans (teq hc135).1) (by decide) (by decide) zk) ?_
        show own_E p e below _ (T16.setTop (mkF m 144 #[.val (.long p1), .second, .val (.int p2), .val (.int p3), .val (.int p4), .val (.ref b), .val (.int Lm), .val (.int St), .unset, .unset] []))
        refine own_step (fun _ zk => XS.aload X16.here hx rfl (hb hby at_144) rfl rfl zk) ?_
        show own_E p e below _ (T16.setTop (mkF m 146 #[.val (.long p1), .second, .val (.int p2), .val (.int p3), .val (.int p4), .val (.ref b), .val (.int Lm), .val (.int St), .unset, .unset] [(.ref b)]))
        refine own_step (fun _ zk => XS.iconst X16.here hx rfl (hb hby at_146) zk) ?_
        show own_E p e below _ (T16.setTop (mkF m 147 #[.val (.long p1), .second, .val (.int p2), .val (.int p3), .val (.int p4), .val (.ref b), .val (.int Lm), .val (.int St), .unset, .unset] [(.int (3 : Int32)), (.ref b)]))
        refine own_step (fun _ zk => XS.iload X16.here hx rfl (hb hby at_147) rfl zk) ?_
        show own_E p e below _ (T16.setTop (mkF m 149 #[.val (.long p1), .second, .val (.int p2), .val (.int p3), .val (.int p4), .val (.ref b), .val (.int Lm), .val (.int St), .unset, .unset] [(.int St), (.int (3 : Int32)), (.ref b)]))
        refine own_step (fun _ zk => XS.iload X16.here hx rfl (hb hby at_149) rfl zk) ?_
        show own_E p e below _ (T16.setTop (mkF m 151 #[.val (.long p1), .second, .val (.int p2), .val (.int p3), .val (.int p4), .val (.ref b), .val (.int Lm), .val (.int St), .unset, .unset] [(.int Lm), (.int St), (.int (3 : Int32)), (.ref b)]))
        obtain ⟨_, _, ⟨T17, L17, k17, n17⟩, -, X17, ⟨Lc17, hQ17, l17, y17, z17⟩, st17⟩ := Jvm.LawKit.callS X16 hx (y := (⟨"com/example/tokenwright/tokenwright/store/LogLineEndPinLaw", "nl", "([BIII)Z"⟩ : MethodName)) hown (mvT hZ (hw _ (List.mem_of_getElem? (i := 6) rfl))) (mvT hZ (hw _ (List.mem_of_getElem? (i := 7) rfl))) (mvT hZ (hw _ (List.mem_of_getElem? (i := 3) rfl))) (mvT hZ (hw _ (List.mem_of_getElem? (i := 8) rfl))) (by decide) (backOf (W := 0) (rm2 l Z a0 hw [] b (3 : Int32) St Lm g h13 n0 (Nat.le_trans Z0 K_13.1) hg (own_p0 hS (by omega)) (own_p6 hL hL6)) hZ (hw _ (List.mem_of_getElem? (i := 8) rfl)) (hw _ (List.mem_of_getElem? (i := 3) rfl)) (by decide) (by decide)) (g := (mkF m 151 #[.val (.long p1), .second, .val (.int p2), .val (.int p3), .val (.int p4), .val (.ref b), .val (.int Lm), .val (.int St), .unset, .unset] [(.int Lm), (.int St), (.int (3 : Int32)), (.ref b)])) rfl (by rw [hml]; rfl) (argsL := [(.ref b), (.int (3 : Int32)), (.int St), (.int Lm)]) (rest := []) (lenOf pd_0_1 rfl) rfl (by show 2 * 0 + _ ≤ _; exact Nat.le_of_eq rfl) (hb hby at_151) (fun _ _ => ⟨rfl, e16, (by decide : 1 + 0 ≤ _), (by decide : 6 + 0 ≤ _)⟩)
        dsimp only [Pt.U, Pt.locs, Pt.cells, Pt.slots] at X17 l17 y17 z17 st17 hQ17
        subst l17 y17 z17
        obtain ⟨rfl, N17q, e17⟩ := hQ17
        have N17 := Fr.app N16 N17q
        refine own_step (st17) ?_
        show own_E p e below _ (T17.setTop (mkF m 154 #[.val (.long p1), .second, .val (.int p2), .val (.int p3), .val (.int p4), .val (.ref b), .val (.int Lm), .val (.int St), .unset, .unset] [(.int (own_nl g (3 : Int32) St Lm))]))
        by_cases hc154 : (own_nl g (3 : Int32) St Lm) = (0 : Int32)
        · skip
          refine own_step (fun _ zk => XS.ifYes X17.here hx rfl (pc0 := 154) (pc' := 163) rfl (hb hby at_154) rfl ((if0 _ _).trans (teq hc154).1) (by decide) (by decide) zk) ?_
          show own_E p e below _ (T17.setTop (mkF m 163 #[.val (.long p1), .second, .val (.int p2), .val (.int p3), .val (.int p4), .val (.ref b), .val (.int Lm), .val (.int St), .unset, .unset] []))
          refine own_step (fun _ zk => XS.aload X17.here hx rfl (hb hby at_163) rfl rfl zk) ?_
          show own_E p e below _ (T17.setTop (mkF m 165 #[.val (.long p1), .second, .val (.int p2), .val (.int p3), .val (.int p4), .val (.ref b), .val (.int Lm), .val (.int St), .unset, .unset] [(.ref b)]))
          refine own_step (fun _ zk => XS.iconst X17.here hx rfl (hb hby at_165) zk) ?_
          show own_E p e below _ (T17.setTop (mkF m 166 #[.val (.long p1), .second, .val (.int p2), .val (.int p3), .val (.int p4), .val (.ref b), .val (.int Lm), .val (.int St), .unset, .unset] [(.int (4 : Int32)), (.ref b)]))
          refine own_step (fun _ zk => XS.iload X17.here hx rfl (hb hby at_166) rfl zk) ?_
          show own_E p e below _ (T17.setTop (mkF m 168 #[.val (.long p1), .second, .val (.int p2), .val (.int p3), .val (.int p4), .val (.ref b), .val (.int Lm), .val (.int St), .unset, .unset] [(.int St), (.int (4 : Int32)), (.ref b)]))
          refine own_step (fun _ zk => XS.iload X17.here hx rfl (hb hby at_168) rfl zk) ?_
          show own_E p e below _ (T17.setTop (mkF m 170 #[.val (.long p1), .second, .val (.int p2), .val (.int p3), .val (.int p4), .val (.ref b), .val (.int Lm), .val (.int St), .unset, .unset] [(.int Lm), (.int St), (.int (4 : Int32)), (.ref b)]))
          obtain ⟨_, _, ⟨T18, L18, k18, n18⟩, -, X18, ⟨Lc18, hQ18, l18, y18, z18⟩, st18⟩ := Jvm.LawKit.callS X17 hx (y := (⟨"com/example/tokenwright/tokenwright/store/LogLineEndPinLaw", "nl", "([BIII)Z"⟩ : MethodName)) hown (mvT hZ (hw _ (List.mem_of_getElem? (i := 6) rfl))) (mvT hZ (hw _ (List.mem_of_getElem? (i := 7) rfl))) (mvT hZ (hw _ (List.mem_of_getElem? (i := 3) rfl))) (mvT hZ (hw _ (List.mem_of_getElem? (i := 8) rfl))) (by decide) (backOf (W := 0) (rm2 l Z a0 hw [] b (4 : Int32) St Lm g h13 n0 (Nat.le_trans Z0 K_13.1) hg (own_p0 hS (by omega)) (own_p6 hL hL6)) hZ (hw _ (List.mem_of_getElem? (i := 8) rfl)) (hw _ (List.mem_of_getElem? (i := 3) rfl)) (by decide) (by decide)) (g := (mkF m 170 #[.val (.long p1), .second, .val (.int p2), .val (.int p3), .val (.int p4), .val (.ref b), .val (.int Lm), .val (.int St), .unset, .unset] [(.int Lm), (.int St), (.int (4 : Int32)), (.ref b)])) rfl (by rw [hml]; rfl) (argsL := [(.ref b), (.int (4 : Int32)), (.int St), (.int Lm)]) (rest := []) (lenOf pd_0_1 rfl) rfl (by show 2 * 0 + _ ≤ _; exact Nat.le_of_eq rfl) (hb hby at_170) (fun _ _ => ⟨rfl, e17, (by decide : 1 + 0 ≤ _), (by decide : 6 + 0 ≤ _)⟩)
          dsimp only [Pt.U, Pt.locs, Pt.cells, Pt.slots] at X18 l18 y18 z18 st18 hQ18
          subst l18 y18 z18
          obtain ⟨rfl, N18q, e18⟩ := hQ18
          have N18 := Fr.app N17 N18q
          refine own_step (st18) ?_
          show own_E p e below _ (T18.setTop (mkF m 173 #[.val (.long p1), .second, .val (.int p2), .val (.int p3), .val (.int p4), .val (.ref b), .val (.int Lm), .val (.int St), .unset, .unset] [(.int (own_nl g (4 : Int32) St Lm))]))
          by_cases hc173 : (own_nl g (4 : Int32) St Lm) = (0 : Int32)
          · skip
            refine own_step (fun _ zk => XS.ifYes X18.here hx rfl (pc0 := 173) (pc' := 182) rfl (hb hby at_173) rfl ((if0 _ _).trans (teq hc173).1) (by decide) (by decide) zk) ?_
            show own_E p e below _ (T18.setTop (mkF m 182 #[.val (.long p1), .second, .val (.int p2), .val (.int p3), .val (.int p4), .val (.ref b), .val (.int Lm), .val (.int St), .unset, .unset] []))
            refine own_step (fun _ zk => XS.aload X18.here hx rfl (hb hby at_182) rfl rfl zk) ?_
            show own_E p e below _ (T18.setTop (mkF m 184 #[.val (.long p1), .second, .val (.int p2), .val (.int p3), .val (.int p4), .val (.ref b), .val (.int Lm), .val (.int St), .unset, .unset] [(.ref b)]))
            refine own_step (fun _ zk => XS.iconst X18.here hx rfl (hb hby at_184) zk) ?_
            show own_E p e below _ (T18.setTop (mkF m 185 #[.val (.long p1), .second, .val (.int p2), .val (.int p3), .val (.int p4), .val (.ref b), .val (.int Lm), .val (.int St), .unset, .unset] [(.int (5 : Int32)), (.ref b)]))
            refine own_step (fun _ zk => XS.iload X18.here hx rfl (hb hby at_185) rfl zk) ?_
            show own_E p e below _ (T18.setTop (mkF m 187 #[.val (.long p1), .second, .val (.int p2), .val (.int p3), .val (.int p4), .val (.ref b), .val (.int Lm), .val (.int St), .unset, .unset] [(.int St), (.int (5 : Int32)), (.ref b)]))
            refine own_step (fun _ zk => XS.iload X18.here hx rfl (hb hby at_187) rfl zk) ?_
            show own_E p e below _ (T18.setTop (mkF m 189 #[.val (.long p1), .second, .val (.int p2), .val (.int p3), .val (.int p4), .val (.ref b), .val (.int Lm), .val (.int St), .unset, .unset] [(.int Lm), (.int St), (.int (5 : Int32)), (.ref b)]))
            obtain ⟨_, _, ⟨T19, L19, k19, n19⟩, -, X19, ⟨Lc19, hQ19, l19, y19, z19⟩, st19⟩ := Jvm.LawKit.callS X18 hx (y := (⟨"com/example/tokenwright/tokenwright/store/LogLineEndPinLaw", "nl", "([BIII)Z"⟩ : MethodName)) hown (mvT hZ (hw _ (List.mem_of_getElem? (i := 6) rfl))) (mvT hZ (hw _ (List.mem_of_getElem? (i := 7) rfl))) (mvT hZ (hw _ (List.mem_of_getElem? (i := 3) rfl))) (mvT hZ (hw _ (List.mem_of_getElem? (i := 8) rfl))) (by decide) (backOf (W := 0) (rm2 l Z a0 hw [] b (5 : Int32) St Lm g h13 n0 (Nat.le_trans Z0 K_13.1) hg (own_p0 hS (by omega)) (own_p6 hL hL6)) hZ (hw _ (List.mem_of_getElem? (i := 8) rfl)) (hw _ (List.mem_of_getElem? (i := 3) rfl)) (by decide) (by decide)) (g := (mkF m 189 #[.val (.long p1), .second, .val (.int p2), .val (.int p3), .val (.int p4), .val (.ref b), .val (.int Lm), .val (.int St), .unset, .unset] [(.int Lm), (.int St), (.int (5 : Int32)), (.ref b)])) rfl (by rw [hml]; rfl) (argsL := [(.ref b), (.int (5 : Int32)), (.int St), (.int Lm)]) (rest := []) (lenOf pd_0_1 rfl) rfl (by show 2 * 0 + _ ≤ _; exact Nat.le_of_eq rfl) (hb hby at_189) (fun _ _ => ⟨rfl, e18, (by decide : 1 + 0 ≤ _), (by decide : 6 + 0 ≤ _)⟩)
            dsimp only [Pt.U, Pt.locs, Pt.cells, Pt.slots] at X19 l19 y19 z19 st19 hQ19
            subst l19 y19 z19
            obtain ⟨rfl, N19q, e19⟩ := hQ19
            have N19 := Fr.app N18 N19q
            refine own_step (st19) ?_
            show own_E p e below _ (T19.setTop (mkF m 192 #[.val (.long p1), .second, .val (.int p2), .val (.int p3), .val (.int p4), .val (.ref b), .val (.int Lm), .val (.int St), .unset, .unset] [(.int (own_nl g (5 : Int32) St Lm))]))
            by_cases hc192 : (own_nl g (5 : Int32) St Lm) = (0 : Int32)
            · skip
              refine own_step (fun _ zk => XS.ifYes X19.here hx rfl (pc0 := 192) (pc' := 201) rfl (hb hby at_192) rfl ((if0 _ _).trans (teq hc192).1) (by decide) (by decide) zk) ?_
              show own_E p e below _ (T19.setTop (mkF m 201 #[.val (.long p1), .second, .val (.int p2), .val (.int p3), .val (.int p4), .val (.ref b), .val (.int Lm), .val (.int St), .unset, .unset] []))
              refine own_step (fun _ zk => XS.iload X19.here hx rfl (hb hby at_201) rfl zk) ?_
              show own_E p e below _ (T19.setTop (mkF m 203 #[.val (.long p1), .second, .val (.int p2), .val (.int p3), .val (.int p4), .val (.ref b), .val (.int Lm), .val (.int St), .unset, .unset] [(.int Lm)]))
              refine own_step (fun _ zk => XS.istore X19.here hx rfl (hb hby at_203) rfl (l' := #[.val (.long p1), .second, .val (.int p2), .val (.int p3), .val (.int p4), .val (.ref b), .val (.int Lm), .val (.int St), .val (.int Lm), .unset]) rfl zk) ?_
              show own_E p e below _ (T19.setTop (mkF m 205 #[.val (.long p1), .second, .val (.int p2), .val (.int p3), .val (.int p4), .val (.ref b), .val (.int Lm), .val (.int St), .val (.int Lm), .unset] []))
              refine own_step (fun _ zk => XS.aload X19.here hx rfl (hb hby at_205) rfl rfl zk) ?_
              show own_E p e below _ (T19.setTop (mkF m 207 #[.val (.long p1), .second, .val (.int p2), .val (.int p3), .val (.int p4), .val (.ref b), .val (.int Lm), .val (.int St), .val (.int Lm), .unset] [(.ref b)]))
              refine own_step (fun _ zk => XS.iload X19.here hx rfl (hb hby at_207) rfl zk) ?_
              show own_E p e below _ (T19.setTop (mkF m 209 #[.val (.long p1), .second, .val (.int p2), .val (.int p3), .val (.int p4), .val (.ref b), .val (.int Lm), .val (.int St), .val (.int Lm), .unset] [(.int St), (.ref b)]))
              refine own_step (fun _ zk => XS.iload X19.here hx rfl (hb hby at_209) rfl zk) ?_
              show own_E p e below _ (T19.setTop (mkF m 211 #[.val (.long p1), .second, .val (.int p2), .val (.int p3), .val (.int p4), .val (.ref b), .val (.int Lm), .val (.int St), .val (.int Lm), .unset] [(.int Lm), (.int St), (.ref b)]))
              obtain ⟨_, _, ⟨T20, L20, k20, n20⟩, -, X20, ⟨Lc20, hQ20, l20, y20, z20⟩, st20⟩ := Jvm.LawKit.callS X19 hx (y := (⟨"com/example/tokenwright/tokenwright/store/LogLine", "end", "([BII)I"⟩ : MethodName)) hown (mvT hZ (hw _ (List.mem_of_getElem? (i := 9) rfl))) (mvT hZ (hw _ (List.mem_of_getElem? (i := 10) rfl))) (mvT hZ (hw _ (List.mem_of_getElem? (i := 11) rfl))) (mvT hZ (hw _ (List.mem_of_getElem? (i := 12) rfl))) (by decide) (backOf (W := 0) (rm3 l Z a0 hw [] b St Lm g nS (nL - nS) h13 n0 (Nat.le_trans Z0 K_13.1) hg hS (hL.trans (congrArg Int32.ofNat (by omega))) (by omega)) hZ (hw _ (List.mem_of_getElem? (i := 12) rfl)) (hw _ (List.mem_of_getElem? (i := 11) rfl)) (by decide) (by decide)) (g := (mkF m 211 #[.val (.long p1), .second, .val (.int p2), .val (.int p3), .val (.int p4), .val (.ref b), .val (.int Lm), .val (.int St), .val (.int Lm), .unset] [(.int Lm), (.int St), (.ref b)])) rfl (by rw [hml]; rfl) (argsL := [(.ref b), (.int St), (.int Lm)]) (rest := []) (lenOf pd_0_2 rfl) rfl (by show 2 * 0 + _ ≤ _; exact Nat.le_of_eq rfl) (hb hby at_211) (fun _ _ => ⟨rfl, e19, (by decide : 1 + 0 ≤ _), (by decide : 6 + 0 ≤ _)⟩)
              dsimp only [Pt.U, Pt.locs, Pt.cells, Pt.slots] at X20 l20 y20 z20 st20 hQ20
              subst l20 y20 z20
              obtain ⟨rfl, N20q, e20⟩ := hQ20
              have N20 := Fr.app N19 N20q
              refine own_step (st20) ?_
              show own_E p e below _ (T20.setTop (mkF m 214 #[.val (.long p1), .second, .val (.int p2), .val (.int p3), .val (.int p4), .val (.ref b), .val (.int Lm), .val (.int St), .val (.int Lm), .unset] [(.int (Int32.ofNat (own_find g nS (nL - nS))))]))
              refine own_step (fun _ zk => XS.istore X20.here hx rfl (hb hby at_214) rfl (l' := #[.val (.long p1), .second, .val (.int p2), .val (.int p3), .val (.int p4), .val (.ref b), .val (.int Lm), .val (.int St), .val (.int Lm), .val (.int (Int32.ofNat (own_find g nS (nL - nS))))]) rfl zk) ?_
              show own_E p e below _ (T20.setTop (mkF m 216 #[.val (.long p1), .second, .val (.int p2), .val (.int p3), .val (.int p4), .val (.ref b), .val (.int Lm), .val (.int St), .val (.int Lm), .val (.int (Int32.ofNat (own_find g nS (nL - nS))))] []))
              refine own_step (fun _ zk => XS.iload X20.here hx rfl (hb hby at_216) rfl zk) ?_
              show own_E p e below _ (T20.setTop (mkF m 218 #[.val (.long p1), .second, .val (.int p2), .val (.int p3), .val (.int p4), .val (.ref b), .val (.int Lm), .val (.int St), .val (.int Lm), .val (.int (Int32.ofNat (own_find g nS (nL - nS))))] [(.int (Int32.ofNat (own_find g nS (nL - nS))))]))
              refine own_step (fun _ zk => XS.iload X20.here hx rfl (hb hby at_218) rfl zk) ?_
              show own_E p e below _ (T20.setTop (mkF m 220 #[.val (.long p1), .second, .val (.int p2), .val (.int p3), .val (.int p4), .val (.ref b), .val (.int Lm), .val (.int St), .val (.int Lm), .val (.int (Int32.ofNat (own_find g nS (nL - nS))))] [(.int Lm), (.int (Int32.ofNat (own_find g nS (nL - nS))))]))
              refine own_step (fun _ zk => XS.icmpNo X20.here hx rfl (hb hby at_220) rfl (teq ((own_exp_none g hS hL hSL hL6 (fun j hj => by match j, hj with | 0, _ => exact hc97 | 1, _ => exact hc116 | 2, _ => exact hc135 | 3, _ => exact hc154 | 4, _ => exact hc173 | 5, _ => exact hc192 | n + 6, h => omega)).trans hL.symm)).2 zk) ?_
              show own_E p e below _ (T20.setTop (mkF m 223 #[.val (.long p1), .second, .val (.int p2), .val (.int p3), .val (.int p4), .val (.ref b), .val (.int Lm), .val (.int St), .val (.int Lm), .val (.int (Int32.ofNat (own_find g nS (nL - nS))))] []))
              refine own_step (fun _ zk => XS.iconst X20.here hx rfl (hb hby at_223) zk) ?_
              show own_E p e below _ (T20.setTop (mkF m 224 #[.val (.long p1), .second, .val (.int p2), .val (.int p3), .val (.int p4), .val (.ref b), .val (.int Lm), .val (.int St), .val (.int Lm), .val (.int (Int32.ofNat (own_find g nS (nL - nS))))] [(.int (1 : Int32))]))
              refine own_step (fun _ zk => XS.goto X20.here hx rfl (pc0 := 224) (pc' := 228) rfl (hb hby at_224) (by decide) (by decide) zk) ?_
              show own_E p e below _ (T20.setTop (mkF m 228 #[.val (.long p1), .second, .val (.int p2), .val (.int p3), .val (.int p4), .val (.ref b), .val (.int Lm), .val (.int St), .val (.int Lm), .val (.int (Int32.ofNat (own_find g nS (nL - nS))))] [(.int (1 : Int32))]))
              refine own_ret X20 hlk (v := some (.int (nar .boolean (1 : Int32)))) (fun h => by rw [Bd.returns] at h; cases h) ?_ (by decide) (by decide) (fun fs hr => retN X20 hx (t := .boolean) Bd.returns (by simp) (hb hby at_228) hr)
              show Q0 Z p1 p2 p3 p4 h0 n0 _ T20.heap _
              rw [e20]
              exact ⟨by decide, N20⟩
            · skip
              refine own_step (fun _ zk => XS.ifNo X19.here hx rfl (hb hby at_192) rfl ((if0 _ _).trans (feq hc192).1) zk) ?_
              show own_E p e below _ (T19.setTop (mkF m 195 #[.val (.long p1), .second, .val (.int p2), .val (.int p3), .val (.int p4), .val (.ref b), .val (.int Lm), .val (.int St), .unset, .unset] []))
              refine own_step (fun _ zk => XS.iconst X19.here hx rfl (hb hby at_195) zk) ?_
              show own_E p e below _ (T19.setTop (mkF m 196 #[.val (.long p1), .second, .val (.int p2), .val (.int p3), .val (.int p4), .val (.ref b), .val (.int Lm), .val (.int St), .unset, .unset] [(.int (5 : Int32))]))
              refine own_step (fun _ zk => XS.istore X19.here hx rfl (hb hby at_196) rfl (l' := #[.val (.long p1), .second, .val (.int p2), .val (.int p3), .val (.int p4), .val (.ref b), .val (.int Lm), .val (.int St), .val (.int (5 : Int32)), .unset]) rfl zk) ?_
              show own_E p e below _ (T19.setTop (mkF m 198 #[.val (.long p1), .second, .val (.int p2), .val (.int p3), .val (.int p4), .val (.ref b), .val (.int Lm), .val (.int St), .val (.int (5 : Int32)), .unset] []))
              refine own_step (fun _ zk => XS.goto X19.here hx rfl (pc0 := 198) (pc' := 205) rfl (hb hby at_198) (by decide) (by decide) zk) ?_
              show own_E p e below _ (T19.setTop (mkF m 205 #[.val (.long p1), .second, .val (.int p2), .val (.int p3), .val (.int p4), .val (.ref b), .val (.int Lm), .val (.int St), .val (.int (5 : Int32)), .unset] []))
              refine own_step (fun _ zk => XS.aload X19.here hx rfl (hb hby at_205) rfl rfl zk) ?_
              show own_E p e below _ (T19.setTop (mkF m 207 #[.val (.long p1), .second, .val (.int p2), .val (.int p3), .val (.int p4), .val (.ref b), .val (.int Lm), .val (.int St), .val (.int (5 : Int32)), .unset] [(.ref b)]))
              refine own_step (fun _ zk => XS.iload X19.here hx rfl (hb hby at_207) rfl zk) ?_
              show own_E p e below _ (T19.setTop (mkF m 209 #[.val (.long p1), .second, .val (.int p2), .val (.int p3), .val (.int p4), .val (.ref b), .val (.int Lm), .val (.int St), .val (.int (5 : Int32)), .unset] [(.int St), (.ref b)]))
              refine own_step (fun _ zk => XS.iload X19.here hx rfl (hb hby at_209) rfl zk) ?_
              show own_E p e below _ (T19.setTop (mkF m 211 #[.val (.long p1), .second, .val (.int p2), .val (.int p3), .val (.int p4), .val (.ref b), .val (.int Lm), .val (.int St), .val (.int (5 : Int32)), .unset] [(.int Lm), (.int St), (.ref b)]))
              obtain ⟨_, _, ⟨T21, L21, k21, n21⟩, -, X21, ⟨Lc21, hQ21, l21, y21, z21⟩, st21⟩ := Jvm.LawKit.callS X19 hx (y := (⟨"com/example/tokenwright/tokenwright/store/LogLine", "end", "([BII)I"⟩ : MethodName)) hown (mvT hZ (hw _ (List.mem_of_getElem? (i := 9) rfl))) (mvT hZ (hw _ (List.mem_of_getElem? (i := 10) rfl))) (mvT hZ (hw _ (List.mem_of_getElem? (i := 11) rfl))) (mvT hZ (hw _ (List.mem_of_getElem? (i := 12) rfl))) (by decide) (backOf (W := 0) (rm3 l Z a0 hw [] b St Lm g nS (nL - nS) h13 n0 (Nat.le_trans Z0 K_13.1) hg hS (hL.trans (congrArg Int32.ofNat (by omega))) (by omega)) hZ (hw _ (List.mem_of_getElem? (i := 12) rfl)) (hw _ (List.mem_of_getElem? (i := 11) rfl)) (by decide) (by decide)) (g := (mkF m 211 #[.val (.long p1), .second, .val (.int p2), .val (.int p3), .val (.int p4), .val (.ref b), .val (.int Lm), .val (.int St), .val (.int (5 : Int32)), .unset] [(.int Lm), (.int St), (.ref b)])) rfl (by rw [hml]; rfl) (argsL := [(.ref b), (.int St), (.int Lm)]) (rest := []) (lenOf pd_0_2 rfl) rfl (by show 2 * 0 + _ ≤ _; exact Nat.le_of_eq rfl) (hb hby at_211) (fun _ _ => ⟨rfl, e19, (by decide : 1 + 0 ≤ _), (by decide : 6 + 0 ≤ _)⟩)
              dsimp only [Pt.U, Pt.locs, Pt.cells, Pt.slots] at X21 l21 y21 z21 st21 hQ21
              subst l21 y21 z21
              obtain ⟨rfl, N21q, e21⟩ := hQ21
              have N21 := Fr.app N19 N21q
              refine own_step (st21) ?_
              show own_E p e below _ (T21.setTop (mkF m 214 #[.val (.long p1), .second, .val (.int p2), .val (.int p3), .val (.int p4), .val (.ref b), .val (.int Lm), .val (.int St), .val (.int (5 : Int32)), .unset] [(.int (Int32.ofNat (own_find g nS (nL - nS))))]))
              refine own_step (fun _ zk => XS.istore X21.here hx rfl (hb hby at_214) rfl (l' := #[.val (.long p1), .second, .val (.int p2), .val (.int p3), .val (.int p4), .val (.ref b), .val (.int Lm), .val (.int St), .val (.int (5 : Int32)), .val (.int (Int32.ofNat (own_find g nS (nL - nS))))]) rfl zk) ?_
              show own_E p e below _ (T21.setTop (mkF m 216 #[.val (.long p1), .second, .val (.int p2), .val (.int p3), .val (.int p4), .val (.ref b), .val (.int Lm), .val (.int St), .val (.int (5 : Int32)), .val (.int (Int32.ofNat (own_find g nS (nL - nS))))] []))
              refine own_step (fun _ zk => XS.iload X21.here hx rfl (hb hby at_216) rfl zk) ?_
              show own_E p e below _ (T21.setTop (mkF m 218 #[.val (.long p1), .second, .val (.int p2), .val (.int p3), .val (.int p4), .val (.ref b), .val (.int Lm), .val (.int St), .val (.int (5 : Int32)), .val (.int (Int32.ofNat (own_find g nS (nL - nS))))] [(.int (Int32.ofNat (own_find g nS (nL - nS))))]))
              refine own_step (fun _ zk => XS.iload X21.here hx rfl (hb hby at_218) rfl zk) ?_
              show own_E p e below _ (T21.setTop (mkF m 220 #[.val (.long p1), .second, .val (.int p2), .val (.int p3), .val (.int p4), .val (.ref b), .val (.int Lm), .val (.int St), .val (.int (5 : Int32)), .val (.int (Int32.ofNat (own_find g nS (nL - nS))))] [(.int (5 : Int32)), (.int (Int32.ofNat (own_find g nS (nL - nS))))]))
              refine own_step (fun _ zk => XS.icmpNo X21.here hx rfl (hb hby at_220) rfl (teq (own_exp g hS hL hSL hL6 5 (by decide) hc192 (fun j hj => by match j, hj with | 0, _ => exact hc97 | 1, _ => exact hc116 | 2, _ => exact hc135 | 3, _ => exact hc154 | 4, _ => exact hc173 | n + 5, h => omega))).2 zk) ?_
              show own_E p e below _ (T21.setTop (mkF m 223 #[.val (.long p1), .second, .val (.int p2), .val (.int p3), .val (.int p4), .val (.ref b), .val (.int Lm), .val (.int St), .val (.int (5 : Int32)), .val (.int (Int32.ofNat (own_find g nS (nL - nS))))] []))
              refine own_step (fun _ zk => XS.iconst X21.here hx rfl (hb hby at_223) zk) ?_
              show own_E p e below _ (T21.setTop (mkF m 224 #[.val (.long p1), .second, .val (.int p2), .val (.int p3), .val (.int p4), .val (.ref b), .val (.int Lm), .val (.int St), .val (.int (5 : Int32)), .val (.int (Int32.ofNat (own_find g nS (nL - nS))))] [(.int (1 : Int32))]))
              refine own_step (fun _ zk => XS.goto X21.here hx rfl (pc0 := 224) (pc' := 228) rfl (hb hby at_224) (by decide) (by decide) zk) ?_
              show own_E p e below _ (T21.setTop (mkF m 228 #[.val (.long p1), .second, .val (.int p2), .val (.int p3), .val (.int p4), .val (.ref b), .val (.int Lm), .val (.int St), .val (.int (5 : Int32)), .val (.int (Int32.ofNat (own_find g nS (nL - nS))))] [(.int (1 : Int32))]))
              refine own_ret X21 hlk (v := some (.int (nar .boolean (1 : Int32)))) (fun h => by rw [Bd.returns] at h; cases h) ?_ (by decide) (by decide) (fun fs hr => retN X21 hx (t := .boolean) Bd.returns (by simp) (hb hby at_228) hr)
              show Q0 Z p1 p2 p3 p4 h0 n0 _ T21.heap _
              rw [e21]
              exact ⟨by decide, N21⟩
          · skip
            refine own_step (fun _ zk => XS.ifNo X18.here hx rfl (hb hby at_173) rfl ((if0 _ _).trans (feq hc173).1) zk) ?_
            show own_E p e below _ (T18.setTop (mkF m 176 #[.val (.long p1), .second, .val (.int p2), .val (.int p3), .val (.int p4), .val (.ref b), .val (.int Lm), .val (.int St), .unset, .unset] []))
            refine own_step (fun _ zk => XS.iconst X18.here hx rfl (hb hby at_176) zk) ?_
            show own_E p e below _ (T18.setTop (mkF m 177 #[.val (.long p1), .second, .val (.int p2), .val (.int p3), .val (.int p4), .val (.ref b), .val (.int Lm), .val (.int St), .unset, .unset] [(.int (4 : Int32))]))
            refine own_step (fun _ zk => XS.istore X18.here hx rfl (hb hby at_177) rfl (l' := #[.val (.long p1), .second, .val (.int p2), .val (.int p3), .val (.int p4), .val (.ref b), .val (.int Lm), .val (.int St), .val (.int (4 : Int32)), .unset]) rfl zk) ?_
            show own_E p e below _ (T18.setTop (mkF m 179 #[.val (.long p1), .second, .val (.int p2), .val (.int p3), .val (.int p4), .val (.ref b), .val (.int Lm), .val (.int St), .val (.int (4 : Int32)), .unset] []))
            refine own_step (fun _ zk => XS.goto X18.here hx rfl (pc0 := 179) (pc' := 205) rfl (hb hby at_179) (by decide) (by decide) zk) ?_
            show own_E p e below _ (T18.setTop (mkF m 205 #[.val (.long p1), .second, .val (.int p2), .val (.int p3), .val (.int p4), .val (.ref b), .val (.int Lm), .val (.int St), .val (.int (4 : Int32)), .unset] []))
            refine own_step (fun _ zk => XS.aload X18.here hx rfl (hb hby at_205) rfl rfl zk) ?_
            show own_E p e below _ (T18.setTop (mkF m 207 #[.val (.long p1), .second, .val (.int p2), .val (.int p3), .val (.int p4), .val (.ref b), .val (.int Lm), .val (.int St), .val (.int (4 : Int32)), .unset] [(.ref b)]))
            refine own_step (fun _ zk => XS.iload X18.here hx rfl (hb hby at_207) rfl zk) ?_
            show own_E p e below _ (T18.setTop (mkF m 209 #[.val (.long p1), .second, .val (.int p2), .val (.int p3), .val (.int p4), .val (.ref b), .val (.int Lm), .val (.int St), .val (.int (4 : Int32)), .unset] [(.int St), (.ref b)]))
            refine own_step (fun _ zk => XS.iload X18.here hx rfl (hb hby at_209) rfl zk) ?_
            show own_E p e below _ (T18.setTop (mkF m 211 #[.val (.long p1), .second, .val (.int p2), .val (.int p3), .val (.int p4), .val (.ref b), .val (.int Lm), .val (.int St), .val (.int (4 : Int32)), .unset] [(.int Lm), (.int St), (.ref b)]))
            obtain ⟨_, _, ⟨T22, L22, k22, n22⟩, -, X22, ⟨Lc22, hQ22, l22, y22, z22⟩, st22⟩ := Jvm.LawKit.callS X18 hx (y := (⟨"com/example/tokenwright/tokenwright/store/LogLine", "end", "([BII)I"⟩ : MethodName)) hown (mvT hZ (hw _ (List.mem_of_getElem? (i := 9) rfl))) (mvT hZ (hw _ (List.mem_of_getElem? (i := 10) rfl))) (mvT hZ (hw _ (List.mem_of_getElem? (i := 11) rfl))) (mvT hZ (hw _ (List.mem_of_getElem? (i := 12) rfl))) (by decide) (backOf (W := 0) (rm3 l Z a0 hw [] b St Lm g nS (nL - nS) h13 n0 (Nat.le_trans Z0 K_13.1) hg hS (hL.trans (congrArg Int32.ofNat (by omega))) (by omega)) hZ (hw _ (List.mem_of_getElem? (i := 12) rfl)) (hw _ (List.mem_of_getElem? (i := 11) rfl)) (by decide) (by decide)) (g := (mkF m 211 #[.val (.long p1), .second, .val (.int p2), .val (.int p3), .val (.int p4), .val (.ref b), .val (.int Lm), .val (.int St), .val (.int (4 : Int32)), .unset] [(.int Lm), (.int St), (.ref b)])) rfl (by rw [hml]; rfl) (argsL := [(.ref b), (.int St), (.int Lm)]) (rest := []) (lenOf pd_0_2 rfl) rfl (by show 2 * 0 + _ ≤ _; exact Nat.le_of_eq rfl) (hb hby at_211) (fun _ _ => ⟨rfl, e18, (by decide : 1 + 0 ≤ _), (by decide : 6 + 0 ≤ _)⟩)
            dsimp only [Pt.U, Pt.locs, Pt.cells, Pt.slots] at X22 l22 y22 z22 st22 hQ22
            subst l22 y22 z22
            obtain ⟨rfl, N22q, e22⟩ := hQ22
            have N22 := Fr.app N18 N22q
            refine own_step (st22) ?_
            show own_E p e below _ (T22.setTop (mkF m 214 #[.val (.long p1), .second, .val (.int p2), .val (.int p3), .val (.int p4), .val (.ref b), .val (.int Lm), .val (.int St), .val (.int (4 : Int32)), .unset] [(.int (Int32.ofNat (own_find g nS (nL - nS))))]))
            refine own_step (fun _ zk => XS.istore X22.here hx rfl (hb hby at_214) rfl (l' := #[.val (.long p1), .second, .val (.int p2), .val (.int p3), .val (.int p4), .val (.ref b), .val (.int Lm), .val (.int St), .val (.int (4 : Int32)), .val (.int (Int32.ofNat (own_find g nS (nL - nS))))]) rfl zk) ?_
            show own_E p e below _ (T22.setTop (mkF m 216 #[.val (.long p1), .second, .val (.int p2), .val (.int p3), .val (.int p4), .val (.ref b), .val (.int Lm), .val (.int St), .val (.int (4 : Int32)), .val (.int (Int32.ofNat (own_find g nS (nL - nS))))] []))
            refine own_step (fun _ zk => XS.iload X22.here hx rfl (hb hby at_216) rfl zk) ?_
            show own_E p e below _ (T22.setTop (mkF m 218 #[.val (.long p1), .second, .val (.int p2), .val (.int p3), .val (.int p4), .val (.ref b), .val (.int Lm), .val (.int St), .val (.int (4 : Int32)), .val (.int (Int32.ofNat (own_find g nS (nL - nS))))] [(.int (Int32.ofNat (own_find g nS (nL - nS))))]))
            refine own_step (fun _ zk => XS.iload X22.here hx rfl (hb hby at_218) rfl zk) ?_
            show own_E p e below _ (T22.setTop (mkF m 220 #[.val (.long p1), .second, .val (.int p2), .val (.int p3), .val (.int p4), .val (.ref b), .val (.int Lm), .val (.int St), .val (.int (4 : Int32)), .val (.int (Int32.ofNat (own_find g nS (nL - nS))))] [(.int (4 : Int32)), (.int (Int32.ofNat (own_find g nS (nL - nS))))]))
            refine own_step (fun _ zk => XS.icmpNo X22.here hx rfl (hb hby at_220) rfl (teq (own_exp g hS hL hSL hL6 4 (by decide) hc173 (fun j hj => by match j, hj with | 0, _ => exact hc97 | 1, _ => exact hc116 | 2, _ => exact hc135 | 3, _ => exact hc154 | n + 4, h => omega))).2 zk) ?_
            show own_E p e below _ (T22.setTop (mkF m 223 #[.val (.long p1), .second, .val (.int p2), .val (.int p3), .val (.int p4), .val (.ref b), .val (.int Lm), .val (.int St), .val (.int (4 : Int32)), .val (.int (Int32.ofNat (own_find g nS (nL - nS))))] []))
            refine own_step (fun _ zk => XS.iconst X22.here hx rfl (hb hby at_223) zk) ?_
            show own_E p e below _ (T22.setTop (mkF m 224 #[.val (.long p1), .second, .val (.int p2), .val (.int p3), .val (.int p4), .val (.ref b), .val (.int Lm), .val (.int St), .val (.int (4 : Int32)), .val (.int (Int32.ofNat (own_find g nS (nL - nS))))] [(.int (1 : Int32))]))
            refine own_step (fun _ zk => XS.goto X22.here hx rfl (pc0 := 224) (pc' := 228) rfl (hb hby at_224) (by decide) (by decide) zk) ?_
            show own_E p e below _ (T22.setTop (mkF m 228 #[.val (.long p1), .second, .val (.int p2), .val (.int p3), .val (.int p4), .val (.ref b), .val (.int Lm), .val (.int St), .val (.int (4 : Int32)), .val (.int (Int32.ofNat (own_find g nS (nL - nS))))] [(.int (1 : Int32))]))
            refine own_ret X22 hlk (v := some (.int (nar .boolean (1 : Int32)))) (fun h => by rw [Bd.returns] at h; cases h) ?_ (by decide) (by decide) (fun fs hr => retN X22 hx (t := .boolean) Bd.returns (by simp) (hb hby at_228) hr)
            show Q0 Z p1 p2 p3 p4 h0 n0 _ T22.heap _
            rw [e22]
            exact ⟨by decide, N22⟩
        · skip
          refine own_step (fun _ zk => XS.ifNo X17.here hx rfl (hb hby at_154) rfl ((if0 _ _).trans (feq hc154).1) zk) ?_
          show own_E p e below _ (T17.setTop (mkF m 157 #[.val (.long p1), .second, .val (.int p2), .val (.int p3), .val (.int p4), .val (.ref b), .val (.int Lm), .val (.int St), .unset, .unset] []))
          refine own_step (fun _ zk => XS.iconst X17.here hx rfl (hb hby at_157) zk) ?_
          show own_E p e below _ (T17.setTop (mkF m 158 #[.val (.long p1), .second, .val (.int p2), .val (.int p3), .val (.int p4), .val (.ref b), .val (.int Lm), .val (.int St), .unset, .unset] [(.int (3 : Int32))]))
          refine own_step (fun _ zk => XS.istore X17.here hx rfl (hb hby at_158) rfl (l' := #[.val (.long p1), .second, .val (.int p2), .val (.int p3), .val (.int p4), .val (.ref b), .val (.int Lm), .val (.int St), .val (.int (3 : Int32)), .unset]) rfl zk) ?_
          show own_E p e below _ (T17.setTop (mkF m 160 #[.val (.long p1), .second, .val (.int p2), .val (.int p3), .val (.int p4), .val (.ref b), .val (.int Lm), .val (.int St), .val (.int (3 : Int32)), .unset] []))
          refine own_step (fun _ zk => XS.goto X17.here hx rfl (pc0 := 160) (pc' := 205) rfl (hb hby at_160) (by decide) (by decide) zk) ?_
          show own_E p e below _ (T17.setTop (mkF m 205 #[.val (.long p1), .second, .val (.int p2), .val (.int p3), .val (.int p4), .val (.ref b), .val (.int Lm), .val (.int St), .val (.int (3 : Int32)), .unset] []))
          refine own_step (fun _ zk => XS.aload X17.here hx rfl (hb hby at_205) rfl rfl zk) ?_
          show own_E p e below _ (T17.setTop (mkF m 207 #[.val (.long p1), .second, .val (.int p2), .val (.int p3), .val (.int p4), .val (.ref b), .val (.int Lm), .val (.int St), .val (.int (3 : Int32)), .unset] [(.ref b)]))
          refine own_step (fun _ zk => XS.iload X17.here hx rfl (hb hby at_207) rfl zk) ?_
          show own_E p e below _ (T17.setTop (mkF m 209 #[.val (.long p1), .second, .val (.int p2), .val (.int p3), .val (.int p4), .val (.ref b), .val (.int Lm), .val (.int St), .val (.int (3 : Int32)), .unset] [(.int St), (.ref b)]))
          refine own_step (fun _ zk => XS.iload X17.here hx rfl (hb hby at_209) rfl zk) ?_
          show own_E p e below _ (T17.setTop (mkF m 211 #[.val (.long p1), .second, .val (.int p2), .val (.int p3), .val (.int p4), .val (.ref b), .val (.int Lm), .val (.int St), .val (.int (3 : Int32)), .unset] [(.int Lm), (.int St), (.ref b)]))
          obtain ⟨_, _, ⟨T23, L23, k23, n23⟩, -, X23, ⟨Lc23, hQ23, l23, y23, z23⟩, st23⟩ := Jvm.LawKit.callS X17 hx (y := (⟨"com/example/tokenwright/tokenwright/store/LogLine", "end", "([BII)I"⟩ : MethodName)) hown (mvT hZ (hw _ (List.mem_of_getElem? (i := 9) rfl))) (mvT hZ (hw _ (List.mem_of_getElem? (i := 10) rfl))) (mvT hZ (hw _ (List.mem_of_getElem? (i := 11) rfl))) (mvT hZ (hw _ (List.mem_of_getElem? (i := 12) rfl))) (by decide) (backOf (W := 0) (rm3 l Z a0 hw [] b St Lm g nS (nL - nS) h13 n0 (Nat.le_trans Z0 K_13.1) hg hS (hL.trans (congrArg Int32.ofNat (by omega))) (by omega)) hZ (hw _ (List.mem_of_getElem? (i := 12) rfl)) (hw _ (List.mem_of_getElem? (i := 11) rfl)) (by decide) (by decide)) (g := (mkF m 211 #[.val (.long p1), .second, .val (.int p2), .val (.int p3), .val (.int p4), .val (.ref b), .val (.int Lm), .val (.int St), .val (.int (3 : Int32)), .unset] [(.int Lm), (.int St), (.ref b)])) rfl (by rw [hml]; rfl) (argsL := [(.ref b), (.int St), (.int Lm)]) (rest := []) (lenOf pd_0_2 rfl) rfl (by show 2 * 0 + _ ≤ _; exact Nat.le_of_eq rfl) (hb hby at_211) (fun _ _ => ⟨rfl, e17, (by decide : 1 + 0 ≤ _), (by decide : 6 + 0 ≤ _)⟩)
          dsimp only [Pt.U, Pt.locs, Pt.cells, Pt.slots] at X23 l23 y23 z23 st23 hQ23
          subst l23 y23 z23
          obtain ⟨rfl, N23q, e23⟩ := hQ23
          have N23 := Fr.app N17 N23q
          refine own_step (st23) ?_
          show own_E p e below _ (T23.setTop (mkF m 214 #[.val (.long p1), .second, .val (.int p2), .val (.int p3), .val (.int p4), .val (.ref b), .val (.int Lm), .val (.int St), .val (.int (3 : Int32)), .unset] [(.int (Int32.ofNat (own_find g nS (nL - nS))))]))
          refine own_step (fun _ zk => XS.istore X23.here hx rfl (hb hby at_214) rfl (l' := #[.val (.long p1), .second, .val (.int p2), .val (.int p3), .val (.int p4), .val (.ref b), .val (.int Lm), .val (.int St), .val (.int (3 : Int32)), .val (.int (Int32.ofNat (own_find g nS (nL - nS))))]) rfl zk) ?_
          show own_E p e below _ (T23.setTop (mkF m 216 #[.val (.long p1), .second, .val (.int p2), .val (.int p3), .val (.int p4), .val (.ref b), .val (.int Lm), .val (.int St), .val (.int (3 : Int32)), .val (.int (Int32.ofNat (own_find g nS (nL - nS))))] []))
          refine own_step (fun _ zk => XS.iload X23.here hx rfl (hb hby at_216) rfl zk) ?_
          show own_E p e below _ (T23.setTop (mkF m 218 #[.val (.long p1), .second, .val (.int p2), .val (.int p3), .val (.int p4), .val (.ref b), .val (.int Lm), .val (.int St), .val (.int (3 : Int32)), .val (.int (Int32.ofNat (own_find g nS (nL - nS))))] [(.int (Int32.ofNat (own_find g nS (nL - nS))))]))
          refine own_step (fun _ zk => XS.iload X23.here hx rfl (hb hby at_218) rfl zk) ?_
          show own_E p e below _ (T23.setTop (mkF m 220 #[.val (.long p1), .second, .val (.int p2), .val (.int p3), .val (.int p4), .val (.ref b), .val (.int Lm), .val (.int St), .val (.int (3 : Int32)), .val (.int (Int32.ofNat (own_find g nS (nL - nS))))] [(.int (3 : Int32)), (.int (Int32.ofNat (own_find g nS (nL - nS))))]))
          refine own_step (fun _ zk => XS.icmpNo X23.here hx rfl (hb hby at_220) rfl (teq (own_exp g hS hL hSL hL6 3 (by decide) hc154 (fun j hj => by match j, hj with | 0, _ => exact hc97 | 1, _ => exact hc116 | 2, _ => exact hc135 | n + 3, h => omega))).2 zk) ?_
          show own_E p e below _ (T23.setTop (mkF m 223 #[.val (.long p1), .second, .val (.int p2), .val (.int p3), .val (.int p4), .val (.ref b), .val (.int Lm), .val (.int St), .val (.int (3 : Int32)), .val (.int (Int32.ofNat (own_find g nS (nL - nS))))] []))
          refine own_step (fun _ zk => XS.iconst X23.here hx rfl (hb hby at_223) zk) ?_
          show own_E p e below _ (T23.setTop (mkF m 224 #[.val (.long p1), .second, .val (.int p2), .val (.int p3), .val (.int p4), .val (.ref b), .val (.int Lm), .val (.int St), .val (.int (3 : Int32)), .val (.int (Int32.ofNat (own_find g nS (nL - nS))))] [(.int (1 : Int32))]))
          refine own_step (fun _ zk => XS.goto X23.here hx rfl (pc0 := 224) (pc' := 228) rfl (hb hby at_224) (by decide) (by decide) zk) ?_
          show own_E p e below _ (T23.setTop (mkF m 228 #[.val (.long p1), .second, .val (.int p2), .val (.int p3), .val (.int p4), .val (.ref b), .val (.int Lm), .val (.int St), .val (.int (3 : Int32)), .val (.int (Int32.ofNat (own_find g nS (nL - nS))))] [(.int (1 : Int32))]))
          refine own_ret X23 hlk (v := some (.int (nar .boolean (1 : Int32)))) (fun h => by rw [Bd.returns] at h; cases h) ?_ (by decide) (by decide) (fun fs hr => retN X23 hx (t := .boolean) Bd.returns (by simp) (hb hby at_228) hr)
          show Q0 Z p1 p2 p3 p4 h0 n0 _ T23.heap _
          rw [e23]
          exact ⟨by decide, N23⟩
      · skip
        refine own_step (fun _ zk => XS.ifNo X16.here hx rfl (hb hby at_135) rfl ((if0 _ _).trans (feq hc135).1) zk) ?_
        show own_E p e below _ (T16.setTop (mkF m 138 #[.val (.long p1), .second, .val (.int p2), .val (.int p3), .val (.int p4), .val (.ref b), .val (.int Lm), .val (.int St), .unset, .unset] []))
        refine own_step (fun _ zk => XS.iconst X16.here hx rfl (hb hby at_138) zk) ?_
        show own_E p e below _ (T16.setTop (mkF m 139 #[.val (.long p1), .second, .val (.int p2), .val (.int p3), .val (.int p4), .val (.ref b), .val (.int Lm), .val (.int St), .unset, .unset] [(.int (2 : Int32))]))
        refine own_step (fun _ zk => XS.istore X16.here hx rfl (hb hby at_139) rfl (l' := #[.val (.long p1), .second, .val (.int p2), .val (.int p3), .val (.int p4), .val (.ref b), .val (.int Lm), .val (.int St), .val (.int (2 : Int32)), .unset]) rfl zk) ?_
        show own_E p e below _ (T16.setTop (mkF m 141 #[.val (.long p1), .second, .val (.int p2), .val (.int p3), .val (.int p4), .val (.ref b), .val (.int Lm), .val (.int St), .val (.int (2 : Int32)), .unset] []))
        refine own_step (fun _ zk => XS.goto X16.here hx rfl (pc0 := 141) (pc' := 205) rfl (hb hby at_141) (by decide) (by decide) zk) ?_
        show own_E p e below _ (T16.setTop (mkF m 205 #[.val (.long p1), .second, .val (.int p2), .val (.int p3), .val (.int p4), .val (.ref b), .val (.int Lm), .val (.int St), .val (.int (2 : Int32)), .unset] []))
        refine own_step (fun _ zk => XS.aload X16.here hx rfl (hb hby at_205) rfl rfl zk) ?_
        show own_E p e below _ (T16.setTop (mkF m 207 #[.val (.long p1), .second, .val (.int p2), .val (.int p3), .val (.int p4), .val (.ref b), .val (.int Lm), .val (.int St), .val (.int (2 : Int32)), .unset] [(.ref b)]))
        refine own_step (fun _ zk => XS.iload X16.here hx rfl (hb hby at_207) rfl zk) ?_
        show own_E p e below _ (T16.setTop (mkF m 209 #[.val (.long p1), .second, .val (.int p2), .val (.int p3), .val (.int p4), .val (.ref b), .val (.int Lm), .val (.int St), .val (.int (2 : Int32)), .unset] [(.int St), (.ref b)]))
        refine own_step (fun _ zk => XS.iload X16.here hx rfl (hb hby at_209) rfl zk) ?_
        show own_E p e below _ (T16.setTop (mkF m 211 #[.val (.long p1), .second, .val (.int p2), .val (.int p3), .val (.int p4), .val (.ref b), .val (.int Lm), .val (.int St), .val (.int (2 : Int32)), .unset] [(.int Lm), (.int St), (.ref b)]))
        obtain ⟨_, _, ⟨T24, L24, k24, n24⟩, -, X24, ⟨Lc24, hQ24, l24, y24, z24⟩, st24⟩ := Jvm.LawKit.callS X16 hx (y := (⟨"com/example/tokenwright/tokenwright/store/LogLine", "end", "([BII)I"⟩ : MethodName)) hown (mvT hZ (hw _ (List.mem_of_getElem? (i := 9) rfl))) (mvT hZ (hw _ (List.mem_of_getElem? (i := 10) rfl))) (mvT hZ (hw _ (List.mem_of_getElem? (i := 11) rfl))) (mvT hZ (hw _ (List.mem_of_getElem? (i := 12) rfl))) (by decide) (backOf (W := 0) (rm3 l Z a0 hw [] b St Lm g nS (nL - nS) h13 n0 (Nat.le_trans Z0 K_13.1) hg hS (hL.trans (congrArg Int32.ofNat (by omega))) (by omega)) hZ (hw _ (List.mem_of_getElem? (i := 12) rfl)) (hw _ (List.mem_of_getElem? (i := 11) rfl)) (by decide) (by decide)) (g := (mkF m 211 #[.val (.long p1), .second, .val (.int p2), .val (.int p3), .val (.int p4), .val (.ref b), .val (.int Lm), .val (.int St), .val (.int (2 : Int32)), .unset] [(.int Lm), (.int St), (.ref b)])) rfl (by rw [hml]; rfl) (argsL := [(.ref b), (.int St), (.int Lm)]) (rest := []) (lenOf pd_0_2 rfl) rfl (by show 2 * 0 + _ ≤ _; exact Nat.le_of_eq rfl) (hb hby at_211) (fun _ _ => ⟨rfl, e16, (by decide : 1 + 0 ≤ _), (by decide : 6 + 0 ≤ _)⟩)
        dsimp only [Pt.U, Pt.locs, Pt.cells, Pt.slots] at X24 l24 y24 z24 st24 hQ24
        subst l24 y24 z24
        obtain ⟨rfl, N24q, e24⟩ := hQ24
        have N24 := Fr.app N16 N24q
        refine own_step (st24) ?_
        show own_E p e below _ (T24.setTop (mkF m 214 #[.val (.long p1), .second, .val (.int p2), .val (.int p3), .val (.int p4), .val (.ref b), .val (.int Lm), .val (.int St), .val (.int (2 : Int32)), .unset] [(.int (Int32.ofNat (own_find g nS (nL - nS))))]))
        refine own_step (fun _ zk => XS.istore X24.here hx rfl (hb hby at_214) rfl (l' := #[.val (.long p1), .second, .val (.int p2), .val (.int p3), .val (.int p4), .val (.ref b), .val (.int Lm), .val (.int St), .val (.int (2 : Int32)), .val (.int (Int32.ofNat (own_find g nS (nL - nS))))]) rfl zk) ?_
        show own_E p e below _ (T24.setTop (mkF m 216 #[.val (.long p1), .second, .val (.int p2), .val (.int p3), .val (.int p4), .val (.ref b), .val (.int Lm), .val (.int St), .val (.int (2 : Int32)), .val (.int (Int32.ofNat (own_find g nS (nL - nS))))] []))
        refine own_step (fun _ zk => XS.iload X24.here hx rfl (hb hby at_216) rfl zk) ?_
        show own_E p e below _ (T24.setTop (mkF m 218 #[.val (.long p1), .second, .val (.int p2), .val (.int p3), .val (.int p4), .val (.ref b), .val (.int Lm), .val (.int St), .val (.int (2 : Int32)), .val (.int (Int32.ofNat (own_find g nS (nL - nS))))] [(.int (Int32.ofNat (own_find g nS (nL - nS))))]))
        refine own_step (fun _ zk => XS.iload X24.here hx rfl (hb hby at_218) rfl zk) ?_
        show own_E p e below _ (T24.setTop (mkF m 220 #[.val (.long p1), .second, .val (.int p2), .val (.int p3), .val (.int p4), .val (.ref b), .val (.int Lm), .val (.int St), .val (.int (2 : Int32)), .val (.int (Int32.ofNat (own_find g nS (nL - nS))))] [(.int (2 : Int32)), (.int (Int32.ofNat (own_find g nS (nL - nS))))]))
        refine own_step (fun _ zk => XS.icmpNo X24.here hx rfl (hb hby at_220) rfl (teq (own_exp g hS hL hSL hL6 2 (by decide) hc135 (fun j hj => by match j, hj with | 0, _ => exact hc97 | 1, _ => exact hc116 | n + 2, h => omega))).2 zk) ?_
        show own_E p e below _ (T24.setTop (mkF m 223 #[.val (.long p1), .second, .val (.int p2), .val (.int p3), .val (.int p4), .val (.ref b), .val (.int Lm), .val (.int St), .val (.int (2 : Int32)), .val (.int (Int32.ofNat (own_find g nS (nL - nS))))] []))
        refine own_step (fun _ zk => XS.iconst X24.here hx rfl (hb hby at_223) zk) ?_
        show own_E p e below _ (T24.setTop (mkF m 224 #[.val (.long p1), .second, .val (.int p2), .val (.int p3), .val (.int p4), .val (.ref b), .val (.int Lm), .val (.int St), .val (.int (2 : Int32)), .val (.int (Int32.ofNat (own_find g nS (nL - nS))))] [(.int (1 : Int32))]))
        refine own_step (fun _ zk => XS.goto X24.here hx rfl (pc0 := 224) (pc' := 228) rfl (hb hby at_224) (by decide) (by decide) zk) ?_
        show own_E p e below _ (T24.setTop (mkF m 228 #[.val (.long p1), .second, .val (.int p2), .val (.int p3), .val (.int p4), .val (.ref b), .val (.int Lm), .val (.int St), .val (.int (2 : Int32)), .val (.int (Int32.ofNat (own_find g nS (nL - nS))))] [(.int (1 : Int32))]))
        refine own_ret X24 hlk (v := some (.int (nar .boolean (1 : Int32)))) (fun h => by rw [Bd.returns] at h; cases h) ?_ (by decide) (by decide) (fun fs hr => retN X24 hx (t := .boolean) Bd.returns (by simp) (hb hby at_228) hr)
        show Q0 Z p1 p2 p3 p4 h0 n0 _ T24.heap _
        rw [e24]
        exact ⟨by decide, N24⟩
    · skip
      refine own_step (fun _ zk => XS.ifNo X15.here hx rfl (hb hby at_116) rfl ((if0 _ _).trans (feq hc116).1) zk) ?_
      show own_E p e below _ (T15.setTop (mkF m 119 #[.val (.long p1), .second, .val (.int p2), .val (.int p3), .val (.int p4), .val (.ref b), .val (.int Lm), .val (.int St), .unset, .unset] []))
      refine own_step (fun _ zk => XS.iconst X15.here hx rfl (hb hby at_119) zk) ?_
      show own_E p e below _ (T15.setTop (mkF m 120 #[.val (.long p1), .second, .val (.int p2), .val (.int p3), .val (.int p4), .val (.ref b), .val (.int Lm), .val (.int St), .unset, .unset] [(.int (1 : Int32))]))
      refine own_step (fun _ zk => XS.istore X15.here hx rfl (hb hby at_120) rfl (l' := #[.val (.long p1), .second, .val (.int p2), .val (.int p3), .val (.int p4), .val (.ref b), .val (.int Lm), .val (.int St), .val (.int (1 : Int32)), .unset]) rfl zk) ?_
      show own_E p e below _ (T15.setTop (mkF m 122 #[.val (.long p1), .second, .val (.int p2), .val (.int p3), .val (.int p4), .val (.ref b), .val (.int Lm), .val (.int St), .val (.int (1 : Int32)), .unset] []))
      refine own_step (fun _ zk => XS.goto X15.here hx rfl (pc0 := 122) (pc' := 205) rfl (hb hby at_122) (by decide) (by decide) zk) ?_
      show own_E p e below _ (T15.setTop (mkF m 205 #[.val (.long p1), .second, .val (.int p2), .val (.int p3), .val (.int p4), .val (.ref b), .val (.int Lm), .val (.int St), .val (.int (1 : Int32)), .unset] []))
      refine own_step (fun _ zk => XS.aload X15.here hx rfl (hb hby at_205) rfl rfl zk) ?_
      show own_E p e below _ (T15.setTop (mkF m 207 #[.val (.long p1), .second, .val (.int p2), .val (.int p3), .val (.int p4), .val (.ref b), .val (.int Lm), .val (.int St), .val (.int (1 : Int32)), .unset] [(.ref b)]))
      refine own_step (fun _ zk => XS.iload X15.here hx rfl (hb hby at_207) rfl zk) ?_
      show own_E p e below _ (T15.setTop (mkF m 209 #[.val (.long p1), .second, .val (.int p2), .val (.int p3), .val (.int p4), .val (.ref b), .val (.int Lm), .val (.int St), .val (.int (1 : Int32)), .unset] [(.int St), (.ref b)]))
      refine own_step (fun _ zk => XS.iload X15.here hx rfl (hb hby at_209) rfl zk) ?_
      show own_E p e below _ (T15.setTop (mkF m 211 #[.val (.long p1), .second, .val (.int p2), .val (.int p3), .val (.int p4), .val (.ref b), .val (.int Lm), .val (.int St), .val (.int (1 : Int32)), .unset] [(.int Lm), (.int St), (.ref b)]))
      obtain ⟨_, _, ⟨T25, L25, k25, n25⟩, -, X25, ⟨Lc25, hQ25, l25, y25, z25⟩, st25⟩ := Jvm.LawKit.callS X15 hx (y := (⟨"com/example/tokenwright/tokenwright/store/LogLine", "end", "([BII)I"⟩ : MethodName)) hown (mvT hZ (hw _ (List.mem_of_getElem? (i := 9) rfl))) (mvT hZ (hw _ (List.mem_of_getElem? (i := 10) rfl))) (mvT hZ (hw _ (List.mem_of_getElem? (i := 11) rfl))) (mvT hZ (hw _ (List.mem_of_getElem? (i := 12) rfl))) (by decide) (backOf (W := 0) (rm3 l Z a0 hw [] b St Lm g nS (nL - nS) h13 n0 (Nat.le_trans Z0 K_13.1) hg hS (hL.trans (congrArg Int32.ofNat (by omega))) (by omega)) hZ (hw _ (List.mem_of_getElem? (i := 12) rfl)) (hw _ (List.mem_of_getElem? (i := 11) rfl)) (by decide) (by decide)) (g := (mkF m 211 #[.val (.long p1), .second, .val (.int p2), .val (.int p3), .val (.int p4), .val (.ref b), .val (.int Lm), .val (.int St), .val (.int (1 : Int32)), .unset] [(.int Lm), (.int St), (.ref b)])) rfl (by rw [hml]; rfl) (argsL := [(.ref b), (.int St), (.int Lm)]) (rest := []) (lenOf pd_0_2 rfl) rfl (by show 2 * 0 + _ ≤ _; exact Nat.le_of_eq rfl) (hb hby at_211) (fun _ _ => ⟨rfl, e15, (by decide : 1 + 0 ≤ _), (by decide : 6 + 0 ≤ _)⟩)
      dsimp only [Pt.U, Pt.locs, Pt.cells, Pt.slots] at X25 l25 y25 z25 st25 hQ25
      subst l25 y25 z25
      obtain ⟨rfl, N25q, e25⟩ := hQ25
      have N25 := Fr.app N15 N25q
      refine own_step (st25) ?_
      show own_E p e below _ (T25.setTop (mkF m 214 #[.val (.long p1), .second, .val (.int p2), .val (.int p3), .val (.int p4), .val (.ref b), .val (.int Lm), .val (.int St), .val (.int (1 : Int32)), .unset] [(.int (Int32.ofNat (own_find g nS (nL - nS))))]))
      refine own_step (fun _ zk => XS.istore X25.here hx rfl (hb hby at_214) rfl (l' := #[.val (.long p1), .second, .val (.int p2), .val (.int p3), .val (.int p4), .val (.ref b), .val (.int Lm), .val (.int St), .val (.int (1 : Int32)), .val (.int (Int32.ofNat (own_find g nS (nL - nS))))]) rfl zk) ?_
      show own_E p e below _ (T25.setTop (mkF m 216 #[.val (.long p1), .second, .val (.int p2), .val (.int p3), .val (.int p4), .val (.ref b), .val (.int Lm), .val (.int St), .val (.int (1 : Int32)), .val (.int (Int32.ofNat (own_find g nS (nL - nS))))] []))
      refine own_step (fun _ zk => XS.iload X25.here hx rfl (hb hby at_216) rfl zk) ?_
      show own_E p e below _ (T25.setTop (mkF m 218 #[.val (.long p1), .second, .val (.int p2), .val (.int p3), .val (.int p4), .val (.ref b), .val (.int Lm), .val (.int St), .val (.int (1 : Int32)), .val (.int (Int32.ofNat (own_find g nS (nL - nS))))] [(.int (Int32.ofNat (own_find g nS (nL - nS))))]))
      refine own_step (fun _ zk => XS.iload X25.here hx rfl (hb hby at_218) rfl zk) ?_
      show own_E p e below _ (T25.setTop (mkF m 220 #[.val (.long p1), .second, .val (.int p2), .val (.int p3), .val (.int p4), .val (.ref b), .val (.int Lm), .val (.int St), .val (.int (1 : Int32)), .val (.int (Int32.ofNat (own_find g nS (nL - nS))))] [(.int (1 : Int32)), (.int (Int32.ofNat (own_find g nS (nL - nS))))]))
      refine own_step (fun _ zk => XS.icmpNo X25.here hx rfl (hb hby at_220) rfl (teq (own_exp g hS hL hSL hL6 1 (by decide) hc116 (fun j hj => by match j, hj with | 0, _ => exact hc97 | n + 1, h => omega))).2 zk) ?_
      show own_E p e below _ (T25.setTop (mkF m 223 #[.val (.long p1), .second, .val (.int p2), .val (.int p3), .val (.int p4), .val (.ref b), .val (.int Lm), .val (.int St), .val (.int (1 : Int32)), .val (.int (Int32.ofNat (own_find g nS (nL - nS))))] []))
      refine own_step (fun _ zk => XS.iconst X25.here hx rfl (hb hby at_223) zk) ?_
      show own_E p e below _ (T25.setTop (mkF m 224 #[.val (.long p1), .second, .val (.int p2), .val (.int p3), .val (.int p4), .val (.ref b), .val (.int Lm), .val (.int St), .val (.int (1 : Int32)), .val (.int (Int32.ofNat (own_find g nS (nL - nS))))] [(.int (1 : Int32))]))
      refine own_step (fun _ zk => XS.goto X25.here hx rfl (pc0 := 224) (pc' := 228) rfl (hb hby at_224) (by decide) (by decide) zk) ?_
      show own_E p e below _ (T25.setTop (mkF m 228 #[.val (.long p1), .second, .val (.int p2), .val (.int p3), .val (.int p4), .val (.ref b), .val (.int Lm), .val (.int St), .val (.int (1 : Int32)), .val (.int (Int32.ofNat (own_find g nS (nL - nS))))] [(.int (1 : Int32))]))
      refine own_ret X25 hlk (v := some (.int (nar .boolean (1 : Int32)))) (fun h => by rw [Bd.returns] at h; cases h) ?_ (by decide) (by decide) (fun fs hr => retN X25 hx (t := .boolean) Bd.returns (by simp) (hb hby at_228) hr)
      show Q0 Z p1 p2 p3 p4 h0 n0 _ T25.heap _
      rw [e25]
      exact ⟨by decide, N25⟩
  · skip
    refine own_step (fun _ zk => XS.ifNo X14.here hx rfl (hb hby at_97) rfl ((if0 _ _).trans (feq hc97).1) zk) ?_
    show own_E p e below _ (T14.setTop (mkF m 100 #[.val (.long p1), .second, .val (.int p2), .val (.int p3), .val (.int p4), .val (.ref b), .val (.int Lm), .val (.int St), .unset, .unset] []))
    refine own_step (fun _ zk => XS.iconst X14.here hx rfl (hb hby at_100) zk) ?_
    show own_E p e below _ (T14.setTop (mkF m 101 #[.val (.long p1), .second, .val (.int p2), .val (.int p3), .val (.int p4), .val (.ref b), .val (.int Lm), .val (.int St), .unset, .unset] [(.int (0 : Int32))]))
    refine own_step (fun _ zk => XS.istore X14.here hx rfl (hb hby at_101) rfl (l' := #[.val (.long p1), .second, .val (.int p2), .val (.int p3), .val (.int p4), .val (.ref b), .val (.int Lm), .val (.int St), .val (.int (0 : Int32)), .unset]) rfl zk) ?_
    show own_E p e below _ (T14.setTop (mkF m 103 #[.val (.long p1), .second, .val (.int p2), .val (.int p3), .val (.int p4), .val (.ref b), .val (.int Lm), .val (.int St), .val (.int (0 : Int32)), .unset] []))
    refine own_step (fun _ zk => XS.goto X14.here hx rfl (pc0 := 103) (pc' := 205) rfl (hb hby at_103) (by decide) (by decide) zk) ?_
    show own_E p e below _ (T14.setTop (mkF m 205 #[.val (.long p1), .second, .val (.int p2), .val (.int p3), .val (.int p4), .val (.ref b), .val (.int Lm), .val (.int St), .val (.int (0 : Int32)), .unset] []))
    refine own_step (fun _ zk => XS.aload X14.here hx rfl (hb hby at_205) rfl rfl zk) ?_
    show own_E p e below _ (T14.setTop (mkF m 207 #[.val (.long p1), .second, .val (.int p2), .val (.int p3), .val (.int p4), .val (.ref b), .val (.int Lm), .val (.int St), .val (.int (0 : Int32)), .unset] [(.ref b)]))
    refine own_step (fun _ zk => XS.iload X14.here hx rfl (hb hby at_207) rfl zk) ?_
    show own_E p e below _ (T14.setTop (mkF m 209 #[.val (.long p1), .second, .val (.int p2), .val (.int p3), .val (.int p4), .val (.ref b), .val (.int Lm), .val (.int St), .val (.int (0 : Int32)), .unset] [(.int St), (.ref b)]))
    refine own_step (fun _ zk => XS.iload X14.here hx rfl (hb hby at_209) rfl zk) ?_
    show own_E p e below _ (T14.setTop (mkF m 211 #[.val (.long p1), .second, .val (.int p2), .val (.int p3), .val (.int p4), .val (.ref b), .val (.int Lm), .val (.int St), .val (.int (0 : Int32)), .unset] [(.int Lm), (.int St), (.ref b)]))
    obtain ⟨_, _, ⟨T26, L26, k26, n26⟩, -, X26, ⟨Lc26, hQ26, l26, y26, z26⟩, st26⟩ := Jvm.LawKit.callS X14 hx (y := (⟨"com/example/tokenwright/tokenwright/store/LogLine", "end", "([BII)I"⟩ : MethodName)) hown (mvT hZ (hw _ (List.mem_of_getElem? (i := 9) rfl))) (mvT hZ (hw _ (List.mem_of_getElem? (i := 10) rfl))) (mvT hZ (hw _ (List.mem_of_getElem? (i := 11) rfl))) (mvT hZ (hw _ (List.mem_of_getElem? (i := 12) rfl))) (by decide) (backOf (W := 0) (rm3 l Z a0 hw [] b St Lm g nS (nL - nS) h13 n0 (Nat.le_trans Z0 K_13.1) hg hS (hL.trans (congrArg Int32.ofNat (by omega))) (by omega)) hZ (hw _ (List.mem_of_getElem? (i := 12) rfl)) (hw _ (List.mem_of_getElem? (i := 11) rfl)) (by decide) (by decide)) (g := (mkF m 211 #[.val (.long p1), .second, .val (.int p2), .val (.int p3), .val (.int p4), .val (.ref b), .val (.int Lm), .val (.int St), .val (.int (0 : Int32)), .unset] [(.int Lm), (.int St), (.ref b)])) rfl (by rw [hml]; rfl) (argsL := [(.ref b), (.int St), (.int Lm)]) (rest := []) (lenOf pd_0_2 rfl) rfl (by show 2 * 0 + _ ≤ _; exact Nat.le_of_eq rfl) (hb hby at_211) (fun _ _ => ⟨rfl, e14, (by decide : 1 + 0 ≤ _), (by decide : 6 + 0 ≤ _)⟩)
    dsimp only [Pt.U, Pt.locs, Pt.cells, Pt.slots] at X26 l26 y26 z26 st26 hQ26
    subst l26 y26 z26
    obtain ⟨rfl, N26q, e26⟩ := hQ26
    have N26 := Fr.app N14 N26q
    refine own_step (st26) ?_
    show own_E p e below _ (T26.setTop (mkF m 214 #[.val (.long p1), .second, .val (.int p2), .val (.int p3), .val (.int p4), .val (.ref b), .val (.int Lm), .val (.int St), .val (.int (0 : Int32)), .unset] [(.int (Int32.ofNat (own_find g nS (nL - nS))))]))
    refine own_step (fun _ zk => XS.istore X26.here hx rfl (hb hby at_214) rfl (l' := #[.val (.long p1), .second, .val (.int p2), .val (.int p3), .val (.int p4), .val (.ref b), .val (.int Lm), .val (.int St), .val (.int (0 : Int32)), .val (.int (Int32.ofNat (own_find g nS (nL - nS))))]) rfl zk) ?_
    show own_E p e below _ (T26.setTop (mkF m 216 #[.val (.long p1), .second, .val (.int p2), .val (.int p3), .val (.int p4), .val (.ref b), .val (.int Lm), .val (.int St), .val (.int (0 : Int32)), .val (.int (Int32.ofNat (own_find g nS (nL - nS))))] []))
    refine own_step (fun _ zk => XS.iload X26.here hx rfl (hb hby at_216) rfl zk) ?_
    show own_E p e below _ (T26.setTop (mkF m 218 #[.val (.long p1), .second, .val (.int p2), .val (.int p3), .val (.int p4), .val (.ref b), .val (.int Lm), .val (.int St), .val (.int (0 : Int32)), .val (.int (Int32.ofNat (own_find g nS (nL - nS))))] [(.int (Int32.ofNat (own_find g nS (nL - nS))))]))
    refine own_step (fun _ zk => XS.iload X26.here hx rfl (hb hby at_218) rfl zk) ?_
    show own_E p e below _ (T26.setTop (mkF m 220 #[.val (.long p1), .second, .val (.int p2), .val (.int p3), .val (.int p4), .val (.ref b), .val (.int Lm), .val (.int St), .val (.int (0 : Int32)), .val (.int (Int32.ofNat (own_find g nS (nL - nS))))] [(.int (0 : Int32)), (.int (Int32.ofNat (own_find g nS (nL - nS))))]))
    refine own_step (fun _ zk => XS.icmpNo X26.here hx rfl (hb hby at_220) rfl (teq (own_exp g hS hL hSL hL6 0 (by decide) hc97 (fun j hj => by match j, hj with  | n + 0, h => omega))).2 zk) ?_
    show own_E p e below _ (T26.setTop (mkF m 223 #[.val (.long p1), .second, .val (.int p2), .val (.int p3), .val (.int p4), .val (.ref b), .val (.int Lm), .val (.int St), .val (.int (0 : Int32)), .val (.int (Int32.ofNat (own_find g nS (nL - nS))))] []))
    refine own_step (fun _ zk => XS.iconst X26.here hx rfl (hb hby at_223) zk) ?_
    show own_E p e below _ (T26.setTop (mkF m 224 #[.val (.long p1), .second, .val (.int p2), .val (.int p3), .val (.int p4), .val (.ref b), .val (.int Lm), .val (.int St), .val (.int (0 : Int32)), .val (.int (Int32.ofNat (own_find g nS (nL - nS))))] [(.int (1 : Int32))]))
    refine own_step (fun _ zk => XS.goto X26.here hx rfl (pc0 := 224) (pc' := 228) rfl (hb hby at_224) (by decide) (by decide) zk) ?_
    show own_E p e below _ (T26.setTop (mkF m 228 #[.val (.long p1), .second, .val (.int p2), .val (.int p3), .val (.int p4), .val (.ref b), .val (.int Lm), .val (.int St), .val (.int (0 : Int32)), .val (.int (Int32.ofNat (own_find g nS (nL - nS))))] [(.int (1 : Int32))]))
    refine own_ret X26 hlk (v := some (.int (nar .boolean (1 : Int32)))) (fun h => by rw [Bd.returns] at h; cases h) ?_ (by decide) (by decide) (fun fs hr => retN X26 hx (t := .boolean) Bd.returns (by simp) (hb hby at_228) hr)
    show Q0 Z p1 p2 p3 p4 h0 n0 _ T26.heap _
    rw [e26]
    exact ⟨by decide, N26⟩
set_option maxRecDepth 65536 in
set_option maxHeartbeats 40000000 in
theorem comes_1 {Post : Tables → Env → Array Value → State → Outcome → State → Prop} (hpost : ∀ tb e args s v u, (limb_1_1.after args s (.returned v) u = true ∧ limb_1_2.after args s (.returned v) u = true ∧ True) → FrameEnd s (.returned v) u (Jvm.fieldLocs frame_1_writes args s ++ Jvm.arrayLocs frame_1_arrays args s ++ Jvm.staticLocs frame_1_statics s) 16 128 → Post tb e args s (.returned v) u) :
    ArmFor flags0 classFile x code maxLocals ret World_1 tables_1 room_1 Calls_1 rest_1 Pre_1 Post := by
  intro l hfl _ _ p e ha hc hk s m args below hf hA hF happ hP
  obtain ⟨hcalls, hrest, hpre⟩ := hP
  obtain ⟨-, -, -, hnamed, -, -, -, hat⟩ := (Spec.applies_iff hf).mp happ
  obtain ⟨hg, hn⟩ := and_e (Cond.before_iff.mp (show (Jvm.Cond.and given_1 narrow_1).before args s = true from hpre))
  obtain ⟨gc, gr0⟩ := and_e hg
  obtain ⟨gi0, gr1⟩ := and_e gr0
  obtain ⟨gi1, gr2⟩ := and_e gr1
  obtain ⟨gi2, gr3⟩ := and_e gr2
  have gi3 := gr3
  obtain ⟨w0, w1, w2, w3, rfl⟩ : ∃ w0 w1 w2 w3 : Value, args = #[w0, w1, w2, w3] := by
    have hs : args.size = 4 := by simpa [Cond.value, given_1] using gc
    obtain ⟨L⟩ := args
    match L, hs with
    | [w0, w1, w2, w3], _ => exact ⟨w0, w1, w2, w3, rfl⟩
  have hw := fun d (hd : d ∈ tables_1) => atoms_spec (ws := Jvm.Cond.code x code maxLocals ret :: tables_1) hat d (List.mem_cons_of_mem _ hd)
  obtain ⟨i0, ei0⟩ := isL_v gi0
  obtain rfl : w0 = (.long i0) := Option.some.inj ei0
  obtain ⟨i1, ei1⟩ := is_v gi1
  obtain rfl : w1 = (.int i1) := Option.some.inj ei1
  obtain ⟨i2, ei2⟩ := is_v gi2
  obtain rfl : w2 = (.int i2) := Option.some.inj ei2
  obtain ⟨i3, ei3⟩ := is_v gi3
  obtain rfl : w3 = (.int i3) := Option.some.inj ei3
  obtain ⟨n, o, h1, h2, h3, _, L, rfl, ⟨rfl, N⟩, hq⟩ := rm0 l s _ hw tables_1 i0 i1 i2 i3 s.heap s.heap.size (Nat.le_refl _) p e ha hc hk s m _ below hf ((Spec.applies_iff_loose hf).mp happ).1 ⟨rfl, State.Warmed39.refl s, rfl⟩ trivial
  refine ⟨n, _, h1, h2, h3, hpost _ _ _ _ _ _ ⟨Cond.after_iff.mpr rfl, Cond.after_iff.mpr (eq_i res_at (Term.int_eval (1)) rfl), trivial⟩ ⟨hq.1, hq.2.1, (hq.2.2.sift fun y hy => Or.inr (N y hy)).mono (by decide) (by decide)⟩⟩
theorem main_1_1 : Claimed_1_1 := comes_1 fun _ _ _ _ _ _ h hF => ⟨h.1, hF⟩
theorem main_1_2 : Claimed_1_2 := comes_1 fun _ _ _ _ _ _ h hF => ⟨h.2.1, hF⟩
end Jvm.Pilot.@@N@@
namespace Jvm.Pilot.@@N@@
open Jvm Jvm.ClassFile Sem Op Lib Jvm.Free Jvm.Stand Jvm.Pilot.@@N@@.Jvm.D
/-! MADE BY PROGRAM (witnessworld.py) out of the Statement's table words and the real class files: 9 classes; the members and pool entries that the words name. The judged class is class 1, her method 3. -/
namespace start1
open Jvm.ClassFile
def u (s : String) : CpInfo := .utf8 (stringToUtf16 s)
/-- a pool by its gaps: so many unusable entries, then the entry; so many at the end -/
def gap : Nat → List CpInfo → List CpInfo
  | 0, r => r
  | n + 1, r => .unusable :: gap n r
def poolList (es : List (Nat × CpInfo)) (last : Nat) : List CpInfo := es.foldr (fun e r => gap e.1 (e.2 :: r)) (gap last [])
def pool (es : List (Nat × CpInfo)) (last : Nat) : Array CpInfo := ⟨poolList es last⟩
def fileOf (pool : Array CpInfo) (this : Nat) (attrs : Array Attribute := #[]) (ms : Array MethodInfo := #[]) (fl : Nat := 33) (sup : Nat := 0) (ifs : Array Nat := #[]) (fds : Array FieldInfo := #[]) : ClassFile where
  minorVersion := 0
  majorVersion := 65
  constantPool := pool
  accessFlags := fl
  thisClass := this
  superClass := sup
  interfaces := ifs
  fields := fds
  methods := ms
  attributes := attrs
def plain (name : String) (sup : Option ClassId) : Class where
  name := name
  kind := .ordinary
  loader := none
  accessFlags := 33
  super := sup
  interfaces := #[]
  cf := none
  fields := #[]
  methods := #[]
  instanceTypes := #[]
  staticTypes := #[]
  resolved := #[]
  callSites := []
  init := .initialized
  statics := none
  mirror := none

def pool0 : Array CpInfo := pool [(5, u "<init>"), (0, u "()V"), (1, .class_ 10), (1, u "java/lang/Object")] 113

def k0m0 : Method := { name := "<init>", desc := "()V", sig := { parameters := [], returnType := none }, accessFlags := 1, code := none }
/-- java/lang/Object -/
def k0 : Class := { plain "java/lang/Object" none with
  accessFlags := 33
  interfaces := #[]
  cf := some (fileOf pool0 8 #[] #[{ accessFlags := 1, nameIndex := 5, descriptorIndex := 6, attributes := #[] }] 33 0 #[] #[])
  fields := #[]
  methods := #[k0m0]
  instanceTypes := #[]
  staticTypes := #[]
  resolved := Array.replicate 124 none
  statics := none }

def pool1 : Array CpInfo := pool [(2, .class_ 4), (1, u "java/lang/Object"), (0, u "<init>"), (0, u "()V"), (0, .methodref 8 9), (0, .class_ 10), (0, .nameAndType 11 12), (0, u "com/example/tokenwright/tokenwright/store/LogLineEndPinLaw"), (0, u "pick"), (0, u "(JII)B"), (0, .integer 2147483647), (0, .methodref 8 15), (0, .nameAndType 16 17), (0, u "nl"), (0, u "([BIII)Z"), (0, .methodref 19 20), (0, .class_ 21), (0, .nameAndType 22 23), (0, u "com/example/tokenwright/tokenwright/store/LogLine"), (0, u "end"), (0, u "([BII)I"), (3, u "law"), (0, u "(JIII)Z")] 4

def k1m0 : Method := { name := "<init>", desc := "()V", sig := { parameters := [], returnType := none }, accessFlags := 2, code := none }
def k1c1 : Code := { maxStack := 4, maxLocals := 4, code := method_2_code, exceptionTable := #[], attributes := #[] }
def k1m1 : Method := { name := "pick", desc := "(JII)B", sig := { parameters := [.long, .int, .int], returnType := some .byte }, accessFlags := 10, code := some k1c1 }
def k1c2 : Code := { maxStack := 2, maxLocals := 4, code := method_3_code, exceptionTable := #[], attributes := #[] }
def k1m2 : Method := { name := "nl", desc := "([BIII)Z", sig := { parameters := [(.array .byte), .int, .int, .int], returnType := some .boolean }, accessFlags := 10, code := some k1c2 }
def k1c3 : Code := { maxStack := 6, maxLocals := 10, code := code, exceptionTable := #[], attributes := #[] }
def k1m3 : Method := { name := "law", desc := "(JIII)Z", sig := { parameters := [.long, .int, .int, .int], returnType := some .boolean }, accessFlags := 9, code := some k1c3 }
/-- com/example/tokenwright/tokenwright/store/LogLineEndPinLaw -/
def k1 : Class := { plain "com/example/tokenwright/tokenwright/store/LogLineEndPinLaw" (some 0) with
  accessFlags := 49
  interfaces := #[]
  cf := some (fileOf pool1 8 #[] #[{ accessFlags := 2, nameIndex := 5, descriptorIndex := 6, attributes := #[] }, { accessFlags := 10, nameIndex := 11, descriptorIndex := 12, attributes := #[] }, { accessFlags := 10, nameIndex := 16, descriptorIndex := 17, attributes := #[] }, { accessFlags := 9, nameIndex := 27, descriptorIndex := 28, attributes := #[] }] 49 2 #[] #[])
  fields := #[]
  methods := #[k1m0, k1m1, k1m2, k1m3]
  instanceTypes := #[]
  staticTypes := #[]
  resolved := Array.replicate 33 none
  statics := none }

def pool2 : Array CpInfo := pool [(1, .class_ 2), (0, u "com/example/tokenwright/tokenwright/store/LogLine"), (1, .class_ 6), (1, u "java/lang/Object"), (0, u "<init>"), (0, u "()V"), (39, u "([BII)I"), (107, u "CHECKSUM_DIGITS"), (0, u "I"), (2, u "KIND_AT"), (5, u "end")] 24

def k2m0 : Method := { name := "<init>", desc := "()V", sig := { parameters := [], returnType := none }, accessFlags := 2, code := none }
def k2c1 : Code := { maxStack := 2, maxLocals := 4, code := prog_121_method_3_code, exceptionTable := #[], attributes := #[] }
def k2m1 : Method := { name := "end", desc := "([BII)I", sig := { parameters := [(.array .byte), .int, .int], returnType := some .int }, accessFlags := 8, code := some k2c1 }
/-- com/example/tokenwright/tokenwright/store/LogLine -/
def k2 : Class := { plain "com/example/tokenwright/tokenwright/store/LogLine" (some 0) with
  accessFlags := 48
  interfaces := #[]
  cf := some (fileOf pool2 1 #[] #[{ accessFlags := 2, nameIndex := 7, descriptorIndex := 8, attributes := #[] }, { accessFlags := 8, nameIndex := 166, descriptorIndex := 48, attributes := #[] }] 48 4 #[] #[{ accessFlags := 26, nameIndex := 156, descriptorIndex := 157, attributes := #[] }, { accessFlags := 26, nameIndex := 160, descriptorIndex := 157, attributes := #[] }])
  fields := #[{ name := "CHECKSUM_DIGITS", type := .int, accessFlags := 26, slot := 0, constantValue := 0 }, { name := "KIND_AT", type := .int, accessFlags := 26, slot := 1, constantValue := 0 }]
  methods := #[k2m0, k2m1]
  instanceTypes := #[]
  staticTypes := #[.int, .int]
  resolved := Array.replicate 191 none
  statics := none }

def pool3 : Array CpInfo := pool [(1, u "java/lang/Cloneable"), (0, .class_ 1), (0, u "java/lang/Object"), (0, .class_ 3)] 3

/-- java/lang/Cloneable -/
def k3 : Class := { plain "java/lang/Cloneable" (some 0) with
  accessFlags := 1537
  interfaces := #[]
  cf := some (fileOf pool3 2 #[] #[] 1537 4 #[] #[])
  fields := #[]
  methods := #[]
  instanceTypes := #[]
  staticTypes := #[]
  resolved := Array.replicate 8 none
  statics := none }

def pool4 : Array CpInfo := pool [(1, u "java/io/Serializable"), (0, .class_ 1), (0, u "java/lang/Object"), (0, .class_ 3)] 3

/-- java/io/Serializable -/
def k4 : Class := { plain "java/io/Serializable" (some 0) with
  accessFlags := 1537
  interfaces := #[]
  cf := some (fileOf pool4 2 #[] #[] 1537 4 #[] #[])
  fields := #[]
  methods := #[]
  instanceTypes := #[]
  staticTypes := #[]
  resolved := Array.replicate 8 none
  statics := none }

/-- the primitive byte -/
def k5 : Class := { plain "byte" none with kind := .primitive 'B', accessFlags := 0x411 }
/-- [B -/
def k6 : Class := { plain "[B" (some 0) with kind := .array 5 .byte, interfaces := #[3, 4], accessFlags := 1041 }

/-- the primitive int -/
def k7 : Class := { plain "int" none with kind := .primitive 'I', accessFlags := 0x411 }
/-- [I -/
def k8 : Class := { plain "[I" (some 0) with kind := .array 7 .int, interfaces := #[3, 4], accessFlags := 1041 }

def heap : Heap := #[]
def classes : Array Class := #[k0, k1, k2, k3, k4, k5, k6, k7, k8]
def interned : List (Array UInt16 × Addr) := []
def slotsUsed : Nat := 0
def theMethod : MethodId := ⟨1, 3⟩
def args0 : Array Value := #[.long 5, .int 7, .int 1, .int 4]
def aboutOver (below : List Frame) : State where
  vm := { classes := classes, interned := interned.toArray }
  heap := heap
  slotsUsed := slotsUsed
  threads := #[{ frames := .invoking theMethod args0 :: below }]
def below0 : List Frame := [.native { method := ⟨0, 0⟩, args := #[] }]
def about1 : State := aboutOver below0
def p0 : Program := .bare "" "" ""
def e0 : Env := launch0.env 0 0 0
theorem w_frames : about1.frames = Frame.invoking theMethod args0 :: below0 := rfl
set_option maxRecDepth 65536 in
theorem w_args : argsFit about1.vm theMethod args0 = true := by decide +kernel
set_option maxRecDepth 65536 in
theorem w_heap : heapFits about1 = true := by decide +kernel
set_option maxRecDepth 65536 in
theorem w_runnable : about1.curStatus? = some .runnable := by decide +kernel
set_option maxRecDepth 65536 in
theorem w_alone : about1.alone = true := by decide +kernel
set_option maxRecDepth 65536 in
theorem w_named : about1.methodNamed? x = some theMethod := by decide +kernel
set_option maxRecDepth 65536 in
theorem w_hears : about1.hears theMethod below0 = true := by decide +kernel
set_option maxRecDepth 65536 in
theorem w_ripe : about1.ripe theMethod args0 below0 = true := by decide +kernel
theorem w_running : about1.status = .running := rfl
set_option maxRecDepth 65536 in
theorem w_room : about1.hasRoom e0.platform room_1 = true :=
  launch0.hasRoom_least _ room_1 (by decide +kernel) (by decide +kernel) (by decide +kernel) (by decide +kernel) (by decide +kernel) (by decide +kernel)
theorem allAtoms_all (ts : List Jvm.Cond) (a : Array Jvm.Value) (st : Jvm.State) : (allAtoms ts).before a st = ts.all (fun c => c.before a st) := by
  induction ts with
  | nil => rfl
  | cons c t ih =>
    show (Jvm.Cond.and c (allAtoms t)).before a st = _
    rw [Jvm.Cond.before_and, ih, List.all_cons]
def words1 : List Jvm.Cond := Jvm.Cond.code x code maxLocals ret :: tables_1
/-- a 'code' word, met by the world's own term for the bytes: nothing is compared byte by byte -/
theorem code_word {y : MethodName} {bytes : ByteArray} {mx : Nat} {rt : Option FieldType} {a : Array Value} {s : State} {m : MethodId} {meth : Method} {c : Code} (h1 : s.methodNamed? y = some m) (h2 : s.vm.method? m = some meth) (h3 : meth.code = some c) (h4 : c.code = bytes)
    (h5 : (c.maxLocals == mx && c.exceptionTable.isEmpty && decide (c.maxStack ≤ mostOperands) && decide (meth.sig.returnType = rt) && !meth.locks && decide (parseMethodDescriptor y.desc = some meth.sig)) = true) : (Jvm.Cond.code y bytes mx rt).before a s = true := by
  simp only [Bool.and_eq_true, beq_iff_eq, Bool.not_eq_true', decide_eq_true_eq] at h5
  obtain ⟨⟨⟨⟨⟨g1, g2⟩, g3⟩, g4⟩, g5⟩, g6⟩ := h5
  simp [Cond.before, Cond.holds, Cond.value, h1, h2, h3, h4, g1, g2, g3, g4, g5, g6]
def isCode : Jvm.Cond → Bool
  | .code _ _ _ _ => true
  | _ => false
theorem all_split {L : List Jvm.Cond} {P : Jvm.Cond → Bool} (h1 : L.all (fun c => isCode c || P c) = true) (h2 : ∀ c ∈ L.filter isCode, P c = true) : L.all P = true := by
  refine List.all_eq_true.mpr fun c hc => ?_
  have h := List.all_eq_true.mp h1 c hc
  rcases Bool.eq_false_or_eq_true (isCode c) with hi | hi
  · exact h2 c (List.mem_filter.mpr ⟨hc, hi⟩)
  · simpa [hi] using h
set_option maxRecDepth 65536 in
theorem w_c0 : (Jvm.Cond.code x code maxLocals ret).before args0 about1 = true := code_word (m := ⟨1, 3⟩) (meth := k1m3) (c := k1c3) (by decide +kernel) rfl rfl rfl (by decide +kernel)
set_option maxRecDepth 65536 in
theorem w_c1 : (Jvm.Cond.code ({ cls := "com/example/tokenwright/tokenwright/store/LogLineEndPinLaw", name := "pick", desc := "(JII)B" } : Jvm.MethodName) method_2_code (4 : Nat) (Option.some Jvm.ClassFile.FieldType.byte)).before args0 about1 = true := code_word (m := ⟨1, 1⟩) (meth := k1m1) (c := k1c1) (by decide +kernel) rfl rfl rfl (by decide +kernel)
set_option maxRecDepth 65536 in
theorem w_c2 : (Jvm.Cond.code ({ cls := "com/example/tokenwright/tokenwright/store/LogLineEndPinLaw", name := "nl", desc := "([BIII)Z" } : Jvm.MethodName) method_3_code (4 : Nat) (Option.some Jvm.ClassFile.FieldType.boolean)).before args0 about1 = true := code_word (m := ⟨1, 2⟩) (meth := k1m2) (c := k1c2) (by decide +kernel) rfl rfl rfl (by decide +kernel)
set_option maxRecDepth 65536 in
theorem w_c3 : (Jvm.Cond.code ({ cls := "com/example/tokenwright/tokenwright/store/LogLine", name := "end", desc := "([BII)I" } : Jvm.MethodName) prog_121_method_3_code (4 : Nat) (Option.some Jvm.ClassFile.FieldType.int)).before args0 about1 = true := code_word (m := ⟨2, 1⟩) (meth := k2m1) (c := k2c1) (by decide +kernel) rfl rfl rfl (by decide +kernel)
def codes1 : List Jvm.Cond := [Jvm.Cond.code x code maxLocals ret, Jvm.Cond.code ({ cls := "com/example/tokenwright/tokenwright/store/LogLineEndPinLaw", name := "pick", desc := "(JII)B" } : Jvm.MethodName) method_2_code (4 : Nat) (Option.some Jvm.ClassFile.FieldType.byte), Jvm.Cond.code ({ cls := "com/example/tokenwright/tokenwright/store/LogLineEndPinLaw", name := "nl", desc := "([BIII)Z" } : Jvm.MethodName) method_3_code (4 : Nat) (Option.some Jvm.ClassFile.FieldType.boolean), Jvm.Cond.code ({ cls := "com/example/tokenwright/tokenwright/store/LogLine", name := "end", desc := "([BII)I" } : Jvm.MethodName) prog_121_method_3_code (4 : Nat) (Option.some Jvm.ClassFile.FieldType.int)]
set_option maxRecDepth 65536 in
theorem codes_eq : words1.filter isCode = codes1 := rfl
theorem w_codes : ∀ c ∈ words1.filter isCode, c.before args0 about1 = true := by
  rw [codes_eq]
  intro c hc
  simp only [codes1, List.mem_cons, List.not_mem_nil, or_false] at hc
  rcases hc with rfl | rfl | rfl | rfl
  · exact w_c0
  · exact w_c1
  · exact w_c2
  · exact w_c3
set_option maxRecDepth 65536 in
theorem w_t1 : words1.all (fun c => isCode c || c.before args0 about1) = true := by decide +kernel
theorem w_tables : (allAtoms (Jvm.Cond.code x code maxLocals ret :: tables_1)).before args0 about1 = true := by
  rw [allAtoms_all]
  show words1.all (fun c => c.before args0 about1) = true
  refine all_split ?_ w_codes
  rw [w_t1]
set_option maxRecDepth 65536 in
theorem w_case : (Jvm.Cond.and given_1 narrow_1).before args0 about1 = true := by decide +kernel
theorem w_applies : (headSpec (Jvm.Cond.code x code maxLocals ret :: tables_1) room_1).applies x e0.platform about1 = true :=
  (Spec.applies_iff w_frames).mpr ⟨w_running, w_runnable, w_alone, w_named, w_hears, w_ripe, w_room, w_tables⟩
theorem atStart : AtStart classFile x code maxLocals ret World_1 tables_1 room_1 Calls_1 rest_1 Pre_1 launch0 p0 e0 about1 theMethod args0 below0 :=
  ⟨lists_1, trivial, launch0.admits_env _ _ _, launch0.least_env, fairChoices_fair.cas, fairChoices_fair.clock, w_frames, w_args, w_heap, w_applies, trivial, trivial, w_case⟩
end start1
theorem witness_1 : WitnessClaimed_1 := ⟨start1.p0, start1.e0, start1.about1, start1.theMethod, start1.args0, start1.below0, start1.atStart⟩
end Jvm.Pilot.@@N@@
