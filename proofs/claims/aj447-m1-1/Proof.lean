import JvmDerived
import JvmDerived.Pilot.@@N@@Statement
import JvmDerived.Pilot.@@N@@Code
set_option linter.unusedVariables false
set_option linter.unusedSimpArgs false

namespace Jvm.RoadKit
open Sem ClassFile Op Lib Jvm.Stand Jvm.Free Jvm.LawKit
section New
variable {p : Program} {l : Launch} {e : Env} {R : Room} {s : State} {m : MethodId} {args : Array Value} {below : List Frame} {meth : Method} {c : Code} {T : State} {locs : List Loc} {cells slots : Nat}
theorem retI (X : Stand p l e R s m args below meth c T locs cells slots) (hx : p.tables.exec = Jvm.exec) {pc : Nat} {Ls : Array Slot} {z : Int32} {rest : List Value} (hret : meth.sig.returnType = some .int) (hd : decode c.code pc = .ok (.ireturn, 1)) {fs : List Frame}
    (hl : ∀ (f : JFrame) (acts : List Action), f.method = m → f.locked = none → f.entered = [] → (doReturn e (T.setTop f) acts (some (.int z))).1 = T.setFrames fs) : Steps p.tables e below (T.setTop (mkF m pc Ls (.int z :: rest))) (T.setFrames fs) := by
  have hm' : T.vm.method? m = some meth := X.method'
  have hn : narrow .int (.int z) = .int z := rfl
  show Steps p.tables e below (T.setTop { method := m, pc := pc, locals := Ls, stack := _ :: rest, locked := none }) _
  jvm_step X.here [X.here.top, hx, hd, hm', hret, hn]
  first | (intro acts; rw [hl _ acts rfl rfl rfl]) | rw [hl _ _ rfl rfl rfl]
  exact Steps.refl _
end New
end Jvm.RoadKit
namespace Jvm.Pilot.@@N@@
open Jvm Jvm.ClassFile Sem Op Lib Jvm.Free Jvm.Stand Jvm.LawKit Jvm.RoadKit Bundle Jvm.Pilot.@@N@@.Jvm.D

/-! the road's own words: where a run ends, by steps taken one after the other -/
def own_E (p : Program) (e : Env) (below : List Frame) (G : State → Outcome → Prop) (U : State) : Prop := ∃ s₂ o, Steps p.tables e below U s₂ ∧ s₂.status = .running ∧ Ended s₂ below o ∧ G s₂ o
theorem own_step {p : Program} {e : Env} {below : List Frame} {G : State → Outcome → Prop} {U U' : State} (h : ∀ t, Steps p.tables e below U' t → Steps p.tables e below U t) (k : own_E p e below G U') : own_E p e below G U :=
  let ⟨a, b, c, d⟩ := k; ⟨a, b, h _ c, d⟩
theorem own_ret {p : Program} {l : Launch} {e : Env} {R : Room} {s : State} {m : MethodId} {args : Array Value} {below : List Frame} {meth : Method} {c : Code} {T : State} {locs : List Loc} {cells slots C S : Nat} {Q : Option Value → Heap → List Loc → Prop} {U : State}
    (X : Stand p l e R s m args below meth c T locs cells slots) (hlk : meth.locks = false) {v : Option Value} (hv : meth.sig.returnType = none → v = none) (hq : Q v T.heap locs) (hc : cells ≤ C) (hs : slots ≤ S)
    (hst : ∀ fs, (∀ (f : JFrame) (acts : List Action), f.method = m → f.locked = none → f.entered = [] → (doReturn e (T.setTop f) acts v).1 = T.setFrames fs) → Steps p.tables e below U (T.setFrames fs)) :
    own_E p e below (fun U' o => ∃ v L, o = .returned v ∧ Q v U'.heap L ∧ FrameEnd s o U' L C S) U := by
  obtain ⟨fs, hr, hrun, hended, hW, hsame⟩ := X.leave (v := v) hv hlk
  exact ⟨_, _, hst fs hr, hrun, hended, v, locs, rfl, hq, ⟨_, rfl⟩, hW, hsame.mono hc hs⟩
theorem own_lc_gt_t {x y : Int64} (h : y < x) : ifCond.holds .gt (Jvm.Free.XT.cmpL x y) = true := by delta Jvm.Free.XT.cmpL; rw [if_pos h]; decide
theorem own_lc_gt_f {x y : Int64} (h : ¬ y < x) : ifCond.holds .gt (Jvm.Free.XT.cmpL x y) = false := by delta Jvm.Free.XT.cmpL; rw [if_neg h]; split <;> decide
theorem own_lc_le_f {x y : Int64} (h : y < x) : ifCond.holds .le (Jvm.Free.XT.cmpL x y) = false := by delta Jvm.Free.XT.cmpL; rw [if_pos h]; decide
theorem own_lc_le_t {x y : Int64} (h : ¬ y < x) : ifCond.holds .le (Jvm.Free.XT.cmpL x y) = true := by delta Jvm.Free.XT.cmpL; rw [if_neg h]; split <;> decide
theorem own_lt3 {x y : Int64} (h : x < y) : Jvm.Free.XT.cmpL x y = -1 := by
  delta Jvm.Free.XT.cmpL
  rw [if_neg (by rw [Int64.lt_iff_toInt_lt] at *; omega), if_neg (by intro e; subst e; rw [Int64.lt_iff_toInt_lt] at h; omega)]
theorem own_ge3 {x y : Int64} (h : ¬ x < y) : Jvm.Free.XT.cmpL x y = 1 ∨ Jvm.Free.XT.cmpL x y = 0 := by
  delta Jvm.Free.XT.cmpL
  by_cases h1 : y < x
  · rw [if_pos h1]; exact Or.inl rfl
  · rw [if_neg h1, if_pos (by rw [Int64.lt_iff_toInt_lt] at h h1; exact Int64.toInt_inj.mp (by omega))]; exact Or.inr rfl
theorem own_lc_lt_t {x y : Int64} (h : x < y) : ifCond.holds .lt (Jvm.Free.XT.cmpL x y) = true := by rw [own_lt3 h]; decide
theorem own_lc_lt_f {x y : Int64} (h : ¬ x < y) : ifCond.holds .lt (Jvm.Free.XT.cmpL x y) = false := by rcases own_ge3 h with e | e <;> rw [e] <;> decide
theorem own_lc_ge_f {x y : Int64} (h : x < y) : ifCond.holds .ge (Jvm.Free.XT.cmpL x y) = false := by rw [own_lt3 h]; decide
theorem own_lc_ge_t {x y : Int64} (h : ¬ x < y) : ifCond.holds .ge (Jvm.Free.XT.cmpL x y) = true := by rcases own_ge3 h with e | e <;> rw [e] <;> decide
theorem own_eq3 {x y : Int64} (h : x = y) : Jvm.Free.XT.cmpL x y = 0 := by
  subst h; delta Jvm.Free.XT.cmpL; rw [if_neg (by rw [Int64.lt_iff_toInt_lt]; omega), if_pos rfl]
theorem own_ne3 {x y : Int64} (h : ¬ x = y) : Jvm.Free.XT.cmpL x y = 1 ∨ Jvm.Free.XT.cmpL x y = -1 := by
  delta Jvm.Free.XT.cmpL
  by_cases h1 : y < x
  · rw [if_pos h1]; exact Or.inl rfl
  · rw [if_neg h1, if_neg h]; exact Or.inr rfl
theorem own_lc_eq_t {x y : Int64} (h : x = y) : ifCond.holds .eq (Jvm.Free.XT.cmpL x y) = true := by rw [own_eq3 h]; decide
theorem own_lc_eq_f {x y : Int64} (h : ¬ x = y) : ifCond.holds .eq (Jvm.Free.XT.cmpL x y) = false := by rcases own_ne3 h with e | e <;> rw [e] <;> decide
theorem own_lc_ne_f {x y : Int64} (h : x = y) : ifCond.holds .ne (Jvm.Free.XT.cmpL x y) = false := by rw [own_eq3 h]; decide
theorem own_lc_ne_t {x y : Int64} (h : ¬ x = y) : ifCond.holds .ne (Jvm.Free.XT.cmpL x y) = true := by rcases own_ne3 h with e | e <;> rw [e] <;> decide

def own_has (a b : Int32) : Int32 := if (a &&& b) = 0 then 0 else 1
theorem own_has_z {a b : Int32} : own_has a b = 0 ↔ (a &&& b) = 0 := by
  unfold own_has; by_cases h : (a &&& b) = 0 <;> simp [h]
theorem own_has_o {a b : Int32} : own_has a b = 1 ↔ ¬ (a &&& b) = 0 := by
  unfold own_has; by_cases h : (a &&& b) = 0 <;> simp [h]
theorem own_has0 (a : Int32) : own_has a (0 : Int32) = 0 := own_has_z.mpr (by simp)
theorem own_and31 (k : Int32) : ((k &&& 31) &&& 31) = k &&& 31 := by rw [Int32.and_assoc]; rfl
theorem own_small (k : Int32) : (k &&& 31).toBitVec.toNat < 32 := by
  show (k.toBitVec &&& (BitVec.ofNat 32 31)).toNat < 32
  rw [BitVec.toNat_and]; exact Nat.lt_of_le_of_lt Nat.and_le_right (by decide)
theorem own_smod (k : Int32) : (k &&& 31).toBitVec.smod (BitVec.ofNat 32 32) = (k &&& 31).toBitVec := by
  have h := own_small k
  generalize (k &&& 31).toBitVec = b at h
  have e : b = BitVec.ofNat 32 b.toNat := by simp
  rw [e]
  generalize b.toNat = n at h
  match n, h with
  | 0, _ => decide | 1, _ => decide | 2, _ => decide | 3, _ => decide | 4, _ => decide | 5, _ => decide | 6, _ => decide | 7, _ => decide
  | 8, _ => decide | 9, _ => decide | 10, _ => decide | 11, _ => decide | 12, _ => decide | 13, _ => decide | 14, _ => decide | 15, _ => decide
  | 16, _ => decide | 17, _ => decide | 18, _ => decide | 19, _ => decide | 20, _ => decide | 21, _ => decide | 22, _ => decide | 23, _ => decide
  | 24, _ => decide | 25, _ => decide | 26, _ => decide | 27, _ => decide | 28, _ => decide | 29, _ => decide | 30, _ => decide | 31, _ => decide
  | n + 32, h => omega
/-- both sides look at one bit -/
theorem own_bit1 (a k : Int32) : (a &&& ((1 : Int32) <<< ((k &&& 31) &&& 31))) = 0 ↔ a.toBitVec.getLsbD (k &&& 31).toBitVec.toNat = false := by
  rw [own_and31]
  have e : (a &&& ((1 : Int32) <<< (k &&& 31))).toBitVec = a.toBitVec &&& BitVec.twoPow 32 (k &&& 31).toBitVec.toNat := by
    show a.toBitVec &&& ((BitVec.ofNat 32 1) <<< ((k &&& 31).toBitVec.smod (BitVec.ofNat 32 32))) = _
    rw [own_smod, BitVec.shiftLeft_eq', BitVec.twoPow_eq]
  have z : (a &&& ((1 : Int32) <<< (k &&& 31))) = 0 ↔ (a &&& ((1 : Int32) <<< (k &&& 31))).toBitVec = (BitVec.ofNat 32 0) := Int32.toBitVec_inj.symm
  rw [z, e, BitVec.and_twoPow]
  have hs := own_small k
  cases hb : a.toBitVec.getLsbD (k &&& 31).toBitVec.toNat
  · simp
  · simp only [if_true]
    refine ⟨fun h => ?_, fun h => by cases h⟩
    have := congrArg BitVec.toNat h
    rw [BitVec.toNat_twoPow, Nat.mod_eq_of_lt (Nat.pow_lt_pow_right (by decide) hs)] at this
    have hp : 0 < 2 ^ (k &&& 31).toBitVec.toNat := Nat.pow_pos (by decide)
    simp at this
theorem own_bit2 (a k : Int32) : ((Jvm.Free.XT.ushr a (k &&& 31)) &&& (1 : Int32)) = (1 : Int32) ↔ a.toBitVec.getLsbD (k &&& 31).toBitVec.toNat = true := by
  have hs := own_small k
  have e : ((Jvm.Free.XT.ushr a (k &&& 31)) &&& (1 : Int32)).toBitVec = (a.toBitVec >>> (k &&& 31).toBitVec.toNat) &&& (BitVec.ofNat 32 1) := by
    delta Jvm.Free.XT.ushr
    rw [own_and31]
    show (a.toBitVec >>> ((k &&& 31).toBitVec % (BitVec.ofNat 32 32))) &&& (BitVec.ofNat 32 1) = _
    rw [BitVec.ushiftRight_eq', BitVec.toNat_umod]
    have : (k &&& 31).toBitVec.toNat % ((BitVec.ofNat 32 32)).toNat = (k &&& 31).toBitVec.toNat := Nat.mod_eq_of_lt hs
    rw [this]
  have z : ((Jvm.Free.XT.ushr a (k &&& 31)) &&& (1 : Int32)) = (1 : Int32) ↔ ((Jvm.Free.XT.ushr a (k &&& 31)) &&& (1 : Int32)).toBitVec = (BitVec.ofNat 32 1) := Int32.toBitVec_inj.symm
  rw [z, e]
  constructor
  · intro h
    have := congrArg (fun b => BitVec.getLsbD b 0) h
    simpa using this
  · intro h
    apply BitVec.eq_of_getLsbD_eq
    intro i hi
    rw [BitVec.getLsbD_and, BitVec.getLsbD_ushiftRight]
    by_cases h0 : i = 0
    · subst h0; rw [Nat.add_zero, h]; decide
    · simp [BitVec.getLsbD_one, h0]
theorem own_single_t (a k : Int32) (h : ((Jvm.Free.XT.ushr a (k &&& 31)) &&& (1 : Int32)) = (1 : Int32)) : own_has a ((1 : Int32) <<< ((k &&& 31) &&& 31)) = (1 : Int32) :=
  own_has_o.mpr fun z => by rw [own_bit1, (own_bit2 a k).mp h] at z; cases z
theorem own_single_f (a k : Int32) (h : ¬ ((Jvm.Free.XT.ushr a (k &&& 31)) &&& (1 : Int32)) = (1 : Int32)) : own_has a ((1 : Int32) <<< ((k &&& 31) &&& 31)) = (0 : Int32) :=
  own_has_z.mpr ((own_bit1 a k).mpr (by cases hb : a.toBitVec.getLsbD (k &&& 31).toBitVec.toNat; rfl; exact absurd ((own_bit2 a k).mpr hb) h))
theorem own_neg (b : BitVec 32) : -b = ~~~(b - (BitVec.ofNat 32 1)) := by
  rw [BitVec.not_eq_neg_add]; bv_omega
theorem own_join (b : Int32) : ((b &&& -b) ||| (b &&& (b - (1 : Int32)))) = b := by
  rw [← Int32.toBitVec_inj]
  show (b.toBitVec &&& -b.toBitVec) ||| (b.toBitVec &&& (b.toBitVec - (BitVec.ofNat 32 1))) = b.toBitVec
  rw [own_neg]
  generalize b.toBitVec - (BitVec.ofNat 32 1) = c
  generalize b.toBitVec = b
  apply BitVec.eq_of_getLsbD_eq
  intro i hi
  simp only [BitVec.getLsbD_or, BitVec.getLsbD_and, BitVec.getLsbD_not, hi, decide_true, Bool.true_and]
  cases b.getLsbD i <;> cases c.getLsbD i <;> rfl
theorem own_dist (a b c : Int32) : (a &&& (b ||| c)) = 0 ↔ (a &&& b) = 0 ∧ (a &&& c) = 0 := by
  rw [← Int32.toBitVec_inj, ← Int32.toBitVec_inj, ← Int32.toBitVec_inj]
  show a.toBitVec &&& (b.toBitVec ||| c.toBitVec) = (BitVec.ofNat 32 0) ↔ a.toBitVec &&& b.toBitVec = (BitVec.ofNat 32 0) ∧ a.toBitVec &&& c.toBitVec = (BitVec.ofNat 32 0)
  generalize a.toBitVec = a; generalize b.toBitVec = b; generalize c.toBitVec = c
  have key : ∀ x y : BitVec 32, x &&& y = (BitVec.ofNat 32 0) ↔ ∀ i, i < 32 → (x.getLsbD i && y.getLsbD i) = false := fun x y =>
    ⟨fun h i hi => by have := congrArg (fun z => BitVec.getLsbD z i) h; simpa using this, fun h => BitVec.eq_of_getLsbD_eq fun i hi => by simp [h i hi]⟩
  rw [key, key, key]
  constructor
  · intro h
    refine ⟨fun i hi => ?_, fun i hi => ?_⟩ <;> have := h i hi <;> simp only [BitVec.getLsbD_or] at this <;> revert this <;> cases a.getLsbD i <;> cases b.getLsbD i <;> cases c.getLsbD i <;> simp
  · rintro ⟨h1, h2⟩ i hi
    have q1 := h1 i hi; have q2 := h2 i hi
    simp only [BitVec.getLsbD_or]; revert q1 q2; cases a.getLsbD i <;> cases b.getLsbD i <;> cases c.getLsbD i <;> simp
theorem own_split (a b : Int32) : (a &&& b) = 0 ↔ (a &&& (b &&& -b)) = 0 ∧ (a &&& (b &&& (b - (1 : Int32)))) = 0 := by
  rw [← own_dist, own_join]
theorem own_split1 {a b : Int32} (h : ¬ own_has a (b &&& (-b)) = (0 : Int32)) : own_has a b = (1 : Int32) :=
  own_has_o.mpr fun z => h (own_has_z.mpr ((own_split a b).mp z).1)
theorem own_split2 {a b : Int32} (h : ¬ own_has a (b &&& (b - (1 : Int32))) = (0 : Int32)) : own_has a b = (1 : Int32) :=
  own_has_o.mpr fun z => h (own_has_z.mpr ((own_split a b).mp z).2)
theorem own_split0 {a b : Int32} (h : own_has a (b &&& (-b)) = (0 : Int32)) (h' : own_has a (b &&& (b - (1 : Int32))) = (0 : Int32)) : own_has a b = (0 : Int32) :=
  own_has_z.mpr ((own_split a b).mpr ⟨own_has_z.mp h, own_has_z.mp h'⟩)
theorem d1_0 : decode prog_20_method_3_code 0 = .ok (.iload_n 0, 1) := by decide +kernel
theorem d1_1 : decode prog_20_method_3_code 1 = .ok (.iload_n 1, 1) := by decide +kernel
theorem d1_2 : decode prog_20_method_3_code 2 = .ok (.iand, 1) := by decide +kernel
theorem d1_3 : decode prog_20_method_3_code 3 = .ok (.ifCond .eq 7, 3) := by decide +kernel
theorem d1_6 : decode prog_20_method_3_code 6 = .ok (.iconst 1, 1) := by decide +kernel
theorem d1_7 : decode prog_20_method_3_code 7 = .ok (.goto 4, 3) := by decide +kernel
theorem d1_10 : decode prog_20_method_3_code 10 = .ok (.iconst 0, 1) := by decide +kernel
theorem d1_11 : decode prog_20_method_3_code 11 = .ok (.ireturn, 1) := by decide +kernel
theorem pn_1 : plainName "com/example/deft_relay/deftrelay/upc/UpdateLevels" = true := by first | (simp [plainName, overriddenIn]; done) | decide +kernel
theorem ef_1 (m : MethodId) (p1 : Int32) (p2 : Int32)  : entryFrame m #[(.int p1), (.int p2)] 2 = mkF m 0 #[.val (.int p1), .val (.int p2)] [] := by first | (simp [entryFrame, mkF, argsToLocals, Value.category]; done) | rfl
def Q1 (Z : State) (p1 : Int32) (p2 : Int32)  (h0 : Heap) (n0 : Nat) (v : Option Value) (h : Heap) (L : List Loc) : Prop := v = some (.int (own_has p1 p2)) ∧ Fr n0 L ∧ h = h0
set_option maxRecDepth 65536 in
set_option maxHeartbeats 40000000 in
theorem rm1 (l : Launch) (Z : State) (a0 : Array Value) (hw : ∀ d ∈ tables_1, d.before a0 Z = true) (ws : List Jvm.Cond) (p1 : Int32) (p2 : Int32)  (h0 : Heap) (n0 : Nat) (Z0 : n0 ≤ h0.size)  :
    MetFree l (⟨"com/example/deft_relay/deftrelay/upc/UpdateLevels", "has", "(II)Z"⟩ : MethodName) (head1 (Jvm.Cond.code (⟨"com/example/deft_relay/deftrelay/upc/UpdateLevels", "has", "(II)Z"⟩ : MethodName) prog_20_method_3_code 2 (some .boolean) :: ws) ({ frames := 0, cells := 0, slots := 0, locals := 0 } : Room)) (fun a U => a = #[(.int p1), (.int p2)] ∧ Z.Warmed39 U.vm ∧ U.heap = h0) (fun _ _ _ _ _ => True) (fun _ U o U' => ∃ v L, o = .returned v ∧ Q1 Z p1 p2 h0 n0 v U'.heap L ∧ FrameEnd U o U' L ({ frames := 0, cells := 0, slots := 0, locals := 0 } : Room).cells ({ frames := 0, cells := 0, slots := 0, locals := 0 } : Room).slots) := by
  refine MetFree.of_bodySF (plainFor_of_name pn_1) hisR ?_
  intro p e s m args below meth c s₁ Bd hml0 hP hK
  obtain ⟨rfl, hZ, hh⟩ := hP
  have hx := Bd.exec
  have hby := Bd.bytes
  have hml : c.maxLocals = 2 := hml0
  have hown : s.vm.findClass "com/example/deft_relay/deftrelay/upc/UpdateLevels" = some m.cls := findClass_of_methodNamed Bd.named
  have hnm := (name_of_methodNamed Bd.named Bd.method).1
  have hlk : meth.locks = false := Bd.notSynchronized
  have X0 : Stand p l e ({ frames := 0, cells := 0, slots := 0, locals := 0 } : Room) s m #[(.int p1), (.int p2)] below meth c s₁ [] 0 0 := Stand.of_body Bd
  have e0 : s₁.heap = h0 := by rw [← hh, Bd.state]; rfl
  have N0 := Fr.nil n0
  refine own_step (p := p) (e := e) (below := below) (U' := s₁.setTop (mkF m 0 #[.val (.int p1), .val (.int p2)] [])) (fun t k => castTop (ef_1 m p1 p2 ) k) ?_
  refine own_step (fun _ k => XS.iloadN X0.here hx rfl (hb hby d1_0) rfl k) ?_
  show own_E p e below _ (s₁.setTop (mkF m 1 #[.val (.int p1), .val (.int p2)] [(.int p1)]))
  refine own_step (fun _ k => XS.iloadN X0.here hx rfl (hb hby d1_1) rfl k) ?_
  show own_E p e below _ (s₁.setTop (mkF m 2 #[.val (.int p1), .val (.int p2)] [(.int p2), (.int p1)]))
  refine own_step (fun _ k => XS.iand X0.here hx rfl (hb hby d1_2) rfl k) ?_
  show own_E p e below _ (s₁.setTop (mkF m 3 #[.val (.int p1), .val (.int p2)] [(.int (p1 &&& p2))]))
  by_cases hc3 : (p1 &&& p2) = (0 : Int32)
  · skip
    refine own_step (fun _ k => XS.ifYes X0.here hx rfl (pc0 := 3) (pc' := 10) rfl (hb hby d1_3) rfl ((if0 _ _).trans (teq hc3).1) (by decide) (by decide) k) ?_
    show own_E p e below _ (s₁.setTop (mkF m 10 #[.val (.int p1), .val (.int p2)] []))
    refine own_step (fun _ k => XS.iconst X0.here hx rfl (hb hby d1_10) k) ?_
    show own_E p e below _ (s₁.setTop (mkF m 11 #[.val (.int p1), .val (.int p2)] [(.int (0 : Int32))]))
    refine own_ret X0 hlk (v := some (.int (nar .boolean (0 : Int32)))) (fun h => by rw [Bd.returns] at h; cases h) ?_ (by decide) (by decide) (fun fs hr => retN X0 hx (t := .boolean) Bd.returns (by simp) (hb hby d1_11) hr)
    show Q1 Z p1 p2 h0 n0 _ s₁.heap _
    rw [e0]
    refine ⟨congrArg (fun z => some (Value.int z)) ?_, N0, rfl⟩
    simp only [own_has, hc3, if_true, if_false]; decide
  · skip
    refine own_step (fun _ k => XS.ifNo X0.here hx rfl (hb hby d1_3) rfl ((if0 _ _).trans (feq hc3).1) k) ?_
    show own_E p e below _ (s₁.setTop (mkF m 6 #[.val (.int p1), .val (.int p2)] []))
    refine own_step (fun _ k => XS.iconst X0.here hx rfl (hb hby d1_6) k) ?_
    show own_E p e below _ (s₁.setTop (mkF m 7 #[.val (.int p1), .val (.int p2)] [(.int (1 : Int32))]))
    refine own_step (fun _ k => XS.goto X0.here hx rfl (pc0 := 7) (pc' := 11) rfl (hb hby d1_7) (by decide) (by decide) k) ?_
    show own_E p e below _ (s₁.setTop (mkF m 11 #[.val (.int p1), .val (.int p2)] [(.int (1 : Int32))]))
    refine own_ret X0 hlk (v := some (.int (nar .boolean (1 : Int32)))) (fun h => by rw [Bd.returns] at h; cases h) ?_ (by decide) (by decide) (fun fs hr => retN X0 hx (t := .boolean) Bd.returns (by simp) (hb hby d1_11) hr)
    show Q1 Z p1 p2 h0 n0 _ s₁.heap _
    rw [e0]
    refine ⟨congrArg (fun z => some (Value.int z)) ?_, N0, rfl⟩
    simp only [own_has, hc3, if_true, if_false]; decide
theorem pd_0_0 : parseMethodDescriptor "(II)Z" = some ⟨[.int, .int], some .boolean⟩ := by decide +kernel
theorem pn_0 : plainName "com/example/deft_relay/deftrelay/upc/UpdateLevelsHasPinLaw" = true := by first | (simp [plainName, overriddenIn]; done) | decide +kernel
theorem ef_0 (m : MethodId) (p1 : Int32) (p2 : Int32) (p3 : Int32)  : entryFrame m #[(.int p1), (.int p2), (.int p3)] maxLocals = mkF m 0 #[.val (.int p1), .val (.int p2), .val (.int p3), .unset, .unset, .unset, .unset, .unset, .unset, .unset] [] := by first | (simp [entryFrame, mkF, argsToLocals, Value.category, maxLocals]; done) | rfl
def Q0 (Z : State) (p1 : Int32) (p2 : Int32) (p3 : Int32)  (h0 : Heap) (n0 : Nat) (v : Option Value) (h : Heap) (L : List Loc) : Prop := v = some (.int 1) ∧ Fr n0 L
set_option maxRecDepth 65536 in
set_option maxHeartbeats 40000000 in
theorem rm0 (l : Launch) (Z : State) (a0 : Array Value) (hw : ∀ d ∈ tables_1, d.before a0 Z = true) (ws : List Jvm.Cond) (p1 : Int32) (p2 : Int32) (p3 : Int32)  (h0 : Heap) (n0 : Nat) (Z0 : n0 ≤ h0.size)  :
    MetFree l x (head1 (Jvm.Cond.code x code maxLocals ret :: ws) room_1) (fun a U => a = #[(.int p1), (.int p2), (.int p3)] ∧ Z.Warmed39 U.vm ∧ U.heap = h0) (fun _ _ _ _ _ => True) (fun _ U o U' => ∃ v L, o = .returned v ∧ Q0 Z p1 p2 p3 h0 n0 v U'.heap L ∧ FrameEnd U o U' L room_1.cells room_1.slots) := by
  refine MetFree.of_bodySF (plainFor_of_name pn_0) hisR ?_
  intro p e s m args below meth c s₁ Bd hml0 hP hK
  obtain ⟨rfl, hZ, hh⟩ := hP
  have hx := Bd.exec
  have hby := Bd.bytes
  have hml : c.maxLocals = 10 := hml0
  have hown : s.vm.findClass "com/example/deft_relay/deftrelay/upc/UpdateLevelsHasPinLaw" = some m.cls := findClass_of_methodNamed Bd.named
  have hnm := (name_of_methodNamed Bd.named Bd.method).1
  have hlk : meth.locks = false := Bd.notSynchronized
  have X0 : Stand p l e room_1 s m #[(.int p1), (.int p2), (.int p3)] below meth c s₁ [] 0 0 := Stand.of_body Bd
  have e0 : s₁.heap = h0 := by rw [← hh, Bd.state]; rfl
  have N0 := Fr.nil n0
  refine own_step (p := p) (e := e) (below := below) (U' := s₁.setTop (mkF m 0 #[.val (.int p1), .val (.int p2), .val (.int p3), .unset, .unset, .unset, .unset, .unset, .unset, .unset] [])) (fun t k => castTop (ef_0 m p1 p2 p3 ) k) ?_
  refine own_step (fun _ k => XS.iloadN X0.here hx rfl (hb hby at_0) rfl k) ?_
  show own_E p e below _ (s₁.setTop (mkF m 1 #[.val (.int p1), .val (.int p2), .val (.int p3), .unset, .unset, .unset, .unset, .unset, .unset, .unset] [(.int p3)]))
  refine own_step (fun _ k => XS.bipush X0.here hx rfl (hb hby at_1) k) ?_
  show own_E p e below _ (s₁.setTop (mkF m 3 #[.val (.int p1), .val (.int p2), .val (.int p3), .unset, .unset, .unset, .unset, .unset, .unset, .unset] [(.int (31 : Int32)), (.int p3)]))
  refine own_step (fun _ k => XS.iand X0.here hx rfl (hb hby at_3) rfl k) ?_
  show own_E p e below _ (s₁.setTop (mkF m 4 #[.val (.int p1), .val (.int p2), .val (.int p3), .unset, .unset, .unset, .unset, .unset, .unset, .unset] [(.int (p3 &&& (31 : Int32)))]))
  refine own_step (fun _ k => XS.istoreN X0.here hx rfl (hb hby at_4) rfl (l' := #[.val (.int p1), .val (.int p2), .val (.int p3), .val (.int (p3 &&& (31 : Int32))), .unset, .unset, .unset, .unset, .unset, .unset]) rfl k) ?_
  show own_E p e below _ (s₁.setTop (mkF m 5 #[.val (.int p1), .val (.int p2), .val (.int p3), .val (.int (p3 &&& (31 : Int32))), .unset, .unset, .unset, .unset, .unset, .unset] []))
  refine own_step (fun _ k => XS.iconst X0.here hx rfl (hb hby at_5) k) ?_
  show own_E p e below _ (s₁.setTop (mkF m 6 #[.val (.int p1), .val (.int p2), .val (.int p3), .val (.int (p3 &&& (31 : Int32))), .unset, .unset, .unset, .unset, .unset, .unset] [(.int (1 : Int32))]))
  refine own_step (fun _ k => XS.iloadN X0.here hx rfl (hb hby at_6) rfl k) ?_
  show own_E p e below _ (s₁.setTop (mkF m 7 #[.val (.int p1), .val (.int p2), .val (.int p3), .val (.int (p3 &&& (31 : Int32))), .unset, .unset, .unset, .unset, .unset, .unset] [(.int (p3 &&& (31 : Int32))), (.int (1 : Int32))]))
  refine own_step (fun _ k => Jvm.Free.XT.ishl X0.here hx rfl (hb hby at_7) rfl k) ?_
  show own_E p e below _ (s₁.setTop (mkF m 8 #[.val (.int p1), .val (.int p2), .val (.int p3), .val (.int (p3 &&& (31 : Int32))), .unset, .unset, .unset, .unset, .unset, .unset] [(.int ((1 : Int32) <<< ((p3 &&& (31 : Int32)) &&& 31)))]))
  refine own_step (fun _ k => XS.istore X0.here hx rfl (hb hby at_8) rfl (l' := #[.val (.int p1), .val (.int p2), .val (.int p3), .val (.int (p3 &&& (31 : Int32))), .val (.int ((1 : Int32) <<< ((p3 &&& (31 : Int32)) &&& 31))), .unset, .unset, .unset, .unset, .unset]) rfl k) ?_
  show own_E p e below _ (s₁.setTop (mkF m 10 #[.val (.int p1), .val (.int p2), .val (.int p3), .val (.int (p3 &&& (31 : Int32))), .val (.int ((1 : Int32) <<< ((p3 &&& (31 : Int32)) &&& 31))), .unset, .unset, .unset, .unset, .unset] []))
  refine own_step (fun _ k => XS.iloadN X0.here hx rfl (hb hby at_10) rfl k) ?_
  show own_E p e below _ (s₁.setTop (mkF m 11 #[.val (.int p1), .val (.int p2), .val (.int p3), .val (.int (p3 &&& (31 : Int32))), .val (.int ((1 : Int32) <<< ((p3 &&& (31 : Int32)) &&& 31))), .unset, .unset, .unset, .unset, .unset] [(.int p1)]))
  refine own_step (fun _ k => XS.iload X0.here hx rfl (hb hby at_11) rfl k) ?_
  show own_E p e below _ (s₁.setTop (mkF m 13 #[.val (.int p1), .val (.int p2), .val (.int p3), .val (.int (p3 &&& (31 : Int32))), .val (.int ((1 : Int32) <<< ((p3 &&& (31 : Int32)) &&& 31))), .unset, .unset, .unset, .unset, .unset] [(.int ((1 : Int32) <<< ((p3 &&& (31 : Int32)) &&& 31))), (.int p1)]))
  obtain ⟨_, _, ⟨T1, L1, k1, n1⟩, -, X1, ⟨Lc1, hQ1, l1, y1, z1⟩, st1⟩ := Jvm.LawKit.callS X0 hx (y := (⟨"com/example/deft_relay/deftrelay/upc/UpdateLevels", "has", "(II)Z"⟩ : MethodName)) hown (mvT hZ (hw _ (List.mem_of_getElem? (i := 0) rfl))) (mvT hZ (hw _ (List.mem_of_getElem? (i := 1) rfl))) (mvT hZ (hw _ (List.mem_of_getElem? (i := 2) rfl))) (mvT hZ (hw _ (List.mem_of_getElem? (i := 3) rfl))) (by decide) (backOf (W := 0) (rm1 l Z a0 hw [] p1 ((1 : Int32) <<< ((p3 &&& (31 : Int32)) &&& 31))  h0 n0 Z0) hZ (hw _ (List.mem_of_getElem? (i := 3) rfl)) (hw _ (List.mem_of_getElem? (i := 2) rfl)) (by decide) (by decide)) (g := (mkF m 13 #[.val (.int p1), .val (.int p2), .val (.int p3), .val (.int (p3 &&& (31 : Int32))), .val (.int ((1 : Int32) <<< ((p3 &&& (31 : Int32)) &&& 31))), .unset, .unset, .unset, .unset, .unset] [(.int ((1 : Int32) <<< ((p3 &&& (31 : Int32)) &&& 31))), (.int p1)])) rfl (by rw [hml]; rfl) (argsL := [(.int p1), (.int ((1 : Int32) <<< ((p3 &&& (31 : Int32)) &&& 31)))]) (rest := []) (lenOf pd_0_0 rfl) rfl (by show 2 * 0 + _ ≤ _; exact Nat.le_of_eq rfl) (hb hby at_13) (fun _ _ => ⟨rfl, e0, (by decide : 0 + 0 ≤ _), (by decide : 0 + 0 ≤ _)⟩)
  dsimp only [Pt.U, Pt.locs, Pt.cells, Pt.slots] at X1 l1 y1 z1 st1 hQ1
  subst l1 y1 z1
  obtain ⟨rfl, N1q, e1⟩ := hQ1
  have N1 := Fr.app N0 N1q
  refine own_step (st1) ?_
  show own_E p e below _ (T1.setTop (mkF m 16 #[.val (.int p1), .val (.int p2), .val (.int p3), .val (.int (p3 &&& (31 : Int32))), .val (.int ((1 : Int32) <<< ((p3 &&& (31 : Int32)) &&& 31))), .unset, .unset, .unset, .unset, .unset] [(.int (own_has p1 ((1 : Int32) <<< ((p3 &&& (31 : Int32)) &&& 31))))]))
  refine own_step (fun _ k => XS.iloadN X1.here hx rfl (hb hby at_16) rfl k) ?_
  show own_E p e below _ (T1.setTop (mkF m 17 #[.val (.int p1), .val (.int p2), .val (.int p3), .val (.int (p3 &&& (31 : Int32))), .val (.int ((1 : Int32) <<< ((p3 &&& (31 : Int32)) &&& 31))), .unset, .unset, .unset, .unset, .unset] [(.int p1), (.int (own_has p1 ((1 : Int32) <<< ((p3 &&& (31 : Int32)) &&& 31))))]))
  refine own_step (fun _ k => XS.iloadN X1.here hx rfl (hb hby at_17) rfl k) ?_
  show own_E p e below _ (T1.setTop (mkF m 18 #[.val (.int p1), .val (.int p2), .val (.int p3), .val (.int (p3 &&& (31 : Int32))), .val (.int ((1 : Int32) <<< ((p3 &&& (31 : Int32)) &&& 31))), .unset, .unset, .unset, .unset, .unset] [(.int (p3 &&& (31 : Int32))), (.int p1), (.int (own_has p1 ((1 : Int32) <<< ((p3 &&& (31 : Int32)) &&& 31))))]))
  refine own_step (fun _ k => Jvm.Free.XT.iushr X1.here hx rfl (hb hby at_18) rfl k) ?_
  show own_E p e below _ (T1.setTop (mkF m 19 #[.val (.int p1), .val (.int p2), .val (.int p3), .val (.int (p3 &&& (31 : Int32))), .val (.int ((1 : Int32) <<< ((p3 &&& (31 : Int32)) &&& 31))), .unset, .unset, .unset, .unset, .unset] [(.int (Jvm.Free.XT.ushr p1 (p3 &&& (31 : Int32)))), (.int (own_has p1 ((1 : Int32) <<< ((p3 &&& (31 : Int32)) &&& 31))))]))
  refine own_step (fun _ k => XS.iconst X1.here hx rfl (hb hby at_19) k) ?_
  show own_E p e below _ (T1.setTop (mkF m 20 #[.val (.int p1), .val (.int p2), .val (.int p3), .val (.int (p3 &&& (31 : Int32))), .val (.int ((1 : Int32) <<< ((p3 &&& (31 : Int32)) &&& 31))), .unset, .unset, .unset, .unset, .unset] [(.int (1 : Int32)), (.int (Jvm.Free.XT.ushr p1 (p3 &&& (31 : Int32)))), (.int (own_has p1 ((1 : Int32) <<< ((p3 &&& (31 : Int32)) &&& 31))))]))
  refine own_step (fun _ k => XS.iand X1.here hx rfl (hb hby at_20) rfl k) ?_
  show own_E p e below _ (T1.setTop (mkF m 21 #[.val (.int p1), .val (.int p2), .val (.int p3), .val (.int (p3 &&& (31 : Int32))), .val (.int ((1 : Int32) <<< ((p3 &&& (31 : Int32)) &&& 31))), .unset, .unset, .unset, .unset, .unset] [(.int ((Jvm.Free.XT.ushr p1 (p3 &&& (31 : Int32))) &&& (1 : Int32))), (.int (own_has p1 ((1 : Int32) <<< ((p3 &&& (31 : Int32)) &&& 31))))]))
  refine own_step (fun _ k => XS.iconst X1.here hx rfl (hb hby at_21) k) ?_
  show own_E p e below _ (T1.setTop (mkF m 22 #[.val (.int p1), .val (.int p2), .val (.int p3), .val (.int (p3 &&& (31 : Int32))), .val (.int ((1 : Int32) <<< ((p3 &&& (31 : Int32)) &&& 31))), .unset, .unset, .unset, .unset, .unset] [(.int (1 : Int32)), (.int ((Jvm.Free.XT.ushr p1 (p3 &&& (31 : Int32))) &&& (1 : Int32))), (.int (own_has p1 ((1 : Int32) <<< ((p3 &&& (31 : Int32)) &&& 31))))]))
  by_cases hc22 : ((Jvm.Free.XT.ushr p1 (p3 &&& (31 : Int32))) &&& (1 : Int32)) = (1 : Int32)
  · skip
    refine own_step (fun _ k => XS.icmpNo X1.here hx rfl (hb hby at_22) rfl (teq hc22).2 k) ?_
    show own_E p e below _ (T1.setTop (mkF m 25 #[.val (.int p1), .val (.int p2), .val (.int p3), .val (.int (p3 &&& (31 : Int32))), .val (.int ((1 : Int32) <<< ((p3 &&& (31 : Int32)) &&& 31))), .unset, .unset, .unset, .unset, .unset] [(.int (own_has p1 ((1 : Int32) <<< ((p3 &&& (31 : Int32)) &&& 31))))]))
    refine own_step (fun _ k => XS.iconst X1.here hx rfl (hb hby at_25) k) ?_
    show own_E p e below _ (T1.setTop (mkF m 26 #[.val (.int p1), .val (.int p2), .val (.int p3), .val (.int (p3 &&& (31 : Int32))), .val (.int ((1 : Int32) <<< ((p3 &&& (31 : Int32)) &&& 31))), .unset, .unset, .unset, .unset, .unset] [(.int (1 : Int32)), (.int (own_has p1 ((1 : Int32) <<< ((p3 &&& (31 : Int32)) &&& 31))))]))
    refine own_step (fun _ k => XS.goto X1.here hx rfl (pc0 := 26) (pc' := 30) rfl (hb hby at_26) (by decide) (by decide) k) ?_
    show own_E p e below _ (T1.setTop (mkF m 30 #[.val (.int p1), .val (.int p2), .val (.int p3), .val (.int (p3 &&& (31 : Int32))), .val (.int ((1 : Int32) <<< ((p3 &&& (31 : Int32)) &&& 31))), .unset, .unset, .unset, .unset, .unset] [(.int (1 : Int32)), (.int (own_has p1 ((1 : Int32) <<< ((p3 &&& (31 : Int32)) &&& 31))))]))
    refine own_step (fun _ k => XS.icmpNo X1.here hx rfl (hb hby at_30) rfl (teq (own_single_t _ _ hc22)).2 k) ?_
    show own_E p e below _ (T1.setTop (mkF m 33 #[.val (.int p1), .val (.int p2), .val (.int p3), .val (.int (p3 &&& (31 : Int32))), .val (.int ((1 : Int32) <<< ((p3 &&& (31 : Int32)) &&& 31))), .unset, .unset, .unset, .unset, .unset] []))
    refine own_step (fun _ k => XS.iconst X1.here hx rfl (hb hby at_33) k) ?_
    show own_E p e below _ (T1.setTop (mkF m 34 #[.val (.int p1), .val (.int p2), .val (.int p3), .val (.int (p3 &&& (31 : Int32))), .val (.int ((1 : Int32) <<< ((p3 &&& (31 : Int32)) &&& 31))), .unset, .unset, .unset, .unset, .unset] [(.int (1 : Int32))]))
    refine own_step (fun _ k => XS.goto X1.here hx rfl (pc0 := 34) (pc' := 38) rfl (hb hby at_34) (by decide) (by decide) k) ?_
    show own_E p e below _ (T1.setTop (mkF m 38 #[.val (.int p1), .val (.int p2), .val (.int p3), .val (.int (p3 &&& (31 : Int32))), .val (.int ((1 : Int32) <<< ((p3 &&& (31 : Int32)) &&& 31))), .unset, .unset, .unset, .unset, .unset] [(.int (1 : Int32))]))
    refine own_step (fun _ k => XS.istore X1.here hx rfl (hb hby at_38) rfl (l' := #[.val (.int p1), .val (.int p2), .val (.int p3), .val (.int (p3 &&& (31 : Int32))), .val (.int ((1 : Int32) <<< ((p3 &&& (31 : Int32)) &&& 31))), .val (.int (1 : Int32)), .unset, .unset, .unset, .unset]) rfl k) ?_
    show own_E p e below _ (T1.setTop (mkF m 40 #[.val (.int p1), .val (.int p2), .val (.int p3), .val (.int (p3 &&& (31 : Int32))), .val (.int ((1 : Int32) <<< ((p3 &&& (31 : Int32)) &&& 31))), .val (.int (1 : Int32)), .unset, .unset, .unset, .unset] []))
    refine own_step (fun _ k => XS.iloadN X1.here hx rfl (hb hby at_40) rfl k) ?_
    show own_E p e below _ (T1.setTop (mkF m 41 #[.val (.int p1), .val (.int p2), .val (.int p3), .val (.int (p3 &&& (31 : Int32))), .val (.int ((1 : Int32) <<< ((p3 &&& (31 : Int32)) &&& 31))), .val (.int (1 : Int32)), .unset, .unset, .unset, .unset] [(.int p1)]))
    refine own_step (fun _ k => XS.iconst X1.here hx rfl (hb hby at_41) k) ?_
    show own_E p e below _ (T1.setTop (mkF m 42 #[.val (.int p1), .val (.int p2), .val (.int p3), .val (.int (p3 &&& (31 : Int32))), .val (.int ((1 : Int32) <<< ((p3 &&& (31 : Int32)) &&& 31))), .val (.int (1 : Int32)), .unset, .unset, .unset, .unset] [(.int (0 : Int32)), (.int p1)]))
    obtain ⟨_, _, ⟨T2, L2, k2, n2⟩, -, X2, ⟨Lc2, hQ2, l2, y2, z2⟩, st2⟩ := Jvm.LawKit.callS X1 hx (y := (⟨"com/example/deft_relay/deftrelay/upc/UpdateLevels", "has", "(II)Z"⟩ : MethodName)) hown (mvT hZ (hw _ (List.mem_of_getElem? (i := 0) rfl))) (mvT hZ (hw _ (List.mem_of_getElem? (i := 1) rfl))) (mvT hZ (hw _ (List.mem_of_getElem? (i := 2) rfl))) (mvT hZ (hw _ (List.mem_of_getElem? (i := 3) rfl))) (by decide) (backOf (W := 0) (rm1 l Z a0 hw [] p1 (0 : Int32)  h0 n0 Z0) hZ (hw _ (List.mem_of_getElem? (i := 3) rfl)) (hw _ (List.mem_of_getElem? (i := 2) rfl)) (by decide) (by decide)) (g := (mkF m 42 #[.val (.int p1), .val (.int p2), .val (.int p3), .val (.int (p3 &&& (31 : Int32))), .val (.int ((1 : Int32) <<< ((p3 &&& (31 : Int32)) &&& 31))), .val (.int (1 : Int32)), .unset, .unset, .unset, .unset] [(.int (0 : Int32)), (.int p1)])) rfl (by rw [hml]; rfl) (argsL := [(.int p1), (.int (0 : Int32))]) (rest := []) (lenOf pd_0_0 rfl) rfl (by show 2 * 0 + _ ≤ _; exact Nat.le_of_eq rfl) (hb hby at_42) (fun _ _ => ⟨rfl, e1, (by decide : 0 + 0 ≤ _), (by decide : 0 + 0 ≤ _)⟩)
    dsimp only [Pt.U, Pt.locs, Pt.cells, Pt.slots] at X2 l2 y2 z2 st2 hQ2
    subst l2 y2 z2
    obtain ⟨rfl, N2q, e2⟩ := hQ2
    have N2 := Fr.app N1 N2q
    refine own_step (st2) ?_
    show own_E p e below _ (T2.setTop (mkF m 45 #[.val (.int p1), .val (.int p2), .val (.int p3), .val (.int (p3 &&& (31 : Int32))), .val (.int ((1 : Int32) <<< ((p3 &&& (31 : Int32)) &&& 31))), .val (.int (1 : Int32)), .unset, .unset, .unset, .unset] [(.int (own_has p1 (0 : Int32)))]))
    refine own_step (fun _ k => XS.ifNo X2.here hx rfl (hb hby at_45) rfl ((if0 _ _).trans (teq (own_has0 _)).2) k) ?_
    show own_E p e below _ (T2.setTop (mkF m 48 #[.val (.int p1), .val (.int p2), .val (.int p3), .val (.int (p3 &&& (31 : Int32))), .val (.int ((1 : Int32) <<< ((p3 &&& (31 : Int32)) &&& 31))), .val (.int (1 : Int32)), .unset, .unset, .unset, .unset] []))
    refine own_step (fun _ k => XS.iconst X2.here hx rfl (hb hby at_48) k) ?_
    show own_E p e below _ (T2.setTop (mkF m 49 #[.val (.int p1), .val (.int p2), .val (.int p3), .val (.int (p3 &&& (31 : Int32))), .val (.int ((1 : Int32) <<< ((p3 &&& (31 : Int32)) &&& 31))), .val (.int (1 : Int32)), .unset, .unset, .unset, .unset] [(.int (1 : Int32))]))
    refine own_step (fun _ k => XS.goto X2.here hx rfl (pc0 := 49) (pc' := 53) rfl (hb hby at_49) (by decide) (by decide) k) ?_
    show own_E p e below _ (T2.setTop (mkF m 53 #[.val (.int p1), .val (.int p2), .val (.int p3), .val (.int (p3 &&& (31 : Int32))), .val (.int ((1 : Int32) <<< ((p3 &&& (31 : Int32)) &&& 31))), .val (.int (1 : Int32)), .unset, .unset, .unset, .unset] [(.int (1 : Int32))]))
    refine own_step (fun _ k => XS.istore X2.here hx rfl (hb hby at_53) rfl (l' := #[.val (.int p1), .val (.int p2), .val (.int p3), .val (.int (p3 &&& (31 : Int32))), .val (.int ((1 : Int32) <<< ((p3 &&& (31 : Int32)) &&& 31))), .val (.int (1 : Int32)), .val (.int (1 : Int32)), .unset, .unset, .unset]) rfl k) ?_
    show own_E p e below _ (T2.setTop (mkF m 55 #[.val (.int p1), .val (.int p2), .val (.int p3), .val (.int (p3 &&& (31 : Int32))), .val (.int ((1 : Int32) <<< ((p3 &&& (31 : Int32)) &&& 31))), .val (.int (1 : Int32)), .val (.int (1 : Int32)), .unset, .unset, .unset] []))
    refine own_step (fun _ k => XS.iloadN X2.here hx rfl (hb hby at_55) rfl k) ?_
    show own_E p e below _ (T2.setTop (mkF m 56 #[.val (.int p1), .val (.int p2), .val (.int p3), .val (.int (p3 &&& (31 : Int32))), .val (.int ((1 : Int32) <<< ((p3 &&& (31 : Int32)) &&& 31))), .val (.int (1 : Int32)), .val (.int (1 : Int32)), .unset, .unset, .unset] [(.int p2)]))
    refine own_step (fun _ k => XS.iloadN X2.here hx rfl (hb hby at_56) rfl k) ?_
    show own_E p e below _ (T2.setTop (mkF m 57 #[.val (.int p1), .val (.int p2), .val (.int p3), .val (.int (p3 &&& (31 : Int32))), .val (.int ((1 : Int32) <<< ((p3 &&& (31 : Int32)) &&& 31))), .val (.int (1 : Int32)), .val (.int (1 : Int32)), .unset, .unset, .unset] [(.int p2), (.int p2)]))
    refine own_step (fun _ k => XS.ineg X2.here hx rfl (hb hby at_57) rfl k) ?_
    show own_E p e below _ (T2.setTop (mkF m 58 #[.val (.int p1), .val (.int p2), .val (.int p3), .val (.int (p3 &&& (31 : Int32))), .val (.int ((1 : Int32) <<< ((p3 &&& (31 : Int32)) &&& 31))), .val (.int (1 : Int32)), .val (.int (1 : Int32)), .unset, .unset, .unset] [(.int (-p2)), (.int p2)]))
    refine own_step (fun _ k => XS.iand X2.here hx rfl (hb hby at_58) rfl k) ?_
    show own_E p e below _ (T2.setTop (mkF m 59 #[.val (.int p1), .val (.int p2), .val (.int p3), .val (.int (p3 &&& (31 : Int32))), .val (.int ((1 : Int32) <<< ((p3 &&& (31 : Int32)) &&& 31))), .val (.int (1 : Int32)), .val (.int (1 : Int32)), .unset, .unset, .unset] [(.int (p2 &&& (-p2)))]))
    refine own_step (fun _ k => XS.istore X2.here hx rfl (hb hby at_59) rfl (l' := #[.val (.int p1), .val (.int p2), .val (.int p3), .val (.int (p3 &&& (31 : Int32))), .val (.int ((1 : Int32) <<< ((p3 &&& (31 : Int32)) &&& 31))), .val (.int (1 : Int32)), .val (.int (1 : Int32)), .val (.int (p2 &&& (-p2))), .unset, .unset]) rfl k) ?_
    show own_E p e below _ (T2.setTop (mkF m 61 #[.val (.int p1), .val (.int p2), .val (.int p3), .val (.int (p3 &&& (31 : Int32))), .val (.int ((1 : Int32) <<< ((p3 &&& (31 : Int32)) &&& 31))), .val (.int (1 : Int32)), .val (.int (1 : Int32)), .val (.int (p2 &&& (-p2))), .unset, .unset] []))
    refine own_step (fun _ k => XS.iloadN X2.here hx rfl (hb hby at_61) rfl k) ?_
    show own_E p e below _ (T2.setTop (mkF m 62 #[.val (.int p1), .val (.int p2), .val (.int p3), .val (.int (p3 &&& (31 : Int32))), .val (.int ((1 : Int32) <<< ((p3 &&& (31 : Int32)) &&& 31))), .val (.int (1 : Int32)), .val (.int (1 : Int32)), .val (.int (p2 &&& (-p2))), .unset, .unset] [(.int p2)]))
    refine own_step (fun _ k => XS.iloadN X2.here hx rfl (hb hby at_62) rfl k) ?_
    show own_E p e below _ (T2.setTop (mkF m 63 #[.val (.int p1), .val (.int p2), .val (.int p3), .val (.int (p3 &&& (31 : Int32))), .val (.int ((1 : Int32) <<< ((p3 &&& (31 : Int32)) &&& 31))), .val (.int (1 : Int32)), .val (.int (1 : Int32)), .val (.int (p2 &&& (-p2))), .unset, .unset] [(.int p2), (.int p2)]))
    refine own_step (fun _ k => XS.iconst X2.here hx rfl (hb hby at_63) k) ?_
    show own_E p e below _ (T2.setTop (mkF m 64 #[.val (.int p1), .val (.int p2), .val (.int p3), .val (.int (p3 &&& (31 : Int32))), .val (.int ((1 : Int32) <<< ((p3 &&& (31 : Int32)) &&& 31))), .val (.int (1 : Int32)), .val (.int (1 : Int32)), .val (.int (p2 &&& (-p2))), .unset, .unset] [(.int (1 : Int32)), (.int p2), (.int p2)]))
    refine own_step (fun _ k => XS.isub X2.here hx rfl (hb hby at_64) rfl k) ?_
    show own_E p e below _ (T2.setTop (mkF m 65 #[.val (.int p1), .val (.int p2), .val (.int p3), .val (.int (p3 &&& (31 : Int32))), .val (.int ((1 : Int32) <<< ((p3 &&& (31 : Int32)) &&& 31))), .val (.int (1 : Int32)), .val (.int (1 : Int32)), .val (.int (p2 &&& (-p2))), .unset, .unset] [(.int (p2 - (1 : Int32))), (.int p2)]))
    refine own_step (fun _ k => XS.iand X2.here hx rfl (hb hby at_65) rfl k) ?_
    show own_E p e below _ (T2.setTop (mkF m 66 #[.val (.int p1), .val (.int p2), .val (.int p3), .val (.int (p3 &&& (31 : Int32))), .val (.int ((1 : Int32) <<< ((p3 &&& (31 : Int32)) &&& 31))), .val (.int (1 : Int32)), .val (.int (1 : Int32)), .val (.int (p2 &&& (-p2))), .unset, .unset] [(.int (p2 &&& (p2 - (1 : Int32))))]))
    refine own_step (fun _ k => XS.istore X2.here hx rfl (hb hby at_66) rfl (l' := #[.val (.int p1), .val (.int p2), .val (.int p3), .val (.int (p3 &&& (31 : Int32))), .val (.int ((1 : Int32) <<< ((p3 &&& (31 : Int32)) &&& 31))), .val (.int (1 : Int32)), .val (.int (1 : Int32)), .val (.int (p2 &&& (-p2))), .val (.int (p2 &&& (p2 - (1 : Int32)))), .unset]) rfl k) ?_
    show own_E p e below _ (T2.setTop (mkF m 68 #[.val (.int p1), .val (.int p2), .val (.int p3), .val (.int (p3 &&& (31 : Int32))), .val (.int ((1 : Int32) <<< ((p3 &&& (31 : Int32)) &&& 31))), .val (.int (1 : Int32)), .val (.int (1 : Int32)), .val (.int (p2 &&& (-p2))), .val (.int (p2 &&& (p2 - (1 : Int32)))), .unset] []))
    refine own_step (fun _ k => XS.iloadN X2.here hx rfl (hb hby at_68) rfl k) ?_
    show own_E p e below _ (T2.setTop (mkF m 69 #[.val (.int p1), .val (.int p2), .val (.int p3), .val (.int (p3 &&& (31 : Int32))), .val (.int ((1 : Int32) <<< ((p3 &&& (31 : Int32)) &&& 31))), .val (.int (1 : Int32)), .val (.int (1 : Int32)), .val (.int (p2 &&& (-p2))), .val (.int (p2 &&& (p2 - (1 : Int32)))), .unset] [(.int p1)]))
    refine own_step (fun _ k => XS.iloadN X2.here hx rfl (hb hby at_69) rfl k) ?_
    show own_E p e below _ (T2.setTop (mkF m 70 #[.val (.int p1), .val (.int p2), .val (.int p3), .val (.int (p3 &&& (31 : Int32))), .val (.int ((1 : Int32) <<< ((p3 &&& (31 : Int32)) &&& 31))), .val (.int (1 : Int32)), .val (.int (1 : Int32)), .val (.int (p2 &&& (-p2))), .val (.int (p2 &&& (p2 - (1 : Int32)))), .unset] [(.int p2), (.int p1)]))
    obtain ⟨_, _, ⟨T3, L3, k3, n3⟩, -, X3, ⟨Lc3, hQ3, l3, y3, z3⟩, st3⟩ := Jvm.LawKit.callS X2 hx (y := (⟨"com/example/deft_relay/deftrelay/upc/UpdateLevels", "has", "(II)Z"⟩ : MethodName)) hown (mvT hZ (hw _ (List.mem_of_getElem? (i := 0) rfl))) (mvT hZ (hw _ (List.mem_of_getElem? (i := 1) rfl))) (mvT hZ (hw _ (List.mem_of_getElem? (i := 2) rfl))) (mvT hZ (hw _ (List.mem_of_getElem? (i := 3) rfl))) (by decide) (backOf (W := 0) (rm1 l Z a0 hw [] p1 p2  h0 n0 Z0) hZ (hw _ (List.mem_of_getElem? (i := 3) rfl)) (hw _ (List.mem_of_getElem? (i := 2) rfl)) (by decide) (by decide)) (g := (mkF m 70 #[.val (.int p1), .val (.int p2), .val (.int p3), .val (.int (p3 &&& (31 : Int32))), .val (.int ((1 : Int32) <<< ((p3 &&& (31 : Int32)) &&& 31))), .val (.int (1 : Int32)), .val (.int (1 : Int32)), .val (.int (p2 &&& (-p2))), .val (.int (p2 &&& (p2 - (1 : Int32)))), .unset] [(.int p2), (.int p1)])) rfl (by rw [hml]; rfl) (argsL := [(.int p1), (.int p2)]) (rest := []) (lenOf pd_0_0 rfl) rfl (by show 2 * 0 + _ ≤ _; exact Nat.le_of_eq rfl) (hb hby at_70) (fun _ _ => ⟨rfl, e2, (by decide : 0 + 0 ≤ _), (by decide : 0 + 0 ≤ _)⟩)
    dsimp only [Pt.U, Pt.locs, Pt.cells, Pt.slots] at X3 l3 y3 z3 st3 hQ3
    subst l3 y3 z3
    obtain ⟨rfl, N3q, e3⟩ := hQ3
    have N3 := Fr.app N2 N3q
    refine own_step (st3) ?_
    show own_E p e below _ (T3.setTop (mkF m 73 #[.val (.int p1), .val (.int p2), .val (.int p3), .val (.int (p3 &&& (31 : Int32))), .val (.int ((1 : Int32) <<< ((p3 &&& (31 : Int32)) &&& 31))), .val (.int (1 : Int32)), .val (.int (1 : Int32)), .val (.int (p2 &&& (-p2))), .val (.int (p2 &&& (p2 - (1 : Int32)))), .unset] [(.int (own_has p1 p2))]))
    refine own_step (fun _ k => XS.iloadN X3.here hx rfl (hb hby at_73) rfl k) ?_
    show own_E p e below _ (T3.setTop (mkF m 74 #[.val (.int p1), .val (.int p2), .val (.int p3), .val (.int (p3 &&& (31 : Int32))), .val (.int ((1 : Int32) <<< ((p3 &&& (31 : Int32)) &&& 31))), .val (.int (1 : Int32)), .val (.int (1 : Int32)), .val (.int (p2 &&& (-p2))), .val (.int (p2 &&& (p2 - (1 : Int32)))), .unset] [(.int p1), (.int (own_has p1 p2))]))
    refine own_step (fun _ k => XS.iload X3.here hx rfl (hb hby at_74) rfl k) ?_
    show own_E p e below _ (T3.setTop (mkF m 76 #[.val (.int p1), .val (.int p2), .val (.int p3), .val (.int (p3 &&& (31 : Int32))), .val (.int ((1 : Int32) <<< ((p3 &&& (31 : Int32)) &&& 31))), .val (.int (1 : Int32)), .val (.int (1 : Int32)), .val (.int (p2 &&& (-p2))), .val (.int (p2 &&& (p2 - (1 : Int32)))), .unset] [(.int (p2 &&& (-p2))), (.int p1), (.int (own_has p1 p2))]))
    obtain ⟨_, _, ⟨T4, L4, k4, n4⟩, -, X4, ⟨Lc4, hQ4, l4, y4, z4⟩, st4⟩ := Jvm.LawKit.callS X3 hx (y := (⟨"com/example/deft_relay/deftrelay/upc/UpdateLevels", "has", "(II)Z"⟩ : MethodName)) hown (mvT hZ (hw _ (List.mem_of_getElem? (i := 0) rfl))) (mvT hZ (hw _ (List.mem_of_getElem? (i := 1) rfl))) (mvT hZ (hw _ (List.mem_of_getElem? (i := 2) rfl))) (mvT hZ (hw _ (List.mem_of_getElem? (i := 3) rfl))) (by decide) (backOf (W := 1) (rm1 l Z a0 hw [] p1 (p2 &&& (-p2))  h0 n0 Z0) hZ (hw _ (List.mem_of_getElem? (i := 3) rfl)) (hw _ (List.mem_of_getElem? (i := 2) rfl)) (by decide) (by decide)) (g := (mkF m 76 #[.val (.int p1), .val (.int p2), .val (.int p3), .val (.int (p3 &&& (31 : Int32))), .val (.int ((1 : Int32) <<< ((p3 &&& (31 : Int32)) &&& 31))), .val (.int (1 : Int32)), .val (.int (1 : Int32)), .val (.int (p2 &&& (-p2))), .val (.int (p2 &&& (p2 - (1 : Int32)))), .unset] [(.int (p2 &&& (-p2))), (.int p1), (.int (own_has p1 p2))])) rfl (by rw [hml]; rfl) (argsL := [(.int p1), (.int (p2 &&& (-p2)))]) (rest := [(.int (own_has p1 p2))]) (lenOf pd_0_0 rfl) rfl (by show 2 * 0 + _ ≤ _; exact Nat.le_of_eq rfl) (hb hby at_76) (fun _ _ => ⟨rfl, e3, (by decide : 0 + 0 ≤ _), (by decide : 0 + 0 ≤ _)⟩)
    dsimp only [Pt.U, Pt.locs, Pt.cells, Pt.slots] at X4 l4 y4 z4 st4 hQ4
    subst l4 y4 z4
    obtain ⟨rfl, N4q, e4⟩ := hQ4
    have N4 := Fr.app N3 N4q
    refine own_step (st4) ?_
    show own_E p e below _ (T4.setTop (mkF m 79 #[.val (.int p1), .val (.int p2), .val (.int p3), .val (.int (p3 &&& (31 : Int32))), .val (.int ((1 : Int32) <<< ((p3 &&& (31 : Int32)) &&& 31))), .val (.int (1 : Int32)), .val (.int (1 : Int32)), .val (.int (p2 &&& (-p2))), .val (.int (p2 &&& (p2 - (1 : Int32)))), .unset] [(.int (own_has p1 (p2 &&& (-p2)))), (.int (own_has p1 p2))]))
    by_cases hc79 : (own_has p1 (p2 &&& (-p2))) = (0 : Int32)
    · skip
      refine own_step (fun _ k => XS.ifNo X4.here hx rfl (hb hby at_79) rfl ((if0 _ _).trans (teq hc79).2) k) ?_
      show own_E p e below _ (T4.setTop (mkF m 82 #[.val (.int p1), .val (.int p2), .val (.int p3), .val (.int (p3 &&& (31 : Int32))), .val (.int ((1 : Int32) <<< ((p3 &&& (31 : Int32)) &&& 31))), .val (.int (1 : Int32)), .val (.int (1 : Int32)), .val (.int (p2 &&& (-p2))), .val (.int (p2 &&& (p2 - (1 : Int32)))), .unset] [(.int (own_has p1 p2))]))
      refine own_step (fun _ k => XS.iloadN X4.here hx rfl (hb hby at_82) rfl k) ?_
      show own_E p e below _ (T4.setTop (mkF m 83 #[.val (.int p1), .val (.int p2), .val (.int p3), .val (.int (p3 &&& (31 : Int32))), .val (.int ((1 : Int32) <<< ((p3 &&& (31 : Int32)) &&& 31))), .val (.int (1 : Int32)), .val (.int (1 : Int32)), .val (.int (p2 &&& (-p2))), .val (.int (p2 &&& (p2 - (1 : Int32)))), .unset] [(.int p1), (.int (own_has p1 p2))]))
      refine own_step (fun _ k => XS.iload X4.here hx rfl (hb hby at_83) rfl k) ?_
      show own_E p e below _ (T4.setTop (mkF m 85 #[.val (.int p1), .val (.int p2), .val (.int p3), .val (.int (p3 &&& (31 : Int32))), .val (.int ((1 : Int32) <<< ((p3 &&& (31 : Int32)) &&& 31))), .val (.int (1 : Int32)), .val (.int (1 : Int32)), .val (.int (p2 &&& (-p2))), .val (.int (p2 &&& (p2 - (1 : Int32)))), .unset] [(.int (p2 &&& (p2 - (1 : Int32)))), (.int p1), (.int (own_has p1 p2))]))
      obtain ⟨_, _, ⟨T5, L5, k5, n5⟩, -, X5, ⟨Lc5, hQ5, l5, y5, z5⟩, st5⟩ := Jvm.LawKit.callS X4 hx (y := (⟨"com/example/deft_relay/deftrelay/upc/UpdateLevels", "has", "(II)Z"⟩ : MethodName)) hown (mvT hZ (hw _ (List.mem_of_getElem? (i := 0) rfl))) (mvT hZ (hw _ (List.mem_of_getElem? (i := 1) rfl))) (mvT hZ (hw _ (List.mem_of_getElem? (i := 2) rfl))) (mvT hZ (hw _ (List.mem_of_getElem? (i := 3) rfl))) (by decide) (backOf (W := 1) (rm1 l Z a0 hw [] p1 (p2 &&& (p2 - (1 : Int32)))  h0 n0 Z0) hZ (hw _ (List.mem_of_getElem? (i := 3) rfl)) (hw _ (List.mem_of_getElem? (i := 2) rfl)) (by decide) (by decide)) (g := (mkF m 85 #[.val (.int p1), .val (.int p2), .val (.int p3), .val (.int (p3 &&& (31 : Int32))), .val (.int ((1 : Int32) <<< ((p3 &&& (31 : Int32)) &&& 31))), .val (.int (1 : Int32)), .val (.int (1 : Int32)), .val (.int (p2 &&& (-p2))), .val (.int (p2 &&& (p2 - (1 : Int32)))), .unset] [(.int (p2 &&& (p2 - (1 : Int32)))), (.int p1), (.int (own_has p1 p2))])) rfl (by rw [hml]; rfl) (argsL := [(.int p1), (.int (p2 &&& (p2 - (1 : Int32))))]) (rest := [(.int (own_has p1 p2))]) (lenOf pd_0_0 rfl) rfl (by show 2 * 0 + _ ≤ _; exact Nat.le_of_eq rfl) (hb hby at_85) (fun _ _ => ⟨rfl, e4, (by decide : 0 + 0 ≤ _), (by decide : 0 + 0 ≤ _)⟩)
      dsimp only [Pt.U, Pt.locs, Pt.cells, Pt.slots] at X5 l5 y5 z5 st5 hQ5
      subst l5 y5 z5
      obtain ⟨rfl, N5q, e5⟩ := hQ5
      have N5 := Fr.app N4 N5q
      refine own_step (st5) ?_
      show own_E p e below _ (T5.setTop (mkF m 88 #[.val (.int p1), .val (.int p2), .val (.int p3), .val (.int (p3 &&& (31 : Int32))), .val (.int ((1 : Int32) <<< ((p3 &&& (31 : Int32)) &&& 31))), .val (.int (1 : Int32)), .val (.int (1 : Int32)), .val (.int (p2 &&& (-p2))), .val (.int (p2 &&& (p2 - (1 : Int32)))), .unset] [(.int (own_has p1 (p2 &&& (p2 - (1 : Int32))))), (.int (own_has p1 p2))]))
      by_cases hc88 : (own_has p1 (p2 &&& (p2 - (1 : Int32)))) = (0 : Int32)
      · skip
        refine own_step (fun _ k => XS.ifYes X5.here hx rfl (pc0 := 88) (pc' := 95) rfl (hb hby at_88) rfl ((if0 _ _).trans (teq hc88).1) (by decide) (by decide) k) ?_
        show own_E p e below _ (T5.setTop (mkF m 95 #[.val (.int p1), .val (.int p2), .val (.int p3), .val (.int (p3 &&& (31 : Int32))), .val (.int ((1 : Int32) <<< ((p3 &&& (31 : Int32)) &&& 31))), .val (.int (1 : Int32)), .val (.int (1 : Int32)), .val (.int (p2 &&& (-p2))), .val (.int (p2 &&& (p2 - (1 : Int32)))), .unset] [(.int (own_has p1 p2))]))
        refine own_step (fun _ k => XS.iconst X5.here hx rfl (hb hby at_95) k) ?_
        show own_E p e below _ (T5.setTop (mkF m 96 #[.val (.int p1), .val (.int p2), .val (.int p3), .val (.int (p3 &&& (31 : Int32))), .val (.int ((1 : Int32) <<< ((p3 &&& (31 : Int32)) &&& 31))), .val (.int (1 : Int32)), .val (.int (1 : Int32)), .val (.int (p2 &&& (-p2))), .val (.int (p2 &&& (p2 - (1 : Int32)))), .unset] [(.int (0 : Int32)), (.int (own_has p1 p2))]))
        refine own_step (fun _ k => XS.icmpNo X5.here hx rfl (hb hby at_96) rfl (teq (own_split0 hc79 hc88)).2 k) ?_
        show own_E p e below _ (T5.setTop (mkF m 99 #[.val (.int p1), .val (.int p2), .val (.int p3), .val (.int (p3 &&& (31 : Int32))), .val (.int ((1 : Int32) <<< ((p3 &&& (31 : Int32)) &&& 31))), .val (.int (1 : Int32)), .val (.int (1 : Int32)), .val (.int (p2 &&& (-p2))), .val (.int (p2 &&& (p2 - (1 : Int32)))), .unset] []))
        refine own_step (fun _ k => XS.iconst X5.here hx rfl (hb hby at_99) k) ?_
        show own_E p e below _ (T5.setTop (mkF m 100 #[.val (.int p1), .val (.int p2), .val (.int p3), .val (.int (p3 &&& (31 : Int32))), .val (.int ((1 : Int32) <<< ((p3 &&& (31 : Int32)) &&& 31))), .val (.int (1 : Int32)), .val (.int (1 : Int32)), .val (.int (p2 &&& (-p2))), .val (.int (p2 &&& (p2 - (1 : Int32)))), .unset] [(.int (1 : Int32))]))
        refine own_step (fun _ k => XS.goto X5.here hx rfl (pc0 := 100) (pc' := 104) rfl (hb hby at_100) (by decide) (by decide) k) ?_
        show own_E p e below _ (T5.setTop (mkF m 104 #[.val (.int p1), .val (.int p2), .val (.int p3), .val (.int (p3 &&& (31 : Int32))), .val (.int ((1 : Int32) <<< ((p3 &&& (31 : Int32)) &&& 31))), .val (.int (1 : Int32)), .val (.int (1 : Int32)), .val (.int (p2 &&& (-p2))), .val (.int (p2 &&& (p2 - (1 : Int32)))), .unset] [(.int (1 : Int32))]))
        refine own_step (fun _ k => XS.istore X5.here hx rfl (hb hby at_104) rfl (l' := #[.val (.int p1), .val (.int p2), .val (.int p3), .val (.int (p3 &&& (31 : Int32))), .val (.int ((1 : Int32) <<< ((p3 &&& (31 : Int32)) &&& 31))), .val (.int (1 : Int32)), .val (.int (1 : Int32)), .val (.int (p2 &&& (-p2))), .val (.int (p2 &&& (p2 - (1 : Int32)))), .val (.int (1 : Int32))]) rfl k) ?_
        show own_E p e below _ (T5.setTop (mkF m 106 #[.val (.int p1), .val (.int p2), .val (.int p3), .val (.int (p3 &&& (31 : Int32))), .val (.int ((1 : Int32) <<< ((p3 &&& (31 : Int32)) &&& 31))), .val (.int (1 : Int32)), .val (.int (1 : Int32)), .val (.int (p2 &&& (-p2))), .val (.int (p2 &&& (p2 - (1 : Int32)))), .val (.int (1 : Int32))] []))
        refine own_step (fun _ k => XS.iload X5.here hx rfl (hb hby at_106) rfl k) ?_
        show own_E p e below _ (T5.setTop (mkF m 108 #[.val (.int p1), .val (.int p2), .val (.int p3), .val (.int (p3 &&& (31 : Int32))), .val (.int ((1 : Int32) <<< ((p3 &&& (31 : Int32)) &&& 31))), .val (.int (1 : Int32)), .val (.int (1 : Int32)), .val (.int (p2 &&& (-p2))), .val (.int (p2 &&& (p2 - (1 : Int32)))), .val (.int (1 : Int32))] [(.int (1 : Int32))]))
        refine own_step (fun _ k => XS.ifNo X5.here hx rfl (hb hby at_108) rfl ((if0 _ _).trans (feq (by decide)).1) k) ?_
        show own_E p e below _ (T5.setTop (mkF m 111 #[.val (.int p1), .val (.int p2), .val (.int p3), .val (.int (p3 &&& (31 : Int32))), .val (.int ((1 : Int32) <<< ((p3 &&& (31 : Int32)) &&& 31))), .val (.int (1 : Int32)), .val (.int (1 : Int32)), .val (.int (p2 &&& (-p2))), .val (.int (p2 &&& (p2 - (1 : Int32)))), .val (.int (1 : Int32))] []))
        refine own_step (fun _ k => XS.iload X5.here hx rfl (hb hby at_111) rfl k) ?_
        show own_E p e below _ (T5.setTop (mkF m 113 #[.val (.int p1), .val (.int p2), .val (.int p3), .val (.int (p3 &&& (31 : Int32))), .val (.int ((1 : Int32) <<< ((p3 &&& (31 : Int32)) &&& 31))), .val (.int (1 : Int32)), .val (.int (1 : Int32)), .val (.int (p2 &&& (-p2))), .val (.int (p2 &&& (p2 - (1 : Int32)))), .val (.int (1 : Int32))] [(.int (1 : Int32))]))
        refine own_step (fun _ k => XS.ifNo X5.here hx rfl (hb hby at_113) rfl ((if0 _ _).trans (feq (by decide)).1) k) ?_
        show own_E p e below _ (T5.setTop (mkF m 116 #[.val (.int p1), .val (.int p2), .val (.int p3), .val (.int (p3 &&& (31 : Int32))), .val (.int ((1 : Int32) <<< ((p3 &&& (31 : Int32)) &&& 31))), .val (.int (1 : Int32)), .val (.int (1 : Int32)), .val (.int (p2 &&& (-p2))), .val (.int (p2 &&& (p2 - (1 : Int32)))), .val (.int (1 : Int32))] []))
        refine own_step (fun _ k => XS.iload X5.here hx rfl (hb hby at_116) rfl k) ?_
        show own_E p e below _ (T5.setTop (mkF m 118 #[.val (.int p1), .val (.int p2), .val (.int p3), .val (.int (p3 &&& (31 : Int32))), .val (.int ((1 : Int32) <<< ((p3 &&& (31 : Int32)) &&& 31))), .val (.int (1 : Int32)), .val (.int (1 : Int32)), .val (.int (p2 &&& (-p2))), .val (.int (p2 &&& (p2 - (1 : Int32)))), .val (.int (1 : Int32))] [(.int (1 : Int32))]))
        refine own_step (fun _ k => XS.ifNo X5.here hx rfl (hb hby at_118) rfl ((if0 _ _).trans (feq (by decide)).1) k) ?_
        show own_E p e below _ (T5.setTop (mkF m 121 #[.val (.int p1), .val (.int p2), .val (.int p3), .val (.int (p3 &&& (31 : Int32))), .val (.int ((1 : Int32) <<< ((p3 &&& (31 : Int32)) &&& 31))), .val (.int (1 : Int32)), .val (.int (1 : Int32)), .val (.int (p2 &&& (-p2))), .val (.int (p2 &&& (p2 - (1 : Int32)))), .val (.int (1 : Int32))] []))
        refine own_step (fun _ k => XS.iconst X5.here hx rfl (hb hby at_121) k) ?_
        show own_E p e below _ (T5.setTop (mkF m 122 #[.val (.int p1), .val (.int p2), .val (.int p3), .val (.int (p3 &&& (31 : Int32))), .val (.int ((1 : Int32) <<< ((p3 &&& (31 : Int32)) &&& 31))), .val (.int (1 : Int32)), .val (.int (1 : Int32)), .val (.int (p2 &&& (-p2))), .val (.int (p2 &&& (p2 - (1 : Int32)))), .val (.int (1 : Int32))] [(.int (1 : Int32))]))
        refine own_step (fun _ k => XS.goto X5.here hx rfl (pc0 := 122) (pc' := 126) rfl (hb hby at_122) (by decide) (by decide) k) ?_
        show own_E p e below _ (T5.setTop (mkF m 126 #[.val (.int p1), .val (.int p2), .val (.int p3), .val (.int (p3 &&& (31 : Int32))), .val (.int ((1 : Int32) <<< ((p3 &&& (31 : Int32)) &&& 31))), .val (.int (1 : Int32)), .val (.int (1 : Int32)), .val (.int (p2 &&& (-p2))), .val (.int (p2 &&& (p2 - (1 : Int32)))), .val (.int (1 : Int32))] [(.int (1 : Int32))]))
        refine own_ret X5 hlk (v := some (.int (nar .boolean (1 : Int32)))) (fun h => by rw [Bd.returns] at h; cases h) ?_ (by decide) (by decide) (fun fs hr => retN X5 hx (t := .boolean) Bd.returns (by simp) (hb hby at_126) hr)
        show Q0 Z p1 p2 p3 h0 n0 _ T5.heap _
        rw [e5]
        exact ⟨by decide, N5⟩
      · skip
        refine own_step (fun _ k => XS.ifNo X5.here hx rfl (hb hby at_88) rfl ((if0 _ _).trans (feq hc88).1) k) ?_
        show own_E p e below _ (T5.setTop (mkF m 91 #[.val (.int p1), .val (.int p2), .val (.int p3), .val (.int (p3 &&& (31 : Int32))), .val (.int ((1 : Int32) <<< ((p3 &&& (31 : Int32)) &&& 31))), .val (.int (1 : Int32)), .val (.int (1 : Int32)), .val (.int (p2 &&& (-p2))), .val (.int (p2 &&& (p2 - (1 : Int32)))), .unset] [(.int (own_has p1 p2))]))
        refine own_step (fun _ k => XS.iconst X5.here hx rfl (hb hby at_91) k) ?_
        show own_E p e below _ (T5.setTop (mkF m 92 #[.val (.int p1), .val (.int p2), .val (.int p3), .val (.int (p3 &&& (31 : Int32))), .val (.int ((1 : Int32) <<< ((p3 &&& (31 : Int32)) &&& 31))), .val (.int (1 : Int32)), .val (.int (1 : Int32)), .val (.int (p2 &&& (-p2))), .val (.int (p2 &&& (p2 - (1 : Int32)))), .unset] [(.int (1 : Int32)), (.int (own_has p1 p2))]))
        refine own_step (fun _ k => XS.goto X5.here hx rfl (pc0 := 92) (pc' := 96) rfl (hb hby at_92) (by decide) (by decide) k) ?_
        show own_E p e below _ (T5.setTop (mkF m 96 #[.val (.int p1), .val (.int p2), .val (.int p3), .val (.int (p3 &&& (31 : Int32))), .val (.int ((1 : Int32) <<< ((p3 &&& (31 : Int32)) &&& 31))), .val (.int (1 : Int32)), .val (.int (1 : Int32)), .val (.int (p2 &&& (-p2))), .val (.int (p2 &&& (p2 - (1 : Int32)))), .unset] [(.int (1 : Int32)), (.int (own_has p1 p2))]))
        refine own_step (fun _ k => XS.icmpNo X5.here hx rfl (hb hby at_96) rfl (teq (own_split2 hc88)).2 k) ?_
        show own_E p e below _ (T5.setTop (mkF m 99 #[.val (.int p1), .val (.int p2), .val (.int p3), .val (.int (p3 &&& (31 : Int32))), .val (.int ((1 : Int32) <<< ((p3 &&& (31 : Int32)) &&& 31))), .val (.int (1 : Int32)), .val (.int (1 : Int32)), .val (.int (p2 &&& (-p2))), .val (.int (p2 &&& (p2 - (1 : Int32)))), .unset] []))
        refine own_step (fun _ k => XS.iconst X5.here hx rfl (hb hby at_99) k) ?_
        show own_E p e below _ (T5.setTop (mkF m 100 #[.val (.int p1), .val (.int p2), .val (.int p3), .val (.int (p3 &&& (31 : Int32))), .val (.int ((1 : Int32) <<< ((p3 &&& (31 : Int32)) &&& 31))), .val (.int (1 : Int32)), .val (.int (1 : Int32)), .val (.int (p2 &&& (-p2))), .val (.int (p2 &&& (p2 - (1 : Int32)))), .unset] [(.int (1 : Int32))]))
        refine own_step (fun _ k => XS.goto X5.here hx rfl (pc0 := 100) (pc' := 104) rfl (hb hby at_100) (by decide) (by decide) k) ?_
        show own_E p e below _ (T5.setTop (mkF m 104 #[.val (.int p1), .val (.int p2), .val (.int p3), .val (.int (p3 &&& (31 : Int32))), .val (.int ((1 : Int32) <<< ((p3 &&& (31 : Int32)) &&& 31))), .val (.int (1 : Int32)), .val (.int (1 : Int32)), .val (.int (p2 &&& (-p2))), .val (.int (p2 &&& (p2 - (1 : Int32)))), .unset] [(.int (1 : Int32))]))
        refine own_step (fun _ k => XS.istore X5.here hx rfl (hb hby at_104) rfl (l' := #[.val (.int p1), .val (.int p2), .val (.int p3), .val (.int (p3 &&& (31 : Int32))), .val (.int ((1 : Int32) <<< ((p3 &&& (31 : Int32)) &&& 31))), .val (.int (1 : Int32)), .val (.int (1 : Int32)), .val (.int (p2 &&& (-p2))), .val (.int (p2 &&& (p2 - (1 : Int32)))), .val (.int (1 : Int32))]) rfl k) ?_
        show own_E p e below _ (T5.setTop (mkF m 106 #[.val (.int p1), .val (.int p2), .val (.int p3), .val (.int (p3 &&& (31 : Int32))), .val (.int ((1 : Int32) <<< ((p3 &&& (31 : Int32)) &&& 31))), .val (.int (1 : Int32)), .val (.int (1 : Int32)), .val (.int (p2 &&& (-p2))), .val (.int (p2 &&& (p2 - (1 : Int32)))), .val (.int (1 : Int32))] []))
        refine own_step (fun _ k => XS.iload X5.here hx rfl (hb hby at_106) rfl k) ?_
        show own_E p e below _ (T5.setTop (mkF m 108 #[.val (.int p1), .val (.int p2), .val (.int p3), .val (.int (p3 &&& (31 : Int32))), .val (.int ((1 : Int32) <<< ((p3 &&& (31 : Int32)) &&& 31))), .val (.int (1 : Int32)), .val (.int (1 : Int32)), .val (.int (p2 &&& (-p2))), .val (.int (p2 &&& (p2 - (1 : Int32)))), .val (.int (1 : Int32))] [(.int (1 : Int32))]))
        refine own_step (fun _ k => XS.ifNo X5.here hx rfl (hb hby at_108) rfl ((if0 _ _).trans (feq (by decide)).1) k) ?_
        show own_E p e below _ (T5.setTop (mkF m 111 #[.val (.int p1), .val (.int p2), .val (.int p3), .val (.int (p3 &&& (31 : Int32))), .val (.int ((1 : Int32) <<< ((p3 &&& (31 : Int32)) &&& 31))), .val (.int (1 : Int32)), .val (.int (1 : Int32)), .val (.int (p2 &&& (-p2))), .val (.int (p2 &&& (p2 - (1 : Int32)))), .val (.int (1 : Int32))] []))
        refine own_step (fun _ k => XS.iload X5.here hx rfl (hb hby at_111) rfl k) ?_
        show own_E p e below _ (T5.setTop (mkF m 113 #[.val (.int p1), .val (.int p2), .val (.int p3), .val (.int (p3 &&& (31 : Int32))), .val (.int ((1 : Int32) <<< ((p3 &&& (31 : Int32)) &&& 31))), .val (.int (1 : Int32)), .val (.int (1 : Int32)), .val (.int (p2 &&& (-p2))), .val (.int (p2 &&& (p2 - (1 : Int32)))), .val (.int (1 : Int32))] [(.int (1 : Int32))]))
        refine own_step (fun _ k => XS.ifNo X5.here hx rfl (hb hby at_113) rfl ((if0 _ _).trans (feq (by decide)).1) k) ?_
        show own_E p e below _ (T5.setTop (mkF m 116 #[.val (.int p1), .val (.int p2), .val (.int p3), .val (.int (p3 &&& (31 : Int32))), .val (.int ((1 : Int32) <<< ((p3 &&& (31 : Int32)) &&& 31))), .val (.int (1 : Int32)), .val (.int (1 : Int32)), .val (.int (p2 &&& (-p2))), .val (.int (p2 &&& (p2 - (1 : Int32)))), .val (.int (1 : Int32))] []))
        refine own_step (fun _ k => XS.iload X5.here hx rfl (hb hby at_116) rfl k) ?_
        show own_E p e below _ (T5.setTop (mkF m 118 #[.val (.int p1), .val (.int p2), .val (.int p3), .val (.int (p3 &&& (31 : Int32))), .val (.int ((1 : Int32) <<< ((p3 &&& (31 : Int32)) &&& 31))), .val (.int (1 : Int32)), .val (.int (1 : Int32)), .val (.int (p2 &&& (-p2))), .val (.int (p2 &&& (p2 - (1 : Int32)))), .val (.int (1 : Int32))] [(.int (1 : Int32))]))
        refine own_step (fun _ k => XS.ifNo X5.here hx rfl (hb hby at_118) rfl ((if0 _ _).trans (feq (by decide)).1) k) ?_
        show own_E p e below _ (T5.setTop (mkF m 121 #[.val (.int p1), .val (.int p2), .val (.int p3), .val (.int (p3 &&& (31 : Int32))), .val (.int ((1 : Int32) <<< ((p3 &&& (31 : Int32)) &&& 31))), .val (.int (1 : Int32)), .val (.int (1 : Int32)), .val (.int (p2 &&& (-p2))), .val (.int (p2 &&& (p2 - (1 : Int32)))), .val (.int (1 : Int32))] []))
        refine own_step (fun _ k => XS.iconst X5.here hx rfl (hb hby at_121) k) ?_
        show own_E p e below _ (T5.setTop (mkF m 122 #[.val (.int p1), .val (.int p2), .val (.int p3), .val (.int (p3 &&& (31 : Int32))), .val (.int ((1 : Int32) <<< ((p3 &&& (31 : Int32)) &&& 31))), .val (.int (1 : Int32)), .val (.int (1 : Int32)), .val (.int (p2 &&& (-p2))), .val (.int (p2 &&& (p2 - (1 : Int32)))), .val (.int (1 : Int32))] [(.int (1 : Int32))]))
        refine own_step (fun _ k => XS.goto X5.here hx rfl (pc0 := 122) (pc' := 126) rfl (hb hby at_122) (by decide) (by decide) k) ?_
        show own_E p e below _ (T5.setTop (mkF m 126 #[.val (.int p1), .val (.int p2), .val (.int p3), .val (.int (p3 &&& (31 : Int32))), .val (.int ((1 : Int32) <<< ((p3 &&& (31 : Int32)) &&& 31))), .val (.int (1 : Int32)), .val (.int (1 : Int32)), .val (.int (p2 &&& (-p2))), .val (.int (p2 &&& (p2 - (1 : Int32)))), .val (.int (1 : Int32))] [(.int (1 : Int32))]))
        refine own_ret X5 hlk (v := some (.int (nar .boolean (1 : Int32)))) (fun h => by rw [Bd.returns] at h; cases h) ?_ (by decide) (by decide) (fun fs hr => retN X5 hx (t := .boolean) Bd.returns (by simp) (hb hby at_126) hr)
        show Q0 Z p1 p2 p3 h0 n0 _ T5.heap _
        rw [e5]
        exact ⟨by decide, N5⟩
    · skip
      refine own_step (fun _ k => XS.ifYes X4.here hx rfl (pc0 := 79) (pc' := 91) rfl (hb hby at_79) rfl ((if0 _ _).trans (feq hc79).2) (by decide) (by decide) k) ?_
      show own_E p e below _ (T4.setTop (mkF m 91 #[.val (.int p1), .val (.int p2), .val (.int p3), .val (.int (p3 &&& (31 : Int32))), .val (.int ((1 : Int32) <<< ((p3 &&& (31 : Int32)) &&& 31))), .val (.int (1 : Int32)), .val (.int (1 : Int32)), .val (.int (p2 &&& (-p2))), .val (.int (p2 &&& (p2 - (1 : Int32)))), .unset] [(.int (own_has p1 p2))]))
      refine own_step (fun _ k => XS.iconst X4.here hx rfl (hb hby at_91) k) ?_
      show own_E p e below _ (T4.setTop (mkF m 92 #[.val (.int p1), .val (.int p2), .val (.int p3), .val (.int (p3 &&& (31 : Int32))), .val (.int ((1 : Int32) <<< ((p3 &&& (31 : Int32)) &&& 31))), .val (.int (1 : Int32)), .val (.int (1 : Int32)), .val (.int (p2 &&& (-p2))), .val (.int (p2 &&& (p2 - (1 : Int32)))), .unset] [(.int (1 : Int32)), (.int (own_has p1 p2))]))
      refine own_step (fun _ k => XS.goto X4.here hx rfl (pc0 := 92) (pc' := 96) rfl (hb hby at_92) (by decide) (by decide) k) ?_
      show own_E p e below _ (T4.setTop (mkF m 96 #[.val (.int p1), .val (.int p2), .val (.int p3), .val (.int (p3 &&& (31 : Int32))), .val (.int ((1 : Int32) <<< ((p3 &&& (31 : Int32)) &&& 31))), .val (.int (1 : Int32)), .val (.int (1 : Int32)), .val (.int (p2 &&& (-p2))), .val (.int (p2 &&& (p2 - (1 : Int32)))), .unset] [(.int (1 : Int32)), (.int (own_has p1 p2))]))
      refine own_step (fun _ k => XS.icmpNo X4.here hx rfl (hb hby at_96) rfl (teq (own_split1 hc79)).2 k) ?_
      show own_E p e below _ (T4.setTop (mkF m 99 #[.val (.int p1), .val (.int p2), .val (.int p3), .val (.int (p3 &&& (31 : Int32))), .val (.int ((1 : Int32) <<< ((p3 &&& (31 : Int32)) &&& 31))), .val (.int (1 : Int32)), .val (.int (1 : Int32)), .val (.int (p2 &&& (-p2))), .val (.int (p2 &&& (p2 - (1 : Int32)))), .unset] []))
      refine own_step (fun _ k => XS.iconst X4.here hx rfl (hb hby at_99) k) ?_
      show own_E p e below _ (T4.setTop (mkF m 100 #[.val (.int p1), .val (.int p2), .val (.int p3), .val (.int (p3 &&& (31 : Int32))), .val (.int ((1 : Int32) <<< ((p3 &&& (31 : Int32)) &&& 31))), .val (.int (1 : Int32)), .val (.int (1 : Int32)), .val (.int (p2 &&& (-p2))), .val (.int (p2 &&& (p2 - (1 : Int32)))), .unset] [(.int (1 : Int32))]))
      refine own_step (fun _ k => XS.goto X4.here hx rfl (pc0 := 100) (pc' := 104) rfl (hb hby at_100) (by decide) (by decide) k) ?_
      show own_E p e below _ (T4.setTop (mkF m 104 #[.val (.int p1), .val (.int p2), .val (.int p3), .val (.int (p3 &&& (31 : Int32))), .val (.int ((1 : Int32) <<< ((p3 &&& (31 : Int32)) &&& 31))), .val (.int (1 : Int32)), .val (.int (1 : Int32)), .val (.int (p2 &&& (-p2))), .val (.int (p2 &&& (p2 - (1 : Int32)))), .unset] [(.int (1 : Int32))]))
      refine own_step (fun _ k => XS.istore X4.here hx rfl (hb hby at_104) rfl (l' := #[.val (.int p1), .val (.int p2), .val (.int p3), .val (.int (p3 &&& (31 : Int32))), .val (.int ((1 : Int32) <<< ((p3 &&& (31 : Int32)) &&& 31))), .val (.int (1 : Int32)), .val (.int (1 : Int32)), .val (.int (p2 &&& (-p2))), .val (.int (p2 &&& (p2 - (1 : Int32)))), .val (.int (1 : Int32))]) rfl k) ?_
      show own_E p e below _ (T4.setTop (mkF m 106 #[.val (.int p1), .val (.int p2), .val (.int p3), .val (.int (p3 &&& (31 : Int32))), .val (.int ((1 : Int32) <<< ((p3 &&& (31 : Int32)) &&& 31))), .val (.int (1 : Int32)), .val (.int (1 : Int32)), .val (.int (p2 &&& (-p2))), .val (.int (p2 &&& (p2 - (1 : Int32)))), .val (.int (1 : Int32))] []))
      refine own_step (fun _ k => XS.iload X4.here hx rfl (hb hby at_106) rfl k) ?_
      show own_E p e below _ (T4.setTop (mkF m 108 #[.val (.int p1), .val (.int p2), .val (.int p3), .val (.int (p3 &&& (31 : Int32))), .val (.int ((1 : Int32) <<< ((p3 &&& (31 : Int32)) &&& 31))), .val (.int (1 : Int32)), .val (.int (1 : Int32)), .val (.int (p2 &&& (-p2))), .val (.int (p2 &&& (p2 - (1 : Int32)))), .val (.int (1 : Int32))] [(.int (1 : Int32))]))
      refine own_step (fun _ k => XS.ifNo X4.here hx rfl (hb hby at_108) rfl ((if0 _ _).trans (feq (by decide)).1) k) ?_
      show own_E p e below _ (T4.setTop (mkF m 111 #[.val (.int p1), .val (.int p2), .val (.int p3), .val (.int (p3 &&& (31 : Int32))), .val (.int ((1 : Int32) <<< ((p3 &&& (31 : Int32)) &&& 31))), .val (.int (1 : Int32)), .val (.int (1 : Int32)), .val (.int (p2 &&& (-p2))), .val (.int (p2 &&& (p2 - (1 : Int32)))), .val (.int (1 : Int32))] []))
      refine own_step (fun _ k => XS.iload X4.here hx rfl (hb hby at_111) rfl k) ?_
      show own_E p e below _ (T4.setTop (mkF m 113 #[.val (.int p1), .val (.int p2), .val (.int p3), .val (.int (p3 &&& (31 : Int32))), .val (.int ((1 : Int32) <<< ((p3 &&& (31 : Int32)) &&& 31))), .val (.int (1 : Int32)), .val (.int (1 : Int32)), .val (.int (p2 &&& (-p2))), .val (.int (p2 &&& (p2 - (1 : Int32)))), .val (.int (1 : Int32))] [(.int (1 : Int32))]))
      refine own_step (fun _ k => XS.ifNo X4.here hx rfl (hb hby at_113) rfl ((if0 _ _).trans (feq (by decide)).1) k) ?_
      show own_E p e below _ (T4.setTop (mkF m 116 #[.val (.int p1), .val (.int p2), .val (.int p3), .val (.int (p3 &&& (31 : Int32))), .val (.int ((1 : Int32) <<< ((p3 &&& (31 : Int32)) &&& 31))), .val (.int (1 : Int32)), .val (.int (1 : Int32)), .val (.int (p2 &&& (-p2))), .val (.int (p2 &&& (p2 - (1 : Int32)))), .val (.int (1 : Int32))] []))
      refine own_step (fun _ k => XS.iload X4.here hx rfl (hb hby at_116) rfl k) ?_
      show own_E p e below _ (T4.setTop (mkF m 118 #[.val (.int p1), .val (.int p2), .val (.int p3), .val (.int (p3 &&& (31 : Int32))), .val (.int ((1 : Int32) <<< ((p3 &&& (31 : Int32)) &&& 31))), .val (.int (1 : Int32)), .val (.int (1 : Int32)), .val (.int (p2 &&& (-p2))), .val (.int (p2 &&& (p2 - (1 : Int32)))), .val (.int (1 : Int32))] [(.int (1 : Int32))]))
      refine own_step (fun _ k => XS.ifNo X4.here hx rfl (hb hby at_118) rfl ((if0 _ _).trans (feq (by decide)).1) k) ?_
      show own_E p e below _ (T4.setTop (mkF m 121 #[.val (.int p1), .val (.int p2), .val (.int p3), .val (.int (p3 &&& (31 : Int32))), .val (.int ((1 : Int32) <<< ((p3 &&& (31 : Int32)) &&& 31))), .val (.int (1 : Int32)), .val (.int (1 : Int32)), .val (.int (p2 &&& (-p2))), .val (.int (p2 &&& (p2 - (1 : Int32)))), .val (.int (1 : Int32))] []))
      refine own_step (fun _ k => XS.iconst X4.here hx rfl (hb hby at_121) k) ?_
      show own_E p e below _ (T4.setTop (mkF m 122 #[.val (.int p1), .val (.int p2), .val (.int p3), .val (.int (p3 &&& (31 : Int32))), .val (.int ((1 : Int32) <<< ((p3 &&& (31 : Int32)) &&& 31))), .val (.int (1 : Int32)), .val (.int (1 : Int32)), .val (.int (p2 &&& (-p2))), .val (.int (p2 &&& (p2 - (1 : Int32)))), .val (.int (1 : Int32))] [(.int (1 : Int32))]))
      refine own_step (fun _ k => XS.goto X4.here hx rfl (pc0 := 122) (pc' := 126) rfl (hb hby at_122) (by decide) (by decide) k) ?_
      show own_E p e below _ (T4.setTop (mkF m 126 #[.val (.int p1), .val (.int p2), .val (.int p3), .val (.int (p3 &&& (31 : Int32))), .val (.int ((1 : Int32) <<< ((p3 &&& (31 : Int32)) &&& 31))), .val (.int (1 : Int32)), .val (.int (1 : Int32)), .val (.int (p2 &&& (-p2))), .val (.int (p2 &&& (p2 - (1 : Int32)))), .val (.int (1 : Int32))] [(.int (1 : Int32))]))
      refine own_ret X4 hlk (v := some (.int (nar .boolean (1 : Int32)))) (fun h => by rw [Bd.returns] at h; cases h) ?_ (by decide) (by decide) (fun fs hr => retN X4 hx (t := .boolean) Bd.returns (by simp) (hb hby at_126) hr)
      show Q0 Z p1 p2 p3 h0 n0 _ T4.heap _
      rw [e4]
      exact ⟨by decide, N4⟩
  · skip
    refine own_step (fun _ k => XS.icmpYes X1.here hx rfl (pc0 := 22) (pc' := 29) rfl (hb hby at_22) rfl (feq hc22).2 (by decide) (by decide) k) ?_
    show own_E p e below _ (T1.setTop (mkF m 29 #[.val (.int p1), .val (.int p2), .val (.int p3), .val (.int (p3 &&& (31 : Int32))), .val (.int ((1 : Int32) <<< ((p3 &&& (31 : Int32)) &&& 31))), .unset, .unset, .unset, .unset, .unset] [(.int (own_has p1 ((1 : Int32) <<< ((p3 &&& (31 : Int32)) &&& 31))))]))
    refine own_step (fun _ k => XS.iconst X1.here hx rfl (hb hby at_29) k) ?_
    show own_E p e below _ (T1.setTop (mkF m 30 #[.val (.int p1), .val (.int p2), .val (.int p3), .val (.int (p3 &&& (31 : Int32))), .val (.int ((1 : Int32) <<< ((p3 &&& (31 : Int32)) &&& 31))), .unset, .unset, .unset, .unset, .unset] [(.int (0 : Int32)), (.int (own_has p1 ((1 : Int32) <<< ((p3 &&& (31 : Int32)) &&& 31))))]))
    refine own_step (fun _ k => XS.icmpNo X1.here hx rfl (hb hby at_30) rfl (teq (own_single_f _ _ hc22)).2 k) ?_
    show own_E p e below _ (T1.setTop (mkF m 33 #[.val (.int p1), .val (.int p2), .val (.int p3), .val (.int (p3 &&& (31 : Int32))), .val (.int ((1 : Int32) <<< ((p3 &&& (31 : Int32)) &&& 31))), .unset, .unset, .unset, .unset, .unset] []))
    refine own_step (fun _ k => XS.iconst X1.here hx rfl (hb hby at_33) k) ?_
    show own_E p e below _ (T1.setTop (mkF m 34 #[.val (.int p1), .val (.int p2), .val (.int p3), .val (.int (p3 &&& (31 : Int32))), .val (.int ((1 : Int32) <<< ((p3 &&& (31 : Int32)) &&& 31))), .unset, .unset, .unset, .unset, .unset] [(.int (1 : Int32))]))
    refine own_step (fun _ k => XS.goto X1.here hx rfl (pc0 := 34) (pc' := 38) rfl (hb hby at_34) (by decide) (by decide) k) ?_
    show own_E p e below _ (T1.setTop (mkF m 38 #[.val (.int p1), .val (.int p2), .val (.int p3), .val (.int (p3 &&& (31 : Int32))), .val (.int ((1 : Int32) <<< ((p3 &&& (31 : Int32)) &&& 31))), .unset, .unset, .unset, .unset, .unset] [(.int (1 : Int32))]))
    refine own_step (fun _ k => XS.istore X1.here hx rfl (hb hby at_38) rfl (l' := #[.val (.int p1), .val (.int p2), .val (.int p3), .val (.int (p3 &&& (31 : Int32))), .val (.int ((1 : Int32) <<< ((p3 &&& (31 : Int32)) &&& 31))), .val (.int (1 : Int32)), .unset, .unset, .unset, .unset]) rfl k) ?_
    show own_E p e below _ (T1.setTop (mkF m 40 #[.val (.int p1), .val (.int p2), .val (.int p3), .val (.int (p3 &&& (31 : Int32))), .val (.int ((1 : Int32) <<< ((p3 &&& (31 : Int32)) &&& 31))), .val (.int (1 : Int32)), .unset, .unset, .unset, .unset] []))
    refine own_step (fun _ k => XS.iloadN X1.here hx rfl (hb hby at_40) rfl k) ?_
    show own_E p e below _ (T1.setTop (mkF m 41 #[.val (.int p1), .val (.int p2), .val (.int p3), .val (.int (p3 &&& (31 : Int32))), .val (.int ((1 : Int32) <<< ((p3 &&& (31 : Int32)) &&& 31))), .val (.int (1 : Int32)), .unset, .unset, .unset, .unset] [(.int p1)]))
    refine own_step (fun _ k => XS.iconst X1.here hx rfl (hb hby at_41) k) ?_
    show own_E p e below _ (T1.setTop (mkF m 42 #[.val (.int p1), .val (.int p2), .val (.int p3), .val (.int (p3 &&& (31 : Int32))), .val (.int ((1 : Int32) <<< ((p3 &&& (31 : Int32)) &&& 31))), .val (.int (1 : Int32)), .unset, .unset, .unset, .unset] [(.int (0 : Int32)), (.int p1)]))
    obtain ⟨_, _, ⟨T6, L6, k6, n6⟩, -, X6, ⟨Lc6, hQ6, l6, y6, z6⟩, st6⟩ := Jvm.LawKit.callS X1 hx (y := (⟨"com/example/deft_relay/deftrelay/upc/UpdateLevels", "has", "(II)Z"⟩ : MethodName)) hown (mvT hZ (hw _ (List.mem_of_getElem? (i := 0) rfl))) (mvT hZ (hw _ (List.mem_of_getElem? (i := 1) rfl))) (mvT hZ (hw _ (List.mem_of_getElem? (i := 2) rfl))) (mvT hZ (hw _ (List.mem_of_getElem? (i := 3) rfl))) (by decide) (backOf (W := 0) (rm1 l Z a0 hw [] p1 (0 : Int32)  h0 n0 Z0) hZ (hw _ (List.mem_of_getElem? (i := 3) rfl)) (hw _ (List.mem_of_getElem? (i := 2) rfl)) (by decide) (by decide)) (g := (mkF m 42 #[.val (.int p1), .val (.int p2), .val (.int p3), .val (.int (p3 &&& (31 : Int32))), .val (.int ((1 : Int32) <<< ((p3 &&& (31 : Int32)) &&& 31))), .val (.int (1 : Int32)), .unset, .unset, .unset, .unset] [(.int (0 : Int32)), (.int p1)])) rfl (by rw [hml]; rfl) (argsL := [(.int p1), (.int (0 : Int32))]) (rest := []) (lenOf pd_0_0 rfl) rfl (by show 2 * 0 + _ ≤ _; exact Nat.le_of_eq rfl) (hb hby at_42) (fun _ _ => ⟨rfl, e1, (by decide : 0 + 0 ≤ _), (by decide : 0 + 0 ≤ _)⟩)
    dsimp only [Pt.U, Pt.locs, Pt.cells, Pt.slots] at X6 l6 y6 z6 st6 hQ6
    subst l6 y6 z6
    obtain ⟨rfl, N6q, e6⟩ := hQ6
    have N6 := Fr.app N1 N6q
    refine own_step (st6) ?_
    show own_E p e below _ (T6.setTop (mkF m 45 #[.val (.int p1), .val (.int p2), .val (.int p3), .val (.int (p3 &&& (31 : Int32))), .val (.int ((1 : Int32) <<< ((p3 &&& (31 : Int32)) &&& 31))), .val (.int (1 : Int32)), .unset, .unset, .unset, .unset] [(.int (own_has p1 (0 : Int32)))]))
    refine own_step (fun _ k => XS.ifNo X6.here hx rfl (hb hby at_45) rfl ((if0 _ _).trans (teq (own_has0 _)).2) k) ?_
    show own_E p e below _ (T6.setTop (mkF m 48 #[.val (.int p1), .val (.int p2), .val (.int p3), .val (.int (p3 &&& (31 : Int32))), .val (.int ((1 : Int32) <<< ((p3 &&& (31 : Int32)) &&& 31))), .val (.int (1 : Int32)), .unset, .unset, .unset, .unset] []))
    refine own_step (fun _ k => XS.iconst X6.here hx rfl (hb hby at_48) k) ?_
    show own_E p e below _ (T6.setTop (mkF m 49 #[.val (.int p1), .val (.int p2), .val (.int p3), .val (.int (p3 &&& (31 : Int32))), .val (.int ((1 : Int32) <<< ((p3 &&& (31 : Int32)) &&& 31))), .val (.int (1 : Int32)), .unset, .unset, .unset, .unset] [(.int (1 : Int32))]))
    refine own_step (fun _ k => XS.goto X6.here hx rfl (pc0 := 49) (pc' := 53) rfl (hb hby at_49) (by decide) (by decide) k) ?_
    show own_E p e below _ (T6.setTop (mkF m 53 #[.val (.int p1), .val (.int p2), .val (.int p3), .val (.int (p3 &&& (31 : Int32))), .val (.int ((1 : Int32) <<< ((p3 &&& (31 : Int32)) &&& 31))), .val (.int (1 : Int32)), .unset, .unset, .unset, .unset] [(.int (1 : Int32))]))
    refine own_step (fun _ k => XS.istore X6.here hx rfl (hb hby at_53) rfl (l' := #[.val (.int p1), .val (.int p2), .val (.int p3), .val (.int (p3 &&& (31 : Int32))), .val (.int ((1 : Int32) <<< ((p3 &&& (31 : Int32)) &&& 31))), .val (.int (1 : Int32)), .val (.int (1 : Int32)), .unset, .unset, .unset]) rfl k) ?_
    show own_E p e below _ (T6.setTop (mkF m 55 #[.val (.int p1), .val (.int p2), .val (.int p3), .val (.int (p3 &&& (31 : Int32))), .val (.int ((1 : Int32) <<< ((p3 &&& (31 : Int32)) &&& 31))), .val (.int (1 : Int32)), .val (.int (1 : Int32)), .unset, .unset, .unset] []))
    refine own_step (fun _ k => XS.iloadN X6.here hx rfl (hb hby at_55) rfl k) ?_
    show own_E p e below _ (T6.setTop (mkF m 56 #[.val (.int p1), .val (.int p2), .val (.int p3), .val (.int (p3 &&& (31 : Int32))), .val (.int ((1 : Int32) <<< ((p3 &&& (31 : Int32)) &&& 31))), .val (.int (1 : Int32)), .val (.int (1 : Int32)), .unset, .unset, .unset] [(.int p2)]))
    refine own_step (fun _ k => XS.iloadN X6.here hx rfl (hb hby at_56) rfl k) ?_
    show own_E p e below _ (T6.setTop (mkF m 57 #[.val (.int p1), .val (.int p2), .val (.int p3), .val (.int (p3 &&& (31 : Int32))), .val (.int ((1 : Int32) <<< ((p3 &&& (31 : Int32)) &&& 31))), .val (.int (1 : Int32)), .val (.int (1 : Int32)), .unset, .unset, .unset] [(.int p2), (.int p2)]))
    refine own_step (fun _ k => XS.ineg X6.here hx rfl (hb hby at_57) rfl k) ?_
    show own_E p e below _ (T6.setTop (mkF m 58 #[.val (.int p1), .val (.int p2), .val (.int p3), .val (.int (p3 &&& (31 : Int32))), .val (.int ((1 : Int32) <<< ((p3 &&& (31 : Int32)) &&& 31))), .val (.int (1 : Int32)), .val (.int (1 : Int32)), .unset, .unset, .unset] [(.int (-p2)), (.int p2)]))
    refine own_step (fun _ k => XS.iand X6.here hx rfl (hb hby at_58) rfl k) ?_
    show own_E p e below _ (T6.setTop (mkF m 59 #[.val (.int p1), .val (.int p2), .val (.int p3), .val (.int (p3 &&& (31 : Int32))), .val (.int ((1 : Int32) <<< ((p3 &&& (31 : Int32)) &&& 31))), .val (.int (1 : Int32)), .val (.int (1 : Int32)), .unset, .unset, .unset] [(.int (p2 &&& (-p2)))]))
    refine own_step (fun _ k => XS.istore X6.here hx rfl (hb hby at_59) rfl (l' := #[.val (.int p1), .val (.int p2), .val (.int p3), .val (.int (p3 &&& (31 : Int32))), .val (.int ((1 : Int32) <<< ((p3 &&& (31 : Int32)) &&& 31))), .val (.int (1 : Int32)), .val (.int (1 : Int32)), .val (.int (p2 &&& (-p2))), .unset, .unset]) rfl k) ?_
    show own_E p e below _ (T6.setTop (mkF m 61 #[.val (.int p1), .val (.int p2), .val (.int p3), .val (.int (p3 &&& (31 : Int32))), .val (.int ((1 : Int32) <<< ((p3 &&& (31 : Int32)) &&& 31))), .val (.int (1 : Int32)), .val (.int (1 : Int32)), .val (.int (p2 &&& (-p2))), .unset, .unset] []))
    refine own_step (fun _ k => XS.iloadN X6.here hx rfl (hb hby at_61) rfl k) ?_
    show own_E p e below _ (T6.setTop (mkF m 62 #[.val (.int p1), .val (.int p2), .val (.int p3), .val (.int (p3 &&& (31 : Int32))), .val (.int ((1 : Int32) <<< ((p3 &&& (31 : Int32)) &&& 31))), .val (.int (1 : Int32)), .val (.int (1 : Int32)), .val (.int (p2 &&& (-p2))), .unset, .unset] [(.int p2)]))
    refine own_step (fun _ k => XS.iloadN X6.here hx rfl (hb hby at_62) rfl k) ?_
    show own_E p e below _ (T6.setTop (mkF m 63 #[.val (.int p1), .val (.int p2), .val (.int p3), .val (.int (p3 &&& (31 : Int32))), .val (.int ((1 : Int32) <<< ((p3 &&& (31 : Int32)) &&& 31))), .val (.int (1 : Int32)), .val (.int (1 : Int32)), .val (.int (p2 &&& (-p2))), .unset, .unset] [(.int p2), (.int p2)]))
    refine own_step (fun _ k => XS.iconst X6.here hx rfl (hb hby at_63) k) ?_
    show own_E p e below _ (T6.setTop (mkF m 64 #[.val (.int p1), .val (.int p2), .val (.int p3), .val (.int (p3 &&& (31 : Int32))), .val (.int ((1 : Int32) <<< ((p3 &&& (31 : Int32)) &&& 31))), .val (.int (1 : Int32)), .val (.int (1 : Int32)), .val (.int (p2 &&& (-p2))), .unset, .unset] [(.int (1 : Int32)), (.int p2), (.int p2)]))
    refine own_step (fun _ k => XS.isub X6.here hx rfl (hb hby at_64) rfl k) ?_
    show own_E p e below _ (T6.setTop (mkF m 65 #[.val (.int p1), .val (.int p2), .val (.int p3), .val (.int (p3 &&& (31 : Int32))), .val (.int ((1 : Int32) <<< ((p3 &&& (31 : Int32)) &&& 31))), .val (.int (1 : Int32)), .val (.int (1 : Int32)), .val (.int (p2 &&& (-p2))), .unset, .unset] [(.int (p2 - (1 : Int32))), (.int p2)]))
    refine own_step (fun _ k => XS.iand X6.here hx rfl (hb hby at_65) rfl k) ?_
    show own_E p e below _ (T6.setTop (mkF m 66 #[.val (.int p1), .val (.int p2), .val (.int p3), .val (.int (p3 &&& (31 : Int32))), .val (.int ((1 : Int32) <<< ((p3 &&& (31 : Int32)) &&& 31))), .val (.int (1 : Int32)), .val (.int (1 : Int32)), .val (.int (p2 &&& (-p2))), .unset, .unset] [(.int (p2 &&& (p2 - (1 : Int32))))]))
    refine own_step (fun _ k => XS.istore X6.here hx rfl (hb hby at_66) rfl (l' := #[.val (.int p1), .val (.int p2), .val (.int p3), .val (.int (p3 &&& (31 : Int32))), .val (.int ((1 : Int32) <<< ((p3 &&& (31 : Int32)) &&& 31))), .val (.int (1 : Int32)), .val (.int (1 : Int32)), .val (.int (p2 &&& (-p2))), .val (.int (p2 &&& (p2 - (1 : Int32)))), .unset]) rfl k) ?_
    show own_E p e below _ (T6.setTop (mkF m 68 #[.val (.int p1), .val (.int p2), .val (.int p3), .val (.int (p3 &&& (31 : Int32))), .val (.int ((1 : Int32) <<< ((p3 &&& (31 : Int32)) &&& 31))), .val (.int (1 : Int32)), .val (.int (1 : Int32)), .val (.int (p2 &&& (-p2))), .val (.int (p2 &&& (p2 - (1 : Int32)))), .unset] []))
    refine own_step (fun _ k => XS.iloadN X6.here hx rfl (hb hby at_68) rfl k) ?_
    show own_E p e below _ (T6.setTop (mkF m 69 #[.val (.int p1), .val (.int p2), .val (.int p3), .val (.int (p3 &&& (31 : Int32))), .val (.int ((1 : Int32) <<< ((p3 &&& (31 : Int32)) &&& 31))), .val (.int (1 : Int32)), .val (.int (1 : Int32)), .val (.int (p2 &&& (-p2))), .val (.int (p2 &&& (p2 - (1 : Int32)))), .unset] [(.int p1)]))
    refine own_step (fun _ k => XS.iloadN X6.here hx rfl (hb hby at_69) rfl k) ?_
    show own_E p e below _ (T6.setTop (mkF m 70 #[.val (.int p1), .val (.int p2), .val (.int p3), .val (.int (p3 &&& (31 : Int32))), .val (.int ((1 : Int32) <<< ((p3 &&& (31 : Int32)) &&& 31))), .val (.int (1 : Int32)), .val (.int (1 : Int32)), .val (.int (p2 &&& (-p2))), .val (.int (p2 &&& (p2 - (1 : Int32)))), .unset] [(.int p2), (.int p1)]))
    obtain ⟨_, _, ⟨T7, L7, k7, n7⟩, -, X7, ⟨Lc7, hQ7, l7, y7, z7⟩, st7⟩ := Jvm.LawKit.callS X6 hx (y := (⟨"com/example/deft_relay/deftrelay/upc/UpdateLevels", "has", "(II)Z"⟩ : MethodName)) hown (mvT hZ (hw _ (List.mem_of_getElem? (i := 0) rfl))) (mvT hZ (hw _ (List.mem_of_getElem? (i := 1) rfl))) (mvT hZ (hw _ (List.mem_of_getElem? (i := 2) rfl))) (mvT hZ (hw _ (List.mem_of_getElem? (i := 3) rfl))) (by decide) (backOf (W := 0) (rm1 l Z a0 hw [] p1 p2  h0 n0 Z0) hZ (hw _ (List.mem_of_getElem? (i := 3) rfl)) (hw _ (List.mem_of_getElem? (i := 2) rfl)) (by decide) (by decide)) (g := (mkF m 70 #[.val (.int p1), .val (.int p2), .val (.int p3), .val (.int (p3 &&& (31 : Int32))), .val (.int ((1 : Int32) <<< ((p3 &&& (31 : Int32)) &&& 31))), .val (.int (1 : Int32)), .val (.int (1 : Int32)), .val (.int (p2 &&& (-p2))), .val (.int (p2 &&& (p2 - (1 : Int32)))), .unset] [(.int p2), (.int p1)])) rfl (by rw [hml]; rfl) (argsL := [(.int p1), (.int p2)]) (rest := []) (lenOf pd_0_0 rfl) rfl (by show 2 * 0 + _ ≤ _; exact Nat.le_of_eq rfl) (hb hby at_70) (fun _ _ => ⟨rfl, e6, (by decide : 0 + 0 ≤ _), (by decide : 0 + 0 ≤ _)⟩)
    dsimp only [Pt.U, Pt.locs, Pt.cells, Pt.slots] at X7 l7 y7 z7 st7 hQ7
    subst l7 y7 z7
    obtain ⟨rfl, N7q, e7⟩ := hQ7
    have N7 := Fr.app N6 N7q
    refine own_step (st7) ?_
    show own_E p e below _ (T7.setTop (mkF m 73 #[.val (.int p1), .val (.int p2), .val (.int p3), .val (.int (p3 &&& (31 : Int32))), .val (.int ((1 : Int32) <<< ((p3 &&& (31 : Int32)) &&& 31))), .val (.int (1 : Int32)), .val (.int (1 : Int32)), .val (.int (p2 &&& (-p2))), .val (.int (p2 &&& (p2 - (1 : Int32)))), .unset] [(.int (own_has p1 p2))]))
    refine own_step (fun _ k => XS.iloadN X7.here hx rfl (hb hby at_73) rfl k) ?_
    show own_E p e below _ (T7.setTop (mkF m 74 #[.val (.int p1), .val (.int p2), .val (.int p3), .val (.int (p3 &&& (31 : Int32))), .val (.int ((1 : Int32) <<< ((p3 &&& (31 : Int32)) &&& 31))), .val (.int (1 : Int32)), .val (.int (1 : Int32)), .val (.int (p2 &&& (-p2))), .val (.int (p2 &&& (p2 - (1 : Int32)))), .unset] [(.int p1), (.int (own_has p1 p2))]))
    refine own_step (fun _ k => XS.iload X7.here hx rfl (hb hby at_74) rfl k) ?_
    show own_E p e below _ (T7.setTop (mkF m 76 #[.val (.int p1), .val (.int p2), .val (.int p3), .val (.int (p3 &&& (31 : Int32))), .val (.int ((1 : Int32) <<< ((p3 &&& (31 : Int32)) &&& 31))), .val (.int (1 : Int32)), .val (.int (1 : Int32)), .val (.int (p2 &&& (-p2))), .val (.int (p2 &&& (p2 - (1 : Int32)))), .unset] [(.int (p2 &&& (-p2))), (.int p1), (.int (own_has p1 p2))]))
    obtain ⟨_, _, ⟨T8, L8, k8, n8⟩, -, X8, ⟨Lc8, hQ8, l8, y8, z8⟩, st8⟩ := Jvm.LawKit.callS X7 hx (y := (⟨"com/example/deft_relay/deftrelay/upc/UpdateLevels", "has", "(II)Z"⟩ : MethodName)) hown (mvT hZ (hw _ (List.mem_of_getElem? (i := 0) rfl))) (mvT hZ (hw _ (List.mem_of_getElem? (i := 1) rfl))) (mvT hZ (hw _ (List.mem_of_getElem? (i := 2) rfl))) (mvT hZ (hw _ (List.mem_of_getElem? (i := 3) rfl))) (by decide) (backOf (W := 1) (rm1 l Z a0 hw [] p1 (p2 &&& (-p2))  h0 n0 Z0) hZ (hw _ (List.mem_of_getElem? (i := 3) rfl)) (hw _ (List.mem_of_getElem? (i := 2) rfl)) (by decide) (by decide)) (g := (mkF m 76 #[.val (.int p1), .val (.int p2), .val (.int p3), .val (.int (p3 &&& (31 : Int32))), .val (.int ((1 : Int32) <<< ((p3 &&& (31 : Int32)) &&& 31))), .val (.int (1 : Int32)), .val (.int (1 : Int32)), .val (.int (p2 &&& (-p2))), .val (.int (p2 &&& (p2 - (1 : Int32)))), .unset] [(.int (p2 &&& (-p2))), (.int p1), (.int (own_has p1 p2))])) rfl (by rw [hml]; rfl) (argsL := [(.int p1), (.int (p2 &&& (-p2)))]) (rest := [(.int (own_has p1 p2))]) (lenOf pd_0_0 rfl) rfl (by show 2 * 0 + _ ≤ _; exact Nat.le_of_eq rfl) (hb hby at_76) (fun _ _ => ⟨rfl, e7, (by decide : 0 + 0 ≤ _), (by decide : 0 + 0 ≤ _)⟩)
    dsimp only [Pt.U, Pt.locs, Pt.cells, Pt.slots] at X8 l8 y8 z8 st8 hQ8
    subst l8 y8 z8
    obtain ⟨rfl, N8q, e8⟩ := hQ8
    have N8 := Fr.app N7 N8q
    refine own_step (st8) ?_
    show own_E p e below _ (T8.setTop (mkF m 79 #[.val (.int p1), .val (.int p2), .val (.int p3), .val (.int (p3 &&& (31 : Int32))), .val (.int ((1 : Int32) <<< ((p3 &&& (31 : Int32)) &&& 31))), .val (.int (1 : Int32)), .val (.int (1 : Int32)), .val (.int (p2 &&& (-p2))), .val (.int (p2 &&& (p2 - (1 : Int32)))), .unset] [(.int (own_has p1 (p2 &&& (-p2)))), (.int (own_has p1 p2))]))
    by_cases hc79 : (own_has p1 (p2 &&& (-p2))) = (0 : Int32)
    · skip
      refine own_step (fun _ k => XS.ifNo X8.here hx rfl (hb hby at_79) rfl ((if0 _ _).trans (teq hc79).2) k) ?_
      show own_E p e below _ (T8.setTop (mkF m 82 #[.val (.int p1), .val (.int p2), .val (.int p3), .val (.int (p3 &&& (31 : Int32))), .val (.int ((1 : Int32) <<< ((p3 &&& (31 : Int32)) &&& 31))), .val (.int (1 : Int32)), .val (.int (1 : Int32)), .val (.int (p2 &&& (-p2))), .val (.int (p2 &&& (p2 - (1 : Int32)))), .unset] [(.int (own_has p1 p2))]))
      refine own_step (fun _ k => XS.iloadN X8.here hx rfl (hb hby at_82) rfl k) ?_
      show own_E p e below _ (T8.setTop (mkF m 83 #[.val (.int p1), .val (.int p2), .val (.int p3), .val (.int (p3 &&& (31 : Int32))), .val (.int ((1 : Int32) <<< ((p3 &&& (31 : Int32)) &&& 31))), .val (.int (1 : Int32)), .val (.int (1 : Int32)), .val (.int (p2 &&& (-p2))), .val (.int (p2 &&& (p2 - (1 : Int32)))), .unset] [(.int p1), (.int (own_has p1 p2))]))
      refine own_step (fun _ k => XS.iload X8.here hx rfl (hb hby at_83) rfl k) ?_
      show own_E p e below _ (T8.setTop (mkF m 85 #[.val (.int p1), .val (.int p2), .val (.int p3), .val (.int (p3 &&& (31 : Int32))), .val (.int ((1 : Int32) <<< ((p3 &&& (31 : Int32)) &&& 31))), .val (.int (1 : Int32)), .val (.int (1 : Int32)), .val (.int (p2 &&& (-p2))), .val (.int (p2 &&& (p2 - (1 : Int32)))), .unset] [(.int (p2 &&& (p2 - (1 : Int32)))), (.int p1), (.int (own_has p1 p2))]))
      obtain ⟨_, _, ⟨T9, L9, k9, n9⟩, -, X9, ⟨Lc9, hQ9, l9, y9, z9⟩, st9⟩ := Jvm.LawKit.callS X8 hx (y := (⟨"com/example/deft_relay/deftrelay/upc/UpdateLevels", "has", "(II)Z"⟩ : MethodName)) hown (mvT hZ (hw _ (List.mem_of_getElem? (i := 0) rfl))) (mvT hZ (hw _ (List.mem_of_getElem? (i := 1) rfl))) (mvT hZ (hw _ (List.mem_of_getElem? (i := 2) rfl))) (mvT hZ (hw _ (List.mem_of_getElem? (i := 3) rfl))) (by decide) (backOf (W := 1) (rm1 l Z a0 hw [] p1 (p2 &&& (p2 - (1 : Int32)))  h0 n0 Z0) hZ (hw _ (List.mem_of_getElem? (i := 3) rfl)) (hw _ (List.mem_of_getElem? (i := 2) rfl)) (by decide) (by decide)) (g := (mkF m 85 #[.val (.int p1), .val (.int p2), .val (.int p3), .val (.int (p3 &&& (31 : Int32))), .val (.int ((1 : Int32) <<< ((p3 &&& (31 : Int32)) &&& 31))), .val (.int (1 : Int32)), .val (.int (1 : Int32)), .val (.int (p2 &&& (-p2))), .val (.int (p2 &&& (p2 - (1 : Int32)))), .unset] [(.int (p2 &&& (p2 - (1 : Int32)))), (.int p1), (.int (own_has p1 p2))])) rfl (by rw [hml]; rfl) (argsL := [(.int p1), (.int (p2 &&& (p2 - (1 : Int32))))]) (rest := [(.int (own_has p1 p2))]) (lenOf pd_0_0 rfl) rfl (by show 2 * 0 + _ ≤ _; exact Nat.le_of_eq rfl) (hb hby at_85) (fun _ _ => ⟨rfl, e8, (by decide : 0 + 0 ≤ _), (by decide : 0 + 0 ≤ _)⟩)
      dsimp only [Pt.U, Pt.locs, Pt.cells, Pt.slots] at X9 l9 y9 z9 st9 hQ9
      subst l9 y9 z9
      obtain ⟨rfl, N9q, e9⟩ := hQ9
      have N9 := Fr.app N8 N9q
      refine own_step (st9) ?_
      show own_E p e below _ (T9.setTop (mkF m 88 #[.val (.int p1), .val (.int p2), .val (.int p3), .val (.int (p3 &&& (31 : Int32))), .val (.int ((1 : Int32) <<< ((p3 &&& (31 : Int32)) &&& 31))), .val (.int (1 : Int32)), .val (.int (1 : Int32)), .val (.int (p2 &&& (-p2))), .val (.int (p2 &&& (p2 - (1 : Int32)))), .unset] [(.int (own_has p1 (p2 &&& (p2 - (1 : Int32))))), (.int (own_has p1 p2))]))
      by_cases hc88 : (own_has p1 (p2 &&& (p2 - (1 : Int32)))) = (0 : Int32)
      · skip
        refine own_step (fun _ k => XS.ifYes X9.here hx rfl (pc0 := 88) (pc' := 95) rfl (hb hby at_88) rfl ((if0 _ _).trans (teq hc88).1) (by decide) (by decide) k) ?_
        show own_E p e below _ (T9.setTop (mkF m 95 #[.val (.int p1), .val (.int p2), .val (.int p3), .val (.int (p3 &&& (31 : Int32))), .val (.int ((1 : Int32) <<< ((p3 &&& (31 : Int32)) &&& 31))), .val (.int (1 : Int32)), .val (.int (1 : Int32)), .val (.int (p2 &&& (-p2))), .val (.int (p2 &&& (p2 - (1 : Int32)))), .unset] [(.int (own_has p1 p2))]))
        refine own_step (fun _ k => XS.iconst X9.here hx rfl (hb hby at_95) k) ?_
        show own_E p e below _ (T9.setTop (mkF m 96 #[.val (.int p1), .val (.int p2), .val (.int p3), .val (.int (p3 &&& (31 : Int32))), .val (.int ((1 : Int32) <<< ((p3 &&& (31 : Int32)) &&& 31))), .val (.int (1 : Int32)), .val (.int (1 : Int32)), .val (.int (p2 &&& (-p2))), .val (.int (p2 &&& (p2 - (1 : Int32)))), .unset] [(.int (0 : Int32)), (.int (own_has p1 p2))]))
        refine own_step (fun _ k => XS.icmpNo X9.here hx rfl (hb hby at_96) rfl (teq (own_split0 hc79 hc88)).2 k) ?_
        show own_E p e below _ (T9.setTop (mkF m 99 #[.val (.int p1), .val (.int p2), .val (.int p3), .val (.int (p3 &&& (31 : Int32))), .val (.int ((1 : Int32) <<< ((p3 &&& (31 : Int32)) &&& 31))), .val (.int (1 : Int32)), .val (.int (1 : Int32)), .val (.int (p2 &&& (-p2))), .val (.int (p2 &&& (p2 - (1 : Int32)))), .unset] []))
        refine own_step (fun _ k => XS.iconst X9.here hx rfl (hb hby at_99) k) ?_
        show own_E p e below _ (T9.setTop (mkF m 100 #[.val (.int p1), .val (.int p2), .val (.int p3), .val (.int (p3 &&& (31 : Int32))), .val (.int ((1 : Int32) <<< ((p3 &&& (31 : Int32)) &&& 31))), .val (.int (1 : Int32)), .val (.int (1 : Int32)), .val (.int (p2 &&& (-p2))), .val (.int (p2 &&& (p2 - (1 : Int32)))), .unset] [(.int (1 : Int32))]))
        refine own_step (fun _ k => XS.goto X9.here hx rfl (pc0 := 100) (pc' := 104) rfl (hb hby at_100) (by decide) (by decide) k) ?_
        show own_E p e below _ (T9.setTop (mkF m 104 #[.val (.int p1), .val (.int p2), .val (.int p3), .val (.int (p3 &&& (31 : Int32))), .val (.int ((1 : Int32) <<< ((p3 &&& (31 : Int32)) &&& 31))), .val (.int (1 : Int32)), .val (.int (1 : Int32)), .val (.int (p2 &&& (-p2))), .val (.int (p2 &&& (p2 - (1 : Int32)))), .unset] [(.int (1 : Int32))]))
        refine own_step (fun _ k => XS.istore X9.here hx rfl (hb hby at_104) rfl (l' := #[.val (.int p1), .val (.int p2), .val (.int p3), .val (.int (p3 &&& (31 : Int32))), .val (.int ((1 : Int32) <<< ((p3 &&& (31 : Int32)) &&& 31))), .val (.int (1 : Int32)), .val (.int (1 : Int32)), .val (.int (p2 &&& (-p2))), .val (.int (p2 &&& (p2 - (1 : Int32)))), .val (.int (1 : Int32))]) rfl k) ?_
        show own_E p e below _ (T9.setTop (mkF m 106 #[.val (.int p1), .val (.int p2), .val (.int p3), .val (.int (p3 &&& (31 : Int32))), .val (.int ((1 : Int32) <<< ((p3 &&& (31 : Int32)) &&& 31))), .val (.int (1 : Int32)), .val (.int (1 : Int32)), .val (.int (p2 &&& (-p2))), .val (.int (p2 &&& (p2 - (1 : Int32)))), .val (.int (1 : Int32))] []))
        refine own_step (fun _ k => XS.iload X9.here hx rfl (hb hby at_106) rfl k) ?_
        show own_E p e below _ (T9.setTop (mkF m 108 #[.val (.int p1), .val (.int p2), .val (.int p3), .val (.int (p3 &&& (31 : Int32))), .val (.int ((1 : Int32) <<< ((p3 &&& (31 : Int32)) &&& 31))), .val (.int (1 : Int32)), .val (.int (1 : Int32)), .val (.int (p2 &&& (-p2))), .val (.int (p2 &&& (p2 - (1 : Int32)))), .val (.int (1 : Int32))] [(.int (1 : Int32))]))
        refine own_step (fun _ k => XS.ifNo X9.here hx rfl (hb hby at_108) rfl ((if0 _ _).trans (feq (by decide)).1) k) ?_
        show own_E p e below _ (T9.setTop (mkF m 111 #[.val (.int p1), .val (.int p2), .val (.int p3), .val (.int (p3 &&& (31 : Int32))), .val (.int ((1 : Int32) <<< ((p3 &&& (31 : Int32)) &&& 31))), .val (.int (1 : Int32)), .val (.int (1 : Int32)), .val (.int (p2 &&& (-p2))), .val (.int (p2 &&& (p2 - (1 : Int32)))), .val (.int (1 : Int32))] []))
        refine own_step (fun _ k => XS.iload X9.here hx rfl (hb hby at_111) rfl k) ?_
        show own_E p e below _ (T9.setTop (mkF m 113 #[.val (.int p1), .val (.int p2), .val (.int p3), .val (.int (p3 &&& (31 : Int32))), .val (.int ((1 : Int32) <<< ((p3 &&& (31 : Int32)) &&& 31))), .val (.int (1 : Int32)), .val (.int (1 : Int32)), .val (.int (p2 &&& (-p2))), .val (.int (p2 &&& (p2 - (1 : Int32)))), .val (.int (1 : Int32))] [(.int (1 : Int32))]))
        refine own_step (fun _ k => XS.ifNo X9.here hx rfl (hb hby at_113) rfl ((if0 _ _).trans (feq (by decide)).1) k) ?_
        show own_E p e below _ (T9.setTop (mkF m 116 #[.val (.int p1), .val (.int p2), .val (.int p3), .val (.int (p3 &&& (31 : Int32))), .val (.int ((1 : Int32) <<< ((p3 &&& (31 : Int32)) &&& 31))), .val (.int (1 : Int32)), .val (.int (1 : Int32)), .val (.int (p2 &&& (-p2))), .val (.int (p2 &&& (p2 - (1 : Int32)))), .val (.int (1 : Int32))] []))
        refine own_step (fun _ k => XS.iload X9.here hx rfl (hb hby at_116) rfl k) ?_
        show own_E p e below _ (T9.setTop (mkF m 118 #[.val (.int p1), .val (.int p2), .val (.int p3), .val (.int (p3 &&& (31 : Int32))), .val (.int ((1 : Int32) <<< ((p3 &&& (31 : Int32)) &&& 31))), .val (.int (1 : Int32)), .val (.int (1 : Int32)), .val (.int (p2 &&& (-p2))), .val (.int (p2 &&& (p2 - (1 : Int32)))), .val (.int (1 : Int32))] [(.int (1 : Int32))]))
        refine own_step (fun _ k => XS.ifNo X9.here hx rfl (hb hby at_118) rfl ((if0 _ _).trans (feq (by decide)).1) k) ?_
        show own_E p e below _ (T9.setTop (mkF m 121 #[.val (.int p1), .val (.int p2), .val (.int p3), .val (.int (p3 &&& (31 : Int32))), .val (.int ((1 : Int32) <<< ((p3 &&& (31 : Int32)) &&& 31))), .val (.int (1 : Int32)), .val (.int (1 : Int32)), .val (.int (p2 &&& (-p2))), .val (.int (p2 &&& (p2 - (1 : Int32)))), .val (.int (1 : Int32))] []))
        refine own_step (fun _ k => XS.iconst X9.here hx rfl (hb hby at_121) k) ?_
        show own_E p e below _ (T9.setTop (mkF m 122 #[.val (.int p1), .val (.int p2), .val (.int p3), .val (.int (p3 &&& (31 : Int32))), .val (.int ((1 : Int32) <<< ((p3 &&& (31 : Int32)) &&& 31))), .val (.int (1 : Int32)), .val (.int (1 : Int32)), .val (.int (p2 &&& (-p2))), .val (.int (p2 &&& (p2 - (1 : Int32)))), .val (.int (1 : Int32))] [(.int (1 : Int32))]))
        refine own_step (fun _ k => XS.goto X9.here hx rfl (pc0 := 122) (pc' := 126) rfl (hb hby at_122) (by decide) (by decide) k) ?_
        show own_E p e below _ (T9.setTop (mkF m 126 #[.val (.int p1), .val (.int p2), .val (.int p3), .val (.int (p3 &&& (31 : Int32))), .val (.int ((1 : Int32) <<< ((p3 &&& (31 : Int32)) &&& 31))), .val (.int (1 : Int32)), .val (.int (1 : Int32)), .val (.int (p2 &&& (-p2))), .val (.int (p2 &&& (p2 - (1 : Int32)))), .val (.int (1 : Int32))] [(.int (1 : Int32))]))
        refine own_ret X9 hlk (v := some (.int (nar .boolean (1 : Int32)))) (fun h => by rw [Bd.returns] at h; cases h) ?_ (by decide) (by decide) (fun fs hr => retN X9 hx (t := .boolean) Bd.returns (by simp) (hb hby at_126) hr)
        show Q0 Z p1 p2 p3 h0 n0 _ T9.heap _
        rw [e9]
        exact ⟨by decide, N9⟩
      · skip
        refine own_step (fun _ k => XS.ifNo X9.here hx rfl (hb hby at_88) rfl ((if0 _ _).trans (feq hc88).1) k) ?_
        show own_E p e below _ (T9.setTop (mkF m 91 #[.val (.int p1), .val (.int p2), .val (.int p3), .val (.int (p3 &&& (31 : Int32))), .val (.int ((1 : Int32) <<< ((p3 &&& (31 : Int32)) &&& 31))), .val (.int (1 : Int32)), .val (.int (1 : Int32)), .val (.int (p2 &&& (-p2))), .val (.int (p2 &&& (p2 - (1 : Int32)))), .unset] [(.int (own_has p1 p2))]))
        refine own_step (fun _ k => XS.iconst X9.here hx rfl (hb hby at_91) k) ?_
        show own_E p e below _ (T9.setTop (mkF m 92 #[.val (.int p1), .val (.int p2), .val (.int p3), .val (.int (p3 &&& (31 : Int32))), .val (.int ((1 : Int32) <<< ((p3 &&& (31 : Int32)) &&& 31))), .val (.int (1 : Int32)), .val (.int (1 : Int32)), .val (.int (p2 &&& (-p2))), .val (.int (p2 &&& (p2 - (1 : Int32)))), .unset] [(.int (1 : Int32)), (.int (own_has p1 p2))]))
        refine own_step (fun _ k => XS.goto X9.here hx rfl (pc0 := 92) (pc' := 96) rfl (hb hby at_92) (by decide) (by decide) k) ?_
        show own_E p e below _ (T9.setTop (mkF m 96 #[.val (.int p1), .val (.int p2), .val (.int p3), .val (.int (p3 &&& (31 : Int32))), .val (.int ((1 : Int32) <<< ((p3 &&& (31 : Int32)) &&& 31))), .val (.int (1 : Int32)), .val (.int (1 : Int32)), .val (.int (p2 &&& (-p2))), .val (.int (p2 &&& (p2 - (1 : Int32)))), .unset] [(.int (1 : Int32)), (.int (own_has p1 p2))]))
        refine own_step (fun _ k => XS.icmpNo X9.here hx rfl (hb hby at_96) rfl (teq (own_split2 hc88)).2 k) ?_
        show own_E p e below _ (T9.setTop (mkF m 99 #[.val (.int p1), .val (.int p2), .val (.int p3), .val (.int (p3 &&& (31 : Int32))), .val (.int ((1 : Int32) <<< ((p3 &&& (31 : Int32)) &&& 31))), .val (.int (1 : Int32)), .val (.int (1 : Int32)), .val (.int (p2 &&& (-p2))), .val (.int (p2 &&& (p2 - (1 : Int32)))), .unset] []))
        refine own_step (fun _ k => XS.iconst X9.here hx rfl (hb hby at_99) k) ?_
        show own_E p e below _ (T9.setTop (mkF m 100 #[.val (.int p1), .val (.int p2), .val (.int p3), .val (.int (p3 &&& (31 : Int32))), .val (.int ((1 : Int32) <<< ((p3 &&& (31 : Int32)) &&& 31))), .val (.int (1 : Int32)), .val (.int (1 : Int32)), .val (.int (p2 &&& (-p2))), .val (.int (p2 &&& (p2 - (1 : Int32)))), .unset] [(.int (1 : Int32))]))
        refine own_step (fun _ k => XS.goto X9.here hx rfl (pc0 := 100) (pc' := 104) rfl (hb hby at_100) (by decide) (by decide) k) ?_
        show own_E p e below _ (T9.setTop (mkF m 104 #[.val (.int p1), .val (.int p2), .val (.int p3), .val (.int (p3 &&& (31 : Int32))), .val (.int ((1 : Int32) <<< ((p3 &&& (31 : Int32)) &&& 31))), .val (.int (1 : Int32)), .val (.int (1 : Int32)), .val (.int (p2 &&& (-p2))), .val (.int (p2 &&& (p2 - (1 : Int32)))), .unset] [(.int (1 : Int32))]))
        refine own_step (fun _ k => XS.istore X9.here hx rfl (hb hby at_104) rfl (l' := #[.val (.int p1), .val (.int p2), .val (.int p3), .val (.int (p3 &&& (31 : Int32))), .val (.int ((1 : Int32) <<< ((p3 &&& (31 : Int32)) &&& 31))), .val (.int (1 : Int32)), .val (.int (1 : Int32)), .val (.int (p2 &&& (-p2))), .val (.int (p2 &&& (p2 - (1 : Int32)))), .val (.int (1 : Int32))]) rfl k) ?_
        show own_E p e below _ (T9.setTop (mkF m 106 #[.val (.int p1), .val (.int p2), .val (.int p3), .val (.int (p3 &&& (31 : Int32))), .val (.int ((1 : Int32) <<< ((p3 &&& (31 : Int32)) &&& 31))), .val (.int (1 : Int32)), .val (.int (1 : Int32)), .val (.int (p2 &&& (-p2))), .val (.int (p2 &&& (p2 - (1 : Int32)))), .val (.int (1 : Int32))] []))
        refine own_step (fun _ k => XS.iload X9.here hx rfl (hb hby at_106) rfl k) ?_
        show own_E p e below _ (T9.setTop (mkF m 108 #[.val (.int p1), .val (.int p2), .val (.int p3), .val (.int (p3 &&& (31 : Int32))), .val (.int ((1 : Int32) <<< ((p3 &&& (31 : Int32)) &&& 31))), .val (.int (1 : Int32)), .val (.int (1 : Int32)), .val (.int (p2 &&& (-p2))), .val (.int (p2 &&& (p2 - (1 : Int32)))), .val (.int (1 : Int32))] [(.int (1 : Int32))]))
        refine own_step (fun _ k => XS.ifNo X9.here hx rfl (hb hby at_108) rfl ((if0 _ _).trans (feq (by decide)).1) k) ?_
        show own_E p e below _ (T9.setTop (mkF m 111 #[.val (.int p1), .val (.int p2), .val (.int p3), .val (.int (p3 &&& (31 : Int32))), .val (.int ((1 : Int32) <<< ((p3 &&& (31 : Int32)) &&& 31))), .val (.int (1 : Int32)), .val (.int (1 : Int32)), .val (.int (p2 &&& (-p2))), .val (.int (p2 &&& (p2 - (1 : Int32)))), .val (.int (1 : Int32))] []))
        refine own_step (fun _ k => XS.iload X9.here hx rfl (hb hby at_111) rfl k) ?_
        show own_E p e below _ (T9.setTop (mkF m 113 #[.val (.int p1), .val (.int p2), .val (.int p3), .val (.int (p3 &&& (31 : Int32))), .val (.int ((1 : Int32) <<< ((p3 &&& (31 : Int32)) &&& 31))), .val (.int (1 : Int32)), .val (.int (1 : Int32)), .val (.int (p2 &&& (-p2))), .val (.int (p2 &&& (p2 - (1 : Int32)))), .val (.int (1 : Int32))] [(.int (1 : Int32))]))
        refine own_step (fun _ k => XS.ifNo X9.here hx rfl (hb hby at_113) rfl ((if0 _ _).trans (feq (by decide)).1) k) ?_
        show own_E p e below _ (T9.setTop (mkF m 116 #[.val (.int p1), .val (.int p2), .val (.int p3), .val (.int (p3 &&& (31 : Int32))), .val (.int ((1 : Int32) <<< ((p3 &&& (31 : Int32)) &&& 31))), .val (.int (1 : Int32)), .val (.int (1 : Int32)), .val (.int (p2 &&& (-p2))), .val (.int (p2 &&& (p2 - (1 : Int32)))), .val (.int (1 : Int32))] []))
        refine own_step (fun _ k => XS.iload X9.here hx rfl (hb hby at_116) rfl k) ?_
        show own_E p e below _ (T9.setTop (mkF m 118 #[.val (.int p1), .val (.int p2), .val (.int p3), .val (.int (p3 &&& (31 : Int32))), .val (.int ((1 : Int32) <<< ((p3 &&& (31 : Int32)) &&& 31))), .val (.int (1 : Int32)), .val (.int (1 : Int32)), .val (.int (p2 &&& (-p2))), .val (.int (p2 &&& (p2 - (1 : Int32)))), .val (.int (1 : Int32))] [(.int (1 : Int32))]))
        refine own_step (fun _ k => XS.ifNo X9.here hx rfl (hb hby at_118) rfl ((if0 _ _).trans (feq (by decide)).1) k) ?_
        show own_E p e below _ (T9.setTop (mkF m 121 #[.val (.int p1), .val (.int p2), .val (.int p3), .val (.int (p3 &&& (31 : Int32))), .val (.int ((1 : Int32) <<< ((p3 &&& (31 : Int32)) &&& 31))), .val (.int (1 : Int32)), .val (.int (1 : Int32)), .val (.int (p2 &&& (-p2))), .val (.int (p2 &&& (p2 - (1 : Int32)))), .val (.int (1 : Int32))] []))
        refine own_step (fun _ k => XS.iconst X9.here hx rfl (hb hby at_121) k) ?_
        show own_E p e below _ (T9.setTop (mkF m 122 #[.val (.int p1), .val (.int p2), .val (.int p3), .val (.int (p3 &&& (31 : Int32))), .val (.int ((1 : Int32) <<< ((p3 &&& (31 : Int32)) &&& 31))), .val (.int (1 : Int32)), .val (.int (1 : Int32)), .val (.int (p2 &&& (-p2))), .val (.int (p2 &&& (p2 - (1 : Int32)))), .val (.int (1 : Int32))] [(.int (1 : Int32))]))
        refine own_step (fun _ k => XS.goto X9.here hx rfl (pc0 := 122) (pc' := 126) rfl (hb hby at_122) (by decide) (by decide) k) ?_
        show own_E p e below _ (T9.setTop (mkF m 126 #[.val (.int p1), .val (.int p2), .val (.int p3), .val (.int (p3 &&& (31 : Int32))), .val (.int ((1 : Int32) <<< ((p3 &&& (31 : Int32)) &&& 31))), .val (.int (1 : Int32)), .val (.int (1 : Int32)), .val (.int (p2 &&& (-p2))), .val (.int (p2 &&& (p2 - (1 : Int32)))), .val (.int (1 : Int32))] [(.int (1 : Int32))]))
        refine own_ret X9 hlk (v := some (.int (nar .boolean (1 : Int32)))) (fun h => by rw [Bd.returns] at h; cases h) ?_ (by decide) (by decide) (fun fs hr => retN X9 hx (t := .boolean) Bd.returns (by simp) (hb hby at_126) hr)
        show Q0 Z p1 p2 p3 h0 n0 _ T9.heap _
        rw [e9]
        exact ⟨by decide, N9⟩
    · skip
      refine own_step (fun _ k => XS.ifYes X8.here hx rfl (pc0 := 79) (pc' := 91) rfl (hb hby at_79) rfl ((if0 _ _).trans (feq hc79).2) (by decide) (by decide) k) ?_
      show own_E p e below _ (T8.setTop (mkF m 91 #[.val (.int p1), .val (.int p2), .val (.int p3), .val (.int (p3 &&& (31 : Int32))), .val (.int ((1 : Int32) <<< ((p3 &&& (31 : Int32)) &&& 31))), .val (.int (1 : Int32)), .val (.int (1 : Int32)), .val (.int (p2 &&& (-p2))), .val (.int (p2 &&& (p2 - (1 : Int32)))), .unset] [(.int (own_has p1 p2))]))
      refine own_step (fun _ k => XS.iconst X8.here hx rfl (hb hby at_91) k) ?_
      show own_E p e below _ (T8.setTop (mkF m 92 #[.val (.int p1), .val (.int p2), .val (.int p3), .val (.int (p3 &&& (31 : Int32))), .val (.int ((1 : Int32) <<< ((p3 &&& (31 : Int32)) &&& 31))), .val (.int (1 : Int32)), .val (.int (1 : Int32)), .val (.int (p2 &&& (-p2))), .val (.int (p2 &&& (p2 - (1 : Int32)))), .unset] [(.int (1 : Int32)), (.int (own_has p1 p2))]))
      refine own_step (fun _ k => XS.goto X8.here hx rfl (pc0 := 92) (pc' := 96) rfl (hb hby at_92) (by decide) (by decide) k) ?_
      show own_E p e below _ (T8.setTop (mkF m 96 #[.val (.int p1), .val (.int p2), .val (.int p3), .val (.int (p3 &&& (31 : Int32))), .val (.int ((1 : Int32) <<< ((p3 &&& (31 : Int32)) &&& 31))), .val (.int (1 : Int32)), .val (.int (1 : Int32)), .val (.int (p2 &&& (-p2))), .val (.int (p2 &&& (p2 - (1 : Int32)))), .unset] [(.int (1 : Int32)), (.int (own_has p1 p2))]))
      refine own_step (fun _ k => XS.icmpNo X8.here hx rfl (hb hby at_96) rfl (teq (own_split1 hc79)).2 k) ?_
      show own_E p e below _ (T8.setTop (mkF m 99 #[.val (.int p1), .val (.int p2), .val (.int p3), .val (.int (p3 &&& (31 : Int32))), .val (.int ((1 : Int32) <<< ((p3 &&& (31 : Int32)) &&& 31))), .val (.int (1 : Int32)), .val (.int (1 : Int32)), .val (.int (p2 &&& (-p2))), .val (.int (p2 &&& (p2 - (1 : Int32)))), .unset] []))
      refine own_step (fun _ k => XS.iconst X8.here hx rfl (hb hby at_99) k) ?_
      show own_E p e below _ (T8.setTop (mkF m 100 #[.val (.int p1), .val (.int p2), .val (.int p3), .val (.int (p3 &&& (31 : Int32))), .val (.int ((1 : Int32) <<< ((p3 &&& (31 : Int32)) &&& 31))), .val (.int (1 : Int32)), .val (.int (1 : Int32)), .val (.int (p2 &&& (-p2))), .val (.int (p2 &&& (p2 - (1 : Int32)))), .unset] [(.int (1 : Int32))]))
      refine own_step (fun _ k => XS.goto X8.here hx rfl (pc0 := 100) (pc' := 104) rfl (hb hby at_100) (by decide) (by decide) k) ?_
      show own_E p e below _ (T8.setTop (mkF m 104 #[.val (.int p1), .val (.int p2), .val (.int p3), .val (.int (p3 &&& (31 : Int32))), .val (.int ((1 : Int32) <<< ((p3 &&& (31 : Int32)) &&& 31))), .val (.int (1 : Int32)), .val (.int (1 : Int32)), .val (.int (p2 &&& (-p2))), .val (.int (p2 &&& (p2 - (1 : Int32)))), .unset] [(.int (1 : Int32))]))
      refine own_step (fun _ k => XS.istore X8.here hx rfl (hb hby at_104) rfl (l' := #[.val (.int p1), .val (.int p2), .val (.int p3), .val (.int (p3 &&& (31 : Int32))), .val (.int ((1 : Int32) <<< ((p3 &&& (31 : Int32)) &&& 31))), .val (.int (1 : Int32)), .val (.int (1 : Int32)), .val (.int (p2 &&& (-p2))), .val (.int (p2 &&& (p2 - (1 : Int32)))), .val (.int (1 : Int32))]) rfl k) ?_
      show own_E p e below _ (T8.setTop (mkF m 106 #[.val (.int p1), .val (.int p2), .val (.int p3), .val (.int (p3 &&& (31 : Int32))), .val (.int ((1 : Int32) <<< ((p3 &&& (31 : Int32)) &&& 31))), .val (.int (1 : Int32)), .val (.int (1 : Int32)), .val (.int (p2 &&& (-p2))), .val (.int (p2 &&& (p2 - (1 : Int32)))), .val (.int (1 : Int32))] []))
      refine own_step (fun _ k => XS.iload X8.here hx rfl (hb hby at_106) rfl k) ?_
      show own_E p e below _ (T8.setTop (mkF m 108 #[.val (.int p1), .val (.int p2), .val (.int p3), .val (.int (p3 &&& (31 : Int32))), .val (.int ((1 : Int32) <<< ((p3 &&& (31 : Int32)) &&& 31))), .val (.int (1 : Int32)), .val (.int (1 : Int32)), .val (.int (p2 &&& (-p2))), .val (.int (p2 &&& (p2 - (1 : Int32)))), .val (.int (1 : Int32))] [(.int (1 : Int32))]))
      refine own_step (fun _ k => XS.ifNo X8.here hx rfl (hb hby at_108) rfl ((if0 _ _).trans (feq (by decide)).1) k) ?_
      show own_E p e below _ (T8.setTop (mkF m 111 #[.val (.int p1), .val (.int p2), .val (.int p3), .val (.int (p3 &&& (31 : Int32))), .val (.int ((1 : Int32) <<< ((p3 &&& (31 : Int32)) &&& 31))), .val (.int (1 : Int32)), .val (.int (1 : Int32)), .val (.int (p2 &&& (-p2))), .val (.int (p2 &&& (p2 - (1 : Int32)))), .val (.int (1 : Int32))] []))
      refine own_step (fun _ k => XS.iload X8.here hx rfl (hb hby at_111) rfl k) ?_
      show own_E p e below _ (T8.setTop (mkF m 113 #[.val (.int p1), .val (.int p2), .val (.int p3), .val (.int (p3 &&& (31 : Int32))), .val (.int ((1 : Int32) <<< ((p3 &&& (31 : Int32)) &&& 31))), .val (.int (1 : Int32)), .val (.int (1 : Int32)), .val (.int (p2 &&& (-p2))), .val (.int (p2 &&& (p2 - (1 : Int32)))), .val (.int (1 : Int32))] [(.int (1 : Int32))]))
      refine own_step (fun _ k => XS.ifNo X8.here hx rfl (hb hby at_113) rfl ((if0 _ _).trans (feq (by decide)).1) k) ?_
      show own_E p e below _ (T8.setTop (mkF m 116 #[.val (.int p1), .val (.int p2), .val (.int p3), .val (.int (p3 &&& (31 : Int32))), .val (.int ((1 : Int32) <<< ((p3 &&& (31 : Int32)) &&& 31))), .val (.int (1 : Int32)), .val (.int (1 : Int32)), .val (.int (p2 &&& (-p2))), .val (.int (p2 &&& (p2 - (1 : Int32)))), .val (.int (1 : Int32))] []))
      refine own_step (fun _ k => XS.iload X8.here hx rfl (hb hby at_116) rfl k) ?_
      show own_E p e below _ (T8.setTop (mkF m 118 #[.val (.int p1), .val (.int p2), .val (.int p3), .val (.int (p3 &&& (31 : Int32))), .val (.int ((1 : Int32) <<< ((p3 &&& (31 : Int32)) &&& 31))), .val (.int (1 : Int32)), .val (.int (1 : Int32)), .val (.int (p2 &&& (-p2))), .val (.int (p2 &&& (p2 - (1 : Int32)))), .val (.int (1 : Int32))] [(.int (1 : Int32))]))
      refine own_step (fun _ k => XS.ifNo X8.here hx rfl (hb hby at_118) rfl ((if0 _ _).trans (feq (by decide)).1) k) ?_
      show own_E p e below _ (T8.setTop (mkF m 121 #[.val (.int p1), .val (.int p2), .val (.int p3), .val (.int (p3 &&& (31 : Int32))), .val (.int ((1 : Int32) <<< ((p3 &&& (31 : Int32)) &&& 31))), .val (.int (1 : Int32)), .val (.int (1 : Int32)), .val (.int (p2 &&& (-p2))), .val (.int (p2 &&& (p2 - (1 : Int32)))), .val (.int (1 : Int32))] []))
      refine own_step (fun _ k => XS.iconst X8.here hx rfl (hb hby at_121) k) ?_
      show own_E p e below _ (T8.setTop (mkF m 122 #[.val (.int p1), .val (.int p2), .val (.int p3), .val (.int (p3 &&& (31 : Int32))), .val (.int ((1 : Int32) <<< ((p3 &&& (31 : Int32)) &&& 31))), .val (.int (1 : Int32)), .val (.int (1 : Int32)), .val (.int (p2 &&& (-p2))), .val (.int (p2 &&& (p2 - (1 : Int32)))), .val (.int (1 : Int32))] [(.int (1 : Int32))]))
      refine own_step (fun _ k => XS.goto X8.here hx rfl (pc0 := 122) (pc' := 126) rfl (hb hby at_122) (by decide) (by decide) k) ?_
      show own_E p e below _ (T8.setTop (mkF m 126 #[.val (.int p1), .val (.int p2), .val (.int p3), .val (.int (p3 &&& (31 : Int32))), .val (.int ((1 : Int32) <<< ((p3 &&& (31 : Int32)) &&& 31))), .val (.int (1 : Int32)), .val (.int (1 : Int32)), .val (.int (p2 &&& (-p2))), .val (.int (p2 &&& (p2 - (1 : Int32)))), .val (.int (1 : Int32))] [(.int (1 : Int32))]))
      refine own_ret X8 hlk (v := some (.int (nar .boolean (1 : Int32)))) (fun h => by rw [Bd.returns] at h; cases h) ?_ (by decide) (by decide) (fun fs hr => retN X8 hx (t := .boolean) Bd.returns (by simp) (hb hby at_126) hr)
      show Q0 Z p1 p2 p3 h0 n0 _ T8.heap _
      rw [e8]
      exact ⟨by decide, N8⟩
set_option maxRecDepth 65536 in
set_option maxHeartbeats 40000000 in
theorem comes_1 {Post : Tables → Env → Array Value → State → Outcome → State → Prop} (hpost : ∀ tb e args s v u, (limb_1_1.after args s (.returned v) u = true ∧ limb_1_2.after args s (.returned v) u = true ∧ True) → FrameEnd s (.returned v) u (Jvm.fieldLocs frame_1_writes args s ++ Jvm.arrayLocs frame_1_arrays args s ++ Jvm.staticLocs frame_1_statics s) 0 0 → Post tb e args s (.returned v) u) :
    ArmFor flags0 classFile x code maxLocals ret World_1 tables_1 room_1 Calls_1 rest_1 Pre_1 Post := by
  intro l hfl _ _ p e ha hc hk s m args below hf hA hF happ hP
  obtain ⟨hcalls, hrest, hpre⟩ := hP
  obtain ⟨-, -, -, hnamed, -, -, -, hat⟩ := (Spec.applies_iff hf).mp happ
  obtain ⟨hg, hn⟩ := and_e (Cond.before_iff.mp (show (Jvm.Cond.and given_1 narrow_1).before args s = true from hpre))
  obtain ⟨gc, gr0⟩ := and_e hg
  obtain ⟨gi0, gr1⟩ := and_e gr0
  obtain ⟨gi1, gr2⟩ := and_e gr1
  have gi2 := gr2
  obtain ⟨w0, w1, w2, rfl⟩ : ∃ w0 w1 w2 : Value, args = #[w0, w1, w2] := by
    have hs : args.size = 3 := by simpa [Cond.value, given_1] using gc
    obtain ⟨L⟩ := args
    match L, hs with
    | [w0, w1, w2], _ => exact ⟨w0, w1, w2, rfl⟩
  have hw := fun d (hd : d ∈ tables_1) => atoms_spec (ws := Jvm.Cond.code x code maxLocals ret :: tables_1) hat d (List.mem_cons_of_mem _ hd)
  obtain ⟨i0, ei0⟩ := is_v gi0
  obtain rfl : w0 = (.int i0) := Option.some.inj ei0
  obtain ⟨i1, ei1⟩ := is_v gi1
  obtain rfl : w1 = (.int i1) := Option.some.inj ei1
  obtain ⟨i2, ei2⟩ := is_v gi2
  obtain rfl : w2 = (.int i2) := Option.some.inj ei2
  obtain ⟨n, o, h1, h2, h3, _, L, rfl, ⟨rfl, N⟩, hq⟩ := rm0 l s _ hw tables_1 i0 i1 i2 s.heap s.heap.size (Nat.le_refl _) p e ha hc hk s m _ below hf ((Spec.applies_iff_loose hf).mp happ).1 ⟨rfl, State.Warmed39.refl s, rfl⟩ trivial
  refine ⟨n, _, h1, h2, h3, hpost _ _ _ _ _ _ ⟨Cond.after_iff.mpr rfl, Cond.after_iff.mpr (eq_i res_at (Term.int_eval (1)) rfl), trivial⟩ ⟨hq.1, hq.2.1, (hq.2.2.sift fun y hy => Or.inr (N y hy)).mono (by decide) (by decide)⟩⟩
theorem main_1_1 : Claimed_1_1 := comes_1 fun _ _ _ _ _ _ h hF => ⟨h.1, hF⟩
theorem main_1_2 : Claimed_1_2 := comes_1 fun _ _ _ _ _ _ h hF => ⟨h.2.1, hF⟩
end Jvm.Pilot.@@N@@
namespace Jvm.Pilot.@@N@@
open Jvm Jvm.ClassFile Sem Op Lib Jvm.Free Jvm.Stand Jvm.Pilot.@@N@@.Jvm.D
/-! MADE BY PROGRAM (witnessworld.py) out of the Statement's table words and the real class files: 9 classes; the members and pool entries that the words name. The judged class is class 1, her method 1. -/
namespace start1
open Jvm.ClassFile
def u (s : String) : CpInfo := .utf8 (stringToUtf16 s)
/-- a pool by its gaps: so many unusable entries, then the entry; so many at the end -/
def gap : Nat → List CpInfo → List CpInfo
  | 0, r => r
  | n + 1, r => .unusable :: gap n r
def poolList (es : List (Nat × CpInfo)) (last : Nat) : List CpInfo := es.foldr (fun e r => gap e.1 (e.2 :: r)) (gap last [])
def pool (es : List (Nat × CpInfo)) (last : Nat) : Array CpInfo := ⟨poolList es last⟩
def fileOf (pool : Array CpInfo) (this : Nat) (attrs : Array Attribute := #[]) (ms : Array MethodInfo := #[]) (fl : Nat := 33) (sup : Nat := 0) (ifs : Array Nat := #[]) (fds : Array FieldInfo := #[]) : ClassFile where
  minorVersion := 0
  majorVersion := 65
  constantPool := pool
  accessFlags := fl
  thisClass := this
  superClass := sup
  interfaces := ifs
  fields := fds
  methods := ms
  attributes := attrs
def plain (name : String) (sup : Option ClassId) : Class where
  name := name
  kind := .ordinary
  loader := none
  accessFlags := 33
  super := sup
  interfaces := #[]
  cf := none
  fields := #[]
  methods := #[]
  instanceTypes := #[]
  staticTypes := #[]
  resolved := #[]
  callSites := []
  init := .initialized
  statics := none
  mirror := none

def pool0 : Array CpInfo := pool [(5, u "<init>"), (0, u "()V"), (1, .class_ 10), (1, u "java/lang/Object")] 113

def k0m0 : Method := { name := "<init>", desc := "()V", sig := { parameters := [], returnType := none }, accessFlags := 1, code := none }
/-- java/lang/Object -/
def k0 : Class := { plain "java/lang/Object" none with
  accessFlags := 33
  interfaces := #[]
  cf := some (fileOf pool0 8 #[] #[{ accessFlags := 1, nameIndex := 5, descriptorIndex := 6, attributes := #[] }] 33 0 #[] #[])
  fields := #[]
  methods := #[k0m0]
  instanceTypes := #[]
  staticTypes := #[]
  resolved := Array.replicate 124 none
  statics := none }

def pool1 : Array CpInfo := pool [(2, .class_ 4), (1, u "java/lang/Object"), (0, u "<init>"), (0, u "()V"), (0, .methodref 8 9), (0, .class_ 10), (0, .nameAndType 11 12), (0, u "com/example/deft_relay/deftrelay/upc/UpdateLevels"), (0, u "has"), (0, u "(II)Z"), (0, .class_ 14), (0, u "com/example/deft_relay/deftrelay/upc/UpdateLevelsHasPinLaw"), (2, u "law"), (0, u "(III)Z")] 3

def k1m0 : Method := { name := "<init>", desc := "()V", sig := { parameters := [], returnType := none }, accessFlags := 1, code := none }
def k1c1 : Code := { maxStack := 3, maxLocals := 10, code := code, exceptionTable := #[], attributes := #[] }
def k1m1 : Method := { name := "law", desc := "(III)Z", sig := { parameters := [.int, .int, .int], returnType := some .boolean }, accessFlags := 9, code := some k1c1 }
/-- com/example/deft_relay/deftrelay/upc/UpdateLevelsHasPinLaw -/
def k1 : Class := { plain "com/example/deft_relay/deftrelay/upc/UpdateLevelsHasPinLaw" (some 0) with
  accessFlags := 49
  interfaces := #[]
  cf := some (fileOf pool1 13 #[] #[{ accessFlags := 1, nameIndex := 5, descriptorIndex := 6, attributes := #[] }, { accessFlags := 9, nameIndex := 17, descriptorIndex := 18, attributes := #[] }] 49 2 #[] #[])
  fields := #[]
  methods := #[k1m0, k1m1]
  instanceTypes := #[]
  staticTypes := #[]
  resolved := Array.replicate 22 none
  statics := none }

def pool2 : Array CpInfo := pool [(1, .class_ 2), (0, u "com/example/deft_relay/deftrelay/upc/UpdateLevels"), (1, .class_ 6), (1, u "java/lang/Object"), (0, u "<init>"), (0, u "()V"), (5, u "levels"), (0, u "Ljava/util/concurrent/ConcurrentMap;"), (24, u "has"), (0, u "(II)Z"), (61, u "ROOM_MESSAGES"), (0, u "I"), (2, u "ROOM_ATTRIBUTES"), (1, u "OCCUPANT_COUNT"), (1, u "OCCUPANT_LIST"), (1, u "OBSERVER_LIST"), (1, u "OCCUPANT_ROOM_ATTRIBUTES"), (1, u "OBSERVER_ROOM_ATTRIBUTES"), (1, u "OCCUPANT_GLOBAL_ATTRIBUTES"), (1, u "OBSERVER_GLOBAL_ATTRIBUTES"), (1, u "OCCUPANT_LOGINS"), (1, u "OBSERVER_LOGINS"), (1, u "ALL_ROOM_ATTRIBUTES"), (1, u "SNAPSHOT"), (1, u "DEFAULT"), (1, u "NO_LEVELS"), (1, u "MOST")] 40

def k2m0 : Method := { name := "<init>", desc := "()V", sig := { parameters := [], returnType := none }, accessFlags := 0, code := none }
def k2c1 : Code := { maxStack := 2, maxLocals := 2, code := prog_20_method_3_code, exceptionTable := #[], attributes := #[] }
def k2m1 : Method := { name := "has", desc := "(II)Z", sig := { parameters := [.int, .int], returnType := some .boolean }, accessFlags := 8, code := some k2c1 }
/-- com/example/deft_relay/deftrelay/upc/UpdateLevels -/
def k2 : Class := { plain "com/example/deft_relay/deftrelay/upc/UpdateLevels" (some 0) with
  accessFlags := 32
  interfaces := #[]
  cf := some (fileOf pool2 1 #[] #[{ accessFlags := 0, nameIndex := 7, descriptorIndex := 8, attributes := #[] }, { accessFlags := 8, nameIndex := 40, descriptorIndex := 41, attributes := #[] }] 32 4 #[] #[{ accessFlags := 24, nameIndex := 103, descriptorIndex := 104, attributes := #[] }, { accessFlags := 24, nameIndex := 107, descriptorIndex := 104, attributes := #[] }, { accessFlags := 24, nameIndex := 109, descriptorIndex := 104, attributes := #[] }, { accessFlags := 24, nameIndex := 111, descriptorIndex := 104, attributes := #[] }, { accessFlags := 24, nameIndex := 113, descriptorIndex := 104, attributes := #[] }, { accessFlags := 24, nameIndex := 115, descriptorIndex := 104, attributes := #[] }, { accessFlags := 24, nameIndex := 117, descriptorIndex := 104, attributes := #[] }, { accessFlags := 24, nameIndex := 119, descriptorIndex := 104, attributes := #[] }, { accessFlags := 24, nameIndex := 121, descriptorIndex := 104, attributes := #[] }, { accessFlags := 24, nameIndex := 123, descriptorIndex := 104, attributes := #[] }, { accessFlags := 24, nameIndex := 125, descriptorIndex := 104, attributes := #[] }, { accessFlags := 24, nameIndex := 127, descriptorIndex := 104, attributes := #[] }, { accessFlags := 24, nameIndex := 129, descriptorIndex := 104, attributes := #[] }, { accessFlags := 24, nameIndex := 131, descriptorIndex := 104, attributes := #[] }, { accessFlags := 24, nameIndex := 133, descriptorIndex := 104, attributes := #[] }, { accessFlags := 26, nameIndex := 135, descriptorIndex := 104, attributes := #[] }, { accessFlags := 18, nameIndex := 14, descriptorIndex := 15, attributes := #[] }])
  fields := #[{ name := "ROOM_MESSAGES", type := .int, accessFlags := 24, slot := 0, constantValue := 0 }, { name := "ROOM_ATTRIBUTES", type := .int, accessFlags := 24, slot := 1, constantValue := 0 }, { name := "OCCUPANT_COUNT", type := .int, accessFlags := 24, slot := 2, constantValue := 0 }, { name := "OCCUPANT_LIST", type := .int, accessFlags := 24, slot := 3, constantValue := 0 }, { name := "OBSERVER_LIST", type := .int, accessFlags := 24, slot := 4, constantValue := 0 }, { name := "OCCUPANT_ROOM_ATTRIBUTES", type := .int, accessFlags := 24, slot := 5, constantValue := 0 }, { name := "OBSERVER_ROOM_ATTRIBUTES", type := .int, accessFlags := 24, slot := 6, constantValue := 0 }, { name := "OCCUPANT_GLOBAL_ATTRIBUTES", type := .int, accessFlags := 24, slot := 7, constantValue := 0 }, { name := "OBSERVER_GLOBAL_ATTRIBUTES", type := .int, accessFlags := 24, slot := 8, constantValue := 0 }, { name := "OCCUPANT_LOGINS", type := .int, accessFlags := 24, slot := 9, constantValue := 0 }, { name := "OBSERVER_LOGINS", type := .int, accessFlags := 24, slot := 10, constantValue := 0 }, { name := "ALL_ROOM_ATTRIBUTES", type := .int, accessFlags := 24, slot := 11, constantValue := 0 }, { name := "SNAPSHOT", type := .int, accessFlags := 24, slot := 12, constantValue := 0 }, { name := "DEFAULT", type := .int, accessFlags := 24, slot := 13, constantValue := 0 }, { name := "NO_LEVELS", type := .int, accessFlags := 24, slot := 14, constantValue := 0 }, { name := "MOST", type := .int, accessFlags := 26, slot := 15, constantValue := 0 }, { name := "levels", type := (.object "java/util/concurrent/ConcurrentMap"), accessFlags := 18, slot := 0, constantValue := 0 }]
  methods := #[k2m0, k2m1]
  instanceTypes := #[(.object "java/util/concurrent/ConcurrentMap")]
  staticTypes := #[.int, .int, .int, .int, .int, .int, .int, .int, .int, .int, .int, .int, .int, .int, .int, .int]
  resolved := Array.replicate 176 none
  statics := none }

def pool3 : Array CpInfo := pool [(1, u "java/lang/Cloneable"), (0, .class_ 1), (0, u "java/lang/Object"), (0, .class_ 3)] 3

/-- java/lang/Cloneable -/
def k3 : Class := { plain "java/lang/Cloneable" (some 0) with
  accessFlags := 1537
  interfaces := #[]
  cf := some (fileOf pool3 2 #[] #[] 1537 4 #[] #[])
  fields := #[]
  methods := #[]
  instanceTypes := #[]
  staticTypes := #[]
  resolved := Array.replicate 8 none
  statics := none }

def pool4 : Array CpInfo := pool [(1, u "java/io/Serializable"), (0, .class_ 1), (0, u "java/lang/Object"), (0, .class_ 3)] 3

/-- java/io/Serializable -/
def k4 : Class := { plain "java/io/Serializable" (some 0) with
  accessFlags := 1537
  interfaces := #[]
  cf := some (fileOf pool4 2 #[] #[] 1537 4 #[] #[])
  fields := #[]
  methods := #[]
  instanceTypes := #[]
  staticTypes := #[]
  resolved := Array.replicate 8 none
  statics := none }

/-- the primitive byte -/
def k5 : Class := { plain "byte" none with kind := .primitive 'B', accessFlags := 0x411 }
/-- [B -/
def k6 : Class := { plain "[B" (some 0) with kind := .array 5 .byte, interfaces := #[3, 4], accessFlags := 1041 }

/-- the primitive int -/
def k7 : Class := { plain "int" none with kind := .primitive 'I', accessFlags := 0x411 }
/-- [I -/
def k8 : Class := { plain "[I" (some 0) with kind := .array 7 .int, interfaces := #[3, 4], accessFlags := 1041 }

def heap : Heap := #[]
def classes : Array Class := #[k0, k1, k2, k3, k4, k5, k6, k7, k8]
def interned : List (Array UInt16 × Addr) := []
def slotsUsed : Nat := 0
def theMethod : MethodId := ⟨1, 1⟩
def args0 : Array Value := #[.int 50, .int 7, .int 3]
def aboutOver (below : List Frame) : State where
  vm := { classes := classes, interned := interned.toArray }
  heap := heap
  slotsUsed := slotsUsed
  threads := #[{ frames := .invoking theMethod args0 :: below }]
def below0 : List Frame := [.native { method := ⟨0, 0⟩, args := #[] }]
def about1 : State := aboutOver below0
def p0 : Program := .bare "" "" ""
def e0 : Env := launch0.env 0 0 0
theorem w_frames : about1.frames = Frame.invoking theMethod args0 :: below0 := rfl
set_option maxRecDepth 65536 in
theorem w_args : argsFit about1.vm theMethod args0 = true := by decide +kernel
set_option maxRecDepth 65536 in
theorem w_heap : heapFits about1 = true := by decide +kernel
set_option maxRecDepth 65536 in
theorem w_runnable : about1.curStatus? = some .runnable := by decide +kernel
set_option maxRecDepth 65536 in
theorem w_alone : about1.alone = true := by decide +kernel
set_option maxRecDepth 65536 in
theorem w_named : about1.methodNamed? x = some theMethod := by decide +kernel
set_option maxRecDepth 65536 in
theorem w_hears : about1.hears theMethod below0 = true := by decide +kernel
set_option maxRecDepth 65536 in
theorem w_ripe : about1.ripe theMethod args0 below0 = true := by decide +kernel
theorem w_running : about1.status = .running := rfl
set_option maxRecDepth 65536 in
theorem w_room : about1.hasRoom e0.platform room_1 = true :=
  launch0.hasRoom_least _ room_1 (by decide +kernel) (by decide +kernel) (by decide +kernel) (by decide +kernel) (by decide +kernel) (by decide +kernel)
theorem allAtoms_all (ts : List Jvm.Cond) (a : Array Jvm.Value) (st : Jvm.State) : (allAtoms ts).before a st = ts.all (fun c => c.before a st) := by
  induction ts with
  | nil => rfl
  | cons c t ih =>
    show (Jvm.Cond.and c (allAtoms t)).before a st = _
    rw [Jvm.Cond.before_and, ih, List.all_cons]
def words1 : List Jvm.Cond := Jvm.Cond.code x code maxLocals ret :: tables_1
/-- a 'code' word, met by the world's own term for the bytes: nothing is compared byte by byte -/
theorem code_word {y : MethodName} {bytes : ByteArray} {mx : Nat} {rt : Option FieldType} {a : Array Value} {s : State} {m : MethodId} {meth : Method} {c : Code} (h1 : s.methodNamed? y = some m) (h2 : s.vm.method? m = some meth) (h3 : meth.code = some c) (h4 : c.code = bytes)
    (h5 : (c.maxLocals == mx && c.exceptionTable.isEmpty && decide (c.maxStack ≤ mostOperands) && decide (meth.sig.returnType = rt) && !meth.locks && decide (parseMethodDescriptor y.desc = some meth.sig)) = true) : (Jvm.Cond.code y bytes mx rt).before a s = true := by
  simp only [Bool.and_eq_true, beq_iff_eq, Bool.not_eq_true', decide_eq_true_eq] at h5
  obtain ⟨⟨⟨⟨⟨g1, g2⟩, g3⟩, g4⟩, g5⟩, g6⟩ := h5
  simp [Cond.before, Cond.holds, Cond.value, h1, h2, h3, h4, g1, g2, g3, g4, g5, g6]
def isCode : Jvm.Cond → Bool
  | .code _ _ _ _ => true
  | _ => false
theorem all_split {L : List Jvm.Cond} {P : Jvm.Cond → Bool} (h1 : L.all (fun c => isCode c || P c) = true) (h2 : ∀ c ∈ L.filter isCode, P c = true) : L.all P = true := by
  refine List.all_eq_true.mpr fun c hc => ?_
  have h := List.all_eq_true.mp h1 c hc
  rcases Bool.eq_false_or_eq_true (isCode c) with hi | hi
  · exact h2 c (List.mem_filter.mpr ⟨hc, hi⟩)
  · simpa [hi] using h
set_option maxRecDepth 65536 in
theorem w_c0 : (Jvm.Cond.code x code maxLocals ret).before args0 about1 = true := code_word (m := ⟨1, 1⟩) (meth := k1m1) (c := k1c1) (by decide +kernel) rfl rfl rfl (by decide +kernel)
set_option maxRecDepth 65536 in
theorem w_c1 : (Jvm.Cond.code ({ cls := "com/example/deft_relay/deftrelay/upc/UpdateLevels", name := "has", desc := "(II)Z" } : Jvm.MethodName) prog_20_method_3_code (2 : Nat) (Option.some Jvm.ClassFile.FieldType.boolean)).before args0 about1 = true := code_word (m := ⟨2, 1⟩) (meth := k2m1) (c := k2c1) (by decide +kernel) rfl rfl rfl (by decide +kernel)
def codes1 : List Jvm.Cond := [Jvm.Cond.code x code maxLocals ret, Jvm.Cond.code ({ cls := "com/example/deft_relay/deftrelay/upc/UpdateLevels", name := "has", desc := "(II)Z" } : Jvm.MethodName) prog_20_method_3_code (2 : Nat) (Option.some Jvm.ClassFile.FieldType.boolean)]
set_option maxRecDepth 65536 in
theorem codes_eq : words1.filter isCode = codes1 := rfl
theorem w_codes : ∀ c ∈ words1.filter isCode, c.before args0 about1 = true := by
  rw [codes_eq]
  intro c hc
  simp only [codes1, List.mem_cons, List.not_mem_nil, or_false] at hc
  rcases hc with rfl | rfl
  · exact w_c0
  · exact w_c1
set_option maxRecDepth 65536 in
theorem w_t1 : words1.all (fun c => isCode c || c.before args0 about1) = true := by decide +kernel
theorem w_tables : (allAtoms (Jvm.Cond.code x code maxLocals ret :: tables_1)).before args0 about1 = true := by
  rw [allAtoms_all]
  show words1.all (fun c => c.before args0 about1) = true
  refine all_split ?_ w_codes
  rw [w_t1]
set_option maxRecDepth 65536 in
theorem w_case : (Jvm.Cond.and given_1 narrow_1).before args0 about1 = true := by decide +kernel
theorem w_applies : (headSpec (Jvm.Cond.code x code maxLocals ret :: tables_1) room_1).applies x e0.platform about1 = true :=
  (Spec.applies_iff w_frames).mpr ⟨w_running, w_runnable, w_alone, w_named, w_hears, w_ripe, w_room, w_tables⟩
theorem atStart : AtStart classFile x code maxLocals ret World_1 tables_1 room_1 Calls_1 rest_1 Pre_1 launch0 p0 e0 about1 theMethod args0 below0 :=
  ⟨lists_1, trivial, launch0.admits_env _ _ _, launch0.least_env, fairChoices_fair.cas, fairChoices_fair.clock, w_frames, w_args, w_heap, w_applies, trivial, trivial, w_case⟩
end start1
theorem witness_1 : WitnessClaimed_1 := ⟨start1.p0, start1.e0, start1.about1, start1.theMethod, start1.args0, start1.below0, start1.atStart⟩
end Jvm.Pilot.@@N@@
