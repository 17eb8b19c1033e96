import JvmDerived
import JvmDerived.Pilot.@@N@@Statement
import JvmDerived.Pilot.@@N@@Code
set_option linter.unusedVariables false
set_option linter.unusedSimpArgs false

namespace Jvm.RoadKit
open Sem ClassFile Op Lib Jvm.Stand Jvm.Free Jvm.LawKit
section New
variable {p : Program} {l : Launch} {e : Env} {R : Room} {s : State} {m : MethodId} {args : Array Value} {below : List Frame} {meth : Method} {c : Code} {T : State} {locs : List Loc} {cells slots : Nat}
theorem retI (X : Stand p l e R s m args below meth c T locs cells slots) (hx : p.tables.exec = Jvm.exec) {pc : Nat} {Ls : Array Slot} {z : Int32} {rest : List Value} (hret : meth.sig.returnType = some .int) (hd : decode c.code pc = .ok (.ireturn, 1)) {fs : List Frame}
    (hl : ∀ (f : JFrame) (acts : List Action), f.method = m → f.locked = none → f.entered = [] → (doReturn e (T.setTop f) acts (some (.int z))).1 = T.setFrames fs) : Steps p.tables e below (T.setTop (mkF m pc Ls (.int z :: rest))) (T.setFrames fs) := by
  have hm' : T.vm.method? m = some meth := X.method'
  have hn : narrow .int (.int z) = .int z := rfl
  show Steps p.tables e below (T.setTop { method := m, pc := pc, locals := Ls, stack := _ :: rest, locked := none }) _
  jvm_step X.here [X.here.top, hx, hd, hm', hret, hn]
  first | (intro acts; rw [hl _ acts rfl rfl rfl]) | rw [hl _ _ rfl rfl rfl]
  exact Steps.refl _
end New
end Jvm.RoadKit
namespace Jvm.Pilot.@@N@@
open Jvm Jvm.ClassFile Sem Op Lib Jvm.Free Jvm.Stand Jvm.LawKit Jvm.RoadKit Bundle Jvm.Pilot.@@N@@.Jvm.D

/-! the road's own words: where a run ends, by steps taken one after the other -/
def own_E (p : Program) (e : Env) (below : List Frame) (G : State → Outcome → Prop) (U : State) : Prop := ∃ s₂ o, Steps p.tables e below U s₂ ∧ s₂.status = .running ∧ Ended s₂ below o ∧ G s₂ o
theorem own_step {p : Program} {e : Env} {below : List Frame} {G : State → Outcome → Prop} {U U' : State} (h : ∀ t, Steps p.tables e below U' t → Steps p.tables e below U t) (k : own_E p e below G U') : own_E p e below G U :=
  let ⟨a, b, c, d⟩ := k; ⟨a, b, h _ c, d⟩
theorem own_ret {p : Program} {l : Launch} {e : Env} {R : Room} {s : State} {m : MethodId} {args : Array Value} {below : List Frame} {meth : Method} {c : Code} {T : State} {locs : List Loc} {cells slots C S : Nat} {Q : Option Value → Heap → List Loc → Prop} {U : State}
    (X : Stand p l e R s m args below meth c T locs cells slots) (hlk : meth.locks = false) {v : Option Value} (hv : meth.sig.returnType = none → v = none) (hq : Q v T.heap locs) (hc : cells ≤ C) (hs : slots ≤ S)
    (hst : ∀ fs, (∀ (f : JFrame) (acts : List Action), f.method = m → f.locked = none → f.entered = [] → (doReturn e (T.setTop f) acts v).1 = T.setFrames fs) → Steps p.tables e below U (T.setFrames fs)) :
    own_E p e below (fun U' o => ∃ v L, o = .returned v ∧ Q v U'.heap L ∧ FrameEnd s o U' L C S) U := by
  obtain ⟨fs, hr, hrun, hended, hW, hsame⟩ := X.leave (v := v) hv hlk
  exact ⟨_, _, hst fs hr, hrun, hended, v, locs, rfl, hq, ⟨_, rfl⟩, hW, hsame.mono hc hs⟩
theorem own_lc_gt_t {x y : Int64} (h : y < x) : ifCond.holds .gt (Jvm.Free.XT.cmpL x y) = true := by delta Jvm.Free.XT.cmpL; rw [if_pos h]; decide
theorem own_lc_gt_f {x y : Int64} (h : ¬ y < x) : ifCond.holds .gt (Jvm.Free.XT.cmpL x y) = false := by delta Jvm.Free.XT.cmpL; rw [if_neg h]; split <;> decide
theorem own_lc_le_f {x y : Int64} (h : y < x) : ifCond.holds .le (Jvm.Free.XT.cmpL x y) = false := by delta Jvm.Free.XT.cmpL; rw [if_pos h]; decide
theorem own_lc_le_t {x y : Int64} (h : ¬ y < x) : ifCond.holds .le (Jvm.Free.XT.cmpL x y) = true := by delta Jvm.Free.XT.cmpL; rw [if_neg h]; split <;> decide
theorem own_lt3 {x y : Int64} (h : x < y) : Jvm.Free.XT.cmpL x y = -1 := by
  delta Jvm.Free.XT.cmpL
  rw [if_neg (by rw [Int64.lt_iff_toInt_lt] at *; omega), if_neg (by intro e; subst e; rw [Int64.lt_iff_toInt_lt] at h; omega)]
theorem own_ge3 {x y : Int64} (h : ¬ x < y) : Jvm.Free.XT.cmpL x y = 1 ∨ Jvm.Free.XT.cmpL x y = 0 := by
  delta Jvm.Free.XT.cmpL
  by_cases h1 : y < x
  · rw [if_pos h1]; exact Or.inl rfl
  · rw [if_neg h1, if_pos (by rw [Int64.lt_iff_toInt_lt] at h h1; exact Int64.toInt_inj.mp (by omega))]; exact Or.inr rfl
theorem own_lc_lt_t {x y : Int64} (h : x < y) : ifCond.holds .lt (Jvm.Free.XT.cmpL x y) = true := by rw [own_lt3 h]; decide
theorem own_lc_lt_f {x y : Int64} (h : ¬ x < y) : ifCond.holds .lt (Jvm.Free.XT.cmpL x y) = false := by rcases own_ge3 h with e | e <;> rw [e] <;> decide
theorem own_lc_ge_f {x y : Int64} (h : x < y) : ifCond.holds .ge (Jvm.Free.XT.cmpL x y) = false := by rw [own_lt3 h]; decide
theorem own_lc_ge_t {x y : Int64} (h : ¬ x < y) : ifCond.holds .ge (Jvm.Free.XT.cmpL x y) = true := by rcases own_ge3 h with e | e <;> rw [e] <;> decide
theorem own_eq3 {x y : Int64} (h : x = y) : Jvm.Free.XT.cmpL x y = 0 := by
  subst h; delta Jvm.Free.XT.cmpL; rw [if_neg (by rw [Int64.lt_iff_toInt_lt]; omega), if_pos rfl]
theorem own_ne3 {x y : Int64} (h : ¬ x = y) : Jvm.Free.XT.cmpL x y = 1 ∨ Jvm.Free.XT.cmpL x y = -1 := by
  delta Jvm.Free.XT.cmpL
  by_cases h1 : y < x
  · rw [if_pos h1]; exact Or.inl rfl
  · rw [if_neg h1, if_neg h]; exact Or.inr rfl
theorem own_lc_eq_t {x y : Int64} (h : x = y) : ifCond.holds .eq (Jvm.Free.XT.cmpL x y) = true := by rw [own_eq3 h]; decide
theorem own_lc_eq_f {x y : Int64} (h : ¬ x = y) : ifCond.holds .eq (Jvm.Free.XT.cmpL x y) = false := by rcases own_ne3 h with e | e <;> rw [e] <;> decide
theorem own_lc_ne_f {x y : Int64} (h : x = y) : ifCond.holds .ne (Jvm.Free.XT.cmpL x y) = false := by rw [own_eq3 h]; decide
theorem own_lc_ne_t {x y : Int64} (h : ¬ x = y) : ifCond.holds .ne (Jvm.Free.XT.cmpL x y) = true := by rcases own_ne3 h with e | e <;> rw [e] <;> decide

def own_ws (p : Int32) : Int32 := if p = 32 ∨ p = 9 ∨ p = 10 ∨ p = 13 then 1 else 0
theorem own_ws_big {p : Int32} (h : (32 : Int32) < p) : own_ws p = 0 := by
  unfold own_ws
  rw [if_neg]
  rintro (rfl | rfl | rfl | rfl) <;> revert h <;> decide
theorem d1_0 : decode prog_95_method_5_code 0 = .ok (.iload_n 0, 1) := by decide +kernel
theorem d1_1 : decode prog_95_method_5_code 1 = .ok (.bipush 32, 2) := by decide +kernel
theorem d1_3 : decode prog_95_method_5_code 3 = .ok (.if_icmp .gt 31, 3) := by decide +kernel
theorem d1_6 : decode prog_95_method_5_code 6 = .ok (.iload_n 0, 1) := by decide +kernel
theorem d1_7 : decode prog_95_method_5_code 7 = .ok (.bipush 32, 2) := by decide +kernel
theorem d1_9 : decode prog_95_method_5_code 9 = .ok (.if_icmp .eq 21, 3) := by decide +kernel
theorem d1_12 : decode prog_95_method_5_code 12 = .ok (.iload_n 0, 1) := by decide +kernel
theorem d1_13 : decode prog_95_method_5_code 13 = .ok (.bipush 9, 2) := by decide +kernel
theorem d1_15 : decode prog_95_method_5_code 15 = .ok (.if_icmp .eq 15, 3) := by decide +kernel
theorem d1_18 : decode prog_95_method_5_code 18 = .ok (.iload_n 0, 1) := by decide +kernel
theorem d1_19 : decode prog_95_method_5_code 19 = .ok (.bipush 10, 2) := by decide +kernel
theorem d1_21 : decode prog_95_method_5_code 21 = .ok (.if_icmp .eq 9, 3) := by decide +kernel
theorem d1_24 : decode prog_95_method_5_code 24 = .ok (.iload_n 0, 1) := by decide +kernel
theorem d1_25 : decode prog_95_method_5_code 25 = .ok (.bipush 13, 2) := by decide +kernel
theorem d1_27 : decode prog_95_method_5_code 27 = .ok (.if_icmp .ne 7, 3) := by decide +kernel
theorem d1_30 : decode prog_95_method_5_code 30 = .ok (.iconst 1, 1) := by decide +kernel
theorem d1_31 : decode prog_95_method_5_code 31 = .ok (.goto 4, 3) := by decide +kernel
theorem d1_34 : decode prog_95_method_5_code 34 = .ok (.iconst 0, 1) := by decide +kernel
theorem d1_35 : decode prog_95_method_5_code 35 = .ok (.ireturn, 1) := by decide +kernel
theorem pn_1 : plainName "com/example/tabulex/tabulex/xml/XmlNames" = true := by first | (simp [plainName, overriddenIn]; done) | decide +kernel
theorem ef_1 (m : MethodId) (p1 : Int32)  : entryFrame m #[(.int p1)] 1 = mkF m 0 #[.val (.int p1)] [] := by first | (simp [entryFrame, mkF, argsToLocals, Value.category]; done) | rfl
def Q1 (Z : State) (p1 : Int32)  (h0 : Heap) (n0 : Nat) (v : Option Value) (h : Heap) (L : List Loc) : Prop := v = some (.int (own_ws p1)) ∧ Fr n0 L ∧ h = h0
set_option maxRecDepth 65536 in
set_option maxHeartbeats 40000000 in
theorem rm1 (l : Launch) (Z : State) (a0 : Array Value) (hw : ∀ d ∈ tables_1, d.before a0 Z = true) (ws : List Jvm.Cond) (p1 : Int32)  (h0 : Heap) (n0 : Nat) (Z0 : n0 ≤ h0.size)  :
    MetFree l (⟨"com/example/tabulex/tabulex/xml/XmlNames", "isWhitespace", "(I)Z"⟩ : MethodName) (head1 (Jvm.Cond.code (⟨"com/example/tabulex/tabulex/xml/XmlNames", "isWhitespace", "(I)Z"⟩ : MethodName) prog_95_method_5_code 1 (some .boolean) :: ws) ({ frames := 0, cells := 0, slots := 0, locals := 0 } : Room)) (fun a U => a = #[(.int p1)] ∧ Z.Warmed39 U.vm ∧ U.heap = h0) (fun _ _ _ _ _ => True) (fun _ U o U' => ∃ v L, o = .returned v ∧ Q1 Z p1 h0 n0 v U'.heap L ∧ FrameEnd U o U' L ({ frames := 0, cells := 0, slots := 0, locals := 0 } : Room).cells ({ frames := 0, cells := 0, slots := 0, locals := 0 } : Room).slots) := by
  refine MetFree.of_bodySF (plainFor_of_name pn_1) hisR ?_
  intro p e s m args below meth c s₁ Bd hml0 hP hK
  obtain ⟨rfl, hZ, hh⟩ := hP
  have hx := Bd.exec
  have hby := Bd.bytes
  have hml : c.maxLocals = 1 := hml0
  have hown : s.vm.findClass "com/example/tabulex/tabulex/xml/XmlNames" = some m.cls := findClass_of_methodNamed Bd.named
  have hnm := (name_of_methodNamed Bd.named Bd.method).1
  have hlk : meth.locks = false := Bd.notSynchronized
  have X0 : Stand p l e ({ frames := 0, cells := 0, slots := 0, locals := 0 } : Room) s m #[(.int p1)] below meth c s₁ [] 0 0 := Stand.of_body Bd
  have e0 : s₁.heap = h0 := by rw [← hh, Bd.state]; rfl
  have N0 := Fr.nil n0
  refine own_step (p := p) (e := e) (below := below) (U' := s₁.setTop (mkF m 0 #[.val (.int p1)] [])) (fun t k => castTop (ef_1 m p1 ) k) ?_
  refine own_step (fun _ k => XS.iloadN X0.here hx rfl (hb hby d1_0) rfl k) ?_
  show own_E p e below _ (s₁.setTop (mkF m 1 #[.val (.int p1)] [(.int p1)]))
  refine own_step (fun _ k => XS.bipush X0.here hx rfl (hb hby d1_1) k) ?_
  show own_E p e below _ (s₁.setTop (mkF m 3 #[.val (.int p1)] [(.int (32 : Int32)), (.int p1)]))
  by_cases hc3 : (32 : Int32) < p1
  · skip
    refine own_step (fun _ k => XS.icmpYes X0.here hx rfl (pc0 := 3) (pc' := 34) rfl (hb hby d1_3) rfl (tlt hc3).2.2.1 (by decide) (by decide) k) ?_
    show own_E p e below _ (s₁.setTop (mkF m 34 #[.val (.int p1)] []))
    refine own_step (fun _ k => XS.iconst X0.here hx rfl (hb hby d1_34) k) ?_
    show own_E p e below _ (s₁.setTop (mkF m 35 #[.val (.int p1)] [(.int (0 : Int32))]))
    refine own_ret X0 hlk (v := some (.int (nar .boolean (0 : Int32)))) (fun h => by rw [Bd.returns] at h; cases h) ?_ (by decide) (by decide) (fun fs hr => retN X0 hx (t := .boolean) Bd.returns (by simp) (hb hby d1_35) hr)
    show Q1 Z p1 h0 n0 _ s₁.heap _
    rw [e0]
    refine ⟨congrArg (fun z => some (Value.int z)) ?_, N0, rfl⟩
    rw [own_ws_big hc3]; decide
  · skip
    refine own_step (fun _ k => XS.icmpNo X0.here hx rfl (hb hby d1_3) rfl (flt hc3).2.2.1 k) ?_
    show own_E p e below _ (s₁.setTop (mkF m 6 #[.val (.int p1)] []))
    refine own_step (fun _ k => XS.iloadN X0.here hx rfl (hb hby d1_6) rfl k) ?_
    show own_E p e below _ (s₁.setTop (mkF m 7 #[.val (.int p1)] [(.int p1)]))
    refine own_step (fun _ k => XS.bipush X0.here hx rfl (hb hby d1_7) k) ?_
    show own_E p e below _ (s₁.setTop (mkF m 9 #[.val (.int p1)] [(.int (32 : Int32)), (.int p1)]))
    by_cases hc9 : p1 = (32 : Int32)
    · skip
      refine own_step (fun _ k => XS.icmpYes X0.here hx rfl (pc0 := 9) (pc' := 30) rfl (hb hby d1_9) rfl (teq hc9).1 (by decide) (by decide) k) ?_
      show own_E p e below _ (s₁.setTop (mkF m 30 #[.val (.int p1)] []))
      refine own_step (fun _ k => XS.iconst X0.here hx rfl (hb hby d1_30) k) ?_
      show own_E p e below _ (s₁.setTop (mkF m 31 #[.val (.int p1)] [(.int (1 : Int32))]))
      refine own_step (fun _ k => XS.goto X0.here hx rfl (pc0 := 31) (pc' := 35) rfl (hb hby d1_31) (by decide) (by decide) k) ?_
      show own_E p e below _ (s₁.setTop (mkF m 35 #[.val (.int p1)] [(.int (1 : Int32))]))
      refine own_ret X0 hlk (v := some (.int (nar .boolean (1 : Int32)))) (fun h => by rw [Bd.returns] at h; cases h) ?_ (by decide) (by decide) (fun fs hr => retN X0 hx (t := .boolean) Bd.returns (by simp) (hb hby d1_35) hr)
      show Q1 Z p1 h0 n0 _ s₁.heap _
      rw [e0]
      refine ⟨congrArg (fun z => some (Value.int z)) ?_, N0, rfl⟩
      simp only [own_ws, hc9, if_true, if_false, or_true, true_or, or_false, or_self]; decide
    · skip
      refine own_step (fun _ k => XS.icmpNo X0.here hx rfl (hb hby d1_9) rfl (feq hc9).1 k) ?_
      show own_E p e below _ (s₁.setTop (mkF m 12 #[.val (.int p1)] []))
      refine own_step (fun _ k => XS.iloadN X0.here hx rfl (hb hby d1_12) rfl k) ?_
      show own_E p e below _ (s₁.setTop (mkF m 13 #[.val (.int p1)] [(.int p1)]))
      refine own_step (fun _ k => XS.bipush X0.here hx rfl (hb hby d1_13) k) ?_
      show own_E p e below _ (s₁.setTop (mkF m 15 #[.val (.int p1)] [(.int (9 : Int32)), (.int p1)]))
      by_cases hc15 : p1 = (9 : Int32)
      · skip
        refine own_step (fun _ k => XS.icmpYes X0.here hx rfl (pc0 := 15) (pc' := 30) rfl (hb hby d1_15) rfl (teq hc15).1 (by decide) (by decide) k) ?_
        show own_E p e below _ (s₁.setTop (mkF m 30 #[.val (.int p1)] []))
        refine own_step (fun _ k => XS.iconst X0.here hx rfl (hb hby d1_30) k) ?_
        show own_E p e below _ (s₁.setTop (mkF m 31 #[.val (.int p1)] [(.int (1 : Int32))]))
        refine own_step (fun _ k => XS.goto X0.here hx rfl (pc0 := 31) (pc' := 35) rfl (hb hby d1_31) (by decide) (by decide) k) ?_
        show own_E p e below _ (s₁.setTop (mkF m 35 #[.val (.int p1)] [(.int (1 : Int32))]))
        refine own_ret X0 hlk (v := some (.int (nar .boolean (1 : Int32)))) (fun h => by rw [Bd.returns] at h; cases h) ?_ (by decide) (by decide) (fun fs hr => retN X0 hx (t := .boolean) Bd.returns (by simp) (hb hby d1_35) hr)
        show Q1 Z p1 h0 n0 _ s₁.heap _
        rw [e0]
        refine ⟨congrArg (fun z => some (Value.int z)) ?_, N0, rfl⟩
        simp only [own_ws, hc9, hc15, if_true, if_false, or_true, true_or, or_false, or_self]; decide
      · skip
        refine own_step (fun _ k => XS.icmpNo X0.here hx rfl (hb hby d1_15) rfl (feq hc15).1 k) ?_
        show own_E p e below _ (s₁.setTop (mkF m 18 #[.val (.int p1)] []))
        refine own_step (fun _ k => XS.iloadN X0.here hx rfl (hb hby d1_18) rfl k) ?_
        show own_E p e below _ (s₁.setTop (mkF m 19 #[.val (.int p1)] [(.int p1)]))
        refine own_step (fun _ k => XS.bipush X0.here hx rfl (hb hby d1_19) k) ?_
        show own_E p e below _ (s₁.setTop (mkF m 21 #[.val (.int p1)] [(.int (10 : Int32)), (.int p1)]))
        by_cases hc21 : p1 = (10 : Int32)
        · skip
          refine own_step (fun _ k => XS.icmpYes X0.here hx rfl (pc0 := 21) (pc' := 30) rfl (hb hby d1_21) rfl (teq hc21).1 (by decide) (by decide) k) ?_
          show own_E p e below _ (s₁.setTop (mkF m 30 #[.val (.int p1)] []))
          refine own_step (fun _ k => XS.iconst X0.here hx rfl (hb hby d1_30) k) ?_
          show own_E p e below _ (s₁.setTop (mkF m 31 #[.val (.int p1)] [(.int (1 : Int32))]))
          refine own_step (fun _ k => XS.goto X0.here hx rfl (pc0 := 31) (pc' := 35) rfl (hb hby d1_31) (by decide) (by decide) k) ?_
          show own_E p e below _ (s₁.setTop (mkF m 35 #[.val (.int p1)] [(.int (1 : Int32))]))
          refine own_ret X0 hlk (v := some (.int (nar .boolean (1 : Int32)))) (fun h => by rw [Bd.returns] at h; cases h) ?_ (by decide) (by decide) (fun fs hr => retN X0 hx (t := .boolean) Bd.returns (by simp) (hb hby d1_35) hr)
          show Q1 Z p1 h0 n0 _ s₁.heap _
          rw [e0]
          refine ⟨congrArg (fun z => some (Value.int z)) ?_, N0, rfl⟩
          simp only [own_ws, hc9, hc15, hc21, if_true, if_false, or_true, true_or, or_false, or_self]; decide
        · skip
          refine own_step (fun _ k => XS.icmpNo X0.here hx rfl (hb hby d1_21) rfl (feq hc21).1 k) ?_
          show own_E p e below _ (s₁.setTop (mkF m 24 #[.val (.int p1)] []))
          refine own_step (fun _ k => XS.iloadN X0.here hx rfl (hb hby d1_24) rfl k) ?_
          show own_E p e below _ (s₁.setTop (mkF m 25 #[.val (.int p1)] [(.int p1)]))
          refine own_step (fun _ k => XS.bipush X0.here hx rfl (hb hby d1_25) k) ?_
          show own_E p e below _ (s₁.setTop (mkF m 27 #[.val (.int p1)] [(.int (13 : Int32)), (.int p1)]))
          by_cases hc27 : p1 = (13 : Int32)
          · skip
            refine own_step (fun _ k => XS.icmpNo X0.here hx rfl (hb hby d1_27) rfl (teq hc27).2 k) ?_
            show own_E p e below _ (s₁.setTop (mkF m 30 #[.val (.int p1)] []))
            refine own_step (fun _ k => XS.iconst X0.here hx rfl (hb hby d1_30) k) ?_
            show own_E p e below _ (s₁.setTop (mkF m 31 #[.val (.int p1)] [(.int (1 : Int32))]))
            refine own_step (fun _ k => XS.goto X0.here hx rfl (pc0 := 31) (pc' := 35) rfl (hb hby d1_31) (by decide) (by decide) k) ?_
            show own_E p e below _ (s₁.setTop (mkF m 35 #[.val (.int p1)] [(.int (1 : Int32))]))
            refine own_ret X0 hlk (v := some (.int (nar .boolean (1 : Int32)))) (fun h => by rw [Bd.returns] at h; cases h) ?_ (by decide) (by decide) (fun fs hr => retN X0 hx (t := .boolean) Bd.returns (by simp) (hb hby d1_35) hr)
            show Q1 Z p1 h0 n0 _ s₁.heap _
            rw [e0]
            refine ⟨congrArg (fun z => some (Value.int z)) ?_, N0, rfl⟩
            simp only [own_ws, hc9, hc15, hc21, hc27, if_true, if_false, or_true, true_or, or_false, or_self]; decide
          · skip
            refine own_step (fun _ k => XS.icmpYes X0.here hx rfl (pc0 := 27) (pc' := 34) rfl (hb hby d1_27) rfl (feq hc27).2 (by decide) (by decide) k) ?_
            show own_E p e below _ (s₁.setTop (mkF m 34 #[.val (.int p1)] []))
            refine own_step (fun _ k => XS.iconst X0.here hx rfl (hb hby d1_34) k) ?_
            show own_E p e below _ (s₁.setTop (mkF m 35 #[.val (.int p1)] [(.int (0 : Int32))]))
            refine own_ret X0 hlk (v := some (.int (nar .boolean (0 : Int32)))) (fun h => by rw [Bd.returns] at h; cases h) ?_ (by decide) (by decide) (fun fs hr => retN X0 hx (t := .boolean) Bd.returns (by simp) (hb hby d1_35) hr)
            show Q1 Z p1 h0 n0 _ s₁.heap _
            rw [e0]
            refine ⟨congrArg (fun z => some (Value.int z)) ?_, N0, rfl⟩
            simp only [own_ws, hc9, hc15, hc21, hc27, if_true, if_false, or_true, true_or, or_false, or_self]; decide
theorem d2_0 : decode method_2_code 0 = .ok (.iload_n 0, 1) := by decide +kernel
theorem d2_1 : decode method_2_code 1 = .ok (.bipush 32, 2) := by decide +kernel
theorem d2_3 : decode method_2_code 3 = .ok (.if_icmp .ne 5, 3) := by decide +kernel
theorem d2_6 : decode method_2_code 6 = .ok (.iconst 1, 1) := by decide +kernel
theorem d2_7 : decode method_2_code 7 = .ok (.ireturn, 1) := by decide +kernel
theorem d2_8 : decode method_2_code 8 = .ok (.iload_n 0, 1) := by decide +kernel
theorem d2_9 : decode method_2_code 9 = .ok (.bipush 9, 2) := by decide +kernel
theorem d2_11 : decode method_2_code 11 = .ok (.if_icmp .ne 5, 3) := by decide +kernel
theorem d2_14 : decode method_2_code 14 = .ok (.iconst 1, 1) := by decide +kernel
theorem d2_15 : decode method_2_code 15 = .ok (.ireturn, 1) := by decide +kernel
theorem d2_16 : decode method_2_code 16 = .ok (.iload_n 0, 1) := by decide +kernel
theorem d2_17 : decode method_2_code 17 = .ok (.bipush 10, 2) := by decide +kernel
theorem d2_19 : decode method_2_code 19 = .ok (.if_icmp .ne 5, 3) := by decide +kernel
theorem d2_22 : decode method_2_code 22 = .ok (.iconst 1, 1) := by decide +kernel
theorem d2_23 : decode method_2_code 23 = .ok (.ireturn, 1) := by decide +kernel
theorem d2_24 : decode method_2_code 24 = .ok (.iload_n 0, 1) := by decide +kernel
theorem d2_25 : decode method_2_code 25 = .ok (.bipush 13, 2) := by decide +kernel
theorem d2_27 : decode method_2_code 27 = .ok (.if_icmp .ne 5, 3) := by decide +kernel
theorem d2_30 : decode method_2_code 30 = .ok (.iconst 1, 1) := by decide +kernel
theorem d2_31 : decode method_2_code 31 = .ok (.ireturn, 1) := by decide +kernel
theorem d2_32 : decode method_2_code 32 = .ok (.iconst 0, 1) := by decide +kernel
theorem d2_33 : decode method_2_code 33 = .ok (.ireturn, 1) := by decide +kernel
theorem pn_2 : plainName "com/example/tabulex/tabulex/xml/XmlNamesIsWhitespacePinLaw" = true := by first | (simp [plainName, overriddenIn]; done) | decide +kernel
theorem ef_2 (m : MethodId) (p1 : Int32)  : entryFrame m #[(.int p1)] 1 = mkF m 0 #[.val (.int p1)] [] := by first | (simp [entryFrame, mkF, argsToLocals, Value.category]; done) | rfl
def Q2 (Z : State) (p1 : Int32)  (h0 : Heap) (n0 : Nat) (v : Option Value) (h : Heap) (L : List Loc) : Prop := v = some (.int (own_ws p1)) ∧ Fr n0 L ∧ h = h0
set_option maxRecDepth 65536 in
set_option maxHeartbeats 40000000 in
theorem rm2 (l : Launch) (Z : State) (a0 : Array Value) (hw : ∀ d ∈ tables_1, d.before a0 Z = true) (ws : List Jvm.Cond) (p1 : Int32)  (h0 : Heap) (n0 : Nat) (Z0 : n0 ≤ h0.size)  :
    MetFree l (⟨"com/example/tabulex/tabulex/xml/XmlNamesIsWhitespacePinLaw", "expected", "(I)Z"⟩ : MethodName) (head1 (Jvm.Cond.code (⟨"com/example/tabulex/tabulex/xml/XmlNamesIsWhitespacePinLaw", "expected", "(I)Z"⟩ : MethodName) method_2_code 1 (some .boolean) :: ws) ({ frames := 0, cells := 0, slots := 0, locals := 0 } : Room)) (fun a U => a = #[(.int p1)] ∧ Z.Warmed39 U.vm ∧ U.heap = h0) (fun _ _ _ _ _ => True) (fun _ U o U' => ∃ v L, o = .returned v ∧ Q2 Z p1 h0 n0 v U'.heap L ∧ FrameEnd U o U' L ({ frames := 0, cells := 0, slots := 0, locals := 0 } : Room).cells ({ frames := 0, cells := 0, slots := 0, locals := 0 } : Room).slots) := by
  refine MetFree.of_bodySF (plainFor_of_name pn_2) hisR ?_
  intro p e s m args below meth c s₁ Bd hml0 hP hK
  obtain ⟨rfl, hZ, hh⟩ := hP
  have hx := Bd.exec
  have hby := Bd.bytes
  have hml : c.maxLocals = 1 := hml0
  have hown : s.vm.findClass "com/example/tabulex/tabulex/xml/XmlNamesIsWhitespacePinLaw" = some m.cls := findClass_of_methodNamed Bd.named
  have hnm := (name_of_methodNamed Bd.named Bd.method).1
  have hlk : meth.locks = false := Bd.notSynchronized
  have X0 : Stand p l e ({ frames := 0, cells := 0, slots := 0, locals := 0 } : Room) s m #[(.int p1)] below meth c s₁ [] 0 0 := Stand.of_body Bd
  have e0 : s₁.heap = h0 := by rw [← hh, Bd.state]; rfl
  have N0 := Fr.nil n0
  refine own_step (p := p) (e := e) (below := below) (U' := s₁.setTop (mkF m 0 #[.val (.int p1)] [])) (fun t k => castTop (ef_2 m p1 ) k) ?_
  refine own_step (fun _ k => XS.iloadN X0.here hx rfl (hb hby d2_0) rfl k) ?_
  show own_E p e below _ (s₁.setTop (mkF m 1 #[.val (.int p1)] [(.int p1)]))
  refine own_step (fun _ k => XS.bipush X0.here hx rfl (hb hby d2_1) k) ?_
  show own_E p e below _ (s₁.setTop (mkF m 3 #[.val (.int p1)] [(.int (32 : Int32)), (.int p1)]))
  by_cases hc3 : p1 = (32 : Int32)
  · skip
    refine own_step (fun _ k => XS.icmpNo X0.here hx rfl (hb hby d2_3) rfl (teq hc3).2 k) ?_
    show own_E p e below _ (s₁.setTop (mkF m 6 #[.val (.int p1)] []))
    refine own_step (fun _ k => XS.iconst X0.here hx rfl (hb hby d2_6) k) ?_
    show own_E p e below _ (s₁.setTop (mkF m 7 #[.val (.int p1)] [(.int (1 : Int32))]))
    refine own_ret X0 hlk (v := some (.int (nar .boolean (1 : Int32)))) (fun h => by rw [Bd.returns] at h; cases h) ?_ (by decide) (by decide) (fun fs hr => retN X0 hx (t := .boolean) Bd.returns (by simp) (hb hby d2_7) hr)
    show Q2 Z p1 h0 n0 _ s₁.heap _
    rw [e0]
    refine ⟨congrArg (fun z => some (Value.int z)) ?_, N0, rfl⟩
    simp only [own_ws, hc3, if_true, if_false, or_true, true_or, or_false, or_self]; decide
  · skip
    refine own_step (fun _ k => XS.icmpYes X0.here hx rfl (pc0 := 3) (pc' := 8) rfl (hb hby d2_3) rfl (feq hc3).2 (by decide) (by decide) k) ?_
    show own_E p e below _ (s₁.setTop (mkF m 8 #[.val (.int p1)] []))
    refine own_step (fun _ k => XS.iloadN X0.here hx rfl (hb hby d2_8) rfl k) ?_
    show own_E p e below _ (s₁.setTop (mkF m 9 #[.val (.int p1)] [(.int p1)]))
    refine own_step (fun _ k => XS.bipush X0.here hx rfl (hb hby d2_9) k) ?_
    show own_E p e below _ (s₁.setTop (mkF m 11 #[.val (.int p1)] [(.int (9 : Int32)), (.int p1)]))
    by_cases hc11 : p1 = (9 : Int32)
    · skip
      refine own_step (fun _ k => XS.icmpNo X0.here hx rfl (hb hby d2_11) rfl (teq hc11).2 k) ?_
      show own_E p e below _ (s₁.setTop (mkF m 14 #[.val (.int p1)] []))
      refine own_step (fun _ k => XS.iconst X0.here hx rfl (hb hby d2_14) k) ?_
      show own_E p e below _ (s₁.setTop (mkF m 15 #[.val (.int p1)] [(.int (1 : Int32))]))
      refine own_ret X0 hlk (v := some (.int (nar .boolean (1 : Int32)))) (fun h => by rw [Bd.returns] at h; cases h) ?_ (by decide) (by decide) (fun fs hr => retN X0 hx (t := .boolean) Bd.returns (by simp) (hb hby d2_15) hr)
      show Q2 Z p1 h0 n0 _ s₁.heap _
      rw [e0]
      refine ⟨congrArg (fun z => some (Value.int z)) ?_, N0, rfl⟩
      simp only [own_ws, hc3, hc11, if_true, if_false, or_true, true_or, or_false, or_self]; decide
    · skip
      refine own_step (fun _ k => XS.icmpYes X0.here hx rfl (pc0 := 11) (pc' := 16) rfl (hb hby d2_11) rfl (feq hc11).2 (by decide) (by decide) k) ?_
      show own_E p e below _ (s₁.setTop (mkF m 16 #[.val (.int p1)] []))
      refine own_step (fun _ k => XS.iloadN X0.here hx rfl (hb hby d2_16) rfl k) ?_
      show own_E p e below _ (s₁.setTop (mkF m 17 #[.val (.int p1)] [(.int p1)]))
      refine own_step (fun _ k => XS.bipush X0.here hx rfl (hb hby d2_17) k) ?_
      show own_E p e below _ (s₁.setTop (mkF m 19 #[.val (.int p1)] [(.int (10 : Int32)), (.int p1)]))
      by_cases hc19 : p1 = (10 : Int32)
      · skip
        refine own_step (fun _ k => XS.icmpNo X0.here hx rfl (hb hby d2_19) rfl (teq hc19).2 k) ?_
        show own_E p e below _ (s₁.setTop (mkF m 22 #[.val (.int p1)] []))
        refine own_step (fun _ k => XS.iconst X0.here hx rfl (hb hby d2_22) k) ?_
        show own_E p e below _ (s₁.setTop (mkF m 23 #[.val (.int p1)] [(.int (1 : Int32))]))
        refine own_ret X0 hlk (v := some (.int (nar .boolean (1 : Int32)))) (fun h => by rw [Bd.returns] at h; cases h) ?_ (by decide) (by decide) (fun fs hr => retN X0 hx (t := .boolean) Bd.returns (by simp) (hb hby d2_23) hr)
        show Q2 Z p1 h0 n0 _ s₁.heap _
        rw [e0]
        refine ⟨congrArg (fun z => some (Value.int z)) ?_, N0, rfl⟩
        simp only [own_ws, hc3, hc11, hc19, if_true, if_false, or_true, true_or, or_false, or_self]; decide
      · skip
        refine own_step (fun _ k => XS.icmpYes X0.here hx rfl (pc0 := 19) (pc' := 24) rfl (hb hby d2_19) rfl (feq hc19).2 (by decide) (by decide) k) ?_
        show own_E p e below _ (s₁.setTop (mkF m 24 #[.val (.int p1)] []))
        refine own_step (fun _ k => XS.iloadN X0.here hx rfl (hb hby d2_24) rfl k) ?_
        show own_E p e below _ (s₁.setTop (mkF m 25 #[.val (.int p1)] [(.int p1)]))
        refine own_step (fun _ k => XS.bipush X0.here hx rfl (hb hby d2_25) k) ?_
        show own_E p e below _ (s₁.setTop (mkF m 27 #[.val (.int p1)] [(.int (13 : Int32)), (.int p1)]))
        by_cases hc27 : p1 = (13 : Int32)
        · skip
          refine own_step (fun _ k => XS.icmpNo X0.here hx rfl (hb hby d2_27) rfl (teq hc27).2 k) ?_
          show own_E p e below _ (s₁.setTop (mkF m 30 #[.val (.int p1)] []))
          refine own_step (fun _ k => XS.iconst X0.here hx rfl (hb hby d2_30) k) ?_
          show own_E p e below _ (s₁.setTop (mkF m 31 #[.val (.int p1)] [(.int (1 : Int32))]))
          refine own_ret X0 hlk (v := some (.int (nar .boolean (1 : Int32)))) (fun h => by rw [Bd.returns] at h; cases h) ?_ (by decide) (by decide) (fun fs hr => retN X0 hx (t := .boolean) Bd.returns (by simp) (hb hby d2_31) hr)
          show Q2 Z p1 h0 n0 _ s₁.heap _
          rw [e0]
          refine ⟨congrArg (fun z => some (Value.int z)) ?_, N0, rfl⟩
          simp only [own_ws, hc3, hc11, hc19, hc27, if_true, if_false, or_true, true_or, or_false, or_self]; decide
        · skip
          refine own_step (fun _ k => XS.icmpYes X0.here hx rfl (pc0 := 27) (pc' := 32) rfl (hb hby d2_27) rfl (feq hc27).2 (by decide) (by decide) k) ?_
          show own_E p e below _ (s₁.setTop (mkF m 32 #[.val (.int p1)] []))
          refine own_step (fun _ k => XS.iconst X0.here hx rfl (hb hby d2_32) k) ?_
          show own_E p e below _ (s₁.setTop (mkF m 33 #[.val (.int p1)] [(.int (0 : Int32))]))
          refine own_ret X0 hlk (v := some (.int (nar .boolean (0 : Int32)))) (fun h => by rw [Bd.returns] at h; cases h) ?_ (by decide) (by decide) (fun fs hr => retN X0 hx (t := .boolean) Bd.returns (by simp) (hb hby d2_33) hr)
          show Q2 Z p1 h0 n0 _ s₁.heap _
          rw [e0]
          refine ⟨congrArg (fun z => some (Value.int z)) ?_, N0, rfl⟩
          simp only [own_ws, hc3, hc11, hc19, hc27, if_true, if_false, or_true, true_or, or_false, or_self]; decide
theorem pd_0_0 : parseMethodDescriptor "(I)Z" = some ⟨[.int], some .boolean⟩ := by decide +kernel
theorem pn_0 : plainName "com/example/tabulex/tabulex/xml/XmlNamesIsWhitespacePinLaw" = true := by first | (simp [plainName, overriddenIn]; done) | decide +kernel
theorem ef_0 (m : MethodId) (p1 : Int32) (p2 : Int32)  : entryFrame m #[(.int p1), (.int p2)] maxLocals = mkF m 0 #[.val (.int p1), .val (.int p2), .unset, .unset] [] := by first | (simp [entryFrame, mkF, argsToLocals, Value.category, maxLocals]; done) | rfl
def Q0 (Z : State) (p1 : Int32) (p2 : Int32)  (h0 : Heap) (n0 : Nat) (v : Option Value) (h : Heap) (L : List Loc) : Prop := v = some (.int 1) ∧ Fr n0 L
set_option maxRecDepth 65536 in
set_option maxHeartbeats 40000000 in
theorem rm0 (l : Launch) (Z : State) (a0 : Array Value) (hw : ∀ d ∈ tables_1, d.before a0 Z = true) (ws : List Jvm.Cond) (p1 : Int32) (p2 : Int32)  (h0 : Heap) (n0 : Nat) (Z0 : n0 ≤ h0.size)  :
    MetFree l x (head1 (Jvm.Cond.code x code maxLocals ret :: ws) room_1) (fun a U => a = #[(.int p1), (.int p2)] ∧ Z.Warmed39 U.vm ∧ U.heap = h0) (fun _ _ _ _ _ => True) (fun _ U o U' => ∃ v L, o = .returned v ∧ Q0 Z p1 p2 h0 n0 v U'.heap L ∧ FrameEnd U o U' L room_1.cells room_1.slots) := by
  refine MetFree.of_bodySF (plainFor_of_name pn_0) hisR ?_
  intro p e s m args below meth c s₁ Bd hml0 hP hK
  obtain ⟨rfl, hZ, hh⟩ := hP
  have hx := Bd.exec
  have hby := Bd.bytes
  have hml : c.maxLocals = 4 := hml0
  have hown : s.vm.findClass "com/example/tabulex/tabulex/xml/XmlNamesIsWhitespacePinLaw" = some m.cls := findClass_of_methodNamed Bd.named
  have hnm := (name_of_methodNamed Bd.named Bd.method).1
  have hlk : meth.locks = false := Bd.notSynchronized
  have X0 : Stand p l e room_1 s m #[(.int p1), (.int p2)] below meth c s₁ [] 0 0 := Stand.of_body Bd
  have e0 : s₁.heap = h0 := by rw [← hh, Bd.state]; rfl
  have N0 := Fr.nil n0
  refine own_step (p := p) (e := e) (below := below) (U' := s₁.setTop (mkF m 0 #[.val (.int p1), .val (.int p2), .unset, .unset] [])) (fun t k => castTop (ef_0 m p1 p2 ) k) ?_
  refine own_step (fun _ k => XS.iloadN X0.here hx rfl (hb hby at_0) rfl k) ?_
  show own_E p e below _ (s₁.setTop (mkF m 1 #[.val (.int p1), .val (.int p2), .unset, .unset] [(.int p2)]))
  refine own_step (fun _ k => XS.iconst X0.here hx rfl (hb hby at_1) k) ?_
  show own_E p e below _ (s₁.setTop (mkF m 2 #[.val (.int p1), .val (.int p2), .unset, .unset] [(.int (3 : Int32)), (.int p2)]))
  refine own_step (fun _ k => XS.iand X0.here hx rfl (hb hby at_2) rfl k) ?_
  show own_E p e below _ (s₁.setTop (mkF m 3 #[.val (.int p1), .val (.int p2), .unset, .unset] [(.int (p2 &&& (3 : Int32)))]))
  refine own_step (fun _ k => XS.istoreN X0.here hx rfl (hb hby at_3) rfl (l' := #[.val (.int p1), .val (.int p2), .val (.int (p2 &&& (3 : Int32))), .unset]) rfl k) ?_
  show own_E p e below _ (s₁.setTop (mkF m 4 #[.val (.int p1), .val (.int p2), .val (.int (p2 &&& (3 : Int32))), .unset] []))
  refine own_step (fun _ k => XS.iloadN X0.here hx rfl (hb hby at_4) rfl k) ?_
  show own_E p e below _ (s₁.setTop (mkF m 5 #[.val (.int p1), .val (.int p2), .val (.int (p2 &&& (3 : Int32))), .unset] [(.int (p2 &&& (3 : Int32)))]))
  by_cases hc5 : (p2 &&& (3 : Int32)) = (0 : Int32)
  · skip
    refine own_step (fun _ k => XS.ifNo X0.here hx rfl (hb hby at_5) rfl ((if0 _ _).trans (teq hc5).2) k) ?_
    show own_E p e below _ (s₁.setTop (mkF m 8 #[.val (.int p1), .val (.int p2), .val (.int (p2 &&& (3 : Int32))), .unset] []))
    refine own_step (fun _ k => XS.iloadN X0.here hx rfl (hb hby at_8) rfl k) ?_
    show own_E p e below _ (s₁.setTop (mkF m 9 #[.val (.int p1), .val (.int p2), .val (.int (p2 &&& (3 : Int32))), .unset] [(.int p1)]))
    refine own_step (fun _ k => XS.istoreN X0.here hx rfl (hb hby at_9) rfl (l' := #[.val (.int p1), .val (.int p2), .val (.int (p2 &&& (3 : Int32))), .val (.int p1)]) rfl k) ?_
    show own_E p e below _ (s₁.setTop (mkF m 10 #[.val (.int p1), .val (.int p2), .val (.int (p2 &&& (3 : Int32))), .val (.int p1)] []))
    refine own_step (fun _ k => XS.goto X0.here hx rfl (pc0 := 10) (pc' := 43) rfl (hb hby at_10) (by decide) (by decide) k) ?_
    show own_E p e below _ (s₁.setTop (mkF m 43 #[.val (.int p1), .val (.int p2), .val (.int (p2 &&& (3 : Int32))), .val (.int p1)] []))
    refine own_step (fun _ k => XS.iloadN X0.here hx rfl (hb hby at_43) rfl k) ?_
    show own_E p e below _ (s₁.setTop (mkF m 44 #[.val (.int p1), .val (.int p2), .val (.int (p2 &&& (3 : Int32))), .val (.int p1)] [(.int p1)]))
    obtain ⟨_, _, ⟨T1, L1, k1, n1⟩, -, X1, ⟨Lc1, hQ1, l1, y1, z1⟩, st1⟩ := Jvm.LawKit.callS X0 hx (y := (⟨"com/example/tabulex/tabulex/xml/XmlNames", "isWhitespace", "(I)Z"⟩ : MethodName)) hown (mvT hZ (hw _ (List.mem_of_getElem? (i := 0) rfl))) (mvT hZ (hw _ (List.mem_of_getElem? (i := 1) rfl))) (mvT hZ (hw _ (List.mem_of_getElem? (i := 2) rfl))) (mvT hZ (hw _ (List.mem_of_getElem? (i := 3) rfl))) (by decide) (backOf (W := 0) (rm1 l Z a0 hw [] p1  h0 n0 Z0) hZ (hw _ (List.mem_of_getElem? (i := 3) rfl)) (hw _ (List.mem_of_getElem? (i := 2) rfl)) (by decide) (by decide)) (g := (mkF m 44 #[.val (.int p1), .val (.int p2), .val (.int (p2 &&& (3 : Int32))), .val (.int p1)] [(.int p1)])) rfl (by rw [hml]; rfl) (argsL := [(.int p1)]) (rest := []) (lenOf pd_0_0 rfl) rfl (by show 2 * 0 + _ ≤ _; exact Nat.le_of_eq rfl) (hb hby at_44) (fun _ _ => ⟨rfl, e0, (by decide : 0 + 0 ≤ _), (by decide : 0 + 0 ≤ _)⟩)
    dsimp only [Pt.U, Pt.locs, Pt.cells, Pt.slots] at X1 l1 y1 z1 st1 hQ1
    subst l1 y1 z1
    obtain ⟨rfl, N1q, e1⟩ := hQ1
    have N1 := Fr.app N0 N1q
    refine own_step (st1) ?_
    show own_E p e below _ (T1.setTop (mkF m 47 #[.val (.int p1), .val (.int p2), .val (.int (p2 &&& (3 : Int32))), .val (.int p1)] [(.int (own_ws p1))]))
    refine own_step (fun _ k => XS.iloadN X1.here hx rfl (hb hby at_47) rfl k) ?_
    show own_E p e below _ (T1.setTop (mkF m 48 #[.val (.int p1), .val (.int p2), .val (.int (p2 &&& (3 : Int32))), .val (.int p1)] [(.int p1), (.int (own_ws p1))]))
    obtain ⟨_, _, ⟨T2, L2, k2, n2⟩, -, X2, ⟨Lc2, hQ2, l2, y2, z2⟩, st2⟩ := Jvm.LawKit.callS X1 hx (y := (⟨"com/example/tabulex/tabulex/xml/XmlNamesIsWhitespacePinLaw", "expected", "(I)Z"⟩ : MethodName)) hown (mvT hZ (hw _ (List.mem_of_getElem? (i := 4) rfl))) (mvT hZ (hw _ (List.mem_of_getElem? (i := 5) rfl))) (mvT hZ (hw _ (List.mem_of_getElem? (i := 6) rfl))) (mvT hZ (hw _ (List.mem_of_getElem? (i := 7) rfl))) (by decide) (backOf (W := 1) (rm2 l Z a0 hw [] p1  h0 n0 Z0) hZ (hw _ (List.mem_of_getElem? (i := 7) rfl)) (hw _ (List.mem_of_getElem? (i := 6) rfl)) (by decide) (by decide)) (g := (mkF m 48 #[.val (.int p1), .val (.int p2), .val (.int (p2 &&& (3 : Int32))), .val (.int p1)] [(.int p1), (.int (own_ws p1))])) rfl (by rw [hml]; rfl) (argsL := [(.int p1)]) (rest := [(.int (own_ws p1))]) (lenOf pd_0_0 rfl) rfl (by show 2 * 0 + _ ≤ _; exact Nat.le_of_eq rfl) (hb hby at_48) (fun _ _ => ⟨rfl, e1, (by decide : 0 + 0 ≤ _), (by decide : 0 + 0 ≤ _)⟩)
    dsimp only [Pt.U, Pt.locs, Pt.cells, Pt.slots] at X2 l2 y2 z2 st2 hQ2
    subst l2 y2 z2
    obtain ⟨rfl, N2q, e2⟩ := hQ2
    have N2 := Fr.app N1 N2q
    refine own_step (st2) ?_
    show own_E p e below _ (T2.setTop (mkF m 51 #[.val (.int p1), .val (.int p2), .val (.int (p2 &&& (3 : Int32))), .val (.int p1)] [(.int (own_ws p1)), (.int (own_ws p1))]))
    refine own_step (fun _ k => XS.icmpNo X2.here hx rfl (hb hby at_51) rfl (teq rfl).2 k) ?_
    show own_E p e below _ (T2.setTop (mkF m 54 #[.val (.int p1), .val (.int p2), .val (.int (p2 &&& (3 : Int32))), .val (.int p1)] []))
    refine own_step (fun _ k => XS.iconst X2.here hx rfl (hb hby at_54) k) ?_
    show own_E p e below _ (T2.setTop (mkF m 55 #[.val (.int p1), .val (.int p2), .val (.int (p2 &&& (3 : Int32))), .val (.int p1)] [(.int (1 : Int32))]))
    refine own_step (fun _ k => XS.goto X2.here hx rfl (pc0 := 55) (pc' := 59) rfl (hb hby at_55) (by decide) (by decide) k) ?_
    show own_E p e below _ (T2.setTop (mkF m 59 #[.val (.int p1), .val (.int p2), .val (.int (p2 &&& (3 : Int32))), .val (.int p1)] [(.int (1 : Int32))]))
    refine own_ret X2 hlk (v := some (.int (nar .boolean (1 : Int32)))) (fun h => by rw [Bd.returns] at h; cases h) ?_ (by decide) (by decide) (fun fs hr => retN X2 hx (t := .boolean) Bd.returns (by simp) (hb hby at_59) hr)
    show Q0 Z p1 p2 h0 n0 _ T2.heap _
    rw [e2]
    exact ⟨by decide, N2⟩
  · skip
    refine own_step (fun _ k => XS.ifYes X0.here hx rfl (pc0 := 5) (pc' := 13) rfl (hb hby at_5) rfl ((if0 _ _).trans (feq hc5).2) (by decide) (by decide) k) ?_
    show own_E p e below _ (s₁.setTop (mkF m 13 #[.val (.int p1), .val (.int p2), .val (.int (p2 &&& (3 : Int32))), .unset] []))
    refine own_step (fun _ k => XS.iloadN X0.here hx rfl (hb hby at_13) rfl k) ?_
    show own_E p e below _ (s₁.setTop (mkF m 14 #[.val (.int p1), .val (.int p2), .val (.int (p2 &&& (3 : Int32))), .unset] [(.int (p2 &&& (3 : Int32)))]))
    refine own_step (fun _ k => XS.iconst X0.here hx rfl (hb hby at_14) k) ?_
    show own_E p e below _ (s₁.setTop (mkF m 15 #[.val (.int p1), .val (.int p2), .val (.int (p2 &&& (3 : Int32))), .unset] [(.int (1 : Int32)), (.int (p2 &&& (3 : Int32)))]))
    by_cases hc15 : (p2 &&& (3 : Int32)) = (1 : Int32)
    · skip
      refine own_step (fun _ k => XS.icmpNo X0.here hx rfl (hb hby at_15) rfl (teq hc15).2 k) ?_
      show own_E p e below _ (s₁.setTop (mkF m 18 #[.val (.int p1), .val (.int p2), .val (.int (p2 &&& (3 : Int32))), .unset] []))
      refine own_step (fun _ k => XS.iloadN X0.here hx rfl (hb hby at_18) rfl k) ?_
      show own_E p e below _ (s₁.setTop (mkF m 19 #[.val (.int p1), .val (.int p2), .val (.int (p2 &&& (3 : Int32))), .unset] [(.int p1)]))
      refine own_step (fun _ k => XS.bipush X0.here hx rfl (hb hby at_19) k) ?_
      show own_E p e below _ (s₁.setTop (mkF m 21 #[.val (.int p1), .val (.int p2), .val (.int (p2 &&& (3 : Int32))), .unset] [(.int (63 : Int32)), (.int p1)]))
      refine own_step (fun _ k => XS.iand X0.here hx rfl (hb hby at_21) rfl k) ?_
      show own_E p e below _ (s₁.setTop (mkF m 22 #[.val (.int p1), .val (.int p2), .val (.int (p2 &&& (3 : Int32))), .unset] [(.int (p1 &&& (63 : Int32)))]))
      refine own_step (fun _ k => XS.istoreN X0.here hx rfl (hb hby at_22) rfl (l' := #[.val (.int p1), .val (.int p2), .val (.int (p2 &&& (3 : Int32))), .val (.int (p1 &&& (63 : Int32)))]) rfl k) ?_
      show own_E p e below _ (s₁.setTop (mkF m 23 #[.val (.int p1), .val (.int p2), .val (.int (p2 &&& (3 : Int32))), .val (.int (p1 &&& (63 : Int32)))] []))
      refine own_step (fun _ k => XS.goto X0.here hx rfl (pc0 := 23) (pc' := 43) rfl (hb hby at_23) (by decide) (by decide) k) ?_
      show own_E p e below _ (s₁.setTop (mkF m 43 #[.val (.int p1), .val (.int p2), .val (.int (p2 &&& (3 : Int32))), .val (.int (p1 &&& (63 : Int32)))] []))
      refine own_step (fun _ k => XS.iloadN X0.here hx rfl (hb hby at_43) rfl k) ?_
      show own_E p e below _ (s₁.setTop (mkF m 44 #[.val (.int p1), .val (.int p2), .val (.int (p2 &&& (3 : Int32))), .val (.int (p1 &&& (63 : Int32)))] [(.int (p1 &&& (63 : Int32)))]))
      obtain ⟨_, _, ⟨T3, L3, k3, n3⟩, -, X3, ⟨Lc3, hQ3, l3, y3, z3⟩, st3⟩ := Jvm.LawKit.callS X0 hx (y := (⟨"com/example/tabulex/tabulex/xml/XmlNames", "isWhitespace", "(I)Z"⟩ : MethodName)) hown (mvT hZ (hw _ (List.mem_of_getElem? (i := 0) rfl))) (mvT hZ (hw _ (List.mem_of_getElem? (i := 1) rfl))) (mvT hZ (hw _ (List.mem_of_getElem? (i := 2) rfl))) (mvT hZ (hw _ (List.mem_of_getElem? (i := 3) rfl))) (by decide) (backOf (W := 0) (rm1 l Z a0 hw [] (p1 &&& (63 : Int32))  h0 n0 Z0) hZ (hw _ (List.mem_of_getElem? (i := 3) rfl)) (hw _ (List.mem_of_getElem? (i := 2) rfl)) (by decide) (by decide)) (g := (mkF m 44 #[.val (.int p1), .val (.int p2), .val (.int (p2 &&& (3 : Int32))), .val (.int (p1 &&& (63 : Int32)))] [(.int (p1 &&& (63 : Int32)))])) rfl (by rw [hml]; rfl) (argsL := [(.int (p1 &&& (63 : Int32)))]) (rest := []) (lenOf pd_0_0 rfl) rfl (by show 2 * 0 + _ ≤ _; exact Nat.le_of_eq rfl) (hb hby at_44) (fun _ _ => ⟨rfl, e0, (by decide : 0 + 0 ≤ _), (by decide : 0 + 0 ≤ _)⟩)
      dsimp only [Pt.U, Pt.locs, Pt.cells, Pt.slots] at X3 l3 y3 z3 st3 hQ3
      subst l3 y3 z3
      obtain ⟨rfl, N3q, e3⟩ := hQ3
      have N3 := Fr.app N0 N3q
      refine own_step (st3) ?_
      show own_E p e below _ (T3.setTop (mkF m 47 #[.val (.int p1), .val (.int p2), .val (.int (p2 &&& (3 : Int32))), .val (.int (p1 &&& (63 : Int32)))] [(.int (own_ws (p1 &&& (63 : Int32))))]))
      refine own_step (fun _ k => XS.iloadN X3.here hx rfl (hb hby at_47) rfl k) ?_
      show own_E p e below _ (T3.setTop (mkF m 48 #[.val (.int p1), .val (.int p2), .val (.int (p2 &&& (3 : Int32))), .val (.int (p1 &&& (63 : Int32)))] [(.int (p1 &&& (63 : Int32))), (.int (own_ws (p1 &&& (63 : Int32))))]))
      obtain ⟨_, _, ⟨T4, L4, k4, n4⟩, -, X4, ⟨Lc4, hQ4, l4, y4, z4⟩, st4⟩ := Jvm.LawKit.callS X3 hx (y := (⟨"com/example/tabulex/tabulex/xml/XmlNamesIsWhitespacePinLaw", "expected", "(I)Z"⟩ : MethodName)) hown (mvT hZ (hw _ (List.mem_of_getElem? (i := 4) rfl))) (mvT hZ (hw _ (List.mem_of_getElem? (i := 5) rfl))) (mvT hZ (hw _ (List.mem_of_getElem? (i := 6) rfl))) (mvT hZ (hw _ (List.mem_of_getElem? (i := 7) rfl))) (by decide) (backOf (W := 1) (rm2 l Z a0 hw [] (p1 &&& (63 : Int32))  h0 n0 Z0) hZ (hw _ (List.mem_of_getElem? (i := 7) rfl)) (hw _ (List.mem_of_getElem? (i := 6) rfl)) (by decide) (by decide)) (g := (mkF m 48 #[.val (.int p1), .val (.int p2), .val (.int (p2 &&& (3 : Int32))), .val (.int (p1 &&& (63 : Int32)))] [(.int (p1 &&& (63 : Int32))), (.int (own_ws (p1 &&& (63 : Int32))))])) rfl (by rw [hml]; rfl) (argsL := [(.int (p1 &&& (63 : Int32)))]) (rest := [(.int (own_ws (p1 &&& (63 : Int32))))]) (lenOf pd_0_0 rfl) rfl (by show 2 * 0 + _ ≤ _; exact Nat.le_of_eq rfl) (hb hby at_48) (fun _ _ => ⟨rfl, e3, (by decide : 0 + 0 ≤ _), (by decide : 0 + 0 ≤ _)⟩)
      dsimp only [Pt.U, Pt.locs, Pt.cells, Pt.slots] at X4 l4 y4 z4 st4 hQ4
      subst l4 y4 z4
      obtain ⟨rfl, N4q, e4⟩ := hQ4
      have N4 := Fr.app N3 N4q
      refine own_step (st4) ?_
      show own_E p e below _ (T4.setTop (mkF m 51 #[.val (.int p1), .val (.int p2), .val (.int (p2 &&& (3 : Int32))), .val (.int (p1 &&& (63 : Int32)))] [(.int (own_ws (p1 &&& (63 : Int32)))), (.int (own_ws (p1 &&& (63 : Int32))))]))
      refine own_step (fun _ k => XS.icmpNo X4.here hx rfl (hb hby at_51) rfl (teq rfl).2 k) ?_
      show own_E p e below _ (T4.setTop (mkF m 54 #[.val (.int p1), .val (.int p2), .val (.int (p2 &&& (3 : Int32))), .val (.int (p1 &&& (63 : Int32)))] []))
      refine own_step (fun _ k => XS.iconst X4.here hx rfl (hb hby at_54) k) ?_
      show own_E p e below _ (T4.setTop (mkF m 55 #[.val (.int p1), .val (.int p2), .val (.int (p2 &&& (3 : Int32))), .val (.int (p1 &&& (63 : Int32)))] [(.int (1 : Int32))]))
      refine own_step (fun _ k => XS.goto X4.here hx rfl (pc0 := 55) (pc' := 59) rfl (hb hby at_55) (by decide) (by decide) k) ?_
      show own_E p e below _ (T4.setTop (mkF m 59 #[.val (.int p1), .val (.int p2), .val (.int (p2 &&& (3 : Int32))), .val (.int (p1 &&& (63 : Int32)))] [(.int (1 : Int32))]))
      refine own_ret X4 hlk (v := some (.int (nar .boolean (1 : Int32)))) (fun h => by rw [Bd.returns] at h; cases h) ?_ (by decide) (by decide) (fun fs hr => retN X4 hx (t := .boolean) Bd.returns (by simp) (hb hby at_59) hr)
      show Q0 Z p1 p2 h0 n0 _ T4.heap _
      rw [e4]
      exact ⟨by decide, N4⟩
    · skip
      refine own_step (fun _ k => XS.icmpYes X0.here hx rfl (pc0 := 15) (pc' := 26) rfl (hb hby at_15) rfl (feq hc15).2 (by decide) (by decide) k) ?_
      show own_E p e below _ (s₁.setTop (mkF m 26 #[.val (.int p1), .val (.int p2), .val (.int (p2 &&& (3 : Int32))), .unset] []))
      refine own_step (fun _ k => XS.iloadN X0.here hx rfl (hb hby at_26) rfl k) ?_
      show own_E p e below _ (s₁.setTop (mkF m 27 #[.val (.int p1), .val (.int p2), .val (.int (p2 &&& (3 : Int32))), .unset] [(.int (p2 &&& (3 : Int32)))]))
      refine own_step (fun _ k => XS.iconst X0.here hx rfl (hb hby at_27) k) ?_
      show own_E p e below _ (s₁.setTop (mkF m 28 #[.val (.int p1), .val (.int p2), .val (.int (p2 &&& (3 : Int32))), .unset] [(.int (2 : Int32)), (.int (p2 &&& (3 : Int32)))]))
      by_cases hc28 : (p2 &&& (3 : Int32)) = (2 : Int32)
      · skip
        refine own_step (fun _ k => XS.icmpNo X0.here hx rfl (hb hby at_28) rfl (teq hc28).2 k) ?_
        show own_E p e below _ (s₁.setTop (mkF m 31 #[.val (.int p1), .val (.int p2), .val (.int (p2 &&& (3 : Int32))), .unset] []))
        refine own_step (fun _ k => XS.iloadN X0.here hx rfl (hb hby at_31) rfl k) ?_
        show own_E p e below _ (s₁.setTop (mkF m 32 #[.val (.int p1), .val (.int p2), .val (.int (p2 &&& (3 : Int32))), .unset] [(.int p1)]))
        refine own_step (fun _ k => XS.sipush X0.here hx rfl (hb hby at_32) k) ?_
        show own_E p e below _ (s₁.setTop (mkF m 35 #[.val (.int p1), .val (.int p2), .val (.int (p2 &&& (3 : Int32))), .unset] [(.int (511 : Int32)), (.int p1)]))
        refine own_step (fun _ k => XS.iand X0.here hx rfl (hb hby at_35) rfl k) ?_
        show own_E p e below _ (s₁.setTop (mkF m 36 #[.val (.int p1), .val (.int p2), .val (.int (p2 &&& (3 : Int32))), .unset] [(.int (p1 &&& (511 : Int32)))]))
        refine own_step (fun _ k => XS.istoreN X0.here hx rfl (hb hby at_36) rfl (l' := #[.val (.int p1), .val (.int p2), .val (.int (p2 &&& (3 : Int32))), .val (.int (p1 &&& (511 : Int32)))]) rfl k) ?_
        show own_E p e below _ (s₁.setTop (mkF m 37 #[.val (.int p1), .val (.int p2), .val (.int (p2 &&& (3 : Int32))), .val (.int (p1 &&& (511 : Int32)))] []))
        refine own_step (fun _ k => XS.goto X0.here hx rfl (pc0 := 37) (pc' := 43) rfl (hb hby at_37) (by decide) (by decide) k) ?_
        show own_E p e below _ (s₁.setTop (mkF m 43 #[.val (.int p1), .val (.int p2), .val (.int (p2 &&& (3 : Int32))), .val (.int (p1 &&& (511 : Int32)))] []))
        refine own_step (fun _ k => XS.iloadN X0.here hx rfl (hb hby at_43) rfl k) ?_
        show own_E p e below _ (s₁.setTop (mkF m 44 #[.val (.int p1), .val (.int p2), .val (.int (p2 &&& (3 : Int32))), .val (.int (p1 &&& (511 : Int32)))] [(.int (p1 &&& (511 : Int32)))]))
        obtain ⟨_, _, ⟨T5, L5, k5, n5⟩, -, X5, ⟨Lc5, hQ5, l5, y5, z5⟩, st5⟩ := Jvm.LawKit.callS X0 hx (y := (⟨"com/example/tabulex/tabulex/xml/XmlNames", "isWhitespace", "(I)Z"⟩ : MethodName)) hown (mvT hZ (hw _ (List.mem_of_getElem? (i := 0) rfl))) (mvT hZ (hw _ (List.mem_of_getElem? (i := 1) rfl))) (mvT hZ (hw _ (List.mem_of_getElem? (i := 2) rfl))) (mvT hZ (hw _ (List.mem_of_getElem? (i := 3) rfl))) (by decide) (backOf (W := 0) (rm1 l Z a0 hw [] (p1 &&& (511 : Int32))  h0 n0 Z0) hZ (hw _ (List.mem_of_getElem? (i := 3) rfl)) (hw _ (List.mem_of_getElem? (i := 2) rfl)) (by decide) (by decide)) (g := (mkF m 44 #[.val (.int p1), .val (.int p2), .val (.int (p2 &&& (3 : Int32))), .val (.int (p1 &&& (511 : Int32)))] [(.int (p1 &&& (511 : Int32)))])) rfl (by rw [hml]; rfl) (argsL := [(.int (p1 &&& (511 : Int32)))]) (rest := []) (lenOf pd_0_0 rfl) rfl (by show 2 * 0 + _ ≤ _; exact Nat.le_of_eq rfl) (hb hby at_44) (fun _ _ => ⟨rfl, e0, (by decide : 0 + 0 ≤ _), (by decide : 0 + 0 ≤ _)⟩)
        dsimp only [Pt.U, Pt.locs, Pt.cells, Pt.slots] at X5 l5 y5 z5 st5 hQ5
        subst l5 y5 z5
        obtain ⟨rfl, N5q, e5⟩ := hQ5
        have N5 := Fr.app N0 N5q
        refine own_step (st5) ?_
        show own_E p e below _ (T5.setTop (mkF m 47 #[.val (.int p1), .val (.int p2), .val (.int (p2 &&& (3 : Int32))), .val (.int (p1 &&& (511 : Int32)))] [(.int (own_ws (p1 &&& (511 : Int32))))]))
        refine own_step (fun _ k => XS.iloadN X5.here hx rfl (hb hby at_47) rfl k) ?_
        show own_E p e below _ (T5.setTop (mkF m 48 #[.val (.int p1), .val (.int p2), .val (.int (p2 &&& (3 : Int32))), .val (.int (p1 &&& (511 : Int32)))] [(.int (p1 &&& (511 : Int32))), (.int (own_ws (p1 &&& (511 : Int32))))]))
        obtain ⟨_, _, ⟨T6, L6, k6, n6⟩, -, X6, ⟨Lc6, hQ6, l6, y6, z6⟩, st6⟩ := Jvm.LawKit.callS X5 hx (y := (⟨"com/example/tabulex/tabulex/xml/XmlNamesIsWhitespacePinLaw", "expected", "(I)Z"⟩ : MethodName)) hown (mvT hZ (hw _ (List.mem_of_getElem? (i := 4) rfl))) (mvT hZ (hw _ (List.mem_of_getElem? (i := 5) rfl))) (mvT hZ (hw _ (List.mem_of_getElem? (i := 6) rfl))) (mvT hZ (hw _ (List.mem_of_getElem? (i := 7) rfl))) (by decide) (backOf (W := 1) (rm2 l Z a0 hw [] (p1 &&& (511 : Int32))  h0 n0 Z0) hZ (hw _ (List.mem_of_getElem? (i := 7) rfl)) (hw _ (List.mem_of_getElem? (i := 6) rfl)) (by decide) (by decide)) (g := (mkF m 48 #[.val (.int p1), .val (.int p2), .val (.int (p2 &&& (3 : Int32))), .val (.int (p1 &&& (511 : Int32)))] [(.int (p1 &&& (511 : Int32))), (.int (own_ws (p1 &&& (511 : Int32))))])) rfl (by rw [hml]; rfl) (argsL := [(.int (p1 &&& (511 : Int32)))]) (rest := [(.int (own_ws (p1 &&& (511 : Int32))))]) (lenOf pd_0_0 rfl) rfl (by show 2 * 0 + _ ≤ _; exact Nat.le_of_eq rfl) (hb hby at_48) (fun _ _ => ⟨rfl, e5, (by decide : 0 + 0 ≤ _), (by decide : 0 + 0 ≤ _)⟩)
        dsimp only [Pt.U, Pt.locs, Pt.cells, Pt.slots] at X6 l6 y6 z6 st6 hQ6
        subst l6 y6 z6
        obtain ⟨rfl, N6q, e6⟩ := hQ6
        have N6 := Fr.app N5 N6q
        refine own_step (st6) ?_
        show own_E p e below _ (T6.setTop (mkF m 51 #[.val (.int p1), .val (.int p2), .val (.int (p2 &&& (3 : Int32))), .val (.int (p1 &&& (511 : Int32)))] [(.int (own_ws (p1 &&& (511 : Int32)))), (.int (own_ws (p1 &&& (511 : Int32))))]))
        refine own_step (fun _ k => XS.icmpNo X6.here hx rfl (hb hby at_51) rfl (teq rfl).2 k) ?_
        show own_E p e below _ (T6.setTop (mkF m 54 #[.val (.int p1), .val (.int p2), .val (.int (p2 &&& (3 : Int32))), .val (.int (p1 &&& (511 : Int32)))] []))
        refine own_step (fun _ k => XS.iconst X6.here hx rfl (hb hby at_54) k) ?_
        show own_E p e below _ (T6.setTop (mkF m 55 #[.val (.int p1), .val (.int p2), .val (.int (p2 &&& (3 : Int32))), .val (.int (p1 &&& (511 : Int32)))] [(.int (1 : Int32))]))
        refine own_step (fun _ k => XS.goto X6.here hx rfl (pc0 := 55) (pc' := 59) rfl (hb hby at_55) (by decide) (by decide) k) ?_
        show own_E p e below _ (T6.setTop (mkF m 59 #[.val (.int p1), .val (.int p2), .val (.int (p2 &&& (3 : Int32))), .val (.int (p1 &&& (511 : Int32)))] [(.int (1 : Int32))]))
        refine own_ret X6 hlk (v := some (.int (nar .boolean (1 : Int32)))) (fun h => by rw [Bd.returns] at h; cases h) ?_ (by decide) (by decide) (fun fs hr => retN X6 hx (t := .boolean) Bd.returns (by simp) (hb hby at_59) hr)
        show Q0 Z p1 p2 h0 n0 _ T6.heap _
        rw [e6]
        exact ⟨by decide, N6⟩
      · skip
        refine own_step (fun _ k => XS.icmpYes X0.here hx rfl (pc0 := 28) (pc' := 40) rfl (hb hby at_28) rfl (feq hc28).2 (by decide) (by decide) k) ?_
        show own_E p e below _ (s₁.setTop (mkF m 40 #[.val (.int p1), .val (.int p2), .val (.int (p2 &&& (3 : Int32))), .unset] []))
        refine own_step (fun _ k => XS.iloadN X0.here hx rfl (hb hby at_40) rfl k) ?_
        show own_E p e below _ (s₁.setTop (mkF m 41 #[.val (.int p1), .val (.int p2), .val (.int (p2 &&& (3 : Int32))), .unset] [(.int p1)]))
        refine own_step (fun _ k => Jvm.Free.XT.i2b X0.here hx rfl (hb hby at_41) rfl k) ?_
        show own_E p e below _ (s₁.setTop (mkF m 42 #[.val (.int p1), .val (.int p2), .val (.int (p2 &&& (3 : Int32))), .unset] [(.int (Int8.toInt32 (Int32.toInt8 p1)))]))
        refine own_step (fun _ k => XS.istoreN X0.here hx rfl (hb hby at_42) rfl (l' := #[.val (.int p1), .val (.int p2), .val (.int (p2 &&& (3 : Int32))), .val (.int (Int8.toInt32 (Int32.toInt8 p1)))]) rfl k) ?_
        show own_E p e below _ (s₁.setTop (mkF m 43 #[.val (.int p1), .val (.int p2), .val (.int (p2 &&& (3 : Int32))), .val (.int (Int8.toInt32 (Int32.toInt8 p1)))] []))
        refine own_step (fun _ k => XS.iloadN X0.here hx rfl (hb hby at_43) rfl k) ?_
        show own_E p e below _ (s₁.setTop (mkF m 44 #[.val (.int p1), .val (.int p2), .val (.int (p2 &&& (3 : Int32))), .val (.int (Int8.toInt32 (Int32.toInt8 p1)))] [(.int (Int8.toInt32 (Int32.toInt8 p1)))]))
        obtain ⟨_, _, ⟨T7, L7, k7, n7⟩, -, X7, ⟨Lc7, hQ7, l7, y7, z7⟩, st7⟩ := Jvm.LawKit.callS X0 hx (y := (⟨"com/example/tabulex/tabulex/xml/XmlNames", "isWhitespace", "(I)Z"⟩ : MethodName)) hown (mvT hZ (hw _ (List.mem_of_getElem? (i := 0) rfl))) (mvT hZ (hw _ (List.mem_of_getElem? (i := 1) rfl))) (mvT hZ (hw _ (List.mem_of_getElem? (i := 2) rfl))) (mvT hZ (hw _ (List.mem_of_getElem? (i := 3) rfl))) (by decide) (backOf (W := 0) (rm1 l Z a0 hw [] (Int8.toInt32 (Int32.toInt8 p1))  h0 n0 Z0) hZ (hw _ (List.mem_of_getElem? (i := 3) rfl)) (hw _ (List.mem_of_getElem? (i := 2) rfl)) (by decide) (by decide)) (g := (mkF m 44 #[.val (.int p1), .val (.int p2), .val (.int (p2 &&& (3 : Int32))), .val (.int (Int8.toInt32 (Int32.toInt8 p1)))] [(.int (Int8.toInt32 (Int32.toInt8 p1)))])) rfl (by rw [hml]; rfl) (argsL := [(.int (Int8.toInt32 (Int32.toInt8 p1)))]) (rest := []) (lenOf pd_0_0 rfl) rfl (by show 2 * 0 + _ ≤ _; exact Nat.le_of_eq rfl) (hb hby at_44) (fun _ _ => ⟨rfl, e0, (by decide : 0 + 0 ≤ _), (by decide : 0 + 0 ≤ _)⟩)
        dsimp only [Pt.U, Pt.locs, Pt.cells, Pt.slots] at X7 l7 y7 z7 st7 hQ7
        subst l7 y7 z7
        obtain ⟨rfl, N7q, e7⟩ := hQ7
        have N7 := Fr.app N0 N7q
        refine own_step (st7) ?_
        show own_E p e below _ (T7.setTop (mkF m 47 #[.val (.int p1), .val (.int p2), .val (.int (p2 &&& (3 : Int32))), .val (.int (Int8.toInt32 (Int32.toInt8 p1)))] [(.int (own_ws (Int8.toInt32 (Int32.toInt8 p1))))]))
        refine own_step (fun _ k => XS.iloadN X7.here hx rfl (hb hby at_47) rfl k) ?_
        show own_E p e below _ (T7.setTop (mkF m 48 #[.val (.int p1), .val (.int p2), .val (.int (p2 &&& (3 : Int32))), .val (.int (Int8.toInt32 (Int32.toInt8 p1)))] [(.int (Int8.toInt32 (Int32.toInt8 p1))), (.int (own_ws (Int8.toInt32 (Int32.toInt8 p1))))]))
        obtain ⟨_, _, ⟨T8, L8, k8, n8⟩, -, X8, ⟨Lc8, hQ8, l8, y8, z8⟩, st8⟩ := Jvm.LawKit.callS X7 hx (y := (⟨"com/example/tabulex/tabulex/xml/XmlNamesIsWhitespacePinLaw", "expected", "(I)Z"⟩ : MethodName)) hown (mvT hZ (hw _ (List.mem_of_getElem? (i := 4) rfl))) (mvT hZ (hw _ (List.mem_of_getElem? (i := 5) rfl))) (mvT hZ (hw _ (List.mem_of_getElem? (i := 6) rfl))) (mvT hZ (hw _ (List.mem_of_getElem? (i := 7) rfl))) (by decide) (backOf (W := 1) (rm2 l Z a0 hw [] (Int8.toInt32 (Int32.toInt8 p1))  h0 n0 Z0) hZ (hw _ (List.mem_of_getElem? (i := 7) rfl)) (hw _ (List.mem_of_getElem? (i := 6) rfl)) (by decide) (by decide)) (g := (mkF m 48 #[.val (.int p1), .val (.int p2), .val (.int (p2 &&& (3 : Int32))), .val (.int (Int8.toInt32 (Int32.toInt8 p1)))] [(.int (Int8.toInt32 (Int32.toInt8 p1))), (.int (own_ws (Int8.toInt32 (Int32.toInt8 p1))))])) rfl (by rw [hml]; rfl) (argsL := [(.int (Int8.toInt32 (Int32.toInt8 p1)))]) (rest := [(.int (own_ws (Int8.toInt32 (Int32.toInt8 p1))))]) (lenOf pd_0_0 rfl) rfl (by show 2 * 0 + _ ≤ _; exact Nat.le_of_eq rfl) (hb hby at_48) (fun _ _ => ⟨rfl, e7, (by decide : 0 + 0 ≤ _), (by decide : 0 + 0 ≤ _)⟩)
        dsimp only [Pt.U, Pt.locs, Pt.cells, Pt.slots] at X8 l8 y8 z8 st8 hQ8
        subst l8 y8 z8
        obtain ⟨rfl, N8q, e8⟩ := hQ8
        have N8 := Fr.app N7 N8q
        refine own_step (st8) ?_
        show own_E p e below _ (T8.setTop (mkF m 51 #[.val (.int p1), .val (.int p2), .val (.int (p2 &&& (3 : Int32))), .val (.int (Int8.toInt32 (Int32.toInt8 p1)))] [(.int (own_ws (Int8.toInt32 (Int32.toInt8 p1)))), (.int (own_ws (Int8.toInt32 (Int32.toInt8 p1))))]))
        refine own_step (fun _ k => XS.icmpNo X8.here hx rfl (hb hby at_51) rfl (teq rfl).2 k) ?_
        show own_E p e below _ (T8.setTop (mkF m 54 #[.val (.int p1), .val (.int p2), .val (.int (p2 &&& (3 : Int32))), .val (.int (Int8.toInt32 (Int32.toInt8 p1)))] []))
        refine own_step (fun _ k => XS.iconst X8.here hx rfl (hb hby at_54) k) ?_
        show own_E p e below _ (T8.setTop (mkF m 55 #[.val (.int p1), .val (.int p2), .val (.int (p2 &&& (3 : Int32))), .val (.int (Int8.toInt32 (Int32.toInt8 p1)))] [(.int (1 : Int32))]))
        refine own_step (fun _ k => XS.goto X8.here hx rfl (pc0 := 55) (pc' := 59) rfl (hb hby at_55) (by decide) (by decide) k) ?_
        show own_E p e below _ (T8.setTop (mkF m 59 #[.val (.int p1), .val (.int p2), .val (.int (p2 &&& (3 : Int32))), .val (.int (Int8.toInt32 (Int32.toInt8 p1)))] [(.int (1 : Int32))]))
        refine own_ret X8 hlk (v := some (.int (nar .boolean (1 : Int32)))) (fun h => by rw [Bd.returns] at h; cases h) ?_ (by decide) (by decide) (fun fs hr => retN X8 hx (t := .boolean) Bd.returns (by simp) (hb hby at_59) hr)
        show Q0 Z p1 p2 h0 n0 _ T8.heap _
        rw [e8]
        exact ⟨by decide, N8⟩
set_option maxRecDepth 65536 in
set_option maxHeartbeats 40000000 in
theorem comes_1 {Post : Tables → Env → Array Value → State → Outcome → State → Prop} (hpost : ∀ tb e args s v u, (limb_1_1.after args s (.returned v) u = true ∧ limb_1_2.after args s (.returned v) u = true ∧ True) → FrameEnd s (.returned v) u (Jvm.fieldLocs frame_1_writes args s ++ Jvm.arrayLocs frame_1_arrays args s ++ Jvm.staticLocs frame_1_statics s) 0 0 → Post tb e args s (.returned v) u) :
    ArmFor flags0 classFile x code maxLocals ret World_1 tables_1 room_1 Calls_1 rest_1 Pre_1 Post := by
  intro l hfl _ _ p e ha hc hk s m args below hf hA hF happ hP
  obtain ⟨hcalls, hrest, hpre⟩ := hP
  obtain ⟨-, -, -, hnamed, -, -, -, hat⟩ := (Spec.applies_iff hf).mp happ
  obtain ⟨hg, hn⟩ := and_e (Cond.before_iff.mp (show (Jvm.Cond.and given_1 narrow_1).before args s = true from hpre))
  obtain ⟨gc, gr0⟩ := and_e hg
  obtain ⟨gi0, gr1⟩ := and_e gr0
  have gi1 := gr1
  obtain ⟨w0, w1, rfl⟩ : ∃ w0 w1 : Value, args = #[w0, w1] := by
    have hs : args.size = 2 := by simpa [Cond.value, given_1] using gc
    obtain ⟨L⟩ := args
    match L, hs with
    | [w0, w1], _ => exact ⟨w0, w1, rfl⟩
  have hw := fun d (hd : d ∈ tables_1) => atoms_spec (ws := Jvm.Cond.code x code maxLocals ret :: tables_1) hat d (List.mem_cons_of_mem _ hd)
  obtain ⟨i0, ei0⟩ := is_v gi0
  obtain rfl : w0 = (.int i0) := Option.some.inj ei0
  obtain ⟨i1, ei1⟩ := is_v gi1
  obtain rfl : w1 = (.int i1) := Option.some.inj ei1
  obtain ⟨n, o, h1, h2, h3, _, L, rfl, ⟨rfl, N⟩, hq⟩ := rm0 l s _ hw tables_1 i0 i1 s.heap s.heap.size (Nat.le_refl _) p e ha hc hk s m _ below hf ((Spec.applies_iff_loose hf).mp happ).1 ⟨rfl, State.Warmed39.refl s, rfl⟩ trivial
  refine ⟨n, _, h1, h2, h3, hpost _ _ _ _ _ _ ⟨Cond.after_iff.mpr rfl, Cond.after_iff.mpr (eq_i res_at (Term.int_eval (1)) rfl), trivial⟩ ⟨hq.1, hq.2.1, (hq.2.2.sift fun y hy => Or.inr (N y hy)).mono (by decide) (by decide)⟩⟩
theorem main_1_1 : Claimed_1_1 := comes_1 fun _ _ _ _ _ _ h hF => ⟨h.1, hF⟩
theorem main_1_2 : Claimed_1_2 := comes_1 fun _ _ _ _ _ _ h hF => ⟨h.2.1, hF⟩
end Jvm.Pilot.@@N@@
namespace Jvm.Pilot.@@N@@
open Jvm Jvm.ClassFile Sem Op Lib Jvm.Free Jvm.Stand Jvm.Pilot.@@N@@.Jvm.D
/-! MADE BY PROGRAM (witnessworld.py) out of the Statement's table words and the real class files: 9 classes; the members and pool entries that the words name. The judged class is class 1, her method 2. -/
namespace start1
open Jvm.ClassFile
def u (s : String) : CpInfo := .utf8 (stringToUtf16 s)
/-- a pool by its gaps: so many unusable entries, then the entry; so many at the end -/
def gap : Nat → List CpInfo → List CpInfo
  | 0, r => r
  | n + 1, r => .unusable :: gap n r
def poolList (es : List (Nat × CpInfo)) (last : Nat) : List CpInfo := es.foldr (fun e r => gap e.1 (e.2 :: r)) (gap last [])
def pool (es : List (Nat × CpInfo)) (last : Nat) : Array CpInfo := ⟨poolList es last⟩
def fileOf (pool : Array CpInfo) (this : Nat) (attrs : Array Attribute := #[]) (ms : Array MethodInfo := #[]) (fl : Nat := 33) (sup : Nat := 0) (ifs : Array Nat := #[]) (fds : Array FieldInfo := #[]) : ClassFile where
  minorVersion := 0
  majorVersion := 65
  constantPool := pool
  accessFlags := fl
  thisClass := this
  superClass := sup
  interfaces := ifs
  fields := fds
  methods := ms
  attributes := attrs
def plain (name : String) (sup : Option ClassId) : Class where
  name := name
  kind := .ordinary
  loader := none
  accessFlags := 33
  super := sup
  interfaces := #[]
  cf := none
  fields := #[]
  methods := #[]
  instanceTypes := #[]
  staticTypes := #[]
  resolved := #[]
  callSites := []
  init := .initialized
  statics := none
  mirror := none

def pool0 : Array CpInfo := pool [(5, u "<init>"), (0, u "()V"), (1, .class_ 10), (1, u "java/lang/Object")] 113

def k0m0 : Method := { name := "<init>", desc := "()V", sig := { parameters := [], returnType := none }, accessFlags := 1, code := none }
/-- java/lang/Object -/
def k0 : Class := { plain "java/lang/Object" none with
  accessFlags := 33
  interfaces := #[]
  cf := some (fileOf pool0 8 #[] #[{ accessFlags := 1, nameIndex := 5, descriptorIndex := 6, attributes := #[] }] 33 0 #[] #[])
  fields := #[]
  methods := #[k0m0]
  instanceTypes := #[]
  staticTypes := #[]
  resolved := Array.replicate 124 none
  statics := none }

def pool1 : Array CpInfo := pool [(2, .class_ 4), (1, u "java/lang/Object"), (0, u "<init>"), (0, u "()V"), (0, .methodref 8 9), (0, .class_ 10), (0, .nameAndType 11 12), (0, u "com/example/tabulex/tabulex/xml/XmlNames"), (0, u "isWhitespace"), (0, u "(I)Z"), (0, .methodref 14 15), (0, .class_ 16), (0, .nameAndType 17 12), (0, u "com/example/tabulex/tabulex/xml/XmlNamesIsWhitespacePinLaw"), (0, u "expected"), (3, u "law"), (0, u "(II)Z")] 2

def k1m0 : Method := { name := "<init>", desc := "()V", sig := { parameters := [], returnType := none }, accessFlags := 2, code := none }
def k1c1 : Code := { maxStack := 2, maxLocals := 1, code := method_2_code, exceptionTable := #[], attributes := #[] }
def k1m1 : Method := { name := "expected", desc := "(I)Z", sig := { parameters := [.int], returnType := some .boolean }, accessFlags := 10, code := some k1c1 }
def k1c2 : Code := { maxStack := 2, maxLocals := 4, code := code, exceptionTable := #[], attributes := #[] }
def k1m2 : Method := { name := "law", desc := "(II)Z", sig := { parameters := [.int, .int], returnType := some .boolean }, accessFlags := 9, code := some k1c2 }
/-- com/example/tabulex/tabulex/xml/XmlNamesIsWhitespacePinLaw -/
def k1 : Class := { plain "com/example/tabulex/tabulex/xml/XmlNamesIsWhitespacePinLaw" (some 0) with
  accessFlags := 49
  interfaces := #[]
  cf := some (fileOf pool1 14 #[] #[{ accessFlags := 2, nameIndex := 5, descriptorIndex := 6, attributes := #[] }, { accessFlags := 10, nameIndex := 17, descriptorIndex := 12, attributes := #[] }, { accessFlags := 9, nameIndex := 21, descriptorIndex := 22, attributes := #[] }] 49 2 #[] #[])
  fields := #[]
  methods := #[k1m0, k1m1, k1m2]
  instanceTypes := #[]
  staticTypes := #[]
  resolved := Array.replicate 25 none
  statics := none }

def pool2 : Array CpInfo := pool [(2, .class_ 4), (1, u "java/lang/Object"), (0, u "<init>"), (0, u "()V"), (2, .class_ 11), (1, u "com/example/tabulex/tabulex/xml/XmlNames"), (0, u "isWhitespace"), (0, u "(I)Z"), (91, u "WHITESPACE"), (0, u "Ljava/lang/String;")] 18

def k2m0 : Method := { name := "<init>", desc := "()V", sig := { parameters := [], returnType := none }, accessFlags := 2, code := none }
def k2c1 : Code := { maxStack := 2, maxLocals := 1, code := prog_95_method_5_code, exceptionTable := #[], attributes := #[] }
def k2m1 : Method := { name := "isWhitespace", desc := "(I)Z", sig := { parameters := [.int], returnType := some .boolean }, accessFlags := 9, code := some k2c1 }
/-- com/example/tabulex/tabulex/xml/XmlNames -/
def k2 : Class := { plain "com/example/tabulex/tabulex/xml/XmlNames" (some 0) with
  accessFlags := 49
  interfaces := #[]
  cf := some (fileOf pool2 9 #[] #[{ accessFlags := 2, nameIndex := 5, descriptorIndex := 6, attributes := #[] }, { accessFlags := 9, nameIndex := 12, descriptorIndex := 13, attributes := #[] }] 49 2 #[] #[{ accessFlags := 25, nameIndex := 105, descriptorIndex := 106, attributes := #[] }])
  fields := #[{ name := "WHITESPACE", type := (.object "java/lang/String"), accessFlags := 25, slot := 0, constantValue := 0 }]
  methods := #[k2m0, k2m1]
  instanceTypes := #[]
  staticTypes := #[(.object "java/lang/String")]
  resolved := Array.replicate 125 none
  statics := none }

def pool3 : Array CpInfo := pool [(1, u "java/lang/Cloneable"), (0, .class_ 1), (0, u "java/lang/Object"), (0, .class_ 3)] 3

/-- java/lang/Cloneable -/
def k3 : Class := { plain "java/lang/Cloneable" (some 0) with
  accessFlags := 1537
  interfaces := #[]
  cf := some (fileOf pool3 2 #[] #[] 1537 4 #[] #[])
  fields := #[]
  methods := #[]
  instanceTypes := #[]
  staticTypes := #[]
  resolved := Array.replicate 8 none
  statics := none }

def pool4 : Array CpInfo := pool [(1, u "java/io/Serializable"), (0, .class_ 1), (0, u "java/lang/Object"), (0, .class_ 3)] 3

/-- java/io/Serializable -/
def k4 : Class := { plain "java/io/Serializable" (some 0) with
  accessFlags := 1537
  interfaces := #[]
  cf := some (fileOf pool4 2 #[] #[] 1537 4 #[] #[])
  fields := #[]
  methods := #[]
  instanceTypes := #[]
  staticTypes := #[]
  resolved := Array.replicate 8 none
  statics := none }

/-- the primitive byte -/
def k5 : Class := { plain "byte" none with kind := .primitive 'B', accessFlags := 0x411 }
/-- [B -/
def k6 : Class := { plain "[B" (some 0) with kind := .array 5 .byte, interfaces := #[3, 4], accessFlags := 1041 }

/-- the primitive int -/
def k7 : Class := { plain "int" none with kind := .primitive 'I', accessFlags := 0x411 }
/-- [I -/
def k8 : Class := { plain "[I" (some 0) with kind := .array 7 .int, interfaces := #[3, 4], accessFlags := 1041 }

def heap : Heap := #[]
def classes : Array Class := #[k0, k1, k2, k3, k4, k5, k6, k7, k8]
def interned : List (Array UInt16 × Addr) := []
def slotsUsed : Nat := 0
def theMethod : MethodId := ⟨1, 2⟩
def args0 : Array Value := #[.int 9, .int 7]
def aboutOver (below : List Frame) : State where
  vm := { classes := classes, interned := interned.toArray }
  heap := heap
  slotsUsed := slotsUsed
  threads := #[{ frames := .invoking theMethod args0 :: below }]
def below0 : List Frame := [.native { method := ⟨0, 0⟩, args := #[] }]
def about1 : State := aboutOver below0
def p0 : Program := .bare "" "" ""
def e0 : Env := launch0.env 0 0 0
theorem w_frames : about1.frames = Frame.invoking theMethod args0 :: below0 := rfl
set_option maxRecDepth 65536 in
theorem w_args : argsFit about1.vm theMethod args0 = true := by decide +kernel
set_option maxRecDepth 65536 in
theorem w_heap : heapFits about1 = true := by decide +kernel
set_option maxRecDepth 65536 in
theorem w_runnable : about1.curStatus? = some .runnable := by decide +kernel
set_option maxRecDepth 65536 in
theorem w_alone : about1.alone = true := by decide +kernel
set_option maxRecDepth 65536 in
theorem w_named : about1.methodNamed? x = some theMethod := by decide +kernel
set_option maxRecDepth 65536 in
theorem w_hears : about1.hears theMethod below0 = true := by decide +kernel
set_option maxRecDepth 65536 in
theorem w_ripe : about1.ripe theMethod args0 below0 = true := by decide +kernel
theorem w_running : about1.status = .running := rfl
set_option maxRecDepth 65536 in
theorem w_room : about1.hasRoom e0.platform room_1 = true :=
  launch0.hasRoom_least _ room_1 (by decide +kernel) (by decide +kernel) (by decide +kernel) (by decide +kernel) (by decide +kernel) (by decide +kernel)
theorem allAtoms_all (ts : List Jvm.Cond) (a : Array Jvm.Value) (st : Jvm.State) : (allAtoms ts).before a st = ts.all (fun c => c.before a st) := by
  induction ts with
  | nil => rfl
  | cons c t ih =>
    show (Jvm.Cond.and c (allAtoms t)).before a st = _
    rw [Jvm.Cond.before_and, ih, List.all_cons]
def words1 : List Jvm.Cond := Jvm.Cond.code x code maxLocals ret :: tables_1
/-- a 'code' word, met by the world's own term for the bytes: nothing is compared byte by byte -/
theorem code_word {y : MethodName} {bytes : ByteArray} {mx : Nat} {rt : Option FieldType} {a : Array Value} {s : State} {m : MethodId} {meth : Method} {c : Code} (h1 : s.methodNamed? y = some m) (h2 : s.vm.method? m = some meth) (h3 : meth.code = some c) (h4 : c.code = bytes)
    (h5 : (c.maxLocals == mx && c.exceptionTable.isEmpty && decide (c.maxStack ≤ mostOperands) && decide (meth.sig.returnType = rt) && !meth.locks && decide (parseMethodDescriptor y.desc = some meth.sig)) = true) : (Jvm.Cond.code y bytes mx rt).before a s = true := by
  simp only [Bool.and_eq_true, beq_iff_eq, Bool.not_eq_true', decide_eq_true_eq] at h5
  obtain ⟨⟨⟨⟨⟨g1, g2⟩, g3⟩, g4⟩, g5⟩, g6⟩ := h5
  simp [Cond.before, Cond.holds, Cond.value, h1, h2, h3, h4, g1, g2, g3, g4, g5, g6]
def isCode : Jvm.Cond → Bool
  | .code _ _ _ _ => true
  | _ => false
theorem all_split {L : List Jvm.Cond} {P : Jvm.Cond → Bool} (h1 : L.all (fun c => isCode c || P c) = true) (h2 : ∀ c ∈ L.filter isCode, P c = true) : L.all P = true := by
  refine List.all_eq_true.mpr fun c hc => ?_
  have h := List.all_eq_true.mp h1 c hc
  rcases Bool.eq_false_or_eq_true (isCode c) with hi | hi
  · exact h2 c (List.mem_filter.mpr ⟨hc, hi⟩)
  · simpa [hi] using h
set_option maxRecDepth 65536 in
theorem w_c0 : (Jvm.Cond.code x code maxLocals ret).before args0 about1 = true := code_word (m := ⟨1, 2⟩) (meth := k1m2) (c := k1c2) (by decide +kernel) rfl rfl rfl (by decide +kernel)
set_option maxRecDepth 65536 in
theorem w_c1 : (Jvm.Cond.code ({ cls := "com/example/tabulex/tabulex/xml/XmlNames", name := "isWhitespace", desc := "(I)Z" } : Jvm.MethodName) prog_95_method_5_code (1 : Nat) (Option.some Jvm.ClassFile.FieldType.boolean)).before args0 about1 = true := code_word (m := ⟨2, 1⟩) (meth := k2m1) (c := k2c1) (by decide +kernel) rfl rfl rfl (by decide +kernel)
set_option maxRecDepth 65536 in
theorem w_c2 : (Jvm.Cond.code ({ cls := "com/example/tabulex/tabulex/xml/XmlNamesIsWhitespacePinLaw", name := "expected", desc := "(I)Z" } : Jvm.MethodName) method_2_code (1 : Nat) (Option.some Jvm.ClassFile.FieldType.boolean)).before args0 about1 = true := code_word (m := ⟨1, 1⟩) (meth := k1m1) (c := k1c1) (by decide +kernel) rfl rfl rfl (by decide +kernel)
def codes1 : List Jvm.Cond := [Jvm.Cond.code x code maxLocals ret, Jvm.Cond.code ({ cls := "com/example/tabulex/tabulex/xml/XmlNames", name := "isWhitespace", desc := "(I)Z" } : Jvm.MethodName) prog_95_method_5_code (1 : Nat) (Option.some Jvm.ClassFile.FieldType.boolean), Jvm.Cond.code ({ cls := "com/example/tabulex/tabulex/xml/XmlNamesIsWhitespacePinLaw", name := "expected", desc := "(I)Z" } : Jvm.MethodName) method_2_code (1 : Nat) (Option.some Jvm.ClassFile.FieldType.boolean)]
set_option maxRecDepth 65536 in
theorem codes_eq : words1.filter isCode = codes1 := rfl
theorem w_codes : ∀ c ∈ words1.filter isCode, c.before args0 about1 = true := by
  rw [codes_eq]
  intro c hc
  simp only [codes1, List.mem_cons, List.not_mem_nil, or_false] at hc
  rcases hc with rfl | rfl | rfl
  · exact w_c0
  · exact w_c1
  · exact w_c2
set_option maxRecDepth 65536 in
theorem w_t1 : words1.all (fun c => isCode c || c.before args0 about1) = true := by decide +kernel
theorem w_tables : (allAtoms (Jvm.Cond.code x code maxLocals ret :: tables_1)).before args0 about1 = true := by
  rw [allAtoms_all]
  show words1.all (fun c => c.before args0 about1) = true
  refine all_split ?_ w_codes
  rw [w_t1]
set_option maxRecDepth 65536 in
theorem w_case : (Jvm.Cond.and given_1 narrow_1).before args0 about1 = true := by decide +kernel
theorem w_applies : (headSpec (Jvm.Cond.code x code maxLocals ret :: tables_1) room_1).applies x e0.platform about1 = true :=
  (Spec.applies_iff w_frames).mpr ⟨w_running, w_runnable, w_alone, w_named, w_hears, w_ripe, w_room, w_tables⟩
theorem atStart : AtStart classFile x code maxLocals ret World_1 tables_1 room_1 Calls_1 rest_1 Pre_1 launch0 p0 e0 about1 theMethod args0 below0 :=
  ⟨lists_1, trivial, launch0.admits_env _ _ _, launch0.least_env, fairChoices_fair.cas, fairChoices_fair.clock, w_frames, w_args, w_heap, w_applies, trivial, trivial, w_case⟩
end start1
theorem witness_1 : WitnessClaimed_1 := ⟨start1.p0, start1.e0, start1.about1, start1.theMethod, start1.args0, start1.below0, start1.atStart⟩
end Jvm.Pilot.@@N@@
