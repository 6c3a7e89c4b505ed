import JvmDerived
import JvmDerived.Pilot.@@N@@Statement
import JvmDerived.Pilot.@@N@@Code
set_option linter.unusedVariables false
set_option linter.unusedSimpArgs false
@@BLOCK:NumsL.lean.txt@@
namespace Jvm.Pilot.@@N@@
open Jvm Jvm.ClassFile Sem Op Lib Jvm.Free Jvm.Stand Jvm.LawKit Jvm.RoadKit Bundle Jvm.Pilot.@@N@@.Jvm.D
section Own
variable {p : Program} {l : Launch} {e : Env} {R : Room} {s : State} {m : MethodId} {args : Array Value} {below : List Frame} {meth : Method} {c : Code} {T T' : State} {locs : List Loc} {cells slots : Nat} {QQ : Option Value → Heap → List Loc → Prop} {RC RS : Nat} {g g' : JFrame}
/-- from this frame the run comes to the method's end, and what it leaves is as QQ says -/
def own_Run (p : Program) (e : Env) (below : List Frame) (s : State) (QQ : Option Value → Heap → List Loc → Prop) (RC RS : Nat) (T : State) (g : JFrame) : Prop :=
  ∃ s₂ o, Steps p.tables e below (T.setTop g) s₂ ∧ s₂.status = .running ∧ Ended s₂ below o ∧ ∃ v L, o = .returned v ∧ QQ v s₂.heap L ∧ FrameEnd s o s₂ L RC RS
theorem own_go (h : ∀ t, Steps p.tables e below (T'.setTop g') t → Steps p.tables e below (T.setTop g) t) (r : own_Run p e below s QQ RC RS T' g') : own_Run p e below s QQ RC RS T g := by
  obtain ⟨s₂, o, k, r⟩ := r
  exact ⟨s₂, o, h _ k, r⟩
theorem own_enter {g0 : JFrame} (q : g0 = g) (r : own_Run p e below s QQ RC RS T g) : ∃ s₂ o, Steps p.tables e below (T.setTop g0) s₂ ∧ s₂.status = .running ∧ Ended s₂ below o ∧ ∃ v L, o = .returned v ∧ QQ v s₂.heap L ∧ FrameEnd s o s₂ L RC RS := by
  subst q; exact r
theorem own_retZ (X : Stand p l e R s m args below meth c T locs cells slots) (hx : p.tables.exec = Jvm.exec) (hlk : meth.locks = false) (hret : meth.sig.returnType = some .boolean) {pc : Nat} {Ls : Array Slot} {z : Int32} {rest : List Value} (hd : decode c.code pc = .ok (.ireturn, 1)) (hz : nar .boolean z = z)
    (hQ : QQ (some (.int z)) T.heap locs) (hc : cells ≤ RC) (hs : slots ≤ RS) : own_Run p e below s QQ RC RS T (mkF m pc Ls (.int z :: rest)) := by
  obtain ⟨fs, hr, hrun, hended, hW, hsame⟩ := X.leave (v := some (.int z)) (fun h => by rw [hret] at h; cases h) hlk
  refine ⟨_, _, retN X hx (t := .boolean) hret (by simp) hd (by rw [hz]; exact hr), hrun, hended, _, _, rfl, hQ, ⟨_, rfl⟩, hW, hsame.mono hc hs⟩
theorem own_retI (X : Stand p l e R s m args below meth c T locs cells slots) (hx : p.tables.exec = Jvm.exec) (hlk : meth.locks = false) (hret : meth.sig.returnType = some .int) {pc : Nat} {Ls : Array Slot} {z : Int32} {rest : List Value} (hd : decode c.code pc = .ok (.ireturn, 1))
    (hQ : QQ (some (.int z)) T.heap locs) (hc : cells ≤ RC) (hs : slots ≤ RS) : own_Run p e below s QQ RC RS T (mkF m pc Ls (.int z :: rest)) := by
  obtain ⟨fs, hr, hrun, hended, hW, hsame⟩ := X.leave (v := some (.int z)) (fun h => by rw [hret] at h; cases h) hlk
  refine ⟨_, _, ?_, hrun, hended, _, _, rfl, hQ, ⟨_, rfl⟩, hW, hsame.mono hc hs⟩
  have hm' : T.vm.method? m = some meth := X.method'
  have hn : narrow .int (.int z) = .int z := rfl
  show Steps p.tables e below (T.setTop { method := m, pc := pc, locals := Ls, stack := _ :: rest, locked := none }) _
  jvm_step X.here [X.here.top, hx, hd, hm', hret, hn]
  first | (intro acts; rw [hr _ acts rfl rfl rfl]) | rw [hr _ _ rfl rfl rfl]
  exact Steps.refl _
theorem own_retJ (X : Stand p l e R s m args below meth c T locs cells slots) (hx : p.tables.exec = Jvm.exec) (hlk : meth.locks = false) (hret : meth.sig.returnType = some .long) {pc : Nat} {Ls : Array Slot} {z : Int64} (hd : decode c.code pc = .ok (.lreturn, 1))
    (hQ : QQ (some (.long z)) T.heap locs) (hc : cells ≤ RC) (hs : slots ≤ RS) : own_Run p e below s QQ RC RS T (mkF m pc Ls [.long z]) := by
  obtain ⟨fs, hr, hrun, hended, hW, hsame⟩ := X.leave (v := some (.long z)) (fun h => by rw [hret] at h; cases h) hlk
  exact ⟨_, _, X.lreturnOut hx hret hd hr, hrun, hended, _, _, rfl, hQ, ⟨_, rfl⟩, hW, hsame.mono hc hs⟩
theorem own_retV (X : Stand p l e R s m args below meth c T locs cells slots) (hx : p.tables.exec = Jvm.exec) (hlk : meth.locks = false) (hret : meth.sig.returnType = none) {pc : Nat} {Ls : Array Slot} (hd : decode c.code pc = .ok (.return_, 1))
    (hQ : QQ none T.heap locs) (hc : cells ≤ RC) (hs : slots ≤ RS) : own_Run p e below s QQ RC RS T (mkF m pc Ls []) := by
  obtain ⟨fs, hr, hrun, hended, hW, hsame⟩ := X.leave (v := none) (fun _ => rfl) hlk
  exact ⟨_, _, X.returnOut hx hret hd hr, hrun, hended, _, _, rfl, hQ, ⟨_, rfl⟩, hW, hsame.mono hc hs⟩
theorem own_retA (X : Stand p l e R s m args below meth c T locs cells slots) (hx : p.tables.exec = Jvm.exec) (hlk : meth.locks = false) {ty : FieldType} (hty : ty.isReference = true) (hret : meth.sig.returnType = some ty) {pc : Nat} {Ls : Array Slot} {a : Addr} {rest : List Value} (hd : decode c.code pc = .ok (.areturn, 1))
    (hQ : QQ (some (.ref a)) T.heap locs) (hc : cells ≤ RC) (hs : slots ≤ RS) : own_Run p e below s QQ RC RS T (mkF m pc Ls (.ref a :: rest)) := by
  obtain ⟨fs, hr, hrun, hended, hW, hsame⟩ := X.leave (v := some (.ref a)) (fun h => by rw [hret] at h; cases h) hlk
  refine ⟨_, _, ?_, hrun, hended, _, _, rfl, hQ, ⟨_, rfl⟩, hW, hsame.mono hc hs⟩
  have hm' : T.vm.method? m = some meth := X.method'
  show Steps p.tables e below (T.setTop { method := m, pc := pc, locals := Ls, stack := _ :: rest, locked := none }) _
  jvm_step X.here [X.here.top, hx, hd, hm', hret, hty, Value.isRef]
  first | (intro acts; rw [hr _ acts rfl rfl rfl]) | rw [hr _ _ rfl rfl rfl]
  exact Steps.refl _
end Own
theorem d1_0 : decode method_3_code 0 = .ok (.lload_n 0, 1) := by decide +kernel
theorem d1_1 : decode method_3_code 1 = .ok (.lconst 0, 1) := by decide +kernel
theorem d1_2 : decode method_3_code 2 = .ok (.lcmp, 1) := by decide +kernel
theorem d1_3 : decode method_3_code 3 = .ok (.ifCond .ge 7, 3) := by decide +kernel
theorem d1_6 : decode method_3_code 6 = .ok (.ldc2_w 18, 3) := by decide +kernel
theorem d1_9 : decode method_3_code 9 = .ok (.lreturn, 1) := by decide +kernel
theorem d1_10 : decode method_3_code 10 = .ok (.iload_n 2, 1) := by decide +kernel
theorem d1_11 : decode method_3_code 11 = .ok (.i2l, 1) := by decide +kernel
theorem d1_12 : decode method_3_code 12 = .ok (.lload_n 3, 1) := by decide +kernel
theorem d1_13 : decode method_3_code 13 = .ok (.lcmp, 1) := by decide +kernel
theorem d1_14 : decode method_3_code 14 = .ok (.ifCond .le 7, 3) := by decide +kernel
theorem d1_17 : decode method_3_code 17 = .ok (.ldc2_w 18, 3) := by decide +kernel
theorem d1_20 : decode method_3_code 20 = .ok (.lreturn, 1) := by decide +kernel
theorem d1_21 : decode method_3_code 21 = .ok (.lload_n 0, 1) := by decide +kernel
theorem d1_22 : decode method_3_code 22 = .ok (.lload_n 3, 1) := by decide +kernel
theorem d1_23 : decode method_3_code 23 = .ok (.iload_n 2, 1) := by decide +kernel
theorem d1_24 : decode method_3_code 24 = .ok (.i2l, 1) := by decide +kernel
theorem d1_25 : decode method_3_code 25 = .ok (.lsub, 1) := by decide +kernel
theorem d1_26 : decode method_3_code 26 = .ok (.ldc2_w 12, 3) := by decide +kernel
theorem d1_29 : decode method_3_code 29 = .ok (.ldiv, 1) := by decide +kernel
theorem d1_30 : decode method_3_code 30 = .ok (.lcmp, 1) := by decide +kernel
theorem d1_31 : decode method_3_code 31 = .ok (.ifCond .gt 12, 3) := by decide +kernel
theorem d1_34 : decode method_3_code 34 = .ok (.lload_n 0, 1) := by decide +kernel
theorem d1_35 : decode method_3_code 35 = .ok (.ldc2_w 12, 3) := by decide +kernel
theorem d1_38 : decode method_3_code 38 = .ok (.lmul, 1) := by decide +kernel
theorem d1_39 : decode method_3_code 39 = .ok (.iload_n 2, 1) := by decide +kernel
theorem d1_40 : decode method_3_code 40 = .ok (.i2l, 1) := by decide +kernel
theorem d1_41 : decode method_3_code 41 = .ok (.ladd, 1) := by decide +kernel
theorem d1_42 : decode method_3_code 42 = .ok (.lreturn, 1) := by decide +kernel
theorem d1_43 : decode method_3_code 43 = .ok (.ldc2_w 18, 3) := by decide +kernel
theorem d1_46 : decode method_3_code 46 = .ok (.lreturn, 1) := by decide +kernel
theorem pn_1 : plainName "com/example/matchwright/matchwright/layout/WholeNumberWithDigitPinLaw" = true := by first | (simp [plainName, overriddenIn]; done) | decide +kernel
theorem ef_1 (m : MethodId) (x0 : Int64) (x1 : Int32) (x2 : Int64) : entryFrame m #[(.long x0), (.int x1), (.long x2)] 5 = mkF m 0 #[.val (.long x0), .second, .val (.int x1), .val (.long x2), .second] [] := by first | (simp [entryFrame, mkF, argsToLocals, Value.category]; done) | rfl
def own_ref (p1 : Int64) (p2 : Int32) (p3 : Int64) : Int64 :=
  if p1 < (0 : Int64) then (-1 : Int64) else
  if p3 < (p2.toInt64) then (-1 : Int64) else
  if ((p3 - (p2.toInt64)) / (10 : Int64)) < p1 then (-1 : Int64) else
  ((p1 * (10 : Int64)) + (p2.toInt64))
def Q1 (Z : State) (p1 : Int64) (p2 : Int32) (p3 : Int64) (h0 : Heap) (n0 : Nat) (v : Option Value) (h : Heap) (L : List Loc) : Prop := v = some (.long (own_ref p1 p2 p3)) ∧ Fr n0 L ∧ h = h0
set_option maxRecDepth 65536 in
set_option maxHeartbeats 40000000 in
theorem rm1 (l : Launch) (Z : State) (a0 : Array Value) (hw : ∀ d ∈ tables_1, d.before a0 Z = true) (ws : List Jvm.Cond) (p1 : Int64) (p2 : Int32) (p3 : Int64) (h0 : Heap) (n0 : Nat) (Z0 : n0 ≤ h0.size) :
    MetFree l (⟨"com/example/matchwright/matchwright/layout/WholeNumberWithDigitPinLaw", "reference", "(JIJ)J"⟩ : MethodName) (head1 (Jvm.Cond.code (⟨"com/example/matchwright/matchwright/layout/WholeNumberWithDigitPinLaw", "reference", "(JIJ)J"⟩ : MethodName) method_3_code 5 (some .long) :: ws) ({ frames := 0, cells := 0, slots := 0, locals := 0 } : Room)) (fun aa U => aa = #[(.long p1), (.int p2), (.long p3)] ∧ Z.Warmed39 U.vm ∧ U.heap = h0) (fun _ _ _ _ _ => True) (fun _ U o U' => ∃ v L, o = .returned v ∧ Q1 Z p1 p2 p3 h0 n0 v U'.heap L ∧ FrameEnd U o U' L ({ frames := 0, cells := 0, slots := 0, locals := 0 } : Room).cells ({ frames := 0, cells := 0, slots := 0, locals := 0 } : Room).slots) := by
  refine MetFree.of_bodySF (plainFor_of_name pn_1) hisR ?_
  intro p e s m args below meth c s₁ Bd hml0 hP hK
  obtain ⟨rfl, hZ, hh⟩ := hP
  have hx := Bd.exec
  have hby := Bd.bytes
  have hml : c.maxLocals = 5 := hml0
  have hown : s.vm.findClass "com/example/matchwright/matchwright/layout/WholeNumberWithDigitPinLaw" = some m.cls := findClass_of_methodNamed Bd.named
  have hnm := (name_of_methodNamed Bd.named Bd.method).1
  have X0 : Stand p l e ({ frames := 0, cells := 0, slots := 0, locals := 0 } : Room) s m #[(.long p1), (.int p2), (.long p3)] below meth c s₁ [] 0 0 := Stand.of_body Bd
  have e0 : s₁.heap = h0 := by rw [← hh, Bd.state]; rfl
  have N0 := Fr.nil n0
  refine own_enter (QQ := Q1 Z p1 p2 p3 h0 n0) (ef_1 m p1 p2 p3) ?_
  refine own_go (T' := s₁) (g' := (mkF m 1 #[.val (.long p1), .second, .val (.int p2), .val (.long p3), .second] [(.long p1)])) (fun t k => XS.lloadN X0.here hx rfl (hb hby d1_0) rfl k) ?_
  refine own_go (T' := s₁) (g' := (mkF m 2 #[.val (.long p1), .second, .val (.int p2), .val (.long p3), .second] [(.long (0 : Int64)), (.long p1)])) (fun t k => XS.lconst X0.here hx rfl (hb hby d1_1) k) ?_
  refine own_go (T' := s₁) (g' := (mkF m 3 #[.val (.long p1), .second, .val (.int p2), .val (.long p3), .second] [(.int (lcmpW p1 (0 : Int64)))])) (fun t k => XS.lcmp X0.here hx rfl (hb hby d1_2) rfl k) ?_
  by_cases c3_1 : p1 < (0 : Int64)
  · refine own_go (T' := s₁) (g' := (mkF m 6 #[.val (.long p1), .second, .val (.int p2), .val (.long p3), .second] [])) (fun t k => XS.ifNo X0.here hx rfl (hb hby d1_3) rfl ((if0 _ _).trans (tlt ((lw_lt _ _).mpr c3_1)).2.1) k) ?_
    refine own_go (T' := s₁) (g' := (mkF m 9 #[.val (.long p1), .second, .val (.int p2), .val (.long p3), .second] [(.long (-1 : Int64))])) (X0.ldc2Long hx hown (mvT hZ (hw _ (List.mem_of_getElem? (i := 15) rfl))) (g := (mkF m 6 #[.val (.long p1), .second, .val (.int p2), .val (.long p3), .second] [])) rfl (hb hby d1_6)) ?_
    exact own_retJ X0 hx Bd.notSynchronized Bd.returns (hb hby d1_9) ⟨by unfold own_ref; rw [if_pos c3_1], N0, e0⟩ (by decide) (by decide)
  · refine own_go (T' := s₁) (g' := (mkF m 10 #[.val (.long p1), .second, .val (.int p2), .val (.long p3), .second] [])) (fun t k => XS.ifYes X0.here hx rfl (pc0 := 3) (pc' := 10) rfl (hb hby d1_3) rfl ((if0 _ _).trans (flt (mt (lw_lt _ _).mp c3_1)).2.1) (by decide) (by decide) k) ?_
    refine own_go (T' := s₁) (g' := (mkF m 11 #[.val (.long p1), .second, .val (.int p2), .val (.long p3), .second] [(.int p2)])) (fun t k => XS.iloadN X0.here hx rfl (hb hby d1_10) rfl k) ?_
    refine own_go (T' := s₁) (g' := (mkF m 12 #[.val (.long p1), .second, .val (.int p2), .val (.long p3), .second] [(.long (p2.toInt64))])) (fun t k => XS.i2l X0.here hx rfl (hb hby d1_11) rfl k) ?_
    refine own_go (T' := s₁) (g' := (mkF m 13 #[.val (.long p1), .second, .val (.int p2), .val (.long p3), .second] [(.long p3), (.long (p2.toInt64))])) (fun t k => XS.lloadN X0.here hx rfl (hb hby d1_12) rfl k) ?_
    refine own_go (T' := s₁) (g' := (mkF m 14 #[.val (.long p1), .second, .val (.int p2), .val (.long p3), .second] [(.int (lcmpW (p2.toInt64) p3))])) (fun t k => XS.lcmp X0.here hx rfl (hb hby d1_13) rfl k) ?_
    by_cases c14_2 : p3 < (p2.toInt64)
    · refine own_go (T' := s₁) (g' := (mkF m 17 #[.val (.long p1), .second, .val (.int p2), .val (.long p3), .second] [])) (fun t k => XS.ifNo X0.here hx rfl (hb hby d1_14) rfl ((if0 _ _).trans (tlt ((lw_gt _ _).mpr c14_2)).2.2.2) k) ?_
      refine own_go (T' := s₁) (g' := (mkF m 20 #[.val (.long p1), .second, .val (.int p2), .val (.long p3), .second] [(.long (-1 : Int64))])) (X0.ldc2Long hx hown (mvT hZ (hw _ (List.mem_of_getElem? (i := 15) rfl))) (g := (mkF m 17 #[.val (.long p1), .second, .val (.int p2), .val (.long p3), .second] [])) rfl (hb hby d1_17)) ?_
      exact own_retJ X0 hx Bd.notSynchronized Bd.returns (hb hby d1_20) ⟨by unfold own_ref; rw [if_neg c3_1, if_pos c14_2], N0, e0⟩ (by decide) (by decide)
    · refine own_go (T' := s₁) (g' := (mkF m 21 #[.val (.long p1), .second, .val (.int p2), .val (.long p3), .second] [])) (fun t k => XS.ifYes X0.here hx rfl (pc0 := 14) (pc' := 21) rfl (hb hby d1_14) rfl ((if0 _ _).trans (flt (mt (lw_gt _ _).mp c14_2)).2.2.2) (by decide) (by decide) k) ?_
      refine own_go (T' := s₁) (g' := (mkF m 22 #[.val (.long p1), .second, .val (.int p2), .val (.long p3), .second] [(.long p1)])) (fun t k => XS.lloadN X0.here hx rfl (hb hby d1_21) rfl k) ?_
      refine own_go (T' := s₁) (g' := (mkF m 23 #[.val (.long p1), .second, .val (.int p2), .val (.long p3), .second] [(.long p3), (.long p1)])) (fun t k => XS.lloadN X0.here hx rfl (hb hby d1_22) rfl k) ?_
      refine own_go (T' := s₁) (g' := (mkF m 24 #[.val (.long p1), .second, .val (.int p2), .val (.long p3), .second] [(.int p2), (.long p3), (.long p1)])) (fun t k => XS.iloadN X0.here hx rfl (hb hby d1_23) rfl k) ?_
      refine own_go (T' := s₁) (g' := (mkF m 25 #[.val (.long p1), .second, .val (.int p2), .val (.long p3), .second] [(.long (p2.toInt64)), (.long p3), (.long p1)])) (fun t k => XS.i2l X0.here hx rfl (hb hby d1_24) rfl k) ?_
      refine own_go (T' := s₁) (g' := (mkF m 26 #[.val (.long p1), .second, .val (.int p2), .val (.long p3), .second] [(.long (p3 - (p2.toInt64))), (.long p1)])) (fun t k => XS.lsub X0.here hx rfl (hb hby d1_25) rfl k) ?_
      refine own_go (T' := s₁) (g' := (mkF m 29 #[.val (.long p1), .second, .val (.int p2), .val (.long p3), .second] [(.long (10 : Int64)), (.long (p3 - (p2.toInt64))), (.long p1)])) (X0.ldc2Long hx hown (mvT hZ (hw _ (List.mem_of_getElem? (i := 6) rfl))) (g := (mkF m 26 #[.val (.long p1), .second, .val (.int p2), .val (.long p3), .second] [(.long (p3 - (p2.toInt64))), (.long p1)])) rfl (hb hby d1_26)) ?_
      refine own_go (T' := s₁) (g' := (mkF m 30 #[.val (.long p1), .second, .val (.int p2), .val (.long p3), .second] [(.long ((p3 - (p2.toInt64)) / (10 : Int64))), (.long p1)])) (fun t k => XS.ldiv X0.here hx rfl (hb hby d1_29) rfl (by decide) k) ?_
      refine own_go (T' := s₁) (g' := (mkF m 31 #[.val (.long p1), .second, .val (.int p2), .val (.long p3), .second] [(.int (lcmpW p1 ((p3 - (p2.toInt64)) / (10 : Int64))))])) (fun t k => XS.lcmp X0.here hx rfl (hb hby d1_30) rfl k) ?_
      by_cases c31_3 : ((p3 - (p2.toInt64)) / (10 : Int64)) < p1
      · refine own_go (T' := s₁) (g' := (mkF m 43 #[.val (.long p1), .second, .val (.int p2), .val (.long p3), .second] [])) (fun t k => XS.ifYes X0.here hx rfl (pc0 := 31) (pc' := 43) rfl (hb hby d1_31) rfl ((if0 _ _).trans (tlt ((lw_gt _ _).mpr c31_3)).2.2.1) (by decide) (by decide) k) ?_
        refine own_go (T' := s₁) (g' := (mkF m 46 #[.val (.long p1), .second, .val (.int p2), .val (.long p3), .second] [(.long (-1 : Int64))])) (X0.ldc2Long hx hown (mvT hZ (hw _ (List.mem_of_getElem? (i := 15) rfl))) (g := (mkF m 43 #[.val (.long p1), .second, .val (.int p2), .val (.long p3), .second] [])) rfl (hb hby d1_43)) ?_
        exact own_retJ X0 hx Bd.notSynchronized Bd.returns (hb hby d1_46) ⟨by unfold own_ref; rw [if_neg c3_1, if_neg c14_2, if_pos c31_3], N0, e0⟩ (by decide) (by decide)
      · refine own_go (T' := s₁) (g' := (mkF m 34 #[.val (.long p1), .second, .val (.int p2), .val (.long p3), .second] [])) (fun t k => XS.ifNo X0.here hx rfl (hb hby d1_31) rfl ((if0 _ _).trans (flt (mt (lw_gt _ _).mp c31_3)).2.2.1) k) ?_
        refine own_go (T' := s₁) (g' := (mkF m 35 #[.val (.long p1), .second, .val (.int p2), .val (.long p3), .second] [(.long p1)])) (fun t k => XS.lloadN X0.here hx rfl (hb hby d1_34) rfl k) ?_
        refine own_go (T' := s₁) (g' := (mkF m 38 #[.val (.long p1), .second, .val (.int p2), .val (.long p3), .second] [(.long (10 : Int64)), (.long p1)])) (X0.ldc2Long hx hown (mvT hZ (hw _ (List.mem_of_getElem? (i := 6) rfl))) (g := (mkF m 35 #[.val (.long p1), .second, .val (.int p2), .val (.long p3), .second] [(.long p1)])) rfl (hb hby d1_35)) ?_
        refine own_go (T' := s₁) (g' := (mkF m 39 #[.val (.long p1), .second, .val (.int p2), .val (.long p3), .second] [(.long (p1 * (10 : Int64)))])) (fun t k => XS.lmul X0.here hx rfl (hb hby d1_38) rfl k) ?_
        refine own_go (T' := s₁) (g' := (mkF m 40 #[.val (.long p1), .second, .val (.int p2), .val (.long p3), .second] [(.int p2), (.long (p1 * (10 : Int64)))])) (fun t k => XS.iloadN X0.here hx rfl (hb hby d1_39) rfl k) ?_
        refine own_go (T' := s₁) (g' := (mkF m 41 #[.val (.long p1), .second, .val (.int p2), .val (.long p3), .second] [(.long (p2.toInt64)), (.long (p1 * (10 : Int64)))])) (fun t k => XS.i2l X0.here hx rfl (hb hby d1_40) rfl k) ?_
        refine own_go (T' := s₁) (g' := (mkF m 42 #[.val (.long p1), .second, .val (.int p2), .val (.long p3), .second] [(.long ((p1 * (10 : Int64)) + (p2.toInt64)))])) (fun t k => XS.ladd X0.here hx rfl (hb hby d1_41) rfl k) ?_
        exact own_retJ X0 hx Bd.notSynchronized Bd.returns (hb hby d1_42) ⟨by unfold own_ref; rw [if_neg c3_1, if_neg c14_2, if_neg c31_3], N0, e0⟩ (by decide) (by decide)
theorem d2_0 : decode prog_61_method_5_code 0 = .ok (.lload_n 3, 1) := by decide +kernel
theorem d2_1 : decode prog_61_method_5_code 1 = .ok (.ldc2_w 61, 3) := by decide +kernel
theorem d2_4 : decode prog_61_method_5_code 4 = .ok (.ldiv, 1) := by decide +kernel
theorem d2_5 : decode prog_61_method_5_code 5 = .ok (.lstore 5, 2) := by decide +kernel
theorem d2_7 : decode prog_61_method_5_code 7 = .ok (.ldc2_w 63, 3) := by decide +kernel
theorem d2_10 : decode prog_61_method_5_code 10 = .ok (.lstore 7, 2) := by decide +kernel
theorem d2_12 : decode prog_61_method_5_code 12 = .ok (.lload_n 0, 1) := by decide +kernel
theorem d2_13 : decode prog_61_method_5_code 13 = .ok (.lconst 0, 1) := by decide +kernel
theorem d2_14 : decode prog_61_method_5_code 14 = .ok (.lcmp, 1) := by decide +kernel
theorem d2_15 : decode prog_61_method_5_code 15 = .ok (.ifCond .lt 38, 3) := by decide +kernel
theorem d2_18 : decode prog_61_method_5_code 18 = .ok (.lload_n 0, 1) := by decide +kernel
theorem d2_19 : decode prog_61_method_5_code 19 = .ok (.lload 5, 2) := by decide +kernel
theorem d2_21 : decode prog_61_method_5_code 21 = .ok (.lcmp, 1) := by decide +kernel
theorem d2_22 : decode prog_61_method_5_code 22 = .ok (.ifCond .lt 21, 3) := by decide +kernel
theorem d2_25 : decode prog_61_method_5_code 25 = .ok (.lload_n 0, 1) := by decide +kernel
theorem d2_26 : decode prog_61_method_5_code 26 = .ok (.lload 5, 2) := by decide +kernel
theorem d2_28 : decode prog_61_method_5_code 28 = .ok (.lcmp, 1) := by decide +kernel
theorem d2_29 : decode prog_61_method_5_code 29 = .ok (.ifCond .ne 24, 3) := by decide +kernel
theorem d2_32 : decode prog_61_method_5_code 32 = .ok (.iload_n 2, 1) := by decide +kernel
theorem d2_33 : decode prog_61_method_5_code 33 = .ok (.i2l, 1) := by decide +kernel
theorem d2_34 : decode prog_61_method_5_code 34 = .ok (.lload_n 3, 1) := by decide +kernel
theorem d2_35 : decode prog_61_method_5_code 35 = .ok (.ldc2_w 61, 3) := by decide +kernel
theorem d2_38 : decode prog_61_method_5_code 38 = .ok (.lrem, 1) := by decide +kernel
theorem d2_39 : decode prog_61_method_5_code 39 = .ok (.lcmp, 1) := by decide +kernel
theorem d2_40 : decode prog_61_method_5_code 40 = .ok (.ifCond .gt 13, 3) := by decide +kernel
theorem d2_43 : decode prog_61_method_5_code 43 = .ok (.lload_n 0, 1) := by decide +kernel
theorem d2_44 : decode prog_61_method_5_code 44 = .ok (.ldc2_w 61, 3) := by decide +kernel
theorem d2_47 : decode prog_61_method_5_code 47 = .ok (.lmul, 1) := by decide +kernel
theorem d2_48 : decode prog_61_method_5_code 48 = .ok (.iload_n 2, 1) := by decide +kernel
theorem d2_49 : decode prog_61_method_5_code 49 = .ok (.i2l, 1) := by decide +kernel
theorem d2_50 : decode prog_61_method_5_code 50 = .ok (.ladd, 1) := by decide +kernel
theorem d2_51 : decode prog_61_method_5_code 51 = .ok (.lstore 7, 2) := by decide +kernel
theorem d2_53 : decode prog_61_method_5_code 53 = .ok (.lload 7, 2) := by decide +kernel
theorem d2_55 : decode prog_61_method_5_code 55 = .ok (.lreturn, 1) := by decide +kernel
theorem pn_2 : plainName "com/example/matchwright/matchwright/layout/WholeNumber" = true := by first | (simp [plainName, overriddenIn]; done) | decide +kernel
theorem ef_2 (m : MethodId) (x0 : Int64) (x1 : Int32) (x2 : Int64) : entryFrame m #[(.long x0), (.int x1), (.long x2)] 9 = mkF m 0 #[.val (.long x0), .second, .val (.int x1), .val (.long x2), .second, .unset, .unset, .unset, .unset] [] := by first | (simp [entryFrame, mkF, argsToLocals, Value.category]; done) | rfl
def own_wd (p1 : Int64) (p2 : Int32) (p3 : Int64) : Int64 :=
  if p1 < (0 : Int64) then (-1 : Int64) else
  if p1 < (p3 / (10 : Int64)) then ((p1 * (10 : Int64)) + (p2.toInt64)) else
  if p1 = (p3 / (10 : Int64)) then (if (p3 - (p3 / (10 : Int64)) * (10 : Int64)) < (p2.toInt64) then (-1 : Int64) else
    ((p1 * (10 : Int64)) + (p2.toInt64))) else
  (-1 : Int64)
def Q2 (Z : State) (p1 : Int64) (p2 : Int32) (p3 : Int64) (h0 : Heap) (n0 : Nat) (v : Option Value) (h : Heap) (L : List Loc) : Prop := v = some (.long (own_wd p1 p2 p3)) ∧ Fr n0 L ∧ h = h0
set_option maxRecDepth 65536 in
set_option maxHeartbeats 40000000 in
theorem rm2 (l : Launch) (Z : State) (a0 : Array Value) (hw : ∀ d ∈ tables_1, d.before a0 Z = true) (ws : List Jvm.Cond) (p1 : Int64) (p2 : Int32) (p3 : Int64) (h0 : Heap) (n0 : Nat) (Z0 : n0 ≤ h0.size) :
    MetFree l (⟨"com/example/matchwright/matchwright/layout/WholeNumber", "withDigit", "(JIJ)J"⟩ : MethodName) (head1 (Jvm.Cond.code (⟨"com/example/matchwright/matchwright/layout/WholeNumber", "withDigit", "(JIJ)J"⟩ : MethodName) prog_61_method_5_code 9 (some .long) :: ws) ({ frames := 0, cells := 0, slots := 0, locals := 0 } : Room)) (fun aa U => aa = #[(.long p1), (.int p2), (.long p3)] ∧ Z.Warmed39 U.vm ∧ U.heap = h0) (fun _ _ _ _ _ => True) (fun _ U o U' => ∃ v L, o = .returned v ∧ Q2 Z p1 p2 p3 h0 n0 v U'.heap L ∧ FrameEnd U o U' L ({ frames := 0, cells := 0, slots := 0, locals := 0 } : Room).cells ({ frames := 0, cells := 0, slots := 0, locals := 0 } : Room).slots) := by
  refine MetFree.of_bodySF (plainFor_of_name pn_2) hisR ?_
  intro p e s m args below meth c s₁ Bd hml0 hP hK
  obtain ⟨rfl, hZ, hh⟩ := hP
  have hx := Bd.exec
  have hby := Bd.bytes
  have hml : c.maxLocals = 9 := hml0
  have hown : s.vm.findClass "com/example/matchwright/matchwright/layout/WholeNumber" = some m.cls := findClass_of_methodNamed Bd.named
  have hnm := (name_of_methodNamed Bd.named Bd.method).1
  have X0 : Stand p l e ({ frames := 0, cells := 0, slots := 0, locals := 0 } : Room) s m #[(.long p1), (.int p2), (.long p3)] below meth c s₁ [] 0 0 := Stand.of_body Bd
  have e0 : s₁.heap = h0 := by rw [← hh, Bd.state]; rfl
  have N0 := Fr.nil n0
  refine own_enter (QQ := Q2 Z p1 p2 p3 h0 n0) (ef_2 m p1 p2 p3) ?_
  refine own_go (T' := s₁) (g' := (mkF m 1 #[.val (.long p1), .second, .val (.int p2), .val (.long p3), .second, .unset, .unset, .unset, .unset] [(.long p3)])) (fun t k => XS.lloadN X0.here hx rfl (hb hby d2_0) rfl k) ?_
  refine own_go (T' := s₁) (g' := (mkF m 4 #[.val (.long p1), .second, .val (.int p2), .val (.long p3), .second, .unset, .unset, .unset, .unset] [(.long (10 : Int64)), (.long p3)])) (X0.ldc2Long hx hown (mvT hZ (hw _ (List.mem_of_getElem? (i := 11) rfl))) (g := (mkF m 1 #[.val (.long p1), .second, .val (.int p2), .val (.long p3), .second, .unset, .unset, .unset, .unset] [(.long p3)])) rfl (hb hby d2_1)) ?_
  refine own_go (T' := s₁) (g' := (mkF m 5 #[.val (.long p1), .second, .val (.int p2), .val (.long p3), .second, .unset, .unset, .unset, .unset] [(.long (p3 / (10 : Int64)))])) (fun t k => XS.ldiv X0.here hx rfl (hb hby d2_4) rfl (by decide) k) ?_
  refine own_go (T' := s₁) (g' := (mkF m 7 #[.val (.long p1), .second, .val (.int p2), .val (.long p3), .second, .val (.long (p3 / (10 : Int64))), .second, .unset, .unset] [])) (fun t k => XS.lstore X0.here hx rfl (hb hby d2_5) rfl (l' := #[.val (.long p1), .second, .val (.int p2), .val (.long p3), .second, .val (.long (p3 / (10 : Int64))), .second, .unset, .unset]) rfl k) ?_
  refine own_go (T' := s₁) (g' := (mkF m 10 #[.val (.long p1), .second, .val (.int p2), .val (.long p3), .second, .val (.long (p3 / (10 : Int64))), .second, .unset, .unset] [(.long (-1 : Int64))])) (X0.ldc2Long hx hown (mvT hZ (hw _ (List.mem_of_getElem? (i := 12) rfl))) (g := (mkF m 7 #[.val (.long p1), .second, .val (.int p2), .val (.long p3), .second, .val (.long (p3 / (10 : Int64))), .second, .unset, .unset] [])) rfl (hb hby d2_7)) ?_
  refine own_go (T' := s₁) (g' := (mkF m 12 #[.val (.long p1), .second, .val (.int p2), .val (.long p3), .second, .val (.long (p3 / (10 : Int64))), .second, .val (.long (-1 : Int64)), .second] [])) (fun t k => XS.lstore X0.here hx rfl (hb hby d2_10) rfl (l' := #[.val (.long p1), .second, .val (.int p2), .val (.long p3), .second, .val (.long (p3 / (10 : Int64))), .second, .val (.long (-1 : Int64)), .second]) rfl k) ?_
  refine own_go (T' := s₁) (g' := (mkF m 13 #[.val (.long p1), .second, .val (.int p2), .val (.long p3), .second, .val (.long (p3 / (10 : Int64))), .second, .val (.long (-1 : Int64)), .second] [(.long p1)])) (fun t k => XS.lloadN X0.here hx rfl (hb hby d2_12) rfl k) ?_
  refine own_go (T' := s₁) (g' := (mkF m 14 #[.val (.long p1), .second, .val (.int p2), .val (.long p3), .second, .val (.long (p3 / (10 : Int64))), .second, .val (.long (-1 : Int64)), .second] [(.long (0 : Int64)), (.long p1)])) (fun t k => XS.lconst X0.here hx rfl (hb hby d2_13) k) ?_
  refine own_go (T' := s₁) (g' := (mkF m 15 #[.val (.long p1), .second, .val (.int p2), .val (.long p3), .second, .val (.long (p3 / (10 : Int64))), .second, .val (.long (-1 : Int64)), .second] [(.int (lcmpW p1 (0 : Int64)))])) (fun t k => XS.lcmp X0.here hx rfl (hb hby d2_14) rfl k) ?_
  by_cases c15_1 : p1 < (0 : Int64)
  · refine own_go (T' := s₁) (g' := (mkF m 53 #[.val (.long p1), .second, .val (.int p2), .val (.long p3), .second, .val (.long (p3 / (10 : Int64))), .second, .val (.long (-1 : Int64)), .second] [])) (fun t k => XS.ifYes X0.here hx rfl (pc0 := 15) (pc' := 53) rfl (hb hby d2_15) rfl ((if0 _ _).trans (tlt ((lw_lt _ _).mpr c15_1)).1) (by decide) (by decide) k) ?_
    refine own_go (T' := s₁) (g' := (mkF m 55 #[.val (.long p1), .second, .val (.int p2), .val (.long p3), .second, .val (.long (p3 / (10 : Int64))), .second, .val (.long (-1 : Int64)), .second] [(.long (-1 : Int64))])) (fun t k => XS.lload X0.here hx rfl (hb hby d2_53) rfl k) ?_
    exact own_retJ X0 hx Bd.notSynchronized Bd.returns (hb hby d2_55) ⟨by unfold own_wd; rw [if_pos c15_1], N0, e0⟩ (by decide) (by decide)
  · refine own_go (T' := s₁) (g' := (mkF m 18 #[.val (.long p1), .second, .val (.int p2), .val (.long p3), .second, .val (.long (p3 / (10 : Int64))), .second, .val (.long (-1 : Int64)), .second] [])) (fun t k => XS.ifNo X0.here hx rfl (hb hby d2_15) rfl ((if0 _ _).trans (flt (mt (lw_lt _ _).mp c15_1)).1) k) ?_
    refine own_go (T' := s₁) (g' := (mkF m 19 #[.val (.long p1), .second, .val (.int p2), .val (.long p3), .second, .val (.long (p3 / (10 : Int64))), .second, .val (.long (-1 : Int64)), .second] [(.long p1)])) (fun t k => XS.lloadN X0.here hx rfl (hb hby d2_18) rfl k) ?_
    refine own_go (T' := s₁) (g' := (mkF m 21 #[.val (.long p1), .second, .val (.int p2), .val (.long p3), .second, .val (.long (p3 / (10 : Int64))), .second, .val (.long (-1 : Int64)), .second] [(.long (p3 / (10 : Int64))), (.long p1)])) (fun t k => XS.lload X0.here hx rfl (hb hby d2_19) rfl k) ?_
    refine own_go (T' := s₁) (g' := (mkF m 22 #[.val (.long p1), .second, .val (.int p2), .val (.long p3), .second, .val (.long (p3 / (10 : Int64))), .second, .val (.long (-1 : Int64)), .second] [(.int (lcmpW p1 (p3 / (10 : Int64))))])) (fun t k => XS.lcmp X0.here hx rfl (hb hby d2_21) rfl k) ?_
    by_cases c22_2 : p1 < (p3 / (10 : Int64))
    · refine own_go (T' := s₁) (g' := (mkF m 43 #[.val (.long p1), .second, .val (.int p2), .val (.long p3), .second, .val (.long (p3 / (10 : Int64))), .second, .val (.long (-1 : Int64)), .second] [])) (fun t k => XS.ifYes X0.here hx rfl (pc0 := 22) (pc' := 43) rfl (hb hby d2_22) rfl ((if0 _ _).trans (tlt ((lw_lt _ _).mpr c22_2)).1) (by decide) (by decide) k) ?_
      refine own_go (T' := s₁) (g' := (mkF m 44 #[.val (.long p1), .second, .val (.int p2), .val (.long p3), .second, .val (.long (p3 / (10 : Int64))), .second, .val (.long (-1 : Int64)), .second] [(.long p1)])) (fun t k => XS.lloadN X0.here hx rfl (hb hby d2_43) rfl k) ?_
      refine own_go (T' := s₁) (g' := (mkF m 47 #[.val (.long p1), .second, .val (.int p2), .val (.long p3), .second, .val (.long (p3 / (10 : Int64))), .second, .val (.long (-1 : Int64)), .second] [(.long (10 : Int64)), (.long p1)])) (X0.ldc2Long hx hown (mvT hZ (hw _ (List.mem_of_getElem? (i := 11) rfl))) (g := (mkF m 44 #[.val (.long p1), .second, .val (.int p2), .val (.long p3), .second, .val (.long (p3 / (10 : Int64))), .second, .val (.long (-1 : Int64)), .second] [(.long p1)])) rfl (hb hby d2_44)) ?_
      refine own_go (T' := s₁) (g' := (mkF m 48 #[.val (.long p1), .second, .val (.int p2), .val (.long p3), .second, .val (.long (p3 / (10 : Int64))), .second, .val (.long (-1 : Int64)), .second] [(.long (p1 * (10 : Int64)))])) (fun t k => XS.lmul X0.here hx rfl (hb hby d2_47) rfl k) ?_
      refine own_go (T' := s₁) (g' := (mkF m 49 #[.val (.long p1), .second, .val (.int p2), .val (.long p3), .second, .val (.long (p3 / (10 : Int64))), .second, .val (.long (-1 : Int64)), .second] [(.int p2), (.long (p1 * (10 : Int64)))])) (fun t k => XS.iloadN X0.here hx rfl (hb hby d2_48) rfl k) ?_
      refine own_go (T' := s₁) (g' := (mkF m 50 #[.val (.long p1), .second, .val (.int p2), .val (.long p3), .second, .val (.long (p3 / (10 : Int64))), .second, .val (.long (-1 : Int64)), .second] [(.long (p2.toInt64)), (.long (p1 * (10 : Int64)))])) (fun t k => XS.i2l X0.here hx rfl (hb hby d2_49) rfl k) ?_
      refine own_go (T' := s₁) (g' := (mkF m 51 #[.val (.long p1), .second, .val (.int p2), .val (.long p3), .second, .val (.long (p3 / (10 : Int64))), .second, .val (.long (-1 : Int64)), .second] [(.long ((p1 * (10 : Int64)) + (p2.toInt64)))])) (fun t k => XS.ladd X0.here hx rfl (hb hby d2_50) rfl k) ?_
      refine own_go (T' := s₁) (g' := (mkF m 53 #[.val (.long p1), .second, .val (.int p2), .val (.long p3), .second, .val (.long (p3 / (10 : Int64))), .second, .val (.long ((p1 * (10 : Int64)) + (p2.toInt64))), .second] [])) (fun t k => XS.lstore X0.here hx rfl (hb hby d2_51) rfl (l' := #[.val (.long p1), .second, .val (.int p2), .val (.long p3), .second, .val (.long (p3 / (10 : Int64))), .second, .val (.long ((p1 * (10 : Int64)) + (p2.toInt64))), .second]) rfl k) ?_
      refine own_go (T' := s₁) (g' := (mkF m 55 #[.val (.long p1), .second, .val (.int p2), .val (.long p3), .second, .val (.long (p3 / (10 : Int64))), .second, .val (.long ((p1 * (10 : Int64)) + (p2.toInt64))), .second] [(.long ((p1 * (10 : Int64)) + (p2.toInt64)))])) (fun t k => XS.lload X0.here hx rfl (hb hby d2_53) rfl k) ?_
      exact own_retJ X0 hx Bd.notSynchronized Bd.returns (hb hby d2_55) ⟨by unfold own_wd; rw [if_neg c15_1, if_pos c22_2], N0, e0⟩ (by decide) (by decide)
    · refine own_go (T' := s₁) (g' := (mkF m 25 #[.val (.long p1), .second, .val (.int p2), .val (.long p3), .second, .val (.long (p3 / (10 : Int64))), .second, .val (.long (-1 : Int64)), .second] [])) (fun t k => XS.ifNo X0.here hx rfl (hb hby d2_22) rfl ((if0 _ _).trans (flt (mt (lw_lt _ _).mp c22_2)).1) k) ?_
      refine own_go (T' := s₁) (g' := (mkF m 26 #[.val (.long p1), .second, .val (.int p2), .val (.long p3), .second, .val (.long (p3 / (10 : Int64))), .second, .val (.long (-1 : Int64)), .second] [(.long p1)])) (fun t k => XS.lloadN X0.here hx rfl (hb hby d2_25) rfl k) ?_
      refine own_go (T' := s₁) (g' := (mkF m 28 #[.val (.long p1), .second, .val (.int p2), .val (.long p3), .second, .val (.long (p3 / (10 : Int64))), .second, .val (.long (-1 : Int64)), .second] [(.long (p3 / (10 : Int64))), (.long p1)])) (fun t k => XS.lload X0.here hx rfl (hb hby d2_26) rfl k) ?_
      refine own_go (T' := s₁) (g' := (mkF m 29 #[.val (.long p1), .second, .val (.int p2), .val (.long p3), .second, .val (.long (p3 / (10 : Int64))), .second, .val (.long (-1 : Int64)), .second] [(.int (lcmpW p1 (p3 / (10 : Int64))))])) (fun t k => XS.lcmp X0.here hx rfl (hb hby d2_28) rfl k) ?_
      by_cases c29_3 : p1 = (p3 / (10 : Int64))
      · refine own_go (T' := s₁) (g' := (mkF m 32 #[.val (.long p1), .second, .val (.int p2), .val (.long p3), .second, .val (.long (p3 / (10 : Int64))), .second, .val (.long (-1 : Int64)), .second] [])) (fun t k => XS.ifNo X0.here hx rfl (hb hby d2_29) rfl ((if0 _ _).trans (teq ((lw_eq _ _).mpr c29_3)).2) k) ?_
        refine own_go (T' := s₁) (g' := (mkF m 33 #[.val (.long p1), .second, .val (.int p2), .val (.long p3), .second, .val (.long (p3 / (10 : Int64))), .second, .val (.long (-1 : Int64)), .second] [(.int p2)])) (fun t k => XS.iloadN X0.here hx rfl (hb hby d2_32) rfl k) ?_
        refine own_go (T' := s₁) (g' := (mkF m 34 #[.val (.long p1), .second, .val (.int p2), .val (.long p3), .second, .val (.long (p3 / (10 : Int64))), .second, .val (.long (-1 : Int64)), .second] [(.long (p2.toInt64))])) (fun t k => XS.i2l X0.here hx rfl (hb hby d2_33) rfl k) ?_
        refine own_go (T' := s₁) (g' := (mkF m 35 #[.val (.long p1), .second, .val (.int p2), .val (.long p3), .second, .val (.long (p3 / (10 : Int64))), .second, .val (.long (-1 : Int64)), .second] [(.long p3), (.long (p2.toInt64))])) (fun t k => XS.lloadN X0.here hx rfl (hb hby d2_34) rfl k) ?_
        refine own_go (T' := s₁) (g' := (mkF m 38 #[.val (.long p1), .second, .val (.int p2), .val (.long p3), .second, .val (.long (p3 / (10 : Int64))), .second, .val (.long (-1 : Int64)), .second] [(.long (10 : Int64)), (.long p3), (.long (p2.toInt64))])) (X0.ldc2Long hx hown (mvT hZ (hw _ (List.mem_of_getElem? (i := 11) rfl))) (g := (mkF m 35 #[.val (.long p1), .second, .val (.int p2), .val (.long p3), .second, .val (.long (p3 / (10 : Int64))), .second, .val (.long (-1 : Int64)), .second] [(.long p3), (.long (p2.toInt64))])) rfl (hb hby d2_35)) ?_
        refine own_go (T' := s₁) (g' := (mkF m 39 #[.val (.long p1), .second, .val (.int p2), .val (.long p3), .second, .val (.long (p3 / (10 : Int64))), .second, .val (.long (-1 : Int64)), .second] [(.long (p3 - (p3 / (10 : Int64)) * (10 : Int64))), (.long (p2.toInt64))])) (fun t k => XS.lrem X0.here hx rfl (hb hby d2_38) rfl (by decide) k) ?_
        refine own_go (T' := s₁) (g' := (mkF m 40 #[.val (.long p1), .second, .val (.int p2), .val (.long p3), .second, .val (.long (p3 / (10 : Int64))), .second, .val (.long (-1 : Int64)), .second] [(.int (lcmpW (p2.toInt64) (p3 - (p3 / (10 : Int64)) * (10 : Int64))))])) (fun t k => XS.lcmp X0.here hx rfl (hb hby d2_39) rfl k) ?_
        by_cases c40_4 : (p3 - (p3 / (10 : Int64)) * (10 : Int64)) < (p2.toInt64)
        · refine own_go (T' := s₁) (g' := (mkF m 53 #[.val (.long p1), .second, .val (.int p2), .val (.long p3), .second, .val (.long (p3 / (10 : Int64))), .second, .val (.long (-1 : Int64)), .second] [])) (fun t k => XS.ifYes X0.here hx rfl (pc0 := 40) (pc' := 53) rfl (hb hby d2_40) rfl ((if0 _ _).trans (tlt ((lw_gt _ _).mpr c40_4)).2.2.1) (by decide) (by decide) k) ?_
          refine own_go (T' := s₁) (g' := (mkF m 55 #[.val (.long p1), .second, .val (.int p2), .val (.long p3), .second, .val (.long (p3 / (10 : Int64))), .second, .val (.long (-1 : Int64)), .second] [(.long (-1 : Int64))])) (fun t k => XS.lload X0.here hx rfl (hb hby d2_53) rfl k) ?_
          exact own_retJ X0 hx Bd.notSynchronized Bd.returns (hb hby d2_55) ⟨by unfold own_wd; rw [if_neg c15_1, if_neg c22_2, if_pos c29_3, if_pos c40_4], N0, e0⟩ (by decide) (by decide)
        · refine own_go (T' := s₁) (g' := (mkF m 43 #[.val (.long p1), .second, .val (.int p2), .val (.long p3), .second, .val (.long (p3 / (10 : Int64))), .second, .val (.long (-1 : Int64)), .second] [])) (fun t k => XS.ifNo X0.here hx rfl (hb hby d2_40) rfl ((if0 _ _).trans (flt (mt (lw_gt _ _).mp c40_4)).2.2.1) k) ?_
          refine own_go (T' := s₁) (g' := (mkF m 44 #[.val (.long p1), .second, .val (.int p2), .val (.long p3), .second, .val (.long (p3 / (10 : Int64))), .second, .val (.long (-1 : Int64)), .second] [(.long p1)])) (fun t k => XS.lloadN X0.here hx rfl (hb hby d2_43) rfl k) ?_
          refine own_go (T' := s₁) (g' := (mkF m 47 #[.val (.long p1), .second, .val (.int p2), .val (.long p3), .second, .val (.long (p3 / (10 : Int64))), .second, .val (.long (-1 : Int64)), .second] [(.long (10 : Int64)), (.long p1)])) (X0.ldc2Long hx hown (mvT hZ (hw _ (List.mem_of_getElem? (i := 11) rfl))) (g := (mkF m 44 #[.val (.long p1), .second, .val (.int p2), .val (.long p3), .second, .val (.long (p3 / (10 : Int64))), .second, .val (.long (-1 : Int64)), .second] [(.long p1)])) rfl (hb hby d2_44)) ?_
          refine own_go (T' := s₁) (g' := (mkF m 48 #[.val (.long p1), .second, .val (.int p2), .val (.long p3), .second, .val (.long (p3 / (10 : Int64))), .second, .val (.long (-1 : Int64)), .second] [(.long (p1 * (10 : Int64)))])) (fun t k => XS.lmul X0.here hx rfl (hb hby d2_47) rfl k) ?_
          refine own_go (T' := s₁) (g' := (mkF m 49 #[.val (.long p1), .second, .val (.int p2), .val (.long p3), .second, .val (.long (p3 / (10 : Int64))), .second, .val (.long (-1 : Int64)), .second] [(.int p2), (.long (p1 * (10 : Int64)))])) (fun t k => XS.iloadN X0.here hx rfl (hb hby d2_48) rfl k) ?_
          refine own_go (T' := s₁) (g' := (mkF m 50 #[.val (.long p1), .second, .val (.int p2), .val (.long p3), .second, .val (.long (p3 / (10 : Int64))), .second, .val (.long (-1 : Int64)), .second] [(.long (p2.toInt64)), (.long (p1 * (10 : Int64)))])) (fun t k => XS.i2l X0.here hx rfl (hb hby d2_49) rfl k) ?_
          refine own_go (T' := s₁) (g' := (mkF m 51 #[.val (.long p1), .second, .val (.int p2), .val (.long p3), .second, .val (.long (p3 / (10 : Int64))), .second, .val (.long (-1 : Int64)), .second] [(.long ((p1 * (10 : Int64)) + (p2.toInt64)))])) (fun t k => XS.ladd X0.here hx rfl (hb hby d2_50) rfl k) ?_
          refine own_go (T' := s₁) (g' := (mkF m 53 #[.val (.long p1), .second, .val (.int p2), .val (.long p3), .second, .val (.long (p3 / (10 : Int64))), .second, .val (.long ((p1 * (10 : Int64)) + (p2.toInt64))), .second] [])) (fun t k => XS.lstore X0.here hx rfl (hb hby d2_51) rfl (l' := #[.val (.long p1), .second, .val (.int p2), .val (.long p3), .second, .val (.long (p3 / (10 : Int64))), .second, .val (.long ((p1 * (10 : Int64)) + (p2.toInt64))), .second]) rfl k) ?_
          refine own_go (T' := s₁) (g' := (mkF m 55 #[.val (.long p1), .second, .val (.int p2), .val (.long p3), .second, .val (.long (p3 / (10 : Int64))), .second, .val (.long ((p1 * (10 : Int64)) + (p2.toInt64))), .second] [(.long ((p1 * (10 : Int64)) + (p2.toInt64)))])) (fun t k => XS.lload X0.here hx rfl (hb hby d2_53) rfl k) ?_
          exact own_retJ X0 hx Bd.notSynchronized Bd.returns (hb hby d2_55) ⟨by unfold own_wd; rw [if_neg c15_1, if_neg c22_2, if_pos c29_3, if_neg c40_4], N0, e0⟩ (by decide) (by decide)
      · refine own_go (T' := s₁) (g' := (mkF m 53 #[.val (.long p1), .second, .val (.int p2), .val (.long p3), .second, .val (.long (p3 / (10 : Int64))), .second, .val (.long (-1 : Int64)), .second] [])) (fun t k => XS.ifYes X0.here hx rfl (pc0 := 29) (pc' := 53) rfl (hb hby d2_29) rfl ((if0 _ _).trans (feq (mt (lw_eq _ _).mp c29_3)).2) (by decide) (by decide) k) ?_
        refine own_go (T' := s₁) (g' := (mkF m 55 #[.val (.long p1), .second, .val (.int p2), .val (.long p3), .second, .val (.long (p3 / (10 : Int64))), .second, .val (.long (-1 : Int64)), .second] [(.long (-1 : Int64))])) (fun t k => XS.lload X0.here hx rfl (hb hby d2_53) rfl k) ?_
        exact own_retJ X0 hx Bd.notSynchronized Bd.returns (hb hby d2_55) ⟨by unfold own_wd; rw [if_neg c15_1, if_neg c22_2, if_neg c29_3], N0, e0⟩ (by decide) (by decide)
theorem own_eq (v : Int64) (d : Int32) (L : Int64) (hL : 0 ≤ L.toInt) (hd0 : 0 ≤ d.toInt) (hd9 : d.toInt ≤ 9) : own_ref v d L = own_wd v d L := by
  have hLm := Int64.toInt_lt L
  have t10 : (10 : Int64).toInt = 10 := by decide
  have t0 : (0 : Int64).toInt = 0 := by decide
  have a1 : (L / (10 : Int64)).toInt = L.toInt / 10 := by
    rw [Jvm.Kit.i64_div (by rw [t10]; omega), t10, Int.tdiv_eq_ediv_of_nonneg hL]
  have a2 : (L - (L / (10 : Int64)) * (10 : Int64)).toInt = L.toInt % 10 := by
    rw [Jvm.Kit.i64_rem_nonneg hL, t10]
  have a3 : d.toInt64.toInt = d.toInt := Jvm.Kit.i64_of_i32 d
  have a4 : (L - d.toInt64).toInt = L.toInt - d.toInt := by
    rw [Jvm.Kit.i64_sub (by rw [a3]; omega) (by rw [a3]; omega), a3]
  have a5 : d.toInt ≤ L.toInt → ((L - d.toInt64) / (10 : Int64)).toInt = (L.toInt - d.toInt) / 10 := fun h => by
    rw [Jvm.Kit.i64_div (by rw [t10]; omega), t10, a4, Int.tdiv_eq_ediv_of_nonneg (by omega)]
  unfold own_ref own_wd
  repeat' split
  all_goals first | rfl | skip
  all_goals
    exfalso
    simp only [Int64.lt_iff_toInt_lt, ← Int64.toInt_inj, a1, a2, a3, t0] at *
    first | omega | (have a6 := a5 (by omega); omega)
theorem own_lg (z : Int64) : 0 ≤ (z &&& (9223372036854775807 : Int64)).toInt := by
  rw [Jvm.Kit.i64_mask z (9223372036854775807 : Int64) (k := 63) (by decide) (by decide)]; omega
theorem own_dd (z : Int32) : 0 ≤ ((z &&& (2147483647 : Int32)) - ((z &&& (2147483647 : Int32)) / (10 : Int32)) * (10 : Int32)).toInt ∧ ((z &&& (2147483647 : Int32)) - ((z &&& (2147483647 : Int32)) / (10 : Int32)) * (10 : Int32)).toInt ≤ 9 := by
  have h : 0 ≤ (z &&& (2147483647 : Int32)).toInt := by
    rw [Jvm.Kit.i32_mask z (2147483647 : Int32) (k := 31) (by decide) (by decide)]; omega
  rw [irem_eq_mod, Jvm.Kit.i32_rem_nonneg h, show (10 : Int32).toInt = 10 from by decide]
  omega
theorem own_nz (z : Int64) : (z &&& (9223372036854775807 : Int64)) / (10 : Int64) + (1 : Int64) ≠ 0 := by
  have h := own_lg z
  have hm := Int64.toInt_lt (z &&& (9223372036854775807 : Int64))
  have t10 : (10 : Int64).toInt = 10 := by decide
  have t1 : (1 : Int64).toInt = 1 := by decide
  have a1 : ((z &&& (9223372036854775807 : Int64)) / (10 : Int64)).toInt = (z &&& (9223372036854775807 : Int64)).toInt / 10 := by
    rw [Jvm.Kit.i64_div (by rw [t10]; omega), t10, Int.tdiv_eq_ediv_of_nonneg h]
  rw [Ne, ← Int64.toInt_inj, Jvm.Kit.i64_add (by rw [a1, t1]; omega) (by rw [a1, t1]; omega), a1, t1, show (0 : Int64).toInt = 0 from by decide]
  omega
theorem pn_0 : plainName "com/example/matchwright/matchwright/layout/WholeNumberWithDigitPinLaw" = true := by first | (simp [plainName, overriddenIn]; done) | decide +kernel
theorem own_pd0 : parseMethodDescriptor "(JIJ)J" = some ⟨[.long, .int, .long], some .long⟩ := by decide +kernel
theorem ef_0 (m : MethodId) (x0 : Int64) (x1 : Int32) (x2 : Int64) (x3 : Int32) : entryFrame m #[(.long x0), (.int x1), (.long x2), (.int x3)] maxLocals = mkF m 0 #[.val (.long x0), .second, .val (.int x1), .val (.long x2), .second, .val (.int x3), .unset, .unset, .unset, .unset, .unset, .unset, .unset, .unset, .unset, .unset] [] := by first | (simp [entryFrame, mkF, argsToLocals, Value.category, maxLocals]; done) | rfl
def Q0 (Z : State) (p1 : Int64) (p2 : Int32) (p3 : Int64) (p4 : Int32) (h0 : Heap) (n0 : Nat) (v : Option Value) (h : Heap) (L : List Loc) : Prop := v = some (.int 1) ∧ Fr n0 L
set_option maxRecDepth 65536 in
set_option maxHeartbeats 40000000 in
theorem rm0 (l : Launch) (Z : State) (a0 : Array Value) (hw : ∀ d ∈ tables_1, d.before a0 Z = true) (ws : List Jvm.Cond) (p1 : Int64) (p2 : Int32) (p3 : Int64) (p4 : Int32) (h0 : Heap) (n0 : Nat) (Z0 : n0 ≤ h0.size) :
    MetFree l x (head1 (Jvm.Cond.code x code maxLocals ret :: ws) room_1) (fun aa U => aa = #[(.long p1), (.int p2), (.long p3), (.int p4)] ∧ Z.Warmed39 U.vm ∧ U.heap = h0) (fun _ _ _ _ _ => True) (fun _ U o U' => ∃ v L, o = .returned v ∧ Q0 Z p1 p2 p3 p4 h0 n0 v U'.heap L ∧ FrameEnd U o U' L room_1.cells room_1.slots) := by
  refine MetFree.of_bodySF (plainFor_of_name pn_0) hisR ?_
  intro p e s m args below meth c s₁ Bd hml0 hP hK
  obtain ⟨rfl, hZ, hh⟩ := hP
  have hx := Bd.exec
  have hby := Bd.bytes
  have hml : c.maxLocals = 16 := hml0
  have hown : s.vm.findClass "com/example/matchwright/matchwright/layout/WholeNumberWithDigitPinLaw" = some m.cls := findClass_of_methodNamed Bd.named
  have hnm := (name_of_methodNamed Bd.named Bd.method).1
  have X0 : Stand p l e room_1 s m #[(.long p1), (.int p2), (.long p3), (.int p4)] below meth c s₁ [] 0 0 := Stand.of_body Bd
  have e0 : s₁.heap = h0 := by rw [← hh, Bd.state]; rfl
  have N0 := Fr.nil n0
  refine own_enter (QQ := Q0 Z p1 p2 p3 p4 h0 n0) (ef_0 m p1 p2 p3 p4) ?_
  have J90 : ∀ (lg : Int64) (dd mm : Int32) (vv : Int64), own_ref vv dd lg = own_wd vv dd lg → own_Run p e below s (Q0 Z p1 p2 p3 p4 h0 n0) room_1.cells room_1.slots s₁ (mkF m 90 #[.val (.long p1), .second, .val (.int p2), .val (.long p3), .second, .val (.int p4), .val (.long lg), .second, .val (.int dd), .val (.int mm), .val (.long vv), .second, .unset, .unset, .unset, .unset] []) := by
    intro lg dd mm vv hq
    refine own_go (T' := s₁) (g' := (mkF m 92 #[.val (.long p1), .second, .val (.int p2), .val (.long p3), .second, .val (.int p4), .val (.long lg), .second, .val (.int dd), .val (.int mm), .val (.long vv), .second, .unset, .unset, .unset, .unset] [(.long vv)])) (fun t k => XS.lload X0.here hx rfl (hb hby at_90) rfl k) ?_
    refine own_go (T' := s₁) (g' := (mkF m 94 #[.val (.long p1), .second, .val (.int p2), .val (.long p3), .second, .val (.int p4), .val (.long lg), .second, .val (.int dd), .val (.int mm), .val (.long vv), .second, .unset, .unset, .unset, .unset] [(.int dd), (.long vv)])) (fun t k => XS.iload X0.here hx rfl (hb hby at_92) rfl k) ?_
    refine own_go (T' := s₁) (g' := (mkF m 96 #[.val (.long p1), .second, .val (.int p2), .val (.long p3), .second, .val (.int p4), .val (.long lg), .second, .val (.int dd), .val (.int mm), .val (.long vv), .second, .unset, .unset, .unset, .unset] [(.long lg), (.int dd), (.long vv)])) (fun t k => XS.lload X0.here hx rfl (hb hby at_94) rfl k) ?_
    obtain ⟨_, _, ⟨T1, L1, k1, n1⟩, -, X1, ⟨Lc1, hQ1, l1, y1, z1⟩, st1⟩ := Jvm.LawKit.callS X0 hx (y := (⟨"com/example/matchwright/matchwright/layout/WholeNumberWithDigitPinLaw", "reference", "(JIJ)J"⟩ : MethodName)) hown (mvT hZ (hw _ (List.mem_of_getElem? (i := 2) rfl))) (mvT hZ (hw _ (List.mem_of_getElem? (i := 3) rfl))) (mvT hZ (hw _ (List.mem_of_getElem? (i := 4) rfl))) (mvT hZ (hw _ (List.mem_of_getElem? (i := 5) rfl))) (by decide) (backOf (W := 0) (rm1 l Z a0 hw [] vv dd lg h0 n0 Z0) hZ (hw _ (List.mem_of_getElem? (i := 5) rfl)) (hw _ (List.mem_of_getElem? (i := 4) rfl)) (by decide) (by decide)) (g := (mkF m 96 #[.val (.long p1), .second, .val (.int p2), .val (.long p3), .second, .val (.int p4), .val (.long lg), .second, .val (.int dd), .val (.int mm), .val (.long vv), .second, .unset, .unset, .unset, .unset] [(.long lg), (.int dd), (.long vv)])) rfl (by rw [hml]; rfl) (argsL := [(.long vv), (.int dd), (.long lg)]) (rest := []) (lenOf own_pd0 rfl) rfl (by show 2 * 0 + _ ≤ _; exact Nat.le_of_eq rfl) (hb hby at_96) (fun _ _ => ⟨rfl, e0, (by decide : 0 + 0 ≤ _), (by decide : 0 + 0 ≤ _)⟩)
    dsimp only [Pt.U, Pt.locs, Pt.cells, Pt.slots] at X1 l1 y1 z1 st1 hQ1
    subst l1 y1 z1
    obtain ⟨rfl, M1, K1⟩ := hQ1
    have N1 := Fr.app N0 M1
    refine own_go (T' := T1) (g' := (mkF m 99 #[.val (.long p1), .second, .val (.int p2), .val (.long p3), .second, .val (.int p4), .val (.long lg), .second, .val (.int dd), .val (.int mm), .val (.long vv), .second, .unset, .unset, .unset, .unset] [(.long (own_ref vv dd lg))])) (st1) ?_
    refine own_go (T' := T1) (g' := (mkF m 101 #[.val (.long p1), .second, .val (.int p2), .val (.long p3), .second, .val (.int p4), .val (.long lg), .second, .val (.int dd), .val (.int mm), .val (.long vv), .second, .val (.long (own_ref vv dd lg)), .second, .unset, .unset] [])) (fun t k => XS.lstore X1.here hx rfl (hb hby at_99) rfl (l' := #[.val (.long p1), .second, .val (.int p2), .val (.long p3), .second, .val (.int p4), .val (.long lg), .second, .val (.int dd), .val (.int mm), .val (.long vv), .second, .val (.long (own_ref vv dd lg)), .second, .unset, .unset]) rfl k) ?_
    refine own_go (T' := T1) (g' := (mkF m 103 #[.val (.long p1), .second, .val (.int p2), .val (.long p3), .second, .val (.int p4), .val (.long lg), .second, .val (.int dd), .val (.int mm), .val (.long vv), .second, .val (.long (own_ref vv dd lg)), .second, .unset, .unset] [(.long vv)])) (fun t k => XS.lload X1.here hx rfl (hb hby at_101) rfl k) ?_
    refine own_go (T' := T1) (g' := (mkF m 105 #[.val (.long p1), .second, .val (.int p2), .val (.long p3), .second, .val (.int p4), .val (.long lg), .second, .val (.int dd), .val (.int mm), .val (.long vv), .second, .val (.long (own_ref vv dd lg)), .second, .unset, .unset] [(.int dd), (.long vv)])) (fun t k => XS.iload X1.here hx rfl (hb hby at_103) rfl k) ?_
    refine own_go (T' := T1) (g' := (mkF m 107 #[.val (.long p1), .second, .val (.int p2), .val (.long p3), .second, .val (.int p4), .val (.long lg), .second, .val (.int dd), .val (.int mm), .val (.long vv), .second, .val (.long (own_ref vv dd lg)), .second, .unset, .unset] [(.long lg), (.int dd), (.long vv)])) (fun t k => XS.lload X1.here hx rfl (hb hby at_105) rfl k) ?_
    obtain ⟨_, _, ⟨T2, L2, k2, n2⟩, -, X2, ⟨Lc2, hQ2, l2, y2, z2⟩, st2⟩ := Jvm.LawKit.callS X1 hx (y := (⟨"com/example/matchwright/matchwright/layout/WholeNumber", "withDigit", "(JIJ)J"⟩ : MethodName)) hown (mvT hZ (hw _ (List.mem_of_getElem? (i := 7) rfl))) (mvT hZ (hw _ (List.mem_of_getElem? (i := 8) rfl))) (mvT hZ (hw _ (List.mem_of_getElem? (i := 9) rfl))) (mvT hZ (hw _ (List.mem_of_getElem? (i := 10) rfl))) (by decide) (backOf (W := 0) (rm2 l Z a0 hw [] vv dd lg h0 n0 Z0) hZ (hw _ (List.mem_of_getElem? (i := 10) rfl)) (hw _ (List.mem_of_getElem? (i := 9) rfl)) (by decide) (by decide)) (g := (mkF m 107 #[.val (.long p1), .second, .val (.int p2), .val (.long p3), .second, .val (.int p4), .val (.long lg), .second, .val (.int dd), .val (.int mm), .val (.long vv), .second, .val (.long (own_ref vv dd lg)), .second, .unset, .unset] [(.long lg), (.int dd), (.long vv)])) rfl (by rw [hml]; rfl) (argsL := [(.long vv), (.int dd), (.long lg)]) (rest := []) (lenOf own_pd0 rfl) rfl (by show 2 * 0 + _ ≤ _; exact Nat.le_of_eq rfl) (hb hby at_107) (fun _ _ => ⟨rfl, K1, (by decide : 0 + 0 ≤ _), (by decide : 0 + 0 ≤ _)⟩)
    dsimp only [Pt.U, Pt.locs, Pt.cells, Pt.slots] at X2 l2 y2 z2 st2 hQ2
    subst l2 y2 z2
    obtain ⟨rfl, M2, K2⟩ := hQ2
    have N2 := Fr.app N1 M2
    refine own_go (T' := T2) (g' := (mkF m 110 #[.val (.long p1), .second, .val (.int p2), .val (.long p3), .second, .val (.int p4), .val (.long lg), .second, .val (.int dd), .val (.int mm), .val (.long vv), .second, .val (.long (own_ref vv dd lg)), .second, .unset, .unset] [(.long (own_wd vv dd lg))])) (st2) ?_
    refine own_go (T' := T2) (g' := (mkF m 112 #[.val (.long p1), .second, .val (.int p2), .val (.long p3), .second, .val (.int p4), .val (.long lg), .second, .val (.int dd), .val (.int mm), .val (.long vv), .second, .val (.long (own_ref vv dd lg)), .second, .val (.long (own_wd vv dd lg)), .second] [])) (fun t k => XS.lstore X2.here hx rfl (hb hby at_110) rfl (l' := #[.val (.long p1), .second, .val (.int p2), .val (.long p3), .second, .val (.int p4), .val (.long lg), .second, .val (.int dd), .val (.int mm), .val (.long vv), .second, .val (.long (own_ref vv dd lg)), .second, .val (.long (own_wd vv dd lg)), .second]) rfl k) ?_
    refine own_go (T' := T2) (g' := (mkF m 114 #[.val (.long p1), .second, .val (.int p2), .val (.long p3), .second, .val (.int p4), .val (.long lg), .second, .val (.int dd), .val (.int mm), .val (.long vv), .second, .val (.long (own_ref vv dd lg)), .second, .val (.long (own_wd vv dd lg)), .second] [(.long (own_wd vv dd lg))])) (fun t k => XS.lload X2.here hx rfl (hb hby at_112) rfl k) ?_
    refine own_go (T' := T2) (g' := (mkF m 116 #[.val (.long p1), .second, .val (.int p2), .val (.long p3), .second, .val (.int p4), .val (.long lg), .second, .val (.int dd), .val (.int mm), .val (.long vv), .second, .val (.long (own_ref vv dd lg)), .second, .val (.long (own_wd vv dd lg)), .second] [(.long (own_ref vv dd lg)), (.long (own_wd vv dd lg))])) (fun t k => XS.lload X2.here hx rfl (hb hby at_114) rfl k) ?_
    refine own_go (T' := T2) (g' := (mkF m 117 #[.val (.long p1), .second, .val (.int p2), .val (.long p3), .second, .val (.int p4), .val (.long lg), .second, .val (.int dd), .val (.int mm), .val (.long vv), .second, .val (.long (own_ref vv dd lg)), .second, .val (.long (own_wd vv dd lg)), .second] [(.int (lcmpW (own_wd vv dd lg) (own_ref vv dd lg)))])) (fun t k => XS.lcmp X2.here hx rfl (hb hby at_116) rfl k) ?_
    refine own_go (T' := T2) (g' := (mkF m 120 #[.val (.long p1), .second, .val (.int p2), .val (.long p3), .second, .val (.int p4), .val (.long lg), .second, .val (.int dd), .val (.int mm), .val (.long vv), .second, .val (.long (own_ref vv dd lg)), .second, .val (.long (own_wd vv dd lg)), .second] [])) (fun t k => XS.ifNo X2.here hx rfl (hb hby at_117) rfl ((if0 _ _).trans (teq ((lw_eq _ _).mpr hq.symm)).2) k) ?_
    refine own_go (T' := T2) (g' := (mkF m 121 #[.val (.long p1), .second, .val (.int p2), .val (.long p3), .second, .val (.int p4), .val (.long lg), .second, .val (.int dd), .val (.int mm), .val (.long vv), .second, .val (.long (own_ref vv dd lg)), .second, .val (.long (own_wd vv dd lg)), .second] [(.int (1 : Int32))])) (fun t k => XS.iconst X2.here hx rfl (hb hby at_120) k) ?_
    refine own_go (T' := T2) (g' := (mkF m 125 #[.val (.long p1), .second, .val (.int p2), .val (.long p3), .second, .val (.int p4), .val (.long lg), .second, .val (.int dd), .val (.int mm), .val (.long vv), .second, .val (.long (own_ref vv dd lg)), .second, .val (.long (own_wd vv dd lg)), .second] [(.int (1 : Int32))])) (fun t k => XS.goto X2.here hx rfl (pc0 := 121) (pc' := 125) rfl (hb hby at_121) (by decide) (by decide) k) ?_
    exact own_retZ X2 hx Bd.notSynchronized Bd.returns (hb hby at_125) rfl ⟨rfl, N2⟩ (by decide) (by decide)
  refine own_go (T' := s₁) (g' := (mkF m 1 #[.val (.long p1), .second, .val (.int p2), .val (.long p3), .second, .val (.int p4), .unset, .unset, .unset, .unset, .unset, .unset, .unset, .unset, .unset, .unset] [(.long p3)])) (fun t k => XS.lloadN X0.here hx rfl (hb hby at_0) rfl k) ?_
  refine own_go (T' := s₁) (g' := (mkF m 4 #[.val (.long p1), .second, .val (.int p2), .val (.long p3), .second, .val (.int p4), .unset, .unset, .unset, .unset, .unset, .unset, .unset, .unset, .unset, .unset] [(.long (9223372036854775807 : Int64)), (.long p3)])) (X0.ldc2Long hx hown (mvT hZ (hw _ (List.mem_of_getElem? (i := 0) rfl))) (g := (mkF m 1 #[.val (.long p1), .second, .val (.int p2), .val (.long p3), .second, .val (.int p4), .unset, .unset, .unset, .unset, .unset, .unset, .unset, .unset, .unset, .unset] [(.long p3)])) rfl (hb hby at_1)) ?_
  refine own_go (T' := s₁) (g' := (mkF m 5 #[.val (.long p1), .second, .val (.int p2), .val (.long p3), .second, .val (.int p4), .unset, .unset, .unset, .unset, .unset, .unset, .unset, .unset, .unset, .unset] [(.long (p3 &&& (9223372036854775807 : Int64)))])) (fun t k => XS.land X0.here hx rfl (hb hby at_4) rfl k) ?_
  refine own_go (T' := s₁) (g' := (mkF m 7 #[.val (.long p1), .second, .val (.int p2), .val (.long p3), .second, .val (.int p4), .val (.long (p3 &&& (9223372036854775807 : Int64))), .second, .unset, .unset, .unset, .unset, .unset, .unset, .unset, .unset] [])) (fun t k => XS.lstore X0.here hx rfl (hb hby at_5) rfl (l' := #[.val (.long p1), .second, .val (.int p2), .val (.long p3), .second, .val (.int p4), .val (.long (p3 &&& (9223372036854775807 : Int64))), .second, .unset, .unset, .unset, .unset, .unset, .unset, .unset, .unset]) rfl k) ?_
  refine own_go (T' := s₁) (g' := (mkF m 8 #[.val (.long p1), .second, .val (.int p2), .val (.long p3), .second, .val (.int p4), .val (.long (p3 &&& (9223372036854775807 : Int64))), .second, .unset, .unset, .unset, .unset, .unset, .unset, .unset, .unset] [(.int p2)])) (fun t k => XS.iloadN X0.here hx rfl (hb hby at_7) rfl k) ?_
  refine own_go (T' := s₁) (g' := (mkF m 10 #[.val (.long p1), .second, .val (.int p2), .val (.long p3), .second, .val (.int p4), .val (.long (p3 &&& (9223372036854775807 : Int64))), .second, .unset, .unset, .unset, .unset, .unset, .unset, .unset, .unset] [(.int (2147483647 : Int32)), (.int p2)])) (X0.ldcInt hx hown (mvT hZ (hw _ (List.mem_of_getElem? (i := 1) rfl))) (g := (mkF m 8 #[.val (.long p1), .second, .val (.int p2), .val (.long p3), .second, .val (.int p4), .val (.long (p3 &&& (9223372036854775807 : Int64))), .second, .unset, .unset, .unset, .unset, .unset, .unset, .unset, .unset] [(.int p2)])) rfl (hb hby at_8)) ?_
  refine own_go (T' := s₁) (g' := (mkF m 11 #[.val (.long p1), .second, .val (.int p2), .val (.long p3), .second, .val (.int p4), .val (.long (p3 &&& (9223372036854775807 : Int64))), .second, .unset, .unset, .unset, .unset, .unset, .unset, .unset, .unset] [(.int (p2 &&& (2147483647 : Int32)))])) (fun t k => XS.iand X0.here hx rfl (hb hby at_10) rfl k) ?_
  refine own_go (T' := s₁) (g' := (mkF m 13 #[.val (.long p1), .second, .val (.int p2), .val (.long p3), .second, .val (.int p4), .val (.long (p3 &&& (9223372036854775807 : Int64))), .second, .unset, .unset, .unset, .unset, .unset, .unset, .unset, .unset] [(.int (10 : Int32)), (.int (p2 &&& (2147483647 : Int32)))])) (fun t k => XS.bipush X0.here hx rfl (hb hby at_11) k) ?_
  refine own_go (T' := s₁) (g' := (mkF m 14 #[.val (.long p1), .second, .val (.int p2), .val (.long p3), .second, .val (.int p4), .val (.long (p3 &&& (9223372036854775807 : Int64))), .second, .unset, .unset, .unset, .unset, .unset, .unset, .unset, .unset] [(.int ((p2 &&& (2147483647 : Int32)) - ((p2 &&& (2147483647 : Int32)) / (10 : Int32)) * (10 : Int32)))])) (fun t k => XS.irem X0.here hx rfl (hb hby at_13) rfl (by decide) k) ?_
  refine own_go (T' := s₁) (g' := (mkF m 16 #[.val (.long p1), .second, .val (.int p2), .val (.long p3), .second, .val (.int p4), .val (.long (p3 &&& (9223372036854775807 : Int64))), .second, .val (.int ((p2 &&& (2147483647 : Int32)) - ((p2 &&& (2147483647 : Int32)) / (10 : Int32)) * (10 : Int32))), .unset, .unset, .unset, .unset, .unset, .unset, .unset] [])) (fun t k => XS.istore X0.here hx rfl (hb hby at_14) rfl (l' := #[.val (.long p1), .second, .val (.int p2), .val (.long p3), .second, .val (.int p4), .val (.long (p3 &&& (9223372036854775807 : Int64))), .second, .val (.int ((p2 &&& (2147483647 : Int32)) - ((p2 &&& (2147483647 : Int32)) / (10 : Int32)) * (10 : Int32))), .unset, .unset, .unset, .unset, .unset, .unset, .unset]) rfl k) ?_
  refine own_go (T' := s₁) (g' := (mkF m 18 #[.val (.long p1), .second, .val (.int p2), .val (.long p3), .second, .val (.int p4), .val (.long (p3 &&& (9223372036854775807 : Int64))), .second, .val (.int ((p2 &&& (2147483647 : Int32)) - ((p2 &&& (2147483647 : Int32)) / (10 : Int32)) * (10 : Int32))), .unset, .unset, .unset, .unset, .unset, .unset, .unset] [(.int p4)])) (fun t k => XS.iload X0.here hx rfl (hb hby at_16) rfl k) ?_
  refine own_go (T' := s₁) (g' := (mkF m 19 #[.val (.long p1), .second, .val (.int p2), .val (.long p3), .second, .val (.int p4), .val (.long (p3 &&& (9223372036854775807 : Int64))), .second, .val (.int ((p2 &&& (2147483647 : Int32)) - ((p2 &&& (2147483647 : Int32)) / (10 : Int32)) * (10 : Int32))), .unset, .unset, .unset, .unset, .unset, .unset, .unset] [(.int (3 : Int32)), (.int p4)])) (fun t k => XS.iconst X0.here hx rfl (hb hby at_18) k) ?_
  refine own_go (T' := s₁) (g' := (mkF m 20 #[.val (.long p1), .second, .val (.int p2), .val (.long p3), .second, .val (.int p4), .val (.long (p3 &&& (9223372036854775807 : Int64))), .second, .val (.int ((p2 &&& (2147483647 : Int32)) - ((p2 &&& (2147483647 : Int32)) / (10 : Int32)) * (10 : Int32))), .unset, .unset, .unset, .unset, .unset, .unset, .unset] [(.int (p4 &&& (3 : Int32)))])) (fun t k => XS.iand X0.here hx rfl (hb hby at_19) rfl k) ?_
  refine own_go (T' := s₁) (g' := (mkF m 22 #[.val (.long p1), .second, .val (.int p2), .val (.long p3), .second, .val (.int p4), .val (.long (p3 &&& (9223372036854775807 : Int64))), .second, .val (.int ((p2 &&& (2147483647 : Int32)) - ((p2 &&& (2147483647 : Int32)) / (10 : Int32)) * (10 : Int32))), .val (.int (p4 &&& (3 : Int32))), .unset, .unset, .unset, .unset, .unset, .unset] [])) (fun t k => XS.istore X0.here hx rfl (hb hby at_20) rfl (l' := #[.val (.long p1), .second, .val (.int p2), .val (.long p3), .second, .val (.int p4), .val (.long (p3 &&& (9223372036854775807 : Int64))), .second, .val (.int ((p2 &&& (2147483647 : Int32)) - ((p2 &&& (2147483647 : Int32)) / (10 : Int32)) * (10 : Int32))), .val (.int (p4 &&& (3 : Int32))), .unset, .unset, .unset, .unset, .unset, .unset]) rfl k) ?_
  refine own_go (T' := s₁) (g' := (mkF m 24 #[.val (.long p1), .second, .val (.int p2), .val (.long p3), .second, .val (.int p4), .val (.long (p3 &&& (9223372036854775807 : Int64))), .second, .val (.int ((p2 &&& (2147483647 : Int32)) - ((p2 &&& (2147483647 : Int32)) / (10 : Int32)) * (10 : Int32))), .val (.int (p4 &&& (3 : Int32))), .unset, .unset, .unset, .unset, .unset, .unset] [(.int (p4 &&& (3 : Int32)))])) (fun t k => XS.iload X0.here hx rfl (hb hby at_22) rfl k) ?_
  by_cases c24_1 : (p4 &&& (3 : Int32)) = (0 : Int32)
  · refine own_go (T' := s₁) (g' := (mkF m 27 #[.val (.long p1), .second, .val (.int p2), .val (.long p3), .second, .val (.int p4), .val (.long (p3 &&& (9223372036854775807 : Int64))), .second, .val (.int ((p2 &&& (2147483647 : Int32)) - ((p2 &&& (2147483647 : Int32)) / (10 : Int32)) * (10 : Int32))), .val (.int (p4 &&& (3 : Int32))), .unset, .unset, .unset, .unset, .unset, .unset] [])) (fun t k => XS.ifNo X0.here hx rfl (hb hby at_24) rfl ((if0 _ _).trans (teq c24_1).2) k) ?_
    refine own_go (T' := s₁) (g' := (mkF m 28 #[.val (.long p1), .second, .val (.int p2), .val (.long p3), .second, .val (.int p4), .val (.long (p3 &&& (9223372036854775807 : Int64))), .second, .val (.int ((p2 &&& (2147483647 : Int32)) - ((p2 &&& (2147483647 : Int32)) / (10 : Int32)) * (10 : Int32))), .val (.int (p4 &&& (3 : Int32))), .unset, .unset, .unset, .unset, .unset, .unset] [(.long p1)])) (fun t k => XS.lloadN X0.here hx rfl (hb hby at_27) rfl k) ?_
    refine own_go (T' := s₁) (g' := (mkF m 30 #[.val (.long p1), .second, .val (.int p2), .val (.long p3), .second, .val (.int p4), .val (.long (p3 &&& (9223372036854775807 : Int64))), .second, .val (.int ((p2 &&& (2147483647 : Int32)) - ((p2 &&& (2147483647 : Int32)) / (10 : Int32)) * (10 : Int32))), .val (.int (p4 &&& (3 : Int32))), .val (.long p1), .second, .unset, .unset, .unset, .unset] [])) (fun t k => XS.lstore X0.here hx rfl (hb hby at_28) rfl (l' := #[.val (.long p1), .second, .val (.int p2), .val (.long p3), .second, .val (.int p4), .val (.long (p3 &&& (9223372036854775807 : Int64))), .second, .val (.int ((p2 &&& (2147483647 : Int32)) - ((p2 &&& (2147483647 : Int32)) / (10 : Int32)) * (10 : Int32))), .val (.int (p4 &&& (3 : Int32))), .val (.long p1), .second, .unset, .unset, .unset, .unset]) rfl k) ?_
    refine own_go (T' := s₁) (g' := (mkF m 90 #[.val (.long p1), .second, .val (.int p2), .val (.long p3), .second, .val (.int p4), .val (.long (p3 &&& (9223372036854775807 : Int64))), .second, .val (.int ((p2 &&& (2147483647 : Int32)) - ((p2 &&& (2147483647 : Int32)) / (10 : Int32)) * (10 : Int32))), .val (.int (p4 &&& (3 : Int32))), .val (.long p1), .second, .unset, .unset, .unset, .unset] [])) (fun t k => XS.goto X0.here hx rfl (pc0 := 30) (pc' := 90) rfl (hb hby at_30) (by decide) (by decide) k) ?_
    exact J90 _ _ _ _ (own_eq _ _ _ (own_lg p3) (own_dd p2).1 (own_dd p2).2)
  · refine own_go (T' := s₁) (g' := (mkF m 33 #[.val (.long p1), .second, .val (.int p2), .val (.long p3), .second, .val (.int p4), .val (.long (p3 &&& (9223372036854775807 : Int64))), .second, .val (.int ((p2 &&& (2147483647 : Int32)) - ((p2 &&& (2147483647 : Int32)) / (10 : Int32)) * (10 : Int32))), .val (.int (p4 &&& (3 : Int32))), .unset, .unset, .unset, .unset, .unset, .unset] [])) (fun t k => XS.ifYes X0.here hx rfl (pc0 := 24) (pc' := 33) rfl (hb hby at_24) rfl ((if0 _ _).trans (feq c24_1).2) (by decide) (by decide) k) ?_
    refine own_go (T' := s₁) (g' := (mkF m 35 #[.val (.long p1), .second, .val (.int p2), .val (.long p3), .second, .val (.int p4), .val (.long (p3 &&& (9223372036854775807 : Int64))), .second, .val (.int ((p2 &&& (2147483647 : Int32)) - ((p2 &&& (2147483647 : Int32)) / (10 : Int32)) * (10 : Int32))), .val (.int (p4 &&& (3 : Int32))), .unset, .unset, .unset, .unset, .unset, .unset] [(.int (p4 &&& (3 : Int32)))])) (fun t k => XS.iload X0.here hx rfl (hb hby at_33) rfl k) ?_
    refine own_go (T' := s₁) (g' := (mkF m 36 #[.val (.long p1), .second, .val (.int p2), .val (.long p3), .second, .val (.int p4), .val (.long (p3 &&& (9223372036854775807 : Int64))), .second, .val (.int ((p2 &&& (2147483647 : Int32)) - ((p2 &&& (2147483647 : Int32)) / (10 : Int32)) * (10 : Int32))), .val (.int (p4 &&& (3 : Int32))), .unset, .unset, .unset, .unset, .unset, .unset] [(.int (1 : Int32)), (.int (p4 &&& (3 : Int32)))])) (fun t k => XS.iconst X0.here hx rfl (hb hby at_35) k) ?_
    by_cases c36_2 : (p4 &&& (3 : Int32)) = (1 : Int32)
    · refine own_go (T' := s₁) (g' := (mkF m 39 #[.val (.long p1), .second, .val (.int p2), .val (.long p3), .second, .val (.int p4), .val (.long (p3 &&& (9223372036854775807 : Int64))), .second, .val (.int ((p2 &&& (2147483647 : Int32)) - ((p2 &&& (2147483647 : Int32)) / (10 : Int32)) * (10 : Int32))), .val (.int (p4 &&& (3 : Int32))), .unset, .unset, .unset, .unset, .unset, .unset] [])) (fun t k => XS.icmpNo X0.here hx rfl (hb hby at_36) rfl (teq c36_2).2 k) ?_
      refine own_go (T' := s₁) (g' := (mkF m 41 #[.val (.long p1), .second, .val (.int p2), .val (.long p3), .second, .val (.int p4), .val (.long (p3 &&& (9223372036854775807 : Int64))), .second, .val (.int ((p2 &&& (2147483647 : Int32)) - ((p2 &&& (2147483647 : Int32)) / (10 : Int32)) * (10 : Int32))), .val (.int (p4 &&& (3 : Int32))), .unset, .unset, .unset, .unset, .unset, .unset] [(.long (p3 &&& (9223372036854775807 : Int64)))])) (fun t k => XS.lload X0.here hx rfl (hb hby at_39) rfl k) ?_
      refine own_go (T' := s₁) (g' := (mkF m 44 #[.val (.long p1), .second, .val (.int p2), .val (.long p3), .second, .val (.int p4), .val (.long (p3 &&& (9223372036854775807 : Int64))), .second, .val (.int ((p2 &&& (2147483647 : Int32)) - ((p2 &&& (2147483647 : Int32)) / (10 : Int32)) * (10 : Int32))), .val (.int (p4 &&& (3 : Int32))), .unset, .unset, .unset, .unset, .unset, .unset] [(.long (10 : Int64)), (.long (p3 &&& (9223372036854775807 : Int64)))])) (X0.ldc2Long hx hown (mvT hZ (hw _ (List.mem_of_getElem? (i := 6) rfl))) (g := (mkF m 41 #[.val (.long p1), .second, .val (.int p2), .val (.long p3), .second, .val (.int p4), .val (.long (p3 &&& (9223372036854775807 : Int64))), .second, .val (.int ((p2 &&& (2147483647 : Int32)) - ((p2 &&& (2147483647 : Int32)) / (10 : Int32)) * (10 : Int32))), .val (.int (p4 &&& (3 : Int32))), .unset, .unset, .unset, .unset, .unset, .unset] [(.long (p3 &&& (9223372036854775807 : Int64)))])) rfl (hb hby at_41)) ?_
      refine own_go (T' := s₁) (g' := (mkF m 45 #[.val (.long p1), .second, .val (.int p2), .val (.long p3), .second, .val (.int p4), .val (.long (p3 &&& (9223372036854775807 : Int64))), .second, .val (.int ((p2 &&& (2147483647 : Int32)) - ((p2 &&& (2147483647 : Int32)) / (10 : Int32)) * (10 : Int32))), .val (.int (p4 &&& (3 : Int32))), .unset, .unset, .unset, .unset, .unset, .unset] [(.long ((p3 &&& (9223372036854775807 : Int64)) / (10 : Int64)))])) (fun t k => XS.ldiv X0.here hx rfl (hb hby at_44) rfl (by decide) k) ?_
      refine own_go (T' := s₁) (g' := (mkF m 46 #[.val (.long p1), .second, .val (.int p2), .val (.long p3), .second, .val (.int p4), .val (.long (p3 &&& (9223372036854775807 : Int64))), .second, .val (.int ((p2 &&& (2147483647 : Int32)) - ((p2 &&& (2147483647 : Int32)) / (10 : Int32)) * (10 : Int32))), .val (.int (p4 &&& (3 : Int32))), .unset, .unset, .unset, .unset, .unset, .unset] [(.long p1), (.long ((p3 &&& (9223372036854775807 : Int64)) / (10 : Int64)))])) (fun t k => XS.lloadN X0.here hx rfl (hb hby at_45) rfl k) ?_
      refine own_go (T' := s₁) (g' := (mkF m 49 #[.val (.long p1), .second, .val (.int p2), .val (.long p3), .second, .val (.int p4), .val (.long (p3 &&& (9223372036854775807 : Int64))), .second, .val (.int ((p2 &&& (2147483647 : Int32)) - ((p2 &&& (2147483647 : Int32)) / (10 : Int32)) * (10 : Int32))), .val (.int (p4 &&& (3 : Int32))), .unset, .unset, .unset, .unset, .unset, .unset] [(.long (3 : Int64)), (.long p1), (.long ((p3 &&& (9223372036854775807 : Int64)) / (10 : Int64)))])) (X0.ldc2Long hx hown (mvT hZ (hw _ (List.mem_of_getElem? (i := 13) rfl))) (g := (mkF m 46 #[.val (.long p1), .second, .val (.int p2), .val (.long p3), .second, .val (.int p4), .val (.long (p3 &&& (9223372036854775807 : Int64))), .second, .val (.int ((p2 &&& (2147483647 : Int32)) - ((p2 &&& (2147483647 : Int32)) / (10 : Int32)) * (10 : Int32))), .val (.int (p4 &&& (3 : Int32))), .unset, .unset, .unset, .unset, .unset, .unset] [(.long p1), (.long ((p3 &&& (9223372036854775807 : Int64)) / (10 : Int64)))])) rfl (hb hby at_46)) ?_
      refine own_go (T' := s₁) (g' := (mkF m 50 #[.val (.long p1), .second, .val (.int p2), .val (.long p3), .second, .val (.int p4), .val (.long (p3 &&& (9223372036854775807 : Int64))), .second, .val (.int ((p2 &&& (2147483647 : Int32)) - ((p2 &&& (2147483647 : Int32)) / (10 : Int32)) * (10 : Int32))), .val (.int (p4 &&& (3 : Int32))), .unset, .unset, .unset, .unset, .unset, .unset] [(.long (p1 &&& (3 : Int64))), (.long ((p3 &&& (9223372036854775807 : Int64)) / (10 : Int64)))])) (fun t k => XS.land X0.here hx rfl (hb hby at_49) rfl k) ?_
      refine own_go (T' := s₁) (g' := (mkF m 53 #[.val (.long p1), .second, .val (.int p2), .val (.long p3), .second, .val (.int p4), .val (.long (p3 &&& (9223372036854775807 : Int64))), .second, .val (.int ((p2 &&& (2147483647 : Int32)) - ((p2 &&& (2147483647 : Int32)) / (10 : Int32)) * (10 : Int32))), .val (.int (p4 &&& (3 : Int32))), .unset, .unset, .unset, .unset, .unset, .unset] [(.long (2 : Int64)), (.long (p1 &&& (3 : Int64))), (.long ((p3 &&& (9223372036854775807 : Int64)) / (10 : Int64)))])) (X0.ldc2Long hx hown (mvT hZ (hw _ (List.mem_of_getElem? (i := 14) rfl))) (g := (mkF m 50 #[.val (.long p1), .second, .val (.int p2), .val (.long p3), .second, .val (.int p4), .val (.long (p3 &&& (9223372036854775807 : Int64))), .second, .val (.int ((p2 &&& (2147483647 : Int32)) - ((p2 &&& (2147483647 : Int32)) / (10 : Int32)) * (10 : Int32))), .val (.int (p4 &&& (3 : Int32))), .unset, .unset, .unset, .unset, .unset, .unset] [(.long (p1 &&& (3 : Int64))), (.long ((p3 &&& (9223372036854775807 : Int64)) / (10 : Int64)))])) rfl (hb hby at_50)) ?_
      refine own_go (T' := s₁) (g' := (mkF m 54 #[.val (.long p1), .second, .val (.int p2), .val (.long p3), .second, .val (.int p4), .val (.long (p3 &&& (9223372036854775807 : Int64))), .second, .val (.int ((p2 &&& (2147483647 : Int32)) - ((p2 &&& (2147483647 : Int32)) / (10 : Int32)) * (10 : Int32))), .val (.int (p4 &&& (3 : Int32))), .unset, .unset, .unset, .unset, .unset, .unset] [(.long ((p1 &&& (3 : Int64)) - (2 : Int64))), (.long ((p3 &&& (9223372036854775807 : Int64)) / (10 : Int64)))])) (fun t k => XS.lsub X0.here hx rfl (hb hby at_53) rfl k) ?_
      refine own_go (T' := s₁) (g' := (mkF m 55 #[.val (.long p1), .second, .val (.int p2), .val (.long p3), .second, .val (.int p4), .val (.long (p3 &&& (9223372036854775807 : Int64))), .second, .val (.int ((p2 &&& (2147483647 : Int32)) - ((p2 &&& (2147483647 : Int32)) / (10 : Int32)) * (10 : Int32))), .val (.int (p4 &&& (3 : Int32))), .unset, .unset, .unset, .unset, .unset, .unset] [(.long (((p3 &&& (9223372036854775807 : Int64)) / (10 : Int64)) + ((p1 &&& (3 : Int64)) - (2 : Int64))))])) (fun t k => XS.ladd X0.here hx rfl (hb hby at_54) rfl k) ?_
      refine own_go (T' := s₁) (g' := (mkF m 57 #[.val (.long p1), .second, .val (.int p2), .val (.long p3), .second, .val (.int p4), .val (.long (p3 &&& (9223372036854775807 : Int64))), .second, .val (.int ((p2 &&& (2147483647 : Int32)) - ((p2 &&& (2147483647 : Int32)) / (10 : Int32)) * (10 : Int32))), .val (.int (p4 &&& (3 : Int32))), .val (.long (((p3 &&& (9223372036854775807 : Int64)) / (10 : Int64)) + ((p1 &&& (3 : Int64)) - (2 : Int64)))), .second, .unset, .unset, .unset, .unset] [])) (fun t k => XS.lstore X0.here hx rfl (hb hby at_55) rfl (l' := #[.val (.long p1), .second, .val (.int p2), .val (.long p3), .second, .val (.int p4), .val (.long (p3 &&& (9223372036854775807 : Int64))), .second, .val (.int ((p2 &&& (2147483647 : Int32)) - ((p2 &&& (2147483647 : Int32)) / (10 : Int32)) * (10 : Int32))), .val (.int (p4 &&& (3 : Int32))), .val (.long (((p3 &&& (9223372036854775807 : Int64)) / (10 : Int64)) + ((p1 &&& (3 : Int64)) - (2 : Int64)))), .second, .unset, .unset, .unset, .unset]) rfl k) ?_
      refine own_go (T' := s₁) (g' := (mkF m 90 #[.val (.long p1), .second, .val (.int p2), .val (.long p3), .second, .val (.int p4), .val (.long (p3 &&& (9223372036854775807 : Int64))), .second, .val (.int ((p2 &&& (2147483647 : Int32)) - ((p2 &&& (2147483647 : Int32)) / (10 : Int32)) * (10 : Int32))), .val (.int (p4 &&& (3 : Int32))), .val (.long (((p3 &&& (9223372036854775807 : Int64)) / (10 : Int64)) + ((p1 &&& (3 : Int64)) - (2 : Int64)))), .second, .unset, .unset, .unset, .unset] [])) (fun t k => XS.goto X0.here hx rfl (pc0 := 57) (pc' := 90) rfl (hb hby at_57) (by decide) (by decide) k) ?_
      exact J90 _ _ _ _ (own_eq _ _ _ (own_lg p3) (own_dd p2).1 (own_dd p2).2)
    · refine own_go (T' := s₁) (g' := (mkF m 60 #[.val (.long p1), .second, .val (.int p2), .val (.long p3), .second, .val (.int p4), .val (.long (p3 &&& (9223372036854775807 : Int64))), .second, .val (.int ((p2 &&& (2147483647 : Int32)) - ((p2 &&& (2147483647 : Int32)) / (10 : Int32)) * (10 : Int32))), .val (.int (p4 &&& (3 : Int32))), .unset, .unset, .unset, .unset, .unset, .unset] [])) (fun t k => XS.icmpYes X0.here hx rfl (pc0 := 36) (pc' := 60) rfl (hb hby at_36) rfl (feq c36_2).2 (by decide) (by decide) k) ?_
      refine own_go (T' := s₁) (g' := (mkF m 62 #[.val (.long p1), .second, .val (.int p2), .val (.long p3), .second, .val (.int p4), .val (.long (p3 &&& (9223372036854775807 : Int64))), .second, .val (.int ((p2 &&& (2147483647 : Int32)) - ((p2 &&& (2147483647 : Int32)) / (10 : Int32)) * (10 : Int32))), .val (.int (p4 &&& (3 : Int32))), .unset, .unset, .unset, .unset, .unset, .unset] [(.int (p4 &&& (3 : Int32)))])) (fun t k => XS.iload X0.here hx rfl (hb hby at_60) rfl k) ?_
      refine own_go (T' := s₁) (g' := (mkF m 63 #[.val (.long p1), .second, .val (.int p2), .val (.long p3), .second, .val (.int p4), .val (.long (p3 &&& (9223372036854775807 : Int64))), .second, .val (.int ((p2 &&& (2147483647 : Int32)) - ((p2 &&& (2147483647 : Int32)) / (10 : Int32)) * (10 : Int32))), .val (.int (p4 &&& (3 : Int32))), .unset, .unset, .unset, .unset, .unset, .unset] [(.int (2 : Int32)), (.int (p4 &&& (3 : Int32)))])) (fun t k => XS.iconst X0.here hx rfl (hb hby at_62) k) ?_
      by_cases c63_3 : (p4 &&& (3 : Int32)) = (2 : Int32)
      · refine own_go (T' := s₁) (g' := (mkF m 66 #[.val (.long p1), .second, .val (.int p2), .val (.long p3), .second, .val (.int p4), .val (.long (p3 &&& (9223372036854775807 : Int64))), .second, .val (.int ((p2 &&& (2147483647 : Int32)) - ((p2 &&& (2147483647 : Int32)) / (10 : Int32)) * (10 : Int32))), .val (.int (p4 &&& (3 : Int32))), .unset, .unset, .unset, .unset, .unset, .unset] [])) (fun t k => XS.icmpNo X0.here hx rfl (hb hby at_63) rfl (teq c63_3).2 k) ?_
        refine own_go (T' := s₁) (g' := (mkF m 69 #[.val (.long p1), .second, .val (.int p2), .val (.long p3), .second, .val (.int p4), .val (.long (p3 &&& (9223372036854775807 : Int64))), .second, .val (.int ((p2 &&& (2147483647 : Int32)) - ((p2 &&& (2147483647 : Int32)) / (10 : Int32)) * (10 : Int32))), .val (.int (p4 &&& (3 : Int32))), .unset, .unset, .unset, .unset, .unset, .unset] [(.long (-1 : Int64))])) (X0.ldc2Long hx hown (mvT hZ (hw _ (List.mem_of_getElem? (i := 15) rfl))) (g := (mkF m 66 #[.val (.long p1), .second, .val (.int p2), .val (.long p3), .second, .val (.int p4), .val (.long (p3 &&& (9223372036854775807 : Int64))), .second, .val (.int ((p2 &&& (2147483647 : Int32)) - ((p2 &&& (2147483647 : Int32)) / (10 : Int32)) * (10 : Int32))), .val (.int (p4 &&& (3 : Int32))), .unset, .unset, .unset, .unset, .unset, .unset] [])) rfl (hb hby at_66)) ?_
        refine own_go (T' := s₁) (g' := (mkF m 71 #[.val (.long p1), .second, .val (.int p2), .val (.long p3), .second, .val (.int p4), .val (.long (p3 &&& (9223372036854775807 : Int64))), .second, .val (.int ((p2 &&& (2147483647 : Int32)) - ((p2 &&& (2147483647 : Int32)) / (10 : Int32)) * (10 : Int32))), .val (.int (p4 &&& (3 : Int32))), .val (.long (-1 : Int64)), .second, .unset, .unset, .unset, .unset] [])) (fun t k => XS.lstore X0.here hx rfl (hb hby at_69) rfl (l' := #[.val (.long p1), .second, .val (.int p2), .val (.long p3), .second, .val (.int p4), .val (.long (p3 &&& (9223372036854775807 : Int64))), .second, .val (.int ((p2 &&& (2147483647 : Int32)) - ((p2 &&& (2147483647 : Int32)) / (10 : Int32)) * (10 : Int32))), .val (.int (p4 &&& (3 : Int32))), .val (.long (-1 : Int64)), .second, .unset, .unset, .unset, .unset]) rfl k) ?_
        refine own_go (T' := s₁) (g' := (mkF m 90 #[.val (.long p1), .second, .val (.int p2), .val (.long p3), .second, .val (.int p4), .val (.long (p3 &&& (9223372036854775807 : Int64))), .second, .val (.int ((p2 &&& (2147483647 : Int32)) - ((p2 &&& (2147483647 : Int32)) / (10 : Int32)) * (10 : Int32))), .val (.int (p4 &&& (3 : Int32))), .val (.long (-1 : Int64)), .second, .unset, .unset, .unset, .unset] [])) (fun t k => XS.goto X0.here hx rfl (pc0 := 71) (pc' := 90) rfl (hb hby at_71) (by decide) (by decide) k) ?_
        exact J90 _ _ _ _ (own_eq _ _ _ (own_lg p3) (own_dd p2).1 (own_dd p2).2)
      · refine own_go (T' := s₁) (g' := (mkF m 74 #[.val (.long p1), .second, .val (.int p2), .val (.long p3), .second, .val (.int p4), .val (.long (p3 &&& (9223372036854775807 : Int64))), .second, .val (.int ((p2 &&& (2147483647 : Int32)) - ((p2 &&& (2147483647 : Int32)) / (10 : Int32)) * (10 : Int32))), .val (.int (p4 &&& (3 : Int32))), .unset, .unset, .unset, .unset, .unset, .unset] [])) (fun t k => XS.icmpYes X0.here hx rfl (pc0 := 63) (pc' := 74) rfl (hb hby at_63) rfl (feq c63_3).2 (by decide) (by decide) k) ?_
        refine own_go (T' := s₁) (g' := (mkF m 75 #[.val (.long p1), .second, .val (.int p2), .val (.long p3), .second, .val (.int p4), .val (.long (p3 &&& (9223372036854775807 : Int64))), .second, .val (.int ((p2 &&& (2147483647 : Int32)) - ((p2 &&& (2147483647 : Int32)) / (10 : Int32)) * (10 : Int32))), .val (.int (p4 &&& (3 : Int32))), .unset, .unset, .unset, .unset, .unset, .unset] [(.long p1)])) (fun t k => XS.lloadN X0.here hx rfl (hb hby at_74) rfl k) ?_
        refine own_go (T' := s₁) (g' := (mkF m 78 #[.val (.long p1), .second, .val (.int p2), .val (.long p3), .second, .val (.int p4), .val (.long (p3 &&& (9223372036854775807 : Int64))), .second, .val (.int ((p2 &&& (2147483647 : Int32)) - ((p2 &&& (2147483647 : Int32)) / (10 : Int32)) * (10 : Int32))), .val (.int (p4 &&& (3 : Int32))), .unset, .unset, .unset, .unset, .unset, .unset] [(.long (9223372036854775807 : Int64)), (.long p1)])) (X0.ldc2Long hx hown (mvT hZ (hw _ (List.mem_of_getElem? (i := 0) rfl))) (g := (mkF m 75 #[.val (.long p1), .second, .val (.int p2), .val (.long p3), .second, .val (.int p4), .val (.long (p3 &&& (9223372036854775807 : Int64))), .second, .val (.int ((p2 &&& (2147483647 : Int32)) - ((p2 &&& (2147483647 : Int32)) / (10 : Int32)) * (10 : Int32))), .val (.int (p4 &&& (3 : Int32))), .unset, .unset, .unset, .unset, .unset, .unset] [(.long p1)])) rfl (hb hby at_75)) ?_
        refine own_go (T' := s₁) (g' := (mkF m 79 #[.val (.long p1), .second, .val (.int p2), .val (.long p3), .second, .val (.int p4), .val (.long (p3 &&& (9223372036854775807 : Int64))), .second, .val (.int ((p2 &&& (2147483647 : Int32)) - ((p2 &&& (2147483647 : Int32)) / (10 : Int32)) * (10 : Int32))), .val (.int (p4 &&& (3 : Int32))), .unset, .unset, .unset, .unset, .unset, .unset] [(.long (p1 &&& (9223372036854775807 : Int64)))])) (fun t k => XS.land X0.here hx rfl (hb hby at_78) rfl k) ?_
        refine own_go (T' := s₁) (g' := (mkF m 81 #[.val (.long p1), .second, .val (.int p2), .val (.long p3), .second, .val (.int p4), .val (.long (p3 &&& (9223372036854775807 : Int64))), .second, .val (.int ((p2 &&& (2147483647 : Int32)) - ((p2 &&& (2147483647 : Int32)) / (10 : Int32)) * (10 : Int32))), .val (.int (p4 &&& (3 : Int32))), .unset, .unset, .unset, .unset, .unset, .unset] [(.long (p3 &&& (9223372036854775807 : Int64))), (.long (p1 &&& (9223372036854775807 : Int64)))])) (fun t k => XS.lload X0.here hx rfl (hb hby at_79) rfl k) ?_
        refine own_go (T' := s₁) (g' := (mkF m 84 #[.val (.long p1), .second, .val (.int p2), .val (.long p3), .second, .val (.int p4), .val (.long (p3 &&& (9223372036854775807 : Int64))), .second, .val (.int ((p2 &&& (2147483647 : Int32)) - ((p2 &&& (2147483647 : Int32)) / (10 : Int32)) * (10 : Int32))), .val (.int (p4 &&& (3 : Int32))), .unset, .unset, .unset, .unset, .unset, .unset] [(.long (10 : Int64)), (.long (p3 &&& (9223372036854775807 : Int64))), (.long (p1 &&& (9223372036854775807 : Int64)))])) (X0.ldc2Long hx hown (mvT hZ (hw _ (List.mem_of_getElem? (i := 6) rfl))) (g := (mkF m 81 #[.val (.long p1), .second, .val (.int p2), .val (.long p3), .second, .val (.int p4), .val (.long (p3 &&& (9223372036854775807 : Int64))), .second, .val (.int ((p2 &&& (2147483647 : Int32)) - ((p2 &&& (2147483647 : Int32)) / (10 : Int32)) * (10 : Int32))), .val (.int (p4 &&& (3 : Int32))), .unset, .unset, .unset, .unset, .unset, .unset] [(.long (p3 &&& (9223372036854775807 : Int64))), (.long (p1 &&& (9223372036854775807 : Int64)))])) rfl (hb hby at_81)) ?_
        refine own_go (T' := s₁) (g' := (mkF m 85 #[.val (.long p1), .second, .val (.int p2), .val (.long p3), .second, .val (.int p4), .val (.long (p3 &&& (9223372036854775807 : Int64))), .second, .val (.int ((p2 &&& (2147483647 : Int32)) - ((p2 &&& (2147483647 : Int32)) / (10 : Int32)) * (10 : Int32))), .val (.int (p4 &&& (3 : Int32))), .unset, .unset, .unset, .unset, .unset, .unset] [(.long ((p3 &&& (9223372036854775807 : Int64)) / (10 : Int64))), (.long (p1 &&& (9223372036854775807 : Int64)))])) (fun t k => XS.ldiv X0.here hx rfl (hb hby at_84) rfl (by decide) k) ?_
        refine own_go (T' := s₁) (g' := (mkF m 86 #[.val (.long p1), .second, .val (.int p2), .val (.long p3), .second, .val (.int p4), .val (.long (p3 &&& (9223372036854775807 : Int64))), .second, .val (.int ((p2 &&& (2147483647 : Int32)) - ((p2 &&& (2147483647 : Int32)) / (10 : Int32)) * (10 : Int32))), .val (.int (p4 &&& (3 : Int32))), .unset, .unset, .unset, .unset, .unset, .unset] [(.long (1 : Int64)), (.long ((p3 &&& (9223372036854775807 : Int64)) / (10 : Int64))), (.long (p1 &&& (9223372036854775807 : Int64)))])) (fun t k => XS.lconst X0.here hx rfl (hb hby at_85) k) ?_
        refine own_go (T' := s₁) (g' := (mkF m 87 #[.val (.long p1), .second, .val (.int p2), .val (.long p3), .second, .val (.int p4), .val (.long (p3 &&& (9223372036854775807 : Int64))), .second, .val (.int ((p2 &&& (2147483647 : Int32)) - ((p2 &&& (2147483647 : Int32)) / (10 : Int32)) * (10 : Int32))), .val (.int (p4 &&& (3 : Int32))), .unset, .unset, .unset, .unset, .unset, .unset] [(.long (((p3 &&& (9223372036854775807 : Int64)) / (10 : Int64)) + (1 : Int64))), (.long (p1 &&& (9223372036854775807 : Int64)))])) (fun t k => XS.ladd X0.here hx rfl (hb hby at_86) rfl k) ?_
        refine own_go (T' := s₁) (g' := (mkF m 88 #[.val (.long p1), .second, .val (.int p2), .val (.long p3), .second, .val (.int p4), .val (.long (p3 &&& (9223372036854775807 : Int64))), .second, .val (.int ((p2 &&& (2147483647 : Int32)) - ((p2 &&& (2147483647 : Int32)) / (10 : Int32)) * (10 : Int32))), .val (.int (p4 &&& (3 : Int32))), .unset, .unset, .unset, .unset, .unset, .unset] [(.long ((p1 &&& (9223372036854775807 : Int64)) - ((p1 &&& (9223372036854775807 : Int64)) / (((p3 &&& (9223372036854775807 : Int64)) / (10 : Int64)) + (1 : Int64))) * (((p3 &&& (9223372036854775807 : Int64)) / (10 : Int64)) + (1 : Int64))))])) (fun t k => XS.lrem X0.here hx rfl (hb hby at_87) rfl (own_nz p3) k) ?_
        refine own_go (T' := s₁) (g' := (mkF m 90 #[.val (.long p1), .second, .val (.int p2), .val (.long p3), .second, .val (.int p4), .val (.long (p3 &&& (9223372036854775807 : Int64))), .second, .val (.int ((p2 &&& (2147483647 : Int32)) - ((p2 &&& (2147483647 : Int32)) / (10 : Int32)) * (10 : Int32))), .val (.int (p4 &&& (3 : Int32))), .val (.long ((p1 &&& (9223372036854775807 : Int64)) - ((p1 &&& (9223372036854775807 : Int64)) / (((p3 &&& (9223372036854775807 : Int64)) / (10 : Int64)) + (1 : Int64))) * (((p3 &&& (9223372036854775807 : Int64)) / (10 : Int64)) + (1 : Int64)))), .second, .unset, .unset, .unset, .unset] [])) (fun t k => XS.lstore X0.here hx rfl (hb hby at_88) rfl (l' := #[.val (.long p1), .second, .val (.int p2), .val (.long p3), .second, .val (.int p4), .val (.long (p3 &&& (9223372036854775807 : Int64))), .second, .val (.int ((p2 &&& (2147483647 : Int32)) - ((p2 &&& (2147483647 : Int32)) / (10 : Int32)) * (10 : Int32))), .val (.int (p4 &&& (3 : Int32))), .val (.long ((p1 &&& (9223372036854775807 : Int64)) - ((p1 &&& (9223372036854775807 : Int64)) / (((p3 &&& (9223372036854775807 : Int64)) / (10 : Int64)) + (1 : Int64))) * (((p3 &&& (9223372036854775807 : Int64)) / (10 : Int64)) + (1 : Int64)))), .second, .unset, .unset, .unset, .unset]) rfl k) ?_
        exact J90 _ _ _ _ (own_eq _ _ _ (own_lg p3) (own_dd p2).1 (own_dd p2).2)
set_option maxRecDepth 65536 in
set_option maxHeartbeats 40000000 in
theorem comes_1 {Post : Tables → Env → Array Value → State → Outcome → State → Prop} (hpost : ∀ tb e args s v u, (limb_1_1.after args s (.returned v) u = true ∧ limb_1_2.after args s (.returned v) u = true ∧ True) → FrameEnd s (.returned v) u (Jvm.fieldLocs frame_1_writes args s ++ Jvm.arrayLocs frame_1_arrays args s ++ Jvm.staticLocs frame_1_statics s) 0 0 → Post tb e args s (.returned v) u) :
    ArmFor flags0 classFile x code maxLocals ret World_1 tables_1 room_1 Calls_1 rest_1 Pre_1 Post := by
  intro l hfl _ _ p e ha hc hk s m args below hf hA hF happ hP
  obtain ⟨hcalls, hrest, hpre⟩ := hP
  obtain ⟨-, -, -, hnamed, -, -, -, hat⟩ := (Spec.applies_iff hf).mp happ
  obtain ⟨hg, hn⟩ := and_e (Cond.before_iff.mp (show (Jvm.Cond.and given_1 narrow_1).before args s = true from hpre))
  obtain ⟨g0, q0⟩ := and_e hg
  obtain ⟨ga0, q1⟩ := and_e q0
  obtain ⟨ga1, q2⟩ := and_e q1
  obtain ⟨ga2, q3⟩ := and_e q2
  have ga3 := q3
  obtain ⟨w0, w1, w2, w3, rfl⟩ : ∃ w0 w1 w2 w3 : Value, args = #[w0, w1, w2, w3] := by
    have hs : args.size = 4 := by simpa [Cond.value, given_1] using g0
    obtain ⟨L⟩ := args
    match L, hs with
    | [w0, w1, w2, w3], _ => exact ⟨w0, w1, w2, w3, rfl⟩
  have hw := fun d (hd : d ∈ tables_1) => atoms_spec (ws := Jvm.Cond.code x code maxLocals ret :: tables_1) hat d (List.mem_cons_of_mem _ hd)
  obtain ⟨i0, ei0⟩ := isL_v ga0
  obtain rfl : w0 = (.long i0) := Option.some.inj ei0
  obtain ⟨i1, ei1⟩ := is_v ga1
  obtain rfl : w1 = (.int i1) := Option.some.inj ei1
  obtain ⟨i2, ei2⟩ := isL_v ga2
  obtain rfl : w2 = (.long i2) := Option.some.inj ei2
  obtain ⟨i3, ei3⟩ := is_v ga3
  obtain rfl : w3 = (.int i3) := Option.some.inj ei3
  obtain ⟨n, o, h1, h2, h3, _, L, rfl, ⟨rfl, N⟩, hq⟩ := rm0 l s _ hw tables_1 i0 i1 i2 i3 s.heap s.heap.size (Nat.le_refl _) p e ha hc hk s m _ below hf ((Spec.applies_iff_loose hf).mp happ).1 ⟨rfl, State.Warmed39.refl s, rfl⟩ trivial
  refine ⟨n, _, h1, h2, h3, hpost _ _ _ _ _ _ ⟨Cond.after_iff.mpr rfl, Cond.after_iff.mpr (eq_i res_at (Term.int_eval (1)) rfl), trivial⟩ ⟨hq.1, hq.2.1, (hq.2.2.sift fun y hy => Or.inr (N y hy)).mono (by decide) (by decide)⟩⟩
theorem main_1_1 : Claimed_1_1 := comes_1 fun _ _ _ _ _ _ h hF => ⟨h.1, hF⟩
theorem main_1_2 : Claimed_1_2 := comes_1 fun _ _ _ _ _ _ h hF => ⟨h.2.1, hF⟩
end Jvm.Pilot.@@N@@
namespace Jvm.Pilot.@@N@@
open Jvm Jvm.ClassFile Sem Op Lib Jvm.Free Jvm.Stand Jvm.Pilot.@@N@@.Jvm.D
/-! MADE BY PROGRAM (witnessworld.py) out of the Statement's table words and the real class files: 9 classes; the members and pool entries that the words name. The judged class is class 1, her method 1. -/
namespace start1
open Jvm.ClassFile
def u (s : String) : CpInfo := .utf8 (stringToUtf16 s)
/-- a pool by its gaps: so many unusable entries, then the entry; so many at the end -/
def gap : Nat → List CpInfo → List CpInfo
  | 0, r => r
  | n + 1, r => .unusable :: gap n r
def poolList (es : List (Nat × CpInfo)) (last : Nat) : List CpInfo := es.foldr (fun e r => gap e.1 (e.2 :: r)) (gap last [])
def pool (es : List (Nat × CpInfo)) (last : Nat) : Array CpInfo := ⟨poolList es last⟩
def fileOf (pool : Array CpInfo) (this : Nat) (attrs : Array Attribute := #[]) (ms : Array MethodInfo := #[]) (fl : Nat := 33) (sup : Nat := 0) (ifs : Array Nat := #[]) (fds : Array FieldInfo := #[]) : ClassFile where
  minorVersion := 0
  majorVersion := 65
  constantPool := pool
  accessFlags := fl
  thisClass := this
  superClass := sup
  interfaces := ifs
  fields := fds
  methods := ms
  attributes := attrs
def plain (name : String) (sup : Option ClassId) : Class where
  name := name
  kind := .ordinary
  loader := none
  accessFlags := 33
  super := sup
  interfaces := #[]
  cf := none
  fields := #[]
  methods := #[]
  instanceTypes := #[]
  staticTypes := #[]
  resolved := #[]
  callSites := []
  init := .initialized
  statics := none
  mirror := none

def pool0 : Array CpInfo := pool [(5, u "<init>"), (0, u "()V"), (1, .class_ 10), (1, u "java/lang/Object")] 113

def k0m0 : Method := { name := "<init>", desc := "()V", sig := { parameters := [], returnType := none }, accessFlags := 1, code := none }
/-- java/lang/Object -/
def k0 : Class := { plain "java/lang/Object" none with
  accessFlags := 33
  interfaces := #[]
  cf := some (fileOf pool0 8 #[] #[{ accessFlags := 1, nameIndex := 5, descriptorIndex := 6, attributes := #[] }] 33 0 #[] #[])
  fields := #[]
  methods := #[k0m0]
  instanceTypes := #[]
  staticTypes := #[]
  resolved := Array.replicate 124 none
  statics := none }

def pool1 : Array CpInfo := pool [(2, .class_ 4), (1, u "java/lang/Object"), (0, u "<init>"), (0, u "()V"), (2, .long 9223372036854775807), (1, .integer 2147483647), (0, .long 10), (1, .long 3), (1, .long 2), (1, .long 18446744073709551615), (1, .methodref 21 22), (0, .class_ 23), (0, .nameAndType 24 25), (0, u "com/example/matchwright/matchwright/layout/WholeNumberWithDigitPinLaw"), (0, u "reference"), (0, u "(JIJ)J"), (0, .methodref 27 28), (0, .class_ 29), (0, .nameAndType 30 25), (0, u "com/example/matchwright/matchwright/layout/WholeNumber"), (0, u "withDigit"), (2, u "law"), (0, u "(JIJI)Z")] 3

def k1m0 : Method := { name := "<init>", desc := "()V", sig := { parameters := [], returnType := none }, accessFlags := 2, code := none }
def k1c1 : Code := { maxStack := 6, maxLocals := 16, code := code, exceptionTable := #[], attributes := #[] }
def k1m1 : Method := { name := "law", desc := "(JIJI)Z", sig := { parameters := [.long, .int, .long, .int], returnType := some .boolean }, accessFlags := 9, code := some k1c1 }
def k1c2 : Code := { maxStack := 6, maxLocals := 5, code := method_3_code, exceptionTable := #[], attributes := #[] }
def k1m2 : Method := { name := "reference", desc := "(JIJ)J", sig := { parameters := [.long, .int, .long], returnType := some .long }, accessFlags := 10, code := some k1c2 }
/-- com/example/matchwright/matchwright/layout/WholeNumberWithDigitPinLaw -/
def k1 : Class := { plain "com/example/matchwright/matchwright/layout/WholeNumberWithDigitPinLaw" (some 0) with
  accessFlags := 49
  interfaces := #[]
  cf := some (fileOf pool1 21 #[] #[{ accessFlags := 2, nameIndex := 5, descriptorIndex := 6, attributes := #[] }, { accessFlags := 9, nameIndex := 33, descriptorIndex := 34, attributes := #[] }, { accessFlags := 10, nameIndex := 24, descriptorIndex := 25, attributes := #[] }] 49 2 #[] #[])
  fields := #[]
  methods := #[k1m0, k1m1, k1m2]
  instanceTypes := #[]
  staticTypes := #[]
  resolved := Array.replicate 38 none
  statics := none }

def pool2 : Array CpInfo := pool [(2, .class_ 4), (1, u "java/lang/Object"), (0, u "<init>"), (0, u "()V"), (17, .class_ 26), (1, u "com/example/matchwright/matchwright/layout/WholeNumber"), (18, u "withDigit"), (0, u "(JIJ)J"), (14, .long 10), (1, .long 18446744073709551615)] 24

def k2m0 : Method := { name := "<init>", desc := "()V", sig := { parameters := [], returnType := none }, accessFlags := 2, code := none }
def k2c1 : Code := { maxStack := 6, maxLocals := 9, code := prog_61_method_5_code, exceptionTable := #[], attributes := #[] }
def k2m1 : Method := { name := "withDigit", desc := "(JIJ)J", sig := { parameters := [.long, .int, .long], returnType := some .long }, accessFlags := 8, code := some k2c1 }
/-- com/example/matchwright/matchwright/layout/WholeNumber -/
def k2 : Class := { plain "com/example/matchwright/matchwright/layout/WholeNumber" (some 0) with
  accessFlags := 49
  interfaces := #[]
  cf := some (fileOf pool2 24 #[] #[{ accessFlags := 2, nameIndex := 5, descriptorIndex := 6, attributes := #[] }, { accessFlags := 8, nameIndex := 45, descriptorIndex := 46, attributes := #[] }] 49 2 #[] #[])
  fields := #[]
  methods := #[k2m0, k2m1]
  instanceTypes := #[]
  staticTypes := #[]
  resolved := Array.replicate 88 none
  statics := none }

def pool3 : Array CpInfo := pool [(1, u "java/lang/Cloneable"), (0, .class_ 1), (0, u "java/lang/Object"), (0, .class_ 3)] 3

/-- java/lang/Cloneable -/
def k3 : Class := { plain "java/lang/Cloneable" (some 0) with
  accessFlags := 1537
  interfaces := #[]
  cf := some (fileOf pool3 2 #[] #[] 1537 4 #[] #[])
  fields := #[]
  methods := #[]
  instanceTypes := #[]
  staticTypes := #[]
  resolved := Array.replicate 8 none
  statics := none }

def pool4 : Array CpInfo := pool [(1, u "java/io/Serializable"), (0, .class_ 1), (0, u "java/lang/Object"), (0, .class_ 3)] 3

/-- java/io/Serializable -/
def k4 : Class := { plain "java/io/Serializable" (some 0) with
  accessFlags := 1537
  interfaces := #[]
  cf := some (fileOf pool4 2 #[] #[] 1537 4 #[] #[])
  fields := #[]
  methods := #[]
  instanceTypes := #[]
  staticTypes := #[]
  resolved := Array.replicate 8 none
  statics := none }

/-- the primitive byte -/
def k5 : Class := { plain "byte" none with kind := .primitive 'B', accessFlags := 0x411 }
/-- [B -/
def k6 : Class := { plain "[B" (some 0) with kind := .array 5 .byte, interfaces := #[3, 4], accessFlags := 1041 }

/-- the primitive int -/
def k7 : Class := { plain "int" none with kind := .primitive 'I', accessFlags := 0x411 }
/-- [I -/
def k8 : Class := { plain "[I" (some 0) with kind := .array 7 .int, interfaces := #[3, 4], accessFlags := 1041 }

def heap : Heap := #[]
def classes : Array Class := #[k0, k1, k2, k3, k4, k5, k6, k7, k8]
def interned : List (Array UInt16 × Addr) := []
def slotsUsed : Nat := 0
def theMethod : MethodId := ⟨1, 1⟩
def args0 : Array Value := #[.long 5, .int 300, .long 77, .int 3]
def aboutOver (below : List Frame) : State where
  vm := { classes := classes, interned := interned.toArray }
  heap := heap
  slotsUsed := slotsUsed
  threads := #[{ frames := .invoking theMethod args0 :: below }]
def below0 : List Frame := [.native { method := ⟨0, 0⟩, args := #[] }]
def about1 : State := aboutOver below0
def p0 : Program := .bare "" "" ""
def e0 : Env := launch0.env 0 0 0
theorem w_frames : about1.frames = Frame.invoking theMethod args0 :: below0 := rfl
set_option maxRecDepth 65536 in
theorem w_args : argsFit about1.vm theMethod args0 = true := by decide +kernel
set_option maxRecDepth 65536 in
theorem w_heap : heapFits about1 = true := by decide +kernel
set_option maxRecDepth 65536 in
theorem w_runnable : about1.curStatus? = some .runnable := by decide +kernel
set_option maxRecDepth 65536 in
theorem w_alone : about1.alone = true := by decide +kernel
set_option maxRecDepth 65536 in
theorem w_named : about1.methodNamed? x = some theMethod := by decide +kernel
set_option maxRecDepth 65536 in
theorem w_hears : about1.hears theMethod below0 = true := by decide +kernel
set_option maxRecDepth 65536 in
theorem w_ripe : about1.ripe theMethod args0 below0 = true := by decide +kernel
theorem w_running : about1.status = .running := rfl
set_option maxRecDepth 65536 in
theorem w_room : about1.hasRoom e0.platform room_1 = true :=
  launch0.hasRoom_least _ room_1 (by decide +kernel) (by decide +kernel) (by decide +kernel) (by decide +kernel) (by decide +kernel) (by decide +kernel)
theorem allAtoms_all (ts : List Jvm.Cond) (a : Array Jvm.Value) (st : Jvm.State) : (allAtoms ts).before a st = ts.all (fun c => c.before a st) := by
  induction ts with
  | nil => rfl
  | cons c t ih =>
    show (Jvm.Cond.and c (allAtoms t)).before a st = _
    rw [Jvm.Cond.before_and, ih, List.all_cons]
def words1 : List Jvm.Cond := Jvm.Cond.code x code maxLocals ret :: tables_1
/-- a 'code' word, met by the world's own term for the bytes: nothing is compared byte by byte -/
theorem code_word {y : MethodName} {bytes : ByteArray} {mx : Nat} {rt : Option FieldType} {a : Array Value} {s : State} {m : MethodId} {meth : Method} {c : Code} (h1 : s.methodNamed? y = some m) (h2 : s.vm.method? m = some meth) (h3 : meth.code = some c) (h4 : c.code = bytes)
    (h5 : (c.maxLocals == mx && c.exceptionTable.isEmpty && decide (c.maxStack ≤ mostOperands) && decide (meth.sig.returnType = rt) && !meth.locks && decide (parseMethodDescriptor y.desc = some meth.sig)) = true) : (Jvm.Cond.code y bytes mx rt).before a s = true := by
  simp only [Bool.and_eq_true, beq_iff_eq, Bool.not_eq_true', decide_eq_true_eq] at h5
  obtain ⟨⟨⟨⟨⟨g1, g2⟩, g3⟩, g4⟩, g5⟩, g6⟩ := h5
  simp [Cond.before, Cond.holds, Cond.value, h1, h2, h3, h4, g1, g2, g3, g4, g5, g6]
def isCode : Jvm.Cond → Bool
  | .code _ _ _ _ => true
  | _ => false
theorem all_split {L : List Jvm.Cond} {P : Jvm.Cond → Bool} (h1 : L.all (fun c => isCode c || P c) = true) (h2 : ∀ c ∈ L.filter isCode, P c = true) : L.all P = true := by
  refine List.all_eq_true.mpr fun c hc => ?_
  have h := List.all_eq_true.mp h1 c hc
  rcases Bool.eq_false_or_eq_true (isCode c) with hi | hi
  · exact h2 c (List.mem_filter.mpr ⟨hc, hi⟩)
  · simpa [hi] using h
set_option maxRecDepth 65536 in
theorem w_c0 : (Jvm.Cond.code x code maxLocals ret).before args0 about1 = true := code_word (m := ⟨1, 1⟩) (meth := k1m1) (c := k1c1) (by decide +kernel) rfl rfl rfl (by decide +kernel)
set_option maxRecDepth 65536 in
theorem w_c1 : (Jvm.Cond.code ({ cls := "com/example/matchwright/matchwright/layout/WholeNumberWithDigitPinLaw", name := "reference", desc := "(JIJ)J" } : Jvm.MethodName) method_3_code (5 : Nat) (Option.some Jvm.ClassFile.FieldType.long)).before args0 about1 = true := code_word (m := ⟨1, 2⟩) (meth := k1m2) (c := k1c2) (by decide +kernel) rfl rfl rfl (by decide +kernel)
set_option maxRecDepth 65536 in
theorem w_c2 : (Jvm.Cond.code ({ cls := "com/example/matchwright/matchwright/layout/WholeNumber", name := "withDigit", desc := "(JIJ)J" } : Jvm.MethodName) prog_61_method_5_code (9 : Nat) (Option.some Jvm.ClassFile.FieldType.long)).before args0 about1 = true := code_word (m := ⟨2, 1⟩) (meth := k2m1) (c := k2c1) (by decide +kernel) rfl rfl rfl (by decide +kernel)
def codes1 : List Jvm.Cond := [Jvm.Cond.code x code maxLocals ret, Jvm.Cond.code ({ cls := "com/example/matchwright/matchwright/layout/WholeNumberWithDigitPinLaw", name := "reference", desc := "(JIJ)J" } : Jvm.MethodName) method_3_code (5 : Nat) (Option.some Jvm.ClassFile.FieldType.long), Jvm.Cond.code ({ cls := "com/example/matchwright/matchwright/layout/WholeNumber", name := "withDigit", desc := "(JIJ)J" } : Jvm.MethodName) prog_61_method_5_code (9 : Nat) (Option.some Jvm.ClassFile.FieldType.long)]
set_option maxRecDepth 65536 in
theorem codes_eq : words1.filter isCode = codes1 := rfl
theorem w_codes : ∀ c ∈ words1.filter isCode, c.before args0 about1 = true := by
  rw [codes_eq]
  intro c hc
  simp only [codes1, List.mem_cons, List.not_mem_nil, or_false] at hc
  rcases hc with rfl | rfl | rfl
  · exact w_c0
  · exact w_c1
  · exact w_c2
set_option maxRecDepth 65536 in
theorem w_t1 : words1.all (fun c => isCode c || c.before args0 about1) = true := by decide +kernel
theorem w_tables : (allAtoms (Jvm.Cond.code x code maxLocals ret :: tables_1)).before args0 about1 = true := by
  rw [allAtoms_all]
  show words1.all (fun c => c.before args0 about1) = true
  refine all_split ?_ w_codes
  rw [w_t1]
set_option maxRecDepth 65536 in
theorem w_case : (Jvm.Cond.and given_1 narrow_1).before args0 about1 = true := by decide +kernel
theorem w_applies : (headSpec (Jvm.Cond.code x code maxLocals ret :: tables_1) room_1).applies x e0.platform about1 = true :=
  (Spec.applies_iff w_frames).mpr ⟨w_running, w_runnable, w_alone, w_named, w_hears, w_ripe, w_room, w_tables⟩
theorem atStart : AtStart classFile x code maxLocals ret World_1 tables_1 room_1 Calls_1 rest_1 Pre_1 launch0 p0 e0 about1 theMethod args0 below0 :=
  ⟨lists_1, trivial, launch0.admits_env _ _ _, launch0.least_env, fairChoices_fair.cas, fairChoices_fair.clock, w_frames, w_args, w_heap, w_applies, trivial, trivial, w_case⟩
end start1
theorem witness_1 : WitnessClaimed_1 := ⟨start1.p0, start1.e0, start1.about1, start1.theMethod, start1.args0, start1.below0, start1.atStart⟩
end Jvm.Pilot.@@N@@
