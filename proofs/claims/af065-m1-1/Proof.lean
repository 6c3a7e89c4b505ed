import JvmDerived
import JvmDerived.Pilot.@@N@@Statement
import JvmDerived.Pilot.@@N@@Code
set_option linter.unusedVariables false
set_option linter.unusedSimpArgs false
@@BLOCK:NumsL.lean.txt@@
namespace Jvm.Pilot.@@N@@
open Jvm Jvm.ClassFile Sem Op Lib Jvm.Free Jvm.Stand Jvm.LawKit Jvm.RoadKit Bundle Jvm.Pilot.@@N@@.Jvm.D
section Own
variable {p : Program} {l : Launch} {e : Env} {R : Room} {s : State} {m : MethodId} {args : Array Value} {below : List Frame} {meth : Method} {c : Code} {T T' : State} {locs : List Loc} {cells slots : Nat} {QQ : Option Value → Heap → List Loc → Prop} {RC RS : Nat} {g g' : JFrame}
/-- from this frame the run comes to the method's end, and what it leaves is as QQ says -/
def own_Run (p : Program) (e : Env) (below : List Frame) (s : State) (QQ : Option Value → Heap → List Loc → Prop) (RC RS : Nat) (T : State) (g : JFrame) : Prop :=
  ∃ s₂ o, Steps p.tables e below (T.setTop g) s₂ ∧ s₂.status = .running ∧ Ended s₂ below o ∧ ∃ v L, o = .returned v ∧ QQ v s₂.heap L ∧ FrameEnd s o s₂ L RC RS
theorem own_go (h : ∀ t, Steps p.tables e below (T'.setTop g') t → Steps p.tables e below (T.setTop g) t) (r : own_Run p e below s QQ RC RS T' g') : own_Run p e below s QQ RC RS T g := by
  obtain ⟨s₂, o, k, r⟩ := r
  exact ⟨s₂, o, h _ k, r⟩
theorem own_enter {g0 : JFrame} (q : g0 = g) (r : own_Run p e below s QQ RC RS T g) : ∃ s₂ o, Steps p.tables e below (T.setTop g0) s₂ ∧ s₂.status = .running ∧ Ended s₂ below o ∧ ∃ v L, o = .returned v ∧ QQ v s₂.heap L ∧ FrameEnd s o s₂ L RC RS := by
  subst q; exact r
theorem own_retZ (X : Stand p l e R s m args below meth c T locs cells slots) (hx : p.tables.exec = Jvm.exec) (hlk : meth.locks = false) (hret : meth.sig.returnType = some .boolean) {pc : Nat} {Ls : Array Slot} {z : Int32} {rest : List Value} (hd : decode c.code pc = .ok (.ireturn, 1)) (hz : nar .boolean z = z)
    (hQ : QQ (some (.int z)) T.heap locs) (hc : cells ≤ RC) (hs : slots ≤ RS) : own_Run p e below s QQ RC RS T (mkF m pc Ls (.int z :: rest)) := by
  obtain ⟨fs, hr, hrun, hended, hW, hsame⟩ := X.leave (v := some (.int z)) (fun h => by rw [hret] at h; cases h) hlk
  refine ⟨_, _, retN X hx (t := .boolean) hret (by simp) hd (by rw [hz]; exact hr), hrun, hended, _, _, rfl, hQ, ⟨_, rfl⟩, hW, hsame.mono hc hs⟩
theorem own_retI (X : Stand p l e R s m args below meth c T locs cells slots) (hx : p.tables.exec = Jvm.exec) (hlk : meth.locks = false) (hret : meth.sig.returnType = some .int) {pc : Nat} {Ls : Array Slot} {z : Int32} {rest : List Value} (hd : decode c.code pc = .ok (.ireturn, 1))
    (hQ : QQ (some (.int z)) T.heap locs) (hc : cells ≤ RC) (hs : slots ≤ RS) : own_Run p e below s QQ RC RS T (mkF m pc Ls (.int z :: rest)) := by
  obtain ⟨fs, hr, hrun, hended, hW, hsame⟩ := X.leave (v := some (.int z)) (fun h => by rw [hret] at h; cases h) hlk
  refine ⟨_, _, ?_, hrun, hended, _, _, rfl, hQ, ⟨_, rfl⟩, hW, hsame.mono hc hs⟩
  have hm' : T.vm.method? m = some meth := X.method'
  have hn : narrow .int (.int z) = .int z := rfl
  show Steps p.tables e below (T.setTop { method := m, pc := pc, locals := Ls, stack := _ :: rest, locked := none }) _
  jvm_step X.here [X.here.top, hx, hd, hm', hret, hn]
  first | (intro acts; rw [hr _ acts rfl rfl rfl]) | rw [hr _ _ rfl rfl rfl]
  exact Steps.refl _
theorem own_retJ (X : Stand p l e R s m args below meth c T locs cells slots) (hx : p.tables.exec = Jvm.exec) (hlk : meth.locks = false) (hret : meth.sig.returnType = some .long) {pc : Nat} {Ls : Array Slot} {z : Int64} (hd : decode c.code pc = .ok (.lreturn, 1))
    (hQ : QQ (some (.long z)) T.heap locs) (hc : cells ≤ RC) (hs : slots ≤ RS) : own_Run p e below s QQ RC RS T (mkF m pc Ls [.long z]) := by
  obtain ⟨fs, hr, hrun, hended, hW, hsame⟩ := X.leave (v := some (.long z)) (fun h => by rw [hret] at h; cases h) hlk
  exact ⟨_, _, X.lreturnOut hx hret hd hr, hrun, hended, _, _, rfl, hQ, ⟨_, rfl⟩, hW, hsame.mono hc hs⟩
theorem own_retV (X : Stand p l e R s m args below meth c T locs cells slots) (hx : p.tables.exec = Jvm.exec) (hlk : meth.locks = false) (hret : meth.sig.returnType = none) {pc : Nat} {Ls : Array Slot} (hd : decode c.code pc = .ok (.return_, 1))
    (hQ : QQ none T.heap locs) (hc : cells ≤ RC) (hs : slots ≤ RS) : own_Run p e below s QQ RC RS T (mkF m pc Ls []) := by
  obtain ⟨fs, hr, hrun, hended, hW, hsame⟩ := X.leave (v := none) (fun _ => rfl) hlk
  exact ⟨_, _, X.returnOut hx hret hd hr, hrun, hended, _, _, rfl, hQ, ⟨_, rfl⟩, hW, hsame.mono hc hs⟩
theorem own_retA (X : Stand p l e R s m args below meth c T locs cells slots) (hx : p.tables.exec = Jvm.exec) (hlk : meth.locks = false) {ty : FieldType} (hty : ty.isReference = true) (hret : meth.sig.returnType = some ty) {pc : Nat} {Ls : Array Slot} {a : Addr} {rest : List Value} (hd : decode c.code pc = .ok (.areturn, 1))
    (hQ : QQ (some (.ref a)) T.heap locs) (hc : cells ≤ RC) (hs : slots ≤ RS) : own_Run p e below s QQ RC RS T (mkF m pc Ls (.ref a :: rest)) := by
  obtain ⟨fs, hr, hrun, hended, hW, hsame⟩ := X.leave (v := some (.ref a)) (fun h => by rw [hret] at h; cases h) hlk
  refine ⟨_, _, ?_, hrun, hended, _, _, rfl, hQ, ⟨_, rfl⟩, hW, hsame.mono hc hs⟩
  have hm' : T.vm.method? m = some meth := X.method'
  show Steps p.tables e below (T.setTop { method := m, pc := pc, locals := Ls, stack := _ :: rest, locked := none }) _
  jvm_step X.here [X.here.top, hx, hd, hm', hret, hty, Value.isRef]
  first | (intro acts; rw [hr _ acts rfl rfl rfl]) | rw [hr _ _ rfl rfl rfl]
  exact Steps.refl _
end Own
theorem d2_0 : decode prog_108_method_2_code 0 = .ok (.iload_n 0, 1) := by decide +kernel
theorem d2_1 : decode prog_108_method_2_code 1 = .ok (.bipush 9, 2) := by decide +kernel
theorem d2_3 : decode prog_108_method_2_code 3 = .ok (.if_icmp .eq 51, 3) := by decide +kernel
theorem d2_6 : decode prog_108_method_2_code 6 = .ok (.iload_n 0, 1) := by decide +kernel
theorem d2_7 : decode prog_108_method_2_code 7 = .ok (.bipush 10, 2) := by decide +kernel
theorem d2_9 : decode prog_108_method_2_code 9 = .ok (.if_icmp .eq 45, 3) := by decide +kernel
theorem d2_12 : decode prog_108_method_2_code 12 = .ok (.iload_n 0, 1) := by decide +kernel
theorem d2_13 : decode prog_108_method_2_code 13 = .ok (.bipush 13, 2) := by decide +kernel
theorem d2_15 : decode prog_108_method_2_code 15 = .ok (.if_icmp .eq 39, 3) := by decide +kernel
theorem d2_18 : decode prog_108_method_2_code 18 = .ok (.iload_n 0, 1) := by decide +kernel
theorem d2_19 : decode prog_108_method_2_code 19 = .ok (.bipush 32, 2) := by decide +kernel
theorem d2_21 : decode prog_108_method_2_code 21 = .ok (.if_icmp .lt 9, 3) := by decide +kernel
theorem d2_24 : decode prog_108_method_2_code 24 = .ok (.iload_n 0, 1) := by decide +kernel
theorem d2_25 : decode prog_108_method_2_code 25 = .ok (.ldc 7, 2) := by decide +kernel
theorem d2_27 : decode prog_108_method_2_code 27 = .ok (.if_icmp .le 27, 3) := by decide +kernel
theorem d2_30 : decode prog_108_method_2_code 30 = .ok (.iload_n 0, 1) := by decide +kernel
theorem d2_31 : decode prog_108_method_2_code 31 = .ok (.ldc 8, 2) := by decide +kernel
theorem d2_33 : decode prog_108_method_2_code 33 = .ok (.if_icmp .lt 9, 3) := by decide +kernel
theorem d2_36 : decode prog_108_method_2_code 36 = .ok (.iload_n 0, 1) := by decide +kernel
theorem d2_37 : decode prog_108_method_2_code 37 = .ok (.ldc 9, 2) := by decide +kernel
theorem d2_39 : decode prog_108_method_2_code 39 = .ok (.if_icmp .le 15, 3) := by decide +kernel
theorem d2_42 : decode prog_108_method_2_code 42 = .ok (.iload_n 0, 1) := by decide +kernel
theorem d2_43 : decode prog_108_method_2_code 43 = .ok (.ldc 10, 2) := by decide +kernel
theorem d2_45 : decode prog_108_method_2_code 45 = .ok (.if_icmp .lt 13, 3) := by decide +kernel
theorem d2_48 : decode prog_108_method_2_code 48 = .ok (.iload_n 0, 1) := by decide +kernel
theorem d2_49 : decode prog_108_method_2_code 49 = .ok (.ldc 11, 2) := by decide +kernel
theorem d2_51 : decode prog_108_method_2_code 51 = .ok (.if_icmp .gt 7, 3) := by decide +kernel
theorem d2_54 : decode prog_108_method_2_code 54 = .ok (.iconst 1, 1) := by decide +kernel
theorem d2_55 : decode prog_108_method_2_code 55 = .ok (.goto 4, 3) := by decide +kernel
theorem d2_58 : decode prog_108_method_2_code 58 = .ok (.iconst 0, 1) := by decide +kernel
theorem d2_59 : decode prog_108_method_2_code 59 = .ok (.ireturn, 1) := by decide +kernel
theorem pn_2 : plainName "com/example/noddle/noddle/xml/Characters" = true := by first | (simp [plainName, overriddenIn]; done) | decide +kernel
theorem ef_2 (m : MethodId) (x0 : Int32) : entryFrame m #[(.int x0)] 1 = mkF m 0 #[.val (.int x0)] [] := by first | (simp [entryFrame, mkF, argsToLocals, Value.category]; done) | rfl
def own_isChar (p1 : Int32) : Int32 :=
  if p1 = (9 : Int32) then (1 : Int32) else
  if p1 = (10 : Int32) then (1 : Int32) else
  if p1 = (13 : Int32) then (1 : Int32) else
  if p1 < (32 : Int32) then (if p1 < (57344 : Int32) then (if p1 < (65536 : Int32) then (0 : Int32) else
      if (1114111 : Int32) < p1 then (0 : Int32) else
      (1 : Int32)) else
    if (65533 : Int32) < p1 then (if p1 < (65536 : Int32) then (0 : Int32) else
      if (1114111 : Int32) < p1 then (0 : Int32) else
      (1 : Int32)) else
    (1 : Int32)) else
  if (55295 : Int32) < p1 then (if p1 < (57344 : Int32) then (if p1 < (65536 : Int32) then (0 : Int32) else
      if (1114111 : Int32) < p1 then (0 : Int32) else
      (1 : Int32)) else
    if (65533 : Int32) < p1 then (if p1 < (65536 : Int32) then (0 : Int32) else
      if (1114111 : Int32) < p1 then (0 : Int32) else
      (1 : Int32)) else
    (1 : Int32)) else
  (1 : Int32)
def Q2 (Z : State) (p1 : Int32) (h0 : Heap) (n0 : Nat) (v : Option Value) (h : Heap) (L : List Loc) : Prop := v = some (.int (own_isChar p1)) ∧ Fr n0 L ∧ h = h0
set_option maxRecDepth 65536 in
set_option maxHeartbeats 40000000 in
theorem rm2 (l : Launch) (Z : State) (a0 : Array Value) (hw : ∀ d ∈ tables_1, d.before a0 Z = true) (ws : List Jvm.Cond) (p1 : Int32) (h0 : Heap) (n0 : Nat) (Z0 : n0 ≤ h0.size) :
    MetFree l (⟨"com/example/noddle/noddle/xml/Characters", "isChar", "(I)Z"⟩ : MethodName) (head1 (Jvm.Cond.code (⟨"com/example/noddle/noddle/xml/Characters", "isChar", "(I)Z"⟩ : MethodName) prog_108_method_2_code 1 (some .boolean) :: ws) ({ frames := 0, cells := 0, slots := 0, locals := 0 } : Room)) (fun aa U => aa = #[(.int p1)] ∧ Z.Warmed39 U.vm ∧ U.heap = h0) (fun _ _ _ _ _ => True) (fun _ U o U' => ∃ v L, o = .returned v ∧ Q2 Z p1 h0 n0 v U'.heap L ∧ FrameEnd U o U' L ({ frames := 0, cells := 0, slots := 0, locals := 0 } : Room).cells ({ frames := 0, cells := 0, slots := 0, locals := 0 } : Room).slots) := by
  refine MetFree.of_bodySF (plainFor_of_name pn_2) hisR ?_
  intro p e s m args below meth c s₁ Bd hml0 hP hK
  obtain ⟨rfl, hZ, hh⟩ := hP
  have hx := Bd.exec
  have hby := Bd.bytes
  have hml : c.maxLocals = 1 := hml0
  have hown : s.vm.findClass "com/example/noddle/noddle/xml/Characters" = some m.cls := findClass_of_methodNamed Bd.named
  have hnm := (name_of_methodNamed Bd.named Bd.method).1
  have X0 : Stand p l e ({ frames := 0, cells := 0, slots := 0, locals := 0 } : Room) s m #[(.int p1)] below meth c s₁ [] 0 0 := Stand.of_body Bd
  have e0 : s₁.heap = h0 := by rw [← hh, Bd.state]; rfl
  have N0 := Fr.nil n0
  refine own_enter (QQ := Q2 Z p1 h0 n0) (ef_2 m p1) ?_
  refine own_go (T' := s₁) (g' := (mkF m 1 #[.val (.int p1)] [(.int p1)])) (fun t k => XS.iloadN X0.here hx rfl (hb hby d2_0) rfl k) ?_
  refine own_go (T' := s₁) (g' := (mkF m 3 #[.val (.int p1)] [(.int (9 : Int32)), (.int p1)])) (fun t k => XS.bipush X0.here hx rfl (hb hby d2_1) k) ?_
  by_cases c3_1 : p1 = (9 : Int32)
  · refine own_go (T' := s₁) (g' := (mkF m 54 #[.val (.int p1)] [])) (fun t k => XS.icmpYes X0.here hx rfl (pc0 := 3) (pc' := 54) rfl (hb hby d2_3) rfl (teq c3_1).1 (by decide) (by decide) k) ?_
    refine own_go (T' := s₁) (g' := (mkF m 55 #[.val (.int p1)] [(.int (1 : Int32))])) (fun t k => XS.iconst X0.here hx rfl (hb hby d2_54) k) ?_
    refine own_go (T' := s₁) (g' := (mkF m 59 #[.val (.int p1)] [(.int (1 : Int32))])) (fun t k => XS.goto X0.here hx rfl (pc0 := 55) (pc' := 59) rfl (hb hby d2_55) (by decide) (by decide) k) ?_
    exact own_retZ X0 hx Bd.notSynchronized Bd.returns (hb hby d2_59) rfl ⟨by unfold own_isChar; rw [if_pos c3_1], N0, e0⟩ (by decide) (by decide)
  · refine own_go (T' := s₁) (g' := (mkF m 6 #[.val (.int p1)] [])) (fun t k => XS.icmpNo X0.here hx rfl (hb hby d2_3) rfl (feq c3_1).1 k) ?_
    refine own_go (T' := s₁) (g' := (mkF m 7 #[.val (.int p1)] [(.int p1)])) (fun t k => XS.iloadN X0.here hx rfl (hb hby d2_6) rfl k) ?_
    refine own_go (T' := s₁) (g' := (mkF m 9 #[.val (.int p1)] [(.int (10 : Int32)), (.int p1)])) (fun t k => XS.bipush X0.here hx rfl (hb hby d2_7) k) ?_
    by_cases c9_2 : p1 = (10 : Int32)
    · refine own_go (T' := s₁) (g' := (mkF m 54 #[.val (.int p1)] [])) (fun t k => XS.icmpYes X0.here hx rfl (pc0 := 9) (pc' := 54) rfl (hb hby d2_9) rfl (teq c9_2).1 (by decide) (by decide) k) ?_
      refine own_go (T' := s₁) (g' := (mkF m 55 #[.val (.int p1)] [(.int (1 : Int32))])) (fun t k => XS.iconst X0.here hx rfl (hb hby d2_54) k) ?_
      refine own_go (T' := s₁) (g' := (mkF m 59 #[.val (.int p1)] [(.int (1 : Int32))])) (fun t k => XS.goto X0.here hx rfl (pc0 := 55) (pc' := 59) rfl (hb hby d2_55) (by decide) (by decide) k) ?_
      exact own_retZ X0 hx Bd.notSynchronized Bd.returns (hb hby d2_59) rfl ⟨by unfold own_isChar; rw [if_neg c3_1, if_pos c9_2], N0, e0⟩ (by decide) (by decide)
    · refine own_go (T' := s₁) (g' := (mkF m 12 #[.val (.int p1)] [])) (fun t k => XS.icmpNo X0.here hx rfl (hb hby d2_9) rfl (feq c9_2).1 k) ?_
      refine own_go (T' := s₁) (g' := (mkF m 13 #[.val (.int p1)] [(.int p1)])) (fun t k => XS.iloadN X0.here hx rfl (hb hby d2_12) rfl k) ?_
      refine own_go (T' := s₁) (g' := (mkF m 15 #[.val (.int p1)] [(.int (13 : Int32)), (.int p1)])) (fun t k => XS.bipush X0.here hx rfl (hb hby d2_13) k) ?_
      by_cases c15_3 : p1 = (13 : Int32)
      · refine own_go (T' := s₁) (g' := (mkF m 54 #[.val (.int p1)] [])) (fun t k => XS.icmpYes X0.here hx rfl (pc0 := 15) (pc' := 54) rfl (hb hby d2_15) rfl (teq c15_3).1 (by decide) (by decide) k) ?_
        refine own_go (T' := s₁) (g' := (mkF m 55 #[.val (.int p1)] [(.int (1 : Int32))])) (fun t k => XS.iconst X0.here hx rfl (hb hby d2_54) k) ?_
        refine own_go (T' := s₁) (g' := (mkF m 59 #[.val (.int p1)] [(.int (1 : Int32))])) (fun t k => XS.goto X0.here hx rfl (pc0 := 55) (pc' := 59) rfl (hb hby d2_55) (by decide) (by decide) k) ?_
        exact own_retZ X0 hx Bd.notSynchronized Bd.returns (hb hby d2_59) rfl ⟨by unfold own_isChar; rw [if_neg c3_1, if_neg c9_2, if_pos c15_3], N0, e0⟩ (by decide) (by decide)
      · refine own_go (T' := s₁) (g' := (mkF m 18 #[.val (.int p1)] [])) (fun t k => XS.icmpNo X0.here hx rfl (hb hby d2_15) rfl (feq c15_3).1 k) ?_
        refine own_go (T' := s₁) (g' := (mkF m 19 #[.val (.int p1)] [(.int p1)])) (fun t k => XS.iloadN X0.here hx rfl (hb hby d2_18) rfl k) ?_
        refine own_go (T' := s₁) (g' := (mkF m 21 #[.val (.int p1)] [(.int (32 : Int32)), (.int p1)])) (fun t k => XS.bipush X0.here hx rfl (hb hby d2_19) k) ?_
        by_cases c21_4 : p1 < (32 : Int32)
        · refine own_go (T' := s₁) (g' := (mkF m 30 #[.val (.int p1)] [])) (fun t k => XS.icmpYes X0.here hx rfl (pc0 := 21) (pc' := 30) rfl (hb hby d2_21) rfl (tlt c21_4).1 (by decide) (by decide) k) ?_
          refine own_go (T' := s₁) (g' := (mkF m 31 #[.val (.int p1)] [(.int p1)])) (fun t k => XS.iloadN X0.here hx rfl (hb hby d2_30) rfl k) ?_
          refine own_go (T' := s₁) (g' := (mkF m 33 #[.val (.int p1)] [(.int (57344 : Int32)), (.int p1)])) (X0.ldcInt hx hown (mvT hZ (hw _ (List.mem_of_getElem? (i := 19) rfl))) (g := (mkF m 31 #[.val (.int p1)] [(.int p1)])) rfl (hb hby d2_31)) ?_
          by_cases c33_5 : p1 < (57344 : Int32)
          · refine own_go (T' := s₁) (g' := (mkF m 42 #[.val (.int p1)] [])) (fun t k => XS.icmpYes X0.here hx rfl (pc0 := 33) (pc' := 42) rfl (hb hby d2_33) rfl (tlt c33_5).1 (by decide) (by decide) k) ?_
            refine own_go (T' := s₁) (g' := (mkF m 43 #[.val (.int p1)] [(.int p1)])) (fun t k => XS.iloadN X0.here hx rfl (hb hby d2_42) rfl k) ?_
            refine own_go (T' := s₁) (g' := (mkF m 45 #[.val (.int p1)] [(.int (65536 : Int32)), (.int p1)])) (X0.ldcInt hx hown (mvT hZ (hw _ (List.mem_of_getElem? (i := 20) rfl))) (g := (mkF m 43 #[.val (.int p1)] [(.int p1)])) rfl (hb hby d2_43)) ?_
            by_cases c45_6 : p1 < (65536 : Int32)
            · refine own_go (T' := s₁) (g' := (mkF m 58 #[.val (.int p1)] [])) (fun t k => XS.icmpYes X0.here hx rfl (pc0 := 45) (pc' := 58) rfl (hb hby d2_45) rfl (tlt c45_6).1 (by decide) (by decide) k) ?_
              refine own_go (T' := s₁) (g' := (mkF m 59 #[.val (.int p1)] [(.int (0 : Int32))])) (fun t k => XS.iconst X0.here hx rfl (hb hby d2_58) k) ?_
              exact own_retZ X0 hx Bd.notSynchronized Bd.returns (hb hby d2_59) rfl ⟨by unfold own_isChar; rw [if_neg c3_1, if_neg c9_2, if_neg c15_3, if_pos c21_4, if_pos c33_5, if_pos c45_6], N0, e0⟩ (by decide) (by decide)
            · refine own_go (T' := s₁) (g' := (mkF m 48 #[.val (.int p1)] [])) (fun t k => XS.icmpNo X0.here hx rfl (hb hby d2_45) rfl (flt c45_6).1 k) ?_
              refine own_go (T' := s₁) (g' := (mkF m 49 #[.val (.int p1)] [(.int p1)])) (fun t k => XS.iloadN X0.here hx rfl (hb hby d2_48) rfl k) ?_
              refine own_go (T' := s₁) (g' := (mkF m 51 #[.val (.int p1)] [(.int (1114111 : Int32)), (.int p1)])) (X0.ldcInt hx hown (mvT hZ (hw _ (List.mem_of_getElem? (i := 27) rfl))) (g := (mkF m 49 #[.val (.int p1)] [(.int p1)])) rfl (hb hby d2_49)) ?_
              by_cases c51_7 : (1114111 : Int32) < p1
              · refine own_go (T' := s₁) (g' := (mkF m 58 #[.val (.int p1)] [])) (fun t k => XS.icmpYes X0.here hx rfl (pc0 := 51) (pc' := 58) rfl (hb hby d2_51) rfl (tlt c51_7).2.2.1 (by decide) (by decide) k) ?_
                refine own_go (T' := s₁) (g' := (mkF m 59 #[.val (.int p1)] [(.int (0 : Int32))])) (fun t k => XS.iconst X0.here hx rfl (hb hby d2_58) k) ?_
                exact own_retZ X0 hx Bd.notSynchronized Bd.returns (hb hby d2_59) rfl ⟨by unfold own_isChar; rw [if_neg c3_1, if_neg c9_2, if_neg c15_3, if_pos c21_4, if_pos c33_5, if_neg c45_6, if_pos c51_7], N0, e0⟩ (by decide) (by decide)
              · refine own_go (T' := s₁) (g' := (mkF m 54 #[.val (.int p1)] [])) (fun t k => XS.icmpNo X0.here hx rfl (hb hby d2_51) rfl (flt c51_7).2.2.1 k) ?_
                refine own_go (T' := s₁) (g' := (mkF m 55 #[.val (.int p1)] [(.int (1 : Int32))])) (fun t k => XS.iconst X0.here hx rfl (hb hby d2_54) k) ?_
                refine own_go (T' := s₁) (g' := (mkF m 59 #[.val (.int p1)] [(.int (1 : Int32))])) (fun t k => XS.goto X0.here hx rfl (pc0 := 55) (pc' := 59) rfl (hb hby d2_55) (by decide) (by decide) k) ?_
                exact own_retZ X0 hx Bd.notSynchronized Bd.returns (hb hby d2_59) rfl ⟨by unfold own_isChar; rw [if_neg c3_1, if_neg c9_2, if_neg c15_3, if_pos c21_4, if_pos c33_5, if_neg c45_6, if_neg c51_7], N0, e0⟩ (by decide) (by decide)
          · refine own_go (T' := s₁) (g' := (mkF m 36 #[.val (.int p1)] [])) (fun t k => XS.icmpNo X0.here hx rfl (hb hby d2_33) rfl (flt c33_5).1 k) ?_
            refine own_go (T' := s₁) (g' := (mkF m 37 #[.val (.int p1)] [(.int p1)])) (fun t k => XS.iloadN X0.here hx rfl (hb hby d2_36) rfl k) ?_
            refine own_go (T' := s₁) (g' := (mkF m 39 #[.val (.int p1)] [(.int (65533 : Int32)), (.int p1)])) (X0.ldcInt hx hown (mvT hZ (hw _ (List.mem_of_getElem? (i := 26) rfl))) (g := (mkF m 37 #[.val (.int p1)] [(.int p1)])) rfl (hb hby d2_37)) ?_
            by_cases c39_8 : (65533 : Int32) < p1
            · refine own_go (T' := s₁) (g' := (mkF m 42 #[.val (.int p1)] [])) (fun t k => XS.icmpNo X0.here hx rfl (hb hby d2_39) rfl (tlt c39_8).2.2.2 k) ?_
              refine own_go (T' := s₁) (g' := (mkF m 43 #[.val (.int p1)] [(.int p1)])) (fun t k => XS.iloadN X0.here hx rfl (hb hby d2_42) rfl k) ?_
              refine own_go (T' := s₁) (g' := (mkF m 45 #[.val (.int p1)] [(.int (65536 : Int32)), (.int p1)])) (X0.ldcInt hx hown (mvT hZ (hw _ (List.mem_of_getElem? (i := 20) rfl))) (g := (mkF m 43 #[.val (.int p1)] [(.int p1)])) rfl (hb hby d2_43)) ?_
              by_cases c45_9 : p1 < (65536 : Int32)
              · refine own_go (T' := s₁) (g' := (mkF m 58 #[.val (.int p1)] [])) (fun t k => XS.icmpYes X0.here hx rfl (pc0 := 45) (pc' := 58) rfl (hb hby d2_45) rfl (tlt c45_9).1 (by decide) (by decide) k) ?_
                refine own_go (T' := s₁) (g' := (mkF m 59 #[.val (.int p1)] [(.int (0 : Int32))])) (fun t k => XS.iconst X0.here hx rfl (hb hby d2_58) k) ?_
                exact own_retZ X0 hx Bd.notSynchronized Bd.returns (hb hby d2_59) rfl ⟨by unfold own_isChar; rw [if_neg c3_1, if_neg c9_2, if_neg c15_3, if_pos c21_4, if_neg c33_5, if_pos c39_8, if_pos c45_9], N0, e0⟩ (by decide) (by decide)
              · refine own_go (T' := s₁) (g' := (mkF m 48 #[.val (.int p1)] [])) (fun t k => XS.icmpNo X0.here hx rfl (hb hby d2_45) rfl (flt c45_9).1 k) ?_
                refine own_go (T' := s₁) (g' := (mkF m 49 #[.val (.int p1)] [(.int p1)])) (fun t k => XS.iloadN X0.here hx rfl (hb hby d2_48) rfl k) ?_
                refine own_go (T' := s₁) (g' := (mkF m 51 #[.val (.int p1)] [(.int (1114111 : Int32)), (.int p1)])) (X0.ldcInt hx hown (mvT hZ (hw _ (List.mem_of_getElem? (i := 27) rfl))) (g := (mkF m 49 #[.val (.int p1)] [(.int p1)])) rfl (hb hby d2_49)) ?_
                by_cases c51_10 : (1114111 : Int32) < p1
                · refine own_go (T' := s₁) (g' := (mkF m 58 #[.val (.int p1)] [])) (fun t k => XS.icmpYes X0.here hx rfl (pc0 := 51) (pc' := 58) rfl (hb hby d2_51) rfl (tlt c51_10).2.2.1 (by decide) (by decide) k) ?_
                  refine own_go (T' := s₁) (g' := (mkF m 59 #[.val (.int p1)] [(.int (0 : Int32))])) (fun t k => XS.iconst X0.here hx rfl (hb hby d2_58) k) ?_
                  exact own_retZ X0 hx Bd.notSynchronized Bd.returns (hb hby d2_59) rfl ⟨by unfold own_isChar; rw [if_neg c3_1, if_neg c9_2, if_neg c15_3, if_pos c21_4, if_neg c33_5, if_pos c39_8, if_neg c45_9, if_pos c51_10], N0, e0⟩ (by decide) (by decide)
                · refine own_go (T' := s₁) (g' := (mkF m 54 #[.val (.int p1)] [])) (fun t k => XS.icmpNo X0.here hx rfl (hb hby d2_51) rfl (flt c51_10).2.2.1 k) ?_
                  refine own_go (T' := s₁) (g' := (mkF m 55 #[.val (.int p1)] [(.int (1 : Int32))])) (fun t k => XS.iconst X0.here hx rfl (hb hby d2_54) k) ?_
                  refine own_go (T' := s₁) (g' := (mkF m 59 #[.val (.int p1)] [(.int (1 : Int32))])) (fun t k => XS.goto X0.here hx rfl (pc0 := 55) (pc' := 59) rfl (hb hby d2_55) (by decide) (by decide) k) ?_
                  exact own_retZ X0 hx Bd.notSynchronized Bd.returns (hb hby d2_59) rfl ⟨by unfold own_isChar; rw [if_neg c3_1, if_neg c9_2, if_neg c15_3, if_pos c21_4, if_neg c33_5, if_pos c39_8, if_neg c45_9, if_neg c51_10], N0, e0⟩ (by decide) (by decide)
            · refine own_go (T' := s₁) (g' := (mkF m 54 #[.val (.int p1)] [])) (fun t k => XS.icmpYes X0.here hx rfl (pc0 := 39) (pc' := 54) rfl (hb hby d2_39) rfl (flt c39_8).2.2.2 (by decide) (by decide) k) ?_
              refine own_go (T' := s₁) (g' := (mkF m 55 #[.val (.int p1)] [(.int (1 : Int32))])) (fun t k => XS.iconst X0.here hx rfl (hb hby d2_54) k) ?_
              refine own_go (T' := s₁) (g' := (mkF m 59 #[.val (.int p1)] [(.int (1 : Int32))])) (fun t k => XS.goto X0.here hx rfl (pc0 := 55) (pc' := 59) rfl (hb hby d2_55) (by decide) (by decide) k) ?_
              exact own_retZ X0 hx Bd.notSynchronized Bd.returns (hb hby d2_59) rfl ⟨by unfold own_isChar; rw [if_neg c3_1, if_neg c9_2, if_neg c15_3, if_pos c21_4, if_neg c33_5, if_neg c39_8], N0, e0⟩ (by decide) (by decide)
        · refine own_go (T' := s₁) (g' := (mkF m 24 #[.val (.int p1)] [])) (fun t k => XS.icmpNo X0.here hx rfl (hb hby d2_21) rfl (flt c21_4).1 k) ?_
          refine own_go (T' := s₁) (g' := (mkF m 25 #[.val (.int p1)] [(.int p1)])) (fun t k => XS.iloadN X0.here hx rfl (hb hby d2_24) rfl k) ?_
          refine own_go (T' := s₁) (g' := (mkF m 27 #[.val (.int p1)] [(.int (55295 : Int32)), (.int p1)])) (X0.ldcInt hx hown (mvT hZ (hw _ (List.mem_of_getElem? (i := 24) rfl))) (g := (mkF m 25 #[.val (.int p1)] [(.int p1)])) rfl (hb hby d2_25)) ?_
          by_cases c27_11 : (55295 : Int32) < p1
          · refine own_go (T' := s₁) (g' := (mkF m 30 #[.val (.int p1)] [])) (fun t k => XS.icmpNo X0.here hx rfl (hb hby d2_27) rfl (tlt c27_11).2.2.2 k) ?_
            refine own_go (T' := s₁) (g' := (mkF m 31 #[.val (.int p1)] [(.int p1)])) (fun t k => XS.iloadN X0.here hx rfl (hb hby d2_30) rfl k) ?_
            refine own_go (T' := s₁) (g' := (mkF m 33 #[.val (.int p1)] [(.int (57344 : Int32)), (.int p1)])) (X0.ldcInt hx hown (mvT hZ (hw _ (List.mem_of_getElem? (i := 19) rfl))) (g := (mkF m 31 #[.val (.int p1)] [(.int p1)])) rfl (hb hby d2_31)) ?_
            by_cases c33_12 : p1 < (57344 : Int32)
            · refine own_go (T' := s₁) (g' := (mkF m 42 #[.val (.int p1)] [])) (fun t k => XS.icmpYes X0.here hx rfl (pc0 := 33) (pc' := 42) rfl (hb hby d2_33) rfl (tlt c33_12).1 (by decide) (by decide) k) ?_
              refine own_go (T' := s₁) (g' := (mkF m 43 #[.val (.int p1)] [(.int p1)])) (fun t k => XS.iloadN X0.here hx rfl (hb hby d2_42) rfl k) ?_
              refine own_go (T' := s₁) (g' := (mkF m 45 #[.val (.int p1)] [(.int (65536 : Int32)), (.int p1)])) (X0.ldcInt hx hown (mvT hZ (hw _ (List.mem_of_getElem? (i := 20) rfl))) (g := (mkF m 43 #[.val (.int p1)] [(.int p1)])) rfl (hb hby d2_43)) ?_
              by_cases c45_13 : p1 < (65536 : Int32)
              · refine own_go (T' := s₁) (g' := (mkF m 58 #[.val (.int p1)] [])) (fun t k => XS.icmpYes X0.here hx rfl (pc0 := 45) (pc' := 58) rfl (hb hby d2_45) rfl (tlt c45_13).1 (by decide) (by decide) k) ?_
                refine own_go (T' := s₁) (g' := (mkF m 59 #[.val (.int p1)] [(.int (0 : Int32))])) (fun t k => XS.iconst X0.here hx rfl (hb hby d2_58) k) ?_
                exact own_retZ X0 hx Bd.notSynchronized Bd.returns (hb hby d2_59) rfl ⟨by unfold own_isChar; rw [if_neg c3_1, if_neg c9_2, if_neg c15_3, if_neg c21_4, if_pos c27_11, if_pos c33_12, if_pos c45_13], N0, e0⟩ (by decide) (by decide)
              · refine own_go (T' := s₁) (g' := (mkF m 48 #[.val (.int p1)] [])) (fun t k => XS.icmpNo X0.here hx rfl (hb hby d2_45) rfl (flt c45_13).1 k) ?_
                refine own_go (T' := s₁) (g' := (mkF m 49 #[.val (.int p1)] [(.int p1)])) (fun t k => XS.iloadN X0.here hx rfl (hb hby d2_48) rfl k) ?_
                refine own_go (T' := s₁) (g' := (mkF m 51 #[.val (.int p1)] [(.int (1114111 : Int32)), (.int p1)])) (X0.ldcInt hx hown (mvT hZ (hw _ (List.mem_of_getElem? (i := 27) rfl))) (g := (mkF m 49 #[.val (.int p1)] [(.int p1)])) rfl (hb hby d2_49)) ?_
                by_cases c51_14 : (1114111 : Int32) < p1
                · refine own_go (T' := s₁) (g' := (mkF m 58 #[.val (.int p1)] [])) (fun t k => XS.icmpYes X0.here hx rfl (pc0 := 51) (pc' := 58) rfl (hb hby d2_51) rfl (tlt c51_14).2.2.1 (by decide) (by decide) k) ?_
                  refine own_go (T' := s₁) (g' := (mkF m 59 #[.val (.int p1)] [(.int (0 : Int32))])) (fun t k => XS.iconst X0.here hx rfl (hb hby d2_58) k) ?_
                  exact own_retZ X0 hx Bd.notSynchronized Bd.returns (hb hby d2_59) rfl ⟨by unfold own_isChar; rw [if_neg c3_1, if_neg c9_2, if_neg c15_3, if_neg c21_4, if_pos c27_11, if_pos c33_12, if_neg c45_13, if_pos c51_14], N0, e0⟩ (by decide) (by decide)
                · refine own_go (T' := s₁) (g' := (mkF m 54 #[.val (.int p1)] [])) (fun t k => XS.icmpNo X0.here hx rfl (hb hby d2_51) rfl (flt c51_14).2.2.1 k) ?_
                  refine own_go (T' := s₁) (g' := (mkF m 55 #[.val (.int p1)] [(.int (1 : Int32))])) (fun t k => XS.iconst X0.here hx rfl (hb hby d2_54) k) ?_
                  refine own_go (T' := s₁) (g' := (mkF m 59 #[.val (.int p1)] [(.int (1 : Int32))])) (fun t k => XS.goto X0.here hx rfl (pc0 := 55) (pc' := 59) rfl (hb hby d2_55) (by decide) (by decide) k) ?_
                  exact own_retZ X0 hx Bd.notSynchronized Bd.returns (hb hby d2_59) rfl ⟨by unfold own_isChar; rw [if_neg c3_1, if_neg c9_2, if_neg c15_3, if_neg c21_4, if_pos c27_11, if_pos c33_12, if_neg c45_13, if_neg c51_14], N0, e0⟩ (by decide) (by decide)
            · refine own_go (T' := s₁) (g' := (mkF m 36 #[.val (.int p1)] [])) (fun t k => XS.icmpNo X0.here hx rfl (hb hby d2_33) rfl (flt c33_12).1 k) ?_
              refine own_go (T' := s₁) (g' := (mkF m 37 #[.val (.int p1)] [(.int p1)])) (fun t k => XS.iloadN X0.here hx rfl (hb hby d2_36) rfl k) ?_
              refine own_go (T' := s₁) (g' := (mkF m 39 #[.val (.int p1)] [(.int (65533 : Int32)), (.int p1)])) (X0.ldcInt hx hown (mvT hZ (hw _ (List.mem_of_getElem? (i := 26) rfl))) (g := (mkF m 37 #[.val (.int p1)] [(.int p1)])) rfl (hb hby d2_37)) ?_
              by_cases c39_15 : (65533 : Int32) < p1
              · refine own_go (T' := s₁) (g' := (mkF m 42 #[.val (.int p1)] [])) (fun t k => XS.icmpNo X0.here hx rfl (hb hby d2_39) rfl (tlt c39_15).2.2.2 k) ?_
                refine own_go (T' := s₁) (g' := (mkF m 43 #[.val (.int p1)] [(.int p1)])) (fun t k => XS.iloadN X0.here hx rfl (hb hby d2_42) rfl k) ?_
                refine own_go (T' := s₁) (g' := (mkF m 45 #[.val (.int p1)] [(.int (65536 : Int32)), (.int p1)])) (X0.ldcInt hx hown (mvT hZ (hw _ (List.mem_of_getElem? (i := 20) rfl))) (g := (mkF m 43 #[.val (.int p1)] [(.int p1)])) rfl (hb hby d2_43)) ?_
                by_cases c45_16 : p1 < (65536 : Int32)
                · refine own_go (T' := s₁) (g' := (mkF m 58 #[.val (.int p1)] [])) (fun t k => XS.icmpYes X0.here hx rfl (pc0 := 45) (pc' := 58) rfl (hb hby d2_45) rfl (tlt c45_16).1 (by decide) (by decide) k) ?_
                  refine own_go (T' := s₁) (g' := (mkF m 59 #[.val (.int p1)] [(.int (0 : Int32))])) (fun t k => XS.iconst X0.here hx rfl (hb hby d2_58) k) ?_
                  exact own_retZ X0 hx Bd.notSynchronized Bd.returns (hb hby d2_59) rfl ⟨by unfold own_isChar; rw [if_neg c3_1, if_neg c9_2, if_neg c15_3, if_neg c21_4, if_pos c27_11, if_neg c33_12, if_pos c39_15, if_pos c45_16], N0, e0⟩ (by decide) (by decide)
                · refine own_go (T' := s₁) (g' := (mkF m 48 #[.val (.int p1)] [])) (fun t k => XS.icmpNo X0.here hx rfl (hb hby d2_45) rfl (flt c45_16).1 k) ?_
                  refine own_go (T' := s₁) (g' := (mkF m 49 #[.val (.int p1)] [(.int p1)])) (fun t k => XS.iloadN X0.here hx rfl (hb hby d2_48) rfl k) ?_
                  refine own_go (T' := s₁) (g' := (mkF m 51 #[.val (.int p1)] [(.int (1114111 : Int32)), (.int p1)])) (X0.ldcInt hx hown (mvT hZ (hw _ (List.mem_of_getElem? (i := 27) rfl))) (g := (mkF m 49 #[.val (.int p1)] [(.int p1)])) rfl (hb hby d2_49)) ?_
                  by_cases c51_17 : (1114111 : Int32) < p1
                  · refine own_go (T' := s₁) (g' := (mkF m 58 #[.val (.int p1)] [])) (fun t k => XS.icmpYes X0.here hx rfl (pc0 := 51) (pc' := 58) rfl (hb hby d2_51) rfl (tlt c51_17).2.2.1 (by decide) (by decide) k) ?_
                    refine own_go (T' := s₁) (g' := (mkF m 59 #[.val (.int p1)] [(.int (0 : Int32))])) (fun t k => XS.iconst X0.here hx rfl (hb hby d2_58) k) ?_
                    exact own_retZ X0 hx Bd.notSynchronized Bd.returns (hb hby d2_59) rfl ⟨by unfold own_isChar; rw [if_neg c3_1, if_neg c9_2, if_neg c15_3, if_neg c21_4, if_pos c27_11, if_neg c33_12, if_pos c39_15, if_neg c45_16, if_pos c51_17], N0, e0⟩ (by decide) (by decide)
                  · refine own_go (T' := s₁) (g' := (mkF m 54 #[.val (.int p1)] [])) (fun t k => XS.icmpNo X0.here hx rfl (hb hby d2_51) rfl (flt c51_17).2.2.1 k) ?_
                    refine own_go (T' := s₁) (g' := (mkF m 55 #[.val (.int p1)] [(.int (1 : Int32))])) (fun t k => XS.iconst X0.here hx rfl (hb hby d2_54) k) ?_
                    refine own_go (T' := s₁) (g' := (mkF m 59 #[.val (.int p1)] [(.int (1 : Int32))])) (fun t k => XS.goto X0.here hx rfl (pc0 := 55) (pc' := 59) rfl (hb hby d2_55) (by decide) (by decide) k) ?_
                    exact own_retZ X0 hx Bd.notSynchronized Bd.returns (hb hby d2_59) rfl ⟨by unfold own_isChar; rw [if_neg c3_1, if_neg c9_2, if_neg c15_3, if_neg c21_4, if_pos c27_11, if_neg c33_12, if_pos c39_15, if_neg c45_16, if_neg c51_17], N0, e0⟩ (by decide) (by decide)
              · refine own_go (T' := s₁) (g' := (mkF m 54 #[.val (.int p1)] [])) (fun t k => XS.icmpYes X0.here hx rfl (pc0 := 39) (pc' := 54) rfl (hb hby d2_39) rfl (flt c39_15).2.2.2 (by decide) (by decide) k) ?_
                refine own_go (T' := s₁) (g' := (mkF m 55 #[.val (.int p1)] [(.int (1 : Int32))])) (fun t k => XS.iconst X0.here hx rfl (hb hby d2_54) k) ?_
                refine own_go (T' := s₁) (g' := (mkF m 59 #[.val (.int p1)] [(.int (1 : Int32))])) (fun t k => XS.goto X0.here hx rfl (pc0 := 55) (pc' := 59) rfl (hb hby d2_55) (by decide) (by decide) k) ?_
                exact own_retZ X0 hx Bd.notSynchronized Bd.returns (hb hby d2_59) rfl ⟨by unfold own_isChar; rw [if_neg c3_1, if_neg c9_2, if_neg c15_3, if_neg c21_4, if_pos c27_11, if_neg c33_12, if_neg c39_15], N0, e0⟩ (by decide) (by decide)
          · refine own_go (T' := s₁) (g' := (mkF m 54 #[.val (.int p1)] [])) (fun t k => XS.icmpYes X0.here hx rfl (pc0 := 27) (pc' := 54) rfl (hb hby d2_27) rfl (flt c27_11).2.2.2 (by decide) (by decide) k) ?_
            refine own_go (T' := s₁) (g' := (mkF m 55 #[.val (.int p1)] [(.int (1 : Int32))])) (fun t k => XS.iconst X0.here hx rfl (hb hby d2_54) k) ?_
            refine own_go (T' := s₁) (g' := (mkF m 59 #[.val (.int p1)] [(.int (1 : Int32))])) (fun t k => XS.goto X0.here hx rfl (pc0 := 55) (pc' := 59) rfl (hb hby d2_55) (by decide) (by decide) k) ?_
            exact own_retZ X0 hx Bd.notSynchronized Bd.returns (hb hby d2_59) rfl ⟨by unfold own_isChar; rw [if_neg c3_1, if_neg c9_2, if_neg c15_3, if_neg c21_4, if_neg c27_11], N0, e0⟩ (by decide) (by decide)
theorem d3_0 : decode method_2_code 0 = .ok (.iload_n 0, 1) := by decide +kernel
theorem d3_1 : decode method_2_code 1 = .ok (.ifCond .ge 5, 3) := by decide +kernel
theorem d3_4 : decode method_2_code 4 = .ok (.iconst 1, 1) := by decide +kernel
theorem d3_5 : decode method_2_code 5 = .ok (.ireturn, 1) := by decide +kernel
theorem d3_6 : decode method_2_code 6 = .ok (.iload_n 0, 1) := by decide +kernel
theorem d3_7 : decode method_2_code 7 = .ok (.bipush 8, 2) := by decide +kernel
theorem d3_9 : decode method_2_code 9 = .ok (.if_icmp .gt 5, 3) := by decide +kernel
theorem d3_12 : decode method_2_code 12 = .ok (.iconst 1, 1) := by decide +kernel
theorem d3_13 : decode method_2_code 13 = .ok (.ireturn, 1) := by decide +kernel
theorem d3_14 : decode method_2_code 14 = .ok (.iload_n 0, 1) := by decide +kernel
theorem d3_15 : decode method_2_code 15 = .ok (.bipush 11, 2) := by decide +kernel
theorem d3_17 : decode method_2_code 17 = .ok (.if_icmp .eq 9, 3) := by decide +kernel
theorem d3_20 : decode method_2_code 20 = .ok (.iload_n 0, 1) := by decide +kernel
theorem d3_21 : decode method_2_code 21 = .ok (.bipush 12, 2) := by decide +kernel
theorem d3_23 : decode method_2_code 23 = .ok (.if_icmp .ne 5, 3) := by decide +kernel
theorem d3_26 : decode method_2_code 26 = .ok (.iconst 1, 1) := by decide +kernel
theorem d3_27 : decode method_2_code 27 = .ok (.ireturn, 1) := by decide +kernel
theorem d3_28 : decode method_2_code 28 = .ok (.iload_n 0, 1) := by decide +kernel
theorem d3_29 : decode method_2_code 29 = .ok (.bipush 14, 2) := by decide +kernel
theorem d3_31 : decode method_2_code 31 = .ok (.if_icmp .lt 11, 3) := by decide +kernel
theorem d3_34 : decode method_2_code 34 = .ok (.iload_n 0, 1) := by decide +kernel
theorem d3_35 : decode method_2_code 35 = .ok (.bipush 31, 2) := by decide +kernel
theorem d3_37 : decode method_2_code 37 = .ok (.if_icmp .gt 5, 3) := by decide +kernel
theorem d3_40 : decode method_2_code 40 = .ok (.iconst 1, 1) := by decide +kernel
theorem d3_41 : decode method_2_code 41 = .ok (.ireturn, 1) := by decide +kernel
theorem d3_42 : decode method_2_code 42 = .ok (.iload_n 0, 1) := by decide +kernel
theorem d3_43 : decode method_2_code 43 = .ok (.ldc 7, 2) := by decide +kernel
theorem d3_45 : decode method_2_code 45 = .ok (.if_icmp .lt 11, 3) := by decide +kernel
theorem d3_48 : decode method_2_code 48 = .ok (.iload_n 0, 1) := by decide +kernel
theorem d3_49 : decode method_2_code 49 = .ok (.ldc 8, 2) := by decide +kernel
theorem d3_51 : decode method_2_code 51 = .ok (.if_icmp .gt 5, 3) := by decide +kernel
theorem d3_54 : decode method_2_code 54 = .ok (.iconst 1, 1) := by decide +kernel
theorem d3_55 : decode method_2_code 55 = .ok (.ireturn, 1) := by decide +kernel
theorem d3_56 : decode method_2_code 56 = .ok (.iload_n 0, 1) := by decide +kernel
theorem d3_57 : decode method_2_code 57 = .ok (.ldc 9, 2) := by decide +kernel
theorem d3_59 : decode method_2_code 59 = .ok (.if_icmp .eq 9, 3) := by decide +kernel
theorem d3_62 : decode method_2_code 62 = .ok (.iload_n 0, 1) := by decide +kernel
theorem d3_63 : decode method_2_code 63 = .ok (.ldc 10, 2) := by decide +kernel
theorem d3_65 : decode method_2_code 65 = .ok (.if_icmp .ne 5, 3) := by decide +kernel
theorem d3_68 : decode method_2_code 68 = .ok (.iconst 1, 1) := by decide +kernel
theorem d3_69 : decode method_2_code 69 = .ok (.ireturn, 1) := by decide +kernel
theorem d3_70 : decode method_2_code 70 = .ok (.iload_n 0, 1) := by decide +kernel
theorem d3_71 : decode method_2_code 71 = .ok (.ldc 11, 2) := by decide +kernel
theorem d3_73 : decode method_2_code 73 = .ok (.if_icmp .le 7, 3) := by decide +kernel
theorem d3_76 : decode method_2_code 76 = .ok (.iconst 1, 1) := by decide +kernel
theorem d3_77 : decode method_2_code 77 = .ok (.goto 4, 3) := by decide +kernel
theorem d3_80 : decode method_2_code 80 = .ok (.iconst 0, 1) := by decide +kernel
theorem d3_81 : decode method_2_code 81 = .ok (.ireturn, 1) := by decide +kernel
theorem pn_3 : plainName "com/example/noddle/noddle/xml/CharactersIsCharPinLaw" = true := by first | (simp [plainName, overriddenIn]; done) | decide +kernel
theorem ef_3 (m : MethodId) (x0 : Int32) : entryFrame m #[(.int x0)] 1 = mkF m 0 #[.val (.int x0)] [] := by first | (simp [entryFrame, mkF, argsToLocals, Value.category]; done) | rfl
def own_excl (p1 : Int32) : Int32 :=
  if p1 < (0 : Int32) then (1 : Int32) else
  if (8 : Int32) < p1 then (if p1 = (11 : Int32) then (1 : Int32) else
    if p1 = (12 : Int32) then (1 : Int32) else
    if p1 < (14 : Int32) then (if p1 < (55296 : Int32) then (if p1 = (65534 : Int32) then (1 : Int32) else
        if p1 = (65535 : Int32) then (1 : Int32) else
        if (1114111 : Int32) < p1 then (1 : Int32) else
        (0 : Int32)) else
      if (57343 : Int32) < p1 then (if p1 = (65534 : Int32) then (1 : Int32) else
        if p1 = (65535 : Int32) then (1 : Int32) else
        if (1114111 : Int32) < p1 then (1 : Int32) else
        (0 : Int32)) else
      (1 : Int32)) else
    if (31 : Int32) < p1 then (if p1 < (55296 : Int32) then (if p1 = (65534 : Int32) then (1 : Int32) else
        if p1 = (65535 : Int32) then (1 : Int32) else
        if (1114111 : Int32) < p1 then (1 : Int32) else
        (0 : Int32)) else
      if (57343 : Int32) < p1 then (if p1 = (65534 : Int32) then (1 : Int32) else
        if p1 = (65535 : Int32) then (1 : Int32) else
        if (1114111 : Int32) < p1 then (1 : Int32) else
        (0 : Int32)) else
      (1 : Int32)) else
    (1 : Int32)) else
  (1 : Int32)
def Q3 (Z : State) (p1 : Int32) (h0 : Heap) (n0 : Nat) (v : Option Value) (h : Heap) (L : List Loc) : Prop := v = some (.int (own_excl p1)) ∧ Fr n0 L ∧ h = h0
set_option maxRecDepth 65536 in
set_option maxHeartbeats 40000000 in
theorem rm3 (l : Launch) (Z : State) (a0 : Array Value) (hw : ∀ d ∈ tables_1, d.before a0 Z = true) (ws : List Jvm.Cond) (p1 : Int32) (h0 : Heap) (n0 : Nat) (Z0 : n0 ≤ h0.size) :
    MetFree l (⟨"com/example/noddle/noddle/xml/CharactersIsCharPinLaw", "excluded", "(I)Z"⟩ : MethodName) (head1 (Jvm.Cond.code (⟨"com/example/noddle/noddle/xml/CharactersIsCharPinLaw", "excluded", "(I)Z"⟩ : MethodName) method_2_code 1 (some .boolean) :: ws) ({ frames := 0, cells := 0, slots := 0, locals := 0 } : Room)) (fun aa U => aa = #[(.int p1)] ∧ Z.Warmed39 U.vm ∧ U.heap = h0) (fun _ _ _ _ _ => True) (fun _ U o U' => ∃ v L, o = .returned v ∧ Q3 Z p1 h0 n0 v U'.heap L ∧ FrameEnd U o U' L ({ frames := 0, cells := 0, slots := 0, locals := 0 } : Room).cells ({ frames := 0, cells := 0, slots := 0, locals := 0 } : Room).slots) := by
  refine MetFree.of_bodySF (plainFor_of_name pn_3) hisR ?_
  intro p e s m args below meth c s₁ Bd hml0 hP hK
  obtain ⟨rfl, hZ, hh⟩ := hP
  have hx := Bd.exec
  have hby := Bd.bytes
  have hml : c.maxLocals = 1 := hml0
  have hown : s.vm.findClass "com/example/noddle/noddle/xml/CharactersIsCharPinLaw" = some m.cls := findClass_of_methodNamed Bd.named
  have hnm := (name_of_methodNamed Bd.named Bd.method).1
  have X0 : Stand p l e ({ frames := 0, cells := 0, slots := 0, locals := 0 } : Room) s m #[(.int p1)] below meth c s₁ [] 0 0 := Stand.of_body Bd
  have e0 : s₁.heap = h0 := by rw [← hh, Bd.state]; rfl
  have N0 := Fr.nil n0
  refine own_enter (QQ := Q3 Z p1 h0 n0) (ef_3 m p1) ?_
  refine own_go (T' := s₁) (g' := (mkF m 1 #[.val (.int p1)] [(.int p1)])) (fun t k => XS.iloadN X0.here hx rfl (hb hby d3_0) rfl k) ?_
  by_cases c1_1 : p1 < (0 : Int32)
  · refine own_go (T' := s₁) (g' := (mkF m 4 #[.val (.int p1)] [])) (fun t k => XS.ifNo X0.here hx rfl (hb hby d3_1) rfl ((if0 _ _).trans (tlt c1_1).2.1) k) ?_
    refine own_go (T' := s₁) (g' := (mkF m 5 #[.val (.int p1)] [(.int (1 : Int32))])) (fun t k => XS.iconst X0.here hx rfl (hb hby d3_4) k) ?_
    exact own_retZ X0 hx Bd.notSynchronized Bd.returns (hb hby d3_5) rfl ⟨by unfold own_excl; rw [if_pos c1_1], N0, e0⟩ (by decide) (by decide)
  · refine own_go (T' := s₁) (g' := (mkF m 6 #[.val (.int p1)] [])) (fun t k => XS.ifYes X0.here hx rfl (pc0 := 1) (pc' := 6) rfl (hb hby d3_1) rfl ((if0 _ _).trans (flt c1_1).2.1) (by decide) (by decide) k) ?_
    refine own_go (T' := s₁) (g' := (mkF m 7 #[.val (.int p1)] [(.int p1)])) (fun t k => XS.iloadN X0.here hx rfl (hb hby d3_6) rfl k) ?_
    refine own_go (T' := s₁) (g' := (mkF m 9 #[.val (.int p1)] [(.int (8 : Int32)), (.int p1)])) (fun t k => XS.bipush X0.here hx rfl (hb hby d3_7) k) ?_
    by_cases c9_2 : (8 : Int32) < p1
    · refine own_go (T' := s₁) (g' := (mkF m 14 #[.val (.int p1)] [])) (fun t k => XS.icmpYes X0.here hx rfl (pc0 := 9) (pc' := 14) rfl (hb hby d3_9) rfl (tlt c9_2).2.2.1 (by decide) (by decide) k) ?_
      refine own_go (T' := s₁) (g' := (mkF m 15 #[.val (.int p1)] [(.int p1)])) (fun t k => XS.iloadN X0.here hx rfl (hb hby d3_14) rfl k) ?_
      refine own_go (T' := s₁) (g' := (mkF m 17 #[.val (.int p1)] [(.int (11 : Int32)), (.int p1)])) (fun t k => XS.bipush X0.here hx rfl (hb hby d3_15) k) ?_
      by_cases c17_3 : p1 = (11 : Int32)
      · refine own_go (T' := s₁) (g' := (mkF m 26 #[.val (.int p1)] [])) (fun t k => XS.icmpYes X0.here hx rfl (pc0 := 17) (pc' := 26) rfl (hb hby d3_17) rfl (teq c17_3).1 (by decide) (by decide) k) ?_
        refine own_go (T' := s₁) (g' := (mkF m 27 #[.val (.int p1)] [(.int (1 : Int32))])) (fun t k => XS.iconst X0.here hx rfl (hb hby d3_26) k) ?_
        exact own_retZ X0 hx Bd.notSynchronized Bd.returns (hb hby d3_27) rfl ⟨by unfold own_excl; rw [if_neg c1_1, if_pos c9_2, if_pos c17_3], N0, e0⟩ (by decide) (by decide)
      · refine own_go (T' := s₁) (g' := (mkF m 20 #[.val (.int p1)] [])) (fun t k => XS.icmpNo X0.here hx rfl (hb hby d3_17) rfl (feq c17_3).1 k) ?_
        refine own_go (T' := s₁) (g' := (mkF m 21 #[.val (.int p1)] [(.int p1)])) (fun t k => XS.iloadN X0.here hx rfl (hb hby d3_20) rfl k) ?_
        refine own_go (T' := s₁) (g' := (mkF m 23 #[.val (.int p1)] [(.int (12 : Int32)), (.int p1)])) (fun t k => XS.bipush X0.here hx rfl (hb hby d3_21) k) ?_
        by_cases c23_4 : p1 = (12 : Int32)
        · refine own_go (T' := s₁) (g' := (mkF m 26 #[.val (.int p1)] [])) (fun t k => XS.icmpNo X0.here hx rfl (hb hby d3_23) rfl (teq c23_4).2 k) ?_
          refine own_go (T' := s₁) (g' := (mkF m 27 #[.val (.int p1)] [(.int (1 : Int32))])) (fun t k => XS.iconst X0.here hx rfl (hb hby d3_26) k) ?_
          exact own_retZ X0 hx Bd.notSynchronized Bd.returns (hb hby d3_27) rfl ⟨by unfold own_excl; rw [if_neg c1_1, if_pos c9_2, if_neg c17_3, if_pos c23_4], N0, e0⟩ (by decide) (by decide)
        · refine own_go (T' := s₁) (g' := (mkF m 28 #[.val (.int p1)] [])) (fun t k => XS.icmpYes X0.here hx rfl (pc0 := 23) (pc' := 28) rfl (hb hby d3_23) rfl (feq c23_4).2 (by decide) (by decide) k) ?_
          refine own_go (T' := s₁) (g' := (mkF m 29 #[.val (.int p1)] [(.int p1)])) (fun t k => XS.iloadN X0.here hx rfl (hb hby d3_28) rfl k) ?_
          refine own_go (T' := s₁) (g' := (mkF m 31 #[.val (.int p1)] [(.int (14 : Int32)), (.int p1)])) (fun t k => XS.bipush X0.here hx rfl (hb hby d3_29) k) ?_
          by_cases c31_5 : p1 < (14 : Int32)
          · refine own_go (T' := s₁) (g' := (mkF m 42 #[.val (.int p1)] [])) (fun t k => XS.icmpYes X0.here hx rfl (pc0 := 31) (pc' := 42) rfl (hb hby d3_31) rfl (tlt c31_5).1 (by decide) (by decide) k) ?_
            refine own_go (T' := s₁) (g' := (mkF m 43 #[.val (.int p1)] [(.int p1)])) (fun t k => XS.iloadN X0.here hx rfl (hb hby d3_42) rfl k) ?_
            refine own_go (T' := s₁) (g' := (mkF m 45 #[.val (.int p1)] [(.int (55296 : Int32)), (.int p1)])) (X0.ldcInt hx hown (mvT hZ (hw _ (List.mem_of_getElem? (i := 8) rfl))) (g := (mkF m 43 #[.val (.int p1)] [(.int p1)])) rfl (hb hby d3_43)) ?_
            by_cases c45_6 : p1 < (55296 : Int32)
            · refine own_go (T' := s₁) (g' := (mkF m 56 #[.val (.int p1)] [])) (fun t k => XS.icmpYes X0.here hx rfl (pc0 := 45) (pc' := 56) rfl (hb hby d3_45) rfl (tlt c45_6).1 (by decide) (by decide) k) ?_
              refine own_go (T' := s₁) (g' := (mkF m 57 #[.val (.int p1)] [(.int p1)])) (fun t k => XS.iloadN X0.here hx rfl (hb hby d3_56) rfl k) ?_
              refine own_go (T' := s₁) (g' := (mkF m 59 #[.val (.int p1)] [(.int (65534 : Int32)), (.int p1)])) (X0.ldcInt hx hown (mvT hZ (hw _ (List.mem_of_getElem? (i := 25) rfl))) (g := (mkF m 57 #[.val (.int p1)] [(.int p1)])) rfl (hb hby d3_57)) ?_
              by_cases c59_7 : p1 = (65534 : Int32)
              · refine own_go (T' := s₁) (g' := (mkF m 68 #[.val (.int p1)] [])) (fun t k => XS.icmpYes X0.here hx rfl (pc0 := 59) (pc' := 68) rfl (hb hby d3_59) rfl (teq c59_7).1 (by decide) (by decide) k) ?_
                refine own_go (T' := s₁) (g' := (mkF m 69 #[.val (.int p1)] [(.int (1 : Int32))])) (fun t k => XS.iconst X0.here hx rfl (hb hby d3_68) k) ?_
                exact own_retZ X0 hx Bd.notSynchronized Bd.returns (hb hby d3_69) rfl ⟨by unfold own_excl; rw [if_neg c1_1, if_pos c9_2, if_neg c17_3, if_neg c23_4, if_pos c31_5, if_pos c45_6, if_pos c59_7], N0, e0⟩ (by decide) (by decide)
              · refine own_go (T' := s₁) (g' := (mkF m 62 #[.val (.int p1)] [])) (fun t k => XS.icmpNo X0.here hx rfl (hb hby d3_59) rfl (feq c59_7).1 k) ?_
                refine own_go (T' := s₁) (g' := (mkF m 63 #[.val (.int p1)] [(.int p1)])) (fun t k => XS.iloadN X0.here hx rfl (hb hby d3_62) rfl k) ?_
                refine own_go (T' := s₁) (g' := (mkF m 65 #[.val (.int p1)] [(.int (65535 : Int32)), (.int p1)])) (X0.ldcInt hx hown (mvT hZ (hw _ (List.mem_of_getElem? (i := 10) rfl))) (g := (mkF m 63 #[.val (.int p1)] [(.int p1)])) rfl (hb hby d3_63)) ?_
                by_cases c65_8 : p1 = (65535 : Int32)
                · refine own_go (T' := s₁) (g' := (mkF m 68 #[.val (.int p1)] [])) (fun t k => XS.icmpNo X0.here hx rfl (hb hby d3_65) rfl (teq c65_8).2 k) ?_
                  refine own_go (T' := s₁) (g' := (mkF m 69 #[.val (.int p1)] [(.int (1 : Int32))])) (fun t k => XS.iconst X0.here hx rfl (hb hby d3_68) k) ?_
                  exact own_retZ X0 hx Bd.notSynchronized Bd.returns (hb hby d3_69) rfl ⟨by unfold own_excl; rw [if_neg c1_1, if_pos c9_2, if_neg c17_3, if_neg c23_4, if_pos c31_5, if_pos c45_6, if_neg c59_7, if_pos c65_8], N0, e0⟩ (by decide) (by decide)
                · refine own_go (T' := s₁) (g' := (mkF m 70 #[.val (.int p1)] [])) (fun t k => XS.icmpYes X0.here hx rfl (pc0 := 65) (pc' := 70) rfl (hb hby d3_65) rfl (feq c65_8).2 (by decide) (by decide) k) ?_
                  refine own_go (T' := s₁) (g' := (mkF m 71 #[.val (.int p1)] [(.int p1)])) (fun t k => XS.iloadN X0.here hx rfl (hb hby d3_70) rfl k) ?_
                  refine own_go (T' := s₁) (g' := (mkF m 73 #[.val (.int p1)] [(.int (1114111 : Int32)), (.int p1)])) (X0.ldcInt hx hown (mvT hZ (hw _ (List.mem_of_getElem? (i := 5) rfl))) (g := (mkF m 71 #[.val (.int p1)] [(.int p1)])) rfl (hb hby d3_71)) ?_
                  by_cases c73_9 : (1114111 : Int32) < p1
                  · refine own_go (T' := s₁) (g' := (mkF m 76 #[.val (.int p1)] [])) (fun t k => XS.icmpNo X0.here hx rfl (hb hby d3_73) rfl (tlt c73_9).2.2.2 k) ?_
                    refine own_go (T' := s₁) (g' := (mkF m 77 #[.val (.int p1)] [(.int (1 : Int32))])) (fun t k => XS.iconst X0.here hx rfl (hb hby d3_76) k) ?_
                    refine own_go (T' := s₁) (g' := (mkF m 81 #[.val (.int p1)] [(.int (1 : Int32))])) (fun t k => XS.goto X0.here hx rfl (pc0 := 77) (pc' := 81) rfl (hb hby d3_77) (by decide) (by decide) k) ?_
                    exact own_retZ X0 hx Bd.notSynchronized Bd.returns (hb hby d3_81) rfl ⟨by unfold own_excl; rw [if_neg c1_1, if_pos c9_2, if_neg c17_3, if_neg c23_4, if_pos c31_5, if_pos c45_6, if_neg c59_7, if_neg c65_8, if_pos c73_9], N0, e0⟩ (by decide) (by decide)
                  · refine own_go (T' := s₁) (g' := (mkF m 80 #[.val (.int p1)] [])) (fun t k => XS.icmpYes X0.here hx rfl (pc0 := 73) (pc' := 80) rfl (hb hby d3_73) rfl (flt c73_9).2.2.2 (by decide) (by decide) k) ?_
                    refine own_go (T' := s₁) (g' := (mkF m 81 #[.val (.int p1)] [(.int (0 : Int32))])) (fun t k => XS.iconst X0.here hx rfl (hb hby d3_80) k) ?_
                    exact own_retZ X0 hx Bd.notSynchronized Bd.returns (hb hby d3_81) rfl ⟨by unfold own_excl; rw [if_neg c1_1, if_pos c9_2, if_neg c17_3, if_neg c23_4, if_pos c31_5, if_pos c45_6, if_neg c59_7, if_neg c65_8, if_neg c73_9], N0, e0⟩ (by decide) (by decide)
            · refine own_go (T' := s₁) (g' := (mkF m 48 #[.val (.int p1)] [])) (fun t k => XS.icmpNo X0.here hx rfl (hb hby d3_45) rfl (flt c45_6).1 k) ?_
              refine own_go (T' := s₁) (g' := (mkF m 49 #[.val (.int p1)] [(.int p1)])) (fun t k => XS.iloadN X0.here hx rfl (hb hby d3_48) rfl k) ?_
              refine own_go (T' := s₁) (g' := (mkF m 51 #[.val (.int p1)] [(.int (57343 : Int32)), (.int p1)])) (X0.ldcInt hx hown (mvT hZ (hw _ (List.mem_of_getElem? (i := 9) rfl))) (g := (mkF m 49 #[.val (.int p1)] [(.int p1)])) rfl (hb hby d3_49)) ?_
              by_cases c51_10 : (57343 : Int32) < p1
              · refine own_go (T' := s₁) (g' := (mkF m 56 #[.val (.int p1)] [])) (fun t k => XS.icmpYes X0.here hx rfl (pc0 := 51) (pc' := 56) rfl (hb hby d3_51) rfl (tlt c51_10).2.2.1 (by decide) (by decide) k) ?_
                refine own_go (T' := s₁) (g' := (mkF m 57 #[.val (.int p1)] [(.int p1)])) (fun t k => XS.iloadN X0.here hx rfl (hb hby d3_56) rfl k) ?_
                refine own_go (T' := s₁) (g' := (mkF m 59 #[.val (.int p1)] [(.int (65534 : Int32)), (.int p1)])) (X0.ldcInt hx hown (mvT hZ (hw _ (List.mem_of_getElem? (i := 25) rfl))) (g := (mkF m 57 #[.val (.int p1)] [(.int p1)])) rfl (hb hby d3_57)) ?_
                by_cases c59_11 : p1 = (65534 : Int32)
                · refine own_go (T' := s₁) (g' := (mkF m 68 #[.val (.int p1)] [])) (fun t k => XS.icmpYes X0.here hx rfl (pc0 := 59) (pc' := 68) rfl (hb hby d3_59) rfl (teq c59_11).1 (by decide) (by decide) k) ?_
                  refine own_go (T' := s₁) (g' := (mkF m 69 #[.val (.int p1)] [(.int (1 : Int32))])) (fun t k => XS.iconst X0.here hx rfl (hb hby d3_68) k) ?_
                  exact own_retZ X0 hx Bd.notSynchronized Bd.returns (hb hby d3_69) rfl ⟨by unfold own_excl; rw [if_neg c1_1, if_pos c9_2, if_neg c17_3, if_neg c23_4, if_pos c31_5, if_neg c45_6, if_pos c51_10, if_pos c59_11], N0, e0⟩ (by decide) (by decide)
                · refine own_go (T' := s₁) (g' := (mkF m 62 #[.val (.int p1)] [])) (fun t k => XS.icmpNo X0.here hx rfl (hb hby d3_59) rfl (feq c59_11).1 k) ?_
                  refine own_go (T' := s₁) (g' := (mkF m 63 #[.val (.int p1)] [(.int p1)])) (fun t k => XS.iloadN X0.here hx rfl (hb hby d3_62) rfl k) ?_
                  refine own_go (T' := s₁) (g' := (mkF m 65 #[.val (.int p1)] [(.int (65535 : Int32)), (.int p1)])) (X0.ldcInt hx hown (mvT hZ (hw _ (List.mem_of_getElem? (i := 10) rfl))) (g := (mkF m 63 #[.val (.int p1)] [(.int p1)])) rfl (hb hby d3_63)) ?_
                  by_cases c65_12 : p1 = (65535 : Int32)
                  · refine own_go (T' := s₁) (g' := (mkF m 68 #[.val (.int p1)] [])) (fun t k => XS.icmpNo X0.here hx rfl (hb hby d3_65) rfl (teq c65_12).2 k) ?_
                    refine own_go (T' := s₁) (g' := (mkF m 69 #[.val (.int p1)] [(.int (1 : Int32))])) (fun t k => XS.iconst X0.here hx rfl (hb hby d3_68) k) ?_
                    exact own_retZ X0 hx Bd.notSynchronized Bd.returns (hb hby d3_69) rfl ⟨by unfold own_excl; rw [if_neg c1_1, if_pos c9_2, if_neg c17_3, if_neg c23_4, if_pos c31_5, if_neg c45_6, if_pos c51_10, if_neg c59_11, if_pos c65_12], N0, e0⟩ (by decide) (by decide)
                  · refine own_go (T' := s₁) (g' := (mkF m 70 #[.val (.int p1)] [])) (fun t k => XS.icmpYes X0.here hx rfl (pc0 := 65) (pc' := 70) rfl (hb hby d3_65) rfl (feq c65_12).2 (by decide) (by decide) k) ?_
                    refine own_go (T' := s₁) (g' := (mkF m 71 #[.val (.int p1)] [(.int p1)])) (fun t k => XS.iloadN X0.here hx rfl (hb hby d3_70) rfl k) ?_
                    refine own_go (T' := s₁) (g' := (mkF m 73 #[.val (.int p1)] [(.int (1114111 : Int32)), (.int p1)])) (X0.ldcInt hx hown (mvT hZ (hw _ (List.mem_of_getElem? (i := 5) rfl))) (g := (mkF m 71 #[.val (.int p1)] [(.int p1)])) rfl (hb hby d3_71)) ?_
                    by_cases c73_13 : (1114111 : Int32) < p1
                    · refine own_go (T' := s₁) (g' := (mkF m 76 #[.val (.int p1)] [])) (fun t k => XS.icmpNo X0.here hx rfl (hb hby d3_73) rfl (tlt c73_13).2.2.2 k) ?_
                      refine own_go (T' := s₁) (g' := (mkF m 77 #[.val (.int p1)] [(.int (1 : Int32))])) (fun t k => XS.iconst X0.here hx rfl (hb hby d3_76) k) ?_
                      refine own_go (T' := s₁) (g' := (mkF m 81 #[.val (.int p1)] [(.int (1 : Int32))])) (fun t k => XS.goto X0.here hx rfl (pc0 := 77) (pc' := 81) rfl (hb hby d3_77) (by decide) (by decide) k) ?_
                      exact own_retZ X0 hx Bd.notSynchronized Bd.returns (hb hby d3_81) rfl ⟨by unfold own_excl; rw [if_neg c1_1, if_pos c9_2, if_neg c17_3, if_neg c23_4, if_pos c31_5, if_neg c45_6, if_pos c51_10, if_neg c59_11, if_neg c65_12, if_pos c73_13], N0, e0⟩ (by decide) (by decide)
                    · refine own_go (T' := s₁) (g' := (mkF m 80 #[.val (.int p1)] [])) (fun t k => XS.icmpYes X0.here hx rfl (pc0 := 73) (pc' := 80) rfl (hb hby d3_73) rfl (flt c73_13).2.2.2 (by decide) (by decide) k) ?_
                      refine own_go (T' := s₁) (g' := (mkF m 81 #[.val (.int p1)] [(.int (0 : Int32))])) (fun t k => XS.iconst X0.here hx rfl (hb hby d3_80) k) ?_
                      exact own_retZ X0 hx Bd.notSynchronized Bd.returns (hb hby d3_81) rfl ⟨by unfold own_excl; rw [if_neg c1_1, if_pos c9_2, if_neg c17_3, if_neg c23_4, if_pos c31_5, if_neg c45_6, if_pos c51_10, if_neg c59_11, if_neg c65_12, if_neg c73_13], N0, e0⟩ (by decide) (by decide)
              · refine own_go (T' := s₁) (g' := (mkF m 54 #[.val (.int p1)] [])) (fun t k => XS.icmpNo X0.here hx rfl (hb hby d3_51) rfl (flt c51_10).2.2.1 k) ?_
                refine own_go (T' := s₁) (g' := (mkF m 55 #[.val (.int p1)] [(.int (1 : Int32))])) (fun t k => XS.iconst X0.here hx rfl (hb hby d3_54) k) ?_
                exact own_retZ X0 hx Bd.notSynchronized Bd.returns (hb hby d3_55) rfl ⟨by unfold own_excl; rw [if_neg c1_1, if_pos c9_2, if_neg c17_3, if_neg c23_4, if_pos c31_5, if_neg c45_6, if_neg c51_10], N0, e0⟩ (by decide) (by decide)
          · refine own_go (T' := s₁) (g' := (mkF m 34 #[.val (.int p1)] [])) (fun t k => XS.icmpNo X0.here hx rfl (hb hby d3_31) rfl (flt c31_5).1 k) ?_
            refine own_go (T' := s₁) (g' := (mkF m 35 #[.val (.int p1)] [(.int p1)])) (fun t k => XS.iloadN X0.here hx rfl (hb hby d3_34) rfl k) ?_
            refine own_go (T' := s₁) (g' := (mkF m 37 #[.val (.int p1)] [(.int (31 : Int32)), (.int p1)])) (fun t k => XS.bipush X0.here hx rfl (hb hby d3_35) k) ?_
            by_cases c37_14 : (31 : Int32) < p1
            · refine own_go (T' := s₁) (g' := (mkF m 42 #[.val (.int p1)] [])) (fun t k => XS.icmpYes X0.here hx rfl (pc0 := 37) (pc' := 42) rfl (hb hby d3_37) rfl (tlt c37_14).2.2.1 (by decide) (by decide) k) ?_
              refine own_go (T' := s₁) (g' := (mkF m 43 #[.val (.int p1)] [(.int p1)])) (fun t k => XS.iloadN X0.here hx rfl (hb hby d3_42) rfl k) ?_
              refine own_go (T' := s₁) (g' := (mkF m 45 #[.val (.int p1)] [(.int (55296 : Int32)), (.int p1)])) (X0.ldcInt hx hown (mvT hZ (hw _ (List.mem_of_getElem? (i := 8) rfl))) (g := (mkF m 43 #[.val (.int p1)] [(.int p1)])) rfl (hb hby d3_43)) ?_
              by_cases c45_15 : p1 < (55296 : Int32)
              · refine own_go (T' := s₁) (g' := (mkF m 56 #[.val (.int p1)] [])) (fun t k => XS.icmpYes X0.here hx rfl (pc0 := 45) (pc' := 56) rfl (hb hby d3_45) rfl (tlt c45_15).1 (by decide) (by decide) k) ?_
                refine own_go (T' := s₁) (g' := (mkF m 57 #[.val (.int p1)] [(.int p1)])) (fun t k => XS.iloadN X0.here hx rfl (hb hby d3_56) rfl k) ?_
                refine own_go (T' := s₁) (g' := (mkF m 59 #[.val (.int p1)] [(.int (65534 : Int32)), (.int p1)])) (X0.ldcInt hx hown (mvT hZ (hw _ (List.mem_of_getElem? (i := 25) rfl))) (g := (mkF m 57 #[.val (.int p1)] [(.int p1)])) rfl (hb hby d3_57)) ?_
                by_cases c59_16 : p1 = (65534 : Int32)
                · refine own_go (T' := s₁) (g' := (mkF m 68 #[.val (.int p1)] [])) (fun t k => XS.icmpYes X0.here hx rfl (pc0 := 59) (pc' := 68) rfl (hb hby d3_59) rfl (teq c59_16).1 (by decide) (by decide) k) ?_
                  refine own_go (T' := s₁) (g' := (mkF m 69 #[.val (.int p1)] [(.int (1 : Int32))])) (fun t k => XS.iconst X0.here hx rfl (hb hby d3_68) k) ?_
                  exact own_retZ X0 hx Bd.notSynchronized Bd.returns (hb hby d3_69) rfl ⟨by unfold own_excl; rw [if_neg c1_1, if_pos c9_2, if_neg c17_3, if_neg c23_4, if_neg c31_5, if_pos c37_14, if_pos c45_15, if_pos c59_16], N0, e0⟩ (by decide) (by decide)
                · refine own_go (T' := s₁) (g' := (mkF m 62 #[.val (.int p1)] [])) (fun t k => XS.icmpNo X0.here hx rfl (hb hby d3_59) rfl (feq c59_16).1 k) ?_
                  refine own_go (T' := s₁) (g' := (mkF m 63 #[.val (.int p1)] [(.int p1)])) (fun t k => XS.iloadN X0.here hx rfl (hb hby d3_62) rfl k) ?_
                  refine own_go (T' := s₁) (g' := (mkF m 65 #[.val (.int p1)] [(.int (65535 : Int32)), (.int p1)])) (X0.ldcInt hx hown (mvT hZ (hw _ (List.mem_of_getElem? (i := 10) rfl))) (g := (mkF m 63 #[.val (.int p1)] [(.int p1)])) rfl (hb hby d3_63)) ?_
                  by_cases c65_17 : p1 = (65535 : Int32)
                  · refine own_go (T' := s₁) (g' := (mkF m 68 #[.val (.int p1)] [])) (fun t k => XS.icmpNo X0.here hx rfl (hb hby d3_65) rfl (teq c65_17).2 k) ?_
                    refine own_go (T' := s₁) (g' := (mkF m 69 #[.val (.int p1)] [(.int (1 : Int32))])) (fun t k => XS.iconst X0.here hx rfl (hb hby d3_68) k) ?_
                    exact own_retZ X0 hx Bd.notSynchronized Bd.returns (hb hby d3_69) rfl ⟨by unfold own_excl; rw [if_neg c1_1, if_pos c9_2, if_neg c17_3, if_neg c23_4, if_neg c31_5, if_pos c37_14, if_pos c45_15, if_neg c59_16, if_pos c65_17], N0, e0⟩ (by decide) (by decide)
                  · refine own_go (T' := s₁) (g' := (mkF m 70 #[.val (.int p1)] [])) (fun t k => XS.icmpYes X0.here hx rfl (pc0 := 65) (pc' := 70) rfl (hb hby d3_65) rfl (feq c65_17).2 (by decide) (by decide) k) ?_
                    refine own_go (T' := s₁) (g' := (mkF m 71 #[.val (.int p1)] [(.int p1)])) (fun t k => XS.iloadN X0.here hx rfl (hb hby d3_70) rfl k) ?_
                    refine own_go (T' := s₁) (g' := (mkF m 73 #[.val (.int p1)] [(.int (1114111 : Int32)), (.int p1)])) (X0.ldcInt hx hown (mvT hZ (hw _ (List.mem_of_getElem? (i := 5) rfl))) (g := (mkF m 71 #[.val (.int p1)] [(.int p1)])) rfl (hb hby d3_71)) ?_
                    by_cases c73_18 : (1114111 : Int32) < p1
                    · refine own_go (T' := s₁) (g' := (mkF m 76 #[.val (.int p1)] [])) (fun t k => XS.icmpNo X0.here hx rfl (hb hby d3_73) rfl (tlt c73_18).2.2.2 k) ?_
                      refine own_go (T' := s₁) (g' := (mkF m 77 #[.val (.int p1)] [(.int (1 : Int32))])) (fun t k => XS.iconst X0.here hx rfl (hb hby d3_76) k) ?_
                      refine own_go (T' := s₁) (g' := (mkF m 81 #[.val (.int p1)] [(.int (1 : Int32))])) (fun t k => XS.goto X0.here hx rfl (pc0 := 77) (pc' := 81) rfl (hb hby d3_77) (by decide) (by decide) k) ?_
                      exact own_retZ X0 hx Bd.notSynchronized Bd.returns (hb hby d3_81) rfl ⟨by unfold own_excl; rw [if_neg c1_1, if_pos c9_2, if_neg c17_3, if_neg c23_4, if_neg c31_5, if_pos c37_14, if_pos c45_15, if_neg c59_16, if_neg c65_17, if_pos c73_18], N0, e0⟩ (by decide) (by decide)
                    · refine own_go (T' := s₁) (g' := (mkF m 80 #[.val (.int p1)] [])) (fun t k => XS.icmpYes X0.here hx rfl (pc0 := 73) (pc' := 80) rfl (hb hby d3_73) rfl (flt c73_18).2.2.2 (by decide) (by decide) k) ?_
                      refine own_go (T' := s₁) (g' := (mkF m 81 #[.val (.int p1)] [(.int (0 : Int32))])) (fun t k => XS.iconst X0.here hx rfl (hb hby d3_80) k) ?_
                      exact own_retZ X0 hx Bd.notSynchronized Bd.returns (hb hby d3_81) rfl ⟨by unfold own_excl; rw [if_neg c1_1, if_pos c9_2, if_neg c17_3, if_neg c23_4, if_neg c31_5, if_pos c37_14, if_pos c45_15, if_neg c59_16, if_neg c65_17, if_neg c73_18], N0, e0⟩ (by decide) (by decide)
              · refine own_go (T' := s₁) (g' := (mkF m 48 #[.val (.int p1)] [])) (fun t k => XS.icmpNo X0.here hx rfl (hb hby d3_45) rfl (flt c45_15).1 k) ?_
                refine own_go (T' := s₁) (g' := (mkF m 49 #[.val (.int p1)] [(.int p1)])) (fun t k => XS.iloadN X0.here hx rfl (hb hby d3_48) rfl k) ?_
                refine own_go (T' := s₁) (g' := (mkF m 51 #[.val (.int p1)] [(.int (57343 : Int32)), (.int p1)])) (X0.ldcInt hx hown (mvT hZ (hw _ (List.mem_of_getElem? (i := 9) rfl))) (g := (mkF m 49 #[.val (.int p1)] [(.int p1)])) rfl (hb hby d3_49)) ?_
                by_cases c51_19 : (57343 : Int32) < p1
                · refine own_go (T' := s₁) (g' := (mkF m 56 #[.val (.int p1)] [])) (fun t k => XS.icmpYes X0.here hx rfl (pc0 := 51) (pc' := 56) rfl (hb hby d3_51) rfl (tlt c51_19).2.2.1 (by decide) (by decide) k) ?_
                  refine own_go (T' := s₁) (g' := (mkF m 57 #[.val (.int p1)] [(.int p1)])) (fun t k => XS.iloadN X0.here hx rfl (hb hby d3_56) rfl k) ?_
                  refine own_go (T' := s₁) (g' := (mkF m 59 #[.val (.int p1)] [(.int (65534 : Int32)), (.int p1)])) (X0.ldcInt hx hown (mvT hZ (hw _ (List.mem_of_getElem? (i := 25) rfl))) (g := (mkF m 57 #[.val (.int p1)] [(.int p1)])) rfl (hb hby d3_57)) ?_
                  by_cases c59_20 : p1 = (65534 : Int32)
                  · refine own_go (T' := s₁) (g' := (mkF m 68 #[.val (.int p1)] [])) (fun t k => XS.icmpYes X0.here hx rfl (pc0 := 59) (pc' := 68) rfl (hb hby d3_59) rfl (teq c59_20).1 (by decide) (by decide) k) ?_
                    refine own_go (T' := s₁) (g' := (mkF m 69 #[.val (.int p1)] [(.int (1 : Int32))])) (fun t k => XS.iconst X0.here hx rfl (hb hby d3_68) k) ?_
                    exact own_retZ X0 hx Bd.notSynchronized Bd.returns (hb hby d3_69) rfl ⟨by unfold own_excl; rw [if_neg c1_1, if_pos c9_2, if_neg c17_3, if_neg c23_4, if_neg c31_5, if_pos c37_14, if_neg c45_15, if_pos c51_19, if_pos c59_20], N0, e0⟩ (by decide) (by decide)
                  · refine own_go (T' := s₁) (g' := (mkF m 62 #[.val (.int p1)] [])) (fun t k => XS.icmpNo X0.here hx rfl (hb hby d3_59) rfl (feq c59_20).1 k) ?_
                    refine own_go (T' := s₁) (g' := (mkF m 63 #[.val (.int p1)] [(.int p1)])) (fun t k => XS.iloadN X0.here hx rfl (hb hby d3_62) rfl k) ?_
                    refine own_go (T' := s₁) (g' := (mkF m 65 #[.val (.int p1)] [(.int (65535 : Int32)), (.int p1)])) (X0.ldcInt hx hown (mvT hZ (hw _ (List.mem_of_getElem? (i := 10) rfl))) (g := (mkF m 63 #[.val (.int p1)] [(.int p1)])) rfl (hb hby d3_63)) ?_
                    by_cases c65_21 : p1 = (65535 : Int32)
                    · refine own_go (T' := s₁) (g' := (mkF m 68 #[.val (.int p1)] [])) (fun t k => XS.icmpNo X0.here hx rfl (hb hby d3_65) rfl (teq c65_21).2 k) ?_
                      refine own_go (T' := s₁) (g' := (mkF m 69 #[.val (.int p1)] [(.int (1 : Int32))])) (fun t k => XS.iconst X0.here hx rfl (hb hby d3_68) k) ?_
                      exact own_retZ X0 hx Bd.notSynchronized Bd.returns (hb hby d3_69) rfl ⟨by unfold own_excl; rw [if_neg c1_1, if_pos c9_2, if_neg c17_3, if_neg c23_4, if_neg c31_5, if_pos c37_14, if_neg c45_15, if_pos c51_19, if_neg c59_20, if_pos c65_21], N0, e0⟩ (by decide) (by decide)
                    · refine own_go (T' := s₁) (g' := (mkF m 70 #[.val (.int p1)] [])) (fun t k => XS.icmpYes X0.here hx rfl (pc0 := 65) (pc' := 70) rfl (hb hby d3_65) rfl (feq c65_21).2 (by decide) (by decide) k) ?_
                      refine own_go (T' := s₁) (g' := (mkF m 71 #[.val (.int p1)] [(.int p1)])) (fun t k => XS.iloadN X0.here hx rfl (hb hby d3_70) rfl k) ?_
                      refine own_go (T' := s₁) (g' := (mkF m 73 #[.val (.int p1)] [(.int (1114111 : Int32)), (.int p1)])) (X0.ldcInt hx hown (mvT hZ (hw _ (List.mem_of_getElem? (i := 5) rfl))) (g := (mkF m 71 #[.val (.int p1)] [(.int p1)])) rfl (hb hby d3_71)) ?_
                      by_cases c73_22 : (1114111 : Int32) < p1
                      · refine own_go (T' := s₁) (g' := (mkF m 76 #[.val (.int p1)] [])) (fun t k => XS.icmpNo X0.here hx rfl (hb hby d3_73) rfl (tlt c73_22).2.2.2 k) ?_
                        refine own_go (T' := s₁) (g' := (mkF m 77 #[.val (.int p1)] [(.int (1 : Int32))])) (fun t k => XS.iconst X0.here hx rfl (hb hby d3_76) k) ?_
                        refine own_go (T' := s₁) (g' := (mkF m 81 #[.val (.int p1)] [(.int (1 : Int32))])) (fun t k => XS.goto X0.here hx rfl (pc0 := 77) (pc' := 81) rfl (hb hby d3_77) (by decide) (by decide) k) ?_
                        exact own_retZ X0 hx Bd.notSynchronized Bd.returns (hb hby d3_81) rfl ⟨by unfold own_excl; rw [if_neg c1_1, if_pos c9_2, if_neg c17_3, if_neg c23_4, if_neg c31_5, if_pos c37_14, if_neg c45_15, if_pos c51_19, if_neg c59_20, if_neg c65_21, if_pos c73_22], N0, e0⟩ (by decide) (by decide)
                      · refine own_go (T' := s₁) (g' := (mkF m 80 #[.val (.int p1)] [])) (fun t k => XS.icmpYes X0.here hx rfl (pc0 := 73) (pc' := 80) rfl (hb hby d3_73) rfl (flt c73_22).2.2.2 (by decide) (by decide) k) ?_
                        refine own_go (T' := s₁) (g' := (mkF m 81 #[.val (.int p1)] [(.int (0 : Int32))])) (fun t k => XS.iconst X0.here hx rfl (hb hby d3_80) k) ?_
                        exact own_retZ X0 hx Bd.notSynchronized Bd.returns (hb hby d3_81) rfl ⟨by unfold own_excl; rw [if_neg c1_1, if_pos c9_2, if_neg c17_3, if_neg c23_4, if_neg c31_5, if_pos c37_14, if_neg c45_15, if_pos c51_19, if_neg c59_20, if_neg c65_21, if_neg c73_22], N0, e0⟩ (by decide) (by decide)
                · refine own_go (T' := s₁) (g' := (mkF m 54 #[.val (.int p1)] [])) (fun t k => XS.icmpNo X0.here hx rfl (hb hby d3_51) rfl (flt c51_19).2.2.1 k) ?_
                  refine own_go (T' := s₁) (g' := (mkF m 55 #[.val (.int p1)] [(.int (1 : Int32))])) (fun t k => XS.iconst X0.here hx rfl (hb hby d3_54) k) ?_
                  exact own_retZ X0 hx Bd.notSynchronized Bd.returns (hb hby d3_55) rfl ⟨by unfold own_excl; rw [if_neg c1_1, if_pos c9_2, if_neg c17_3, if_neg c23_4, if_neg c31_5, if_pos c37_14, if_neg c45_15, if_neg c51_19], N0, e0⟩ (by decide) (by decide)
            · refine own_go (T' := s₁) (g' := (mkF m 40 #[.val (.int p1)] [])) (fun t k => XS.icmpNo X0.here hx rfl (hb hby d3_37) rfl (flt c37_14).2.2.1 k) ?_
              refine own_go (T' := s₁) (g' := (mkF m 41 #[.val (.int p1)] [(.int (1 : Int32))])) (fun t k => XS.iconst X0.here hx rfl (hb hby d3_40) k) ?_
              exact own_retZ X0 hx Bd.notSynchronized Bd.returns (hb hby d3_41) rfl ⟨by unfold own_excl; rw [if_neg c1_1, if_pos c9_2, if_neg c17_3, if_neg c23_4, if_neg c31_5, if_neg c37_14], N0, e0⟩ (by decide) (by decide)
    · refine own_go (T' := s₁) (g' := (mkF m 12 #[.val (.int p1)] [])) (fun t k => XS.icmpNo X0.here hx rfl (hb hby d3_9) rfl (flt c9_2).2.2.1 k) ?_
      refine own_go (T' := s₁) (g' := (mkF m 13 #[.val (.int p1)] [(.int (1 : Int32))])) (fun t k => XS.iconst X0.here hx rfl (hb hby d3_12) k) ?_
      exact own_retZ X0 hx Bd.notSynchronized Bd.returns (hb hby d3_13) rfl ⟨by unfold own_excl; rw [if_neg c1_1, if_neg c9_2], N0, e0⟩ (by decide) (by decide)
def own_P (t : Int) : Prop := t = 9 ∨ t = 10 ∨ t = 13 ∨ (32 ≤ t ∧ t ≤ 55295) ∨ (57344 ≤ t ∧ t ≤ 65533) ∨ (65536 ≤ t ∧ t ≤ 1114111)
set_option maxHeartbeats 4000000 in
theorem own_isChar_eq (cv : Int32) : (own_P cv.toInt → own_isChar cv = 1) ∧ (¬ own_P cv.toInt → own_isChar cv = 0) := by
  have e (n : Int32) : (cv = n) = (cv.toInt = n.toInt) := by rw [Int32.toInt_inj]
  unfold own_isChar own_P
  simp only [e, Int32.lt_iff_toInt_lt, Int32.reduceToInt]
  generalize cv.toInt = t
  constructor <;> intro h <;> (repeat' split) <;> first | rfl | (exfalso; omega)
set_option maxHeartbeats 4000000 in
theorem own_excl_eq (cv : Int32) : (own_P cv.toInt → own_excl cv = 0) ∧ (¬ own_P cv.toInt → own_excl cv = 1) := by
  have e (n : Int32) : (cv = n) = (cv.toInt = n.toInt) := by rw [Int32.toInt_inj]
  unfold own_excl own_P
  simp only [e, Int32.lt_iff_toInt_lt, Int32.reduceToInt]
  generalize cv.toInt = t
  constructor <;> intro h <;> (repeat' split) <;> first | rfl | (exfalso; omega)
theorem own_pin1 (cv : Int32) (h : own_excl cv = 0) : own_isChar cv = 1 := by
  by_cases q : own_P cv.toInt
  · exact (own_isChar_eq cv).1 q
  · rw [(own_excl_eq cv).2 q] at h; exact absurd h (by decide)
theorem own_pin0 (cv : Int32) (h : ¬ own_excl cv = 0) : own_isChar cv = 0 := by
  by_cases q : own_P cv.toInt
  · exact absurd ((own_excl_eq cv).1 q) h
  · exact (own_isChar_eq cv).2 q
theorem d1_0 : decode method_3_code 0 = .ok (.iload_n 0, 1) := by decide +kernel
theorem d1_1 : decode method_3_code 1 = .ok (.invokestatic 12, 3) := by decide +kernel
theorem d1_4 : decode method_3_code 4 = .ok (.iload_n 0, 1) := by decide +kernel
theorem d1_5 : decode method_3_code 5 = .ok (.invokestatic 18, 3) := by decide +kernel
theorem d1_8 : decode method_3_code 8 = .ok (.ifCond .ne 7, 3) := by decide +kernel
theorem d1_11 : decode method_3_code 11 = .ok (.iconst 1, 1) := by decide +kernel
theorem d1_12 : decode method_3_code 12 = .ok (.goto 4, 3) := by decide +kernel
theorem d1_15 : decode method_3_code 15 = .ok (.iconst 0, 1) := by decide +kernel
theorem d1_16 : decode method_3_code 16 = .ok (.if_icmp .ne 7, 3) := by decide +kernel
theorem d1_19 : decode method_3_code 19 = .ok (.iconst 1, 1) := by decide +kernel
theorem d1_20 : decode method_3_code 20 = .ok (.goto 4, 3) := by decide +kernel
theorem d1_23 : decode method_3_code 23 = .ok (.iconst 0, 1) := by decide +kernel
theorem d1_24 : decode method_3_code 24 = .ok (.ireturn, 1) := by decide +kernel
theorem pn_1 : plainName "com/example/noddle/noddle/xml/CharactersIsCharPinLaw" = true := by first | (simp [plainName, overriddenIn]; done) | decide +kernel
theorem own_pd0 : parseMethodDescriptor "(I)Z" = some ⟨[.int], some .boolean⟩ := by decide +kernel
theorem ef_1 (m : MethodId) (x0 : Int32) : entryFrame m #[(.int x0)] 1 = mkF m 0 #[.val (.int x0)] [] := by first | (simp [entryFrame, mkF, argsToLocals, Value.category]; done) | rfl
def Q1 (Z : State) (p1 : Int32) (h0 : Heap) (n0 : Nat) (v : Option Value) (h : Heap) (L : List Loc) : Prop := v = some (.int (1 : Int32)) ∧ Fr n0 L ∧ h = h0
set_option maxRecDepth 65536 in
set_option maxHeartbeats 40000000 in
theorem rm1 (l : Launch) (Z : State) (a0 : Array Value) (hw : ∀ d ∈ tables_1, d.before a0 Z = true) (ws : List Jvm.Cond) (p1 : Int32) (h0 : Heap) (n0 : Nat) (Z0 : n0 ≤ h0.size) :
    MetFree l (⟨"com/example/noddle/noddle/xml/CharactersIsCharPinLaw", "agrees", "(I)Z"⟩ : MethodName) (head1 (Jvm.Cond.code (⟨"com/example/noddle/noddle/xml/CharactersIsCharPinLaw", "agrees", "(I)Z"⟩ : MethodName) method_3_code 1 (some .boolean) :: ws) ({ frames := 1, cells := 0, slots := 0, locals := 13 } : Room)) (fun aa U => aa = #[(.int p1)] ∧ Z.Warmed39 U.vm ∧ U.heap = h0) (fun _ _ _ _ _ => True) (fun _ U o U' => ∃ v L, o = .returned v ∧ Q1 Z p1 h0 n0 v U'.heap L ∧ FrameEnd U o U' L ({ frames := 1, cells := 0, slots := 0, locals := 13 } : Room).cells ({ frames := 1, cells := 0, slots := 0, locals := 13 } : Room).slots) := by
  refine MetFree.of_bodySF (plainFor_of_name pn_1) hisR ?_
  intro p e s m args below meth c s₁ Bd hml0 hP hK
  obtain ⟨rfl, hZ, hh⟩ := hP
  have hx := Bd.exec
  have hby := Bd.bytes
  have hml : c.maxLocals = 1 := hml0
  have hown : s.vm.findClass "com/example/noddle/noddle/xml/CharactersIsCharPinLaw" = some m.cls := findClass_of_methodNamed Bd.named
  have hnm := (name_of_methodNamed Bd.named Bd.method).1
  have X0 : Stand p l e ({ frames := 1, cells := 0, slots := 0, locals := 13 } : Room) s m #[(.int p1)] below meth c s₁ [] 0 0 := Stand.of_body Bd
  have e0 : s₁.heap = h0 := by rw [← hh, Bd.state]; rfl
  have N0 := Fr.nil n0
  refine own_enter (QQ := Q1 Z p1 h0 n0) (ef_1 m p1) ?_
  refine own_go (T' := s₁) (g' := (mkF m 1 #[.val (.int p1)] [(.int p1)])) (fun t k => XS.iloadN X0.here hx rfl (hb hby d1_0) rfl k) ?_
  obtain ⟨_, _, ⟨T1, L1, k1, n1⟩, -, X1, ⟨Lc1, hQ1, l1, y1, z1⟩, st1⟩ := Jvm.LawKit.callS X0 hx (y := (⟨"com/example/noddle/noddle/xml/Characters", "isChar", "(I)Z"⟩ : MethodName)) hown (mvT hZ (hw _ (List.mem_of_getElem? (i := 15) rfl))) (mvT hZ (hw _ (List.mem_of_getElem? (i := 16) rfl))) (mvT hZ (hw _ (List.mem_of_getElem? (i := 17) rfl))) (mvT hZ (hw _ (List.mem_of_getElem? (i := 18) rfl))) (by decide) (backOf (W := 0) (rm2 l Z a0 hw [] p1 h0 n0 Z0) hZ (hw _ (List.mem_of_getElem? (i := 18) rfl)) (hw _ (List.mem_of_getElem? (i := 17) rfl)) (by decide) (by decide)) (g := (mkF m 1 #[.val (.int p1)] [(.int p1)])) rfl (by rw [hml]; rfl) (argsL := [(.int p1)]) (rest := []) (lenOf own_pd0 rfl) rfl (by show 2 * 0 + _ ≤ _; exact Nat.le_of_eq rfl) (hb hby d1_1) (fun _ _ => ⟨rfl, e0, (by decide : 0 + 0 ≤ _), (by decide : 0 + 0 ≤ _)⟩)
  dsimp only [Pt.U, Pt.locs, Pt.cells, Pt.slots] at X1 l1 y1 z1 st1 hQ1
  subst l1 y1 z1
  obtain ⟨rfl, M1, K1⟩ := hQ1
  have N1 := Fr.app N0 M1
  refine own_go (T' := T1) (g' := (mkF m 4 #[.val (.int p1)] [(.int (own_isChar p1))])) (st1) ?_
  refine own_go (T' := T1) (g' := (mkF m 5 #[.val (.int p1)] [(.int p1), (.int (own_isChar p1))])) (fun t k => XS.iloadN X1.here hx rfl (hb hby d1_4) rfl k) ?_
  obtain ⟨_, _, ⟨T2, L2, k2, n2⟩, -, X2, ⟨Lc2, hQ2, l2, y2, z2⟩, st2⟩ := Jvm.LawKit.callS X1 hx (y := (⟨"com/example/noddle/noddle/xml/CharactersIsCharPinLaw", "excluded", "(I)Z"⟩ : MethodName)) hown (mvT hZ (hw _ (List.mem_of_getElem? (i := 21) rfl))) (mvT hZ (hw _ (List.mem_of_getElem? (i := 22) rfl))) (mvT hZ (hw _ (List.mem_of_getElem? (i := 13) rfl))) (mvT hZ (hw _ (List.mem_of_getElem? (i := 23) rfl))) (by decide) (backOf (W := 1) (rm3 l Z a0 hw [] p1 h0 n0 Z0) hZ (hw _ (List.mem_of_getElem? (i := 23) rfl)) (hw _ (List.mem_of_getElem? (i := 13) rfl)) (by decide) (by decide)) (g := (mkF m 5 #[.val (.int p1)] [(.int p1), (.int (own_isChar p1))])) rfl (by rw [hml]; rfl) (argsL := [(.int p1)]) (rest := [(.int (own_isChar p1))]) (lenOf own_pd0 rfl) rfl (by show 2 * 0 + _ ≤ _; exact Nat.le_of_eq rfl) (hb hby d1_5) (fun _ _ => ⟨rfl, K1, (by decide : 0 + 0 ≤ _), (by decide : 0 + 0 ≤ _)⟩)
  dsimp only [Pt.U, Pt.locs, Pt.cells, Pt.slots] at X2 l2 y2 z2 st2 hQ2
  subst l2 y2 z2
  obtain ⟨rfl, M2, K2⟩ := hQ2
  have N2 := Fr.app N1 M2
  refine own_go (T' := T2) (g' := (mkF m 8 #[.val (.int p1)] [(.int (own_excl p1)), (.int (own_isChar p1))])) (st2) ?_
  by_cases c8_1 : (own_excl p1) = (0 : Int32)
  · refine own_go (T' := T2) (g' := (mkF m 11 #[.val (.int p1)] [(.int (own_isChar p1))])) (fun t k => XS.ifNo X2.here hx rfl (hb hby d1_8) rfl ((if0 _ _).trans (teq c8_1).2) k) ?_
    refine own_go (T' := T2) (g' := (mkF m 12 #[.val (.int p1)] [(.int (1 : Int32)), (.int (own_isChar p1))])) (fun t k => XS.iconst X2.here hx rfl (hb hby d1_11) k) ?_
    refine own_go (T' := T2) (g' := (mkF m 16 #[.val (.int p1)] [(.int (1 : Int32)), (.int (own_isChar p1))])) (fun t k => XS.goto X2.here hx rfl (pc0 := 12) (pc' := 16) rfl (hb hby d1_12) (by decide) (by decide) k) ?_
    refine own_go (T' := T2) (g' := (mkF m 19 #[.val (.int p1)] [])) (fun t k => XS.icmpNo X2.here hx rfl (hb hby d1_16) rfl (teq (own_pin1 p1 c8_1)).2 k) ?_
    refine own_go (T' := T2) (g' := (mkF m 20 #[.val (.int p1)] [(.int (1 : Int32))])) (fun t k => XS.iconst X2.here hx rfl (hb hby d1_19) k) ?_
    refine own_go (T' := T2) (g' := (mkF m 24 #[.val (.int p1)] [(.int (1 : Int32))])) (fun t k => XS.goto X2.here hx rfl (pc0 := 20) (pc' := 24) rfl (hb hby d1_20) (by decide) (by decide) k) ?_
    exact own_retZ X2 hx Bd.notSynchronized Bd.returns (hb hby d1_24) rfl ⟨rfl, N2, K2⟩ (by decide) (by decide)
  · refine own_go (T' := T2) (g' := (mkF m 15 #[.val (.int p1)] [(.int (own_isChar p1))])) (fun t k => XS.ifYes X2.here hx rfl (pc0 := 8) (pc' := 15) rfl (hb hby d1_8) rfl ((if0 _ _).trans (feq c8_1).2) (by decide) (by decide) k) ?_
    refine own_go (T' := T2) (g' := (mkF m 16 #[.val (.int p1)] [(.int (0 : Int32)), (.int (own_isChar p1))])) (fun t k => XS.iconst X2.here hx rfl (hb hby d1_15) k) ?_
    refine own_go (T' := T2) (g' := (mkF m 19 #[.val (.int p1)] [])) (fun t k => XS.icmpNo X2.here hx rfl (hb hby d1_16) rfl (teq (own_pin0 p1 c8_1)).2 k) ?_
    refine own_go (T' := T2) (g' := (mkF m 20 #[.val (.int p1)] [(.int (1 : Int32))])) (fun t k => XS.iconst X2.here hx rfl (hb hby d1_19) k) ?_
    refine own_go (T' := T2) (g' := (mkF m 24 #[.val (.int p1)] [(.int (1 : Int32))])) (fun t k => XS.goto X2.here hx rfl (pc0 := 20) (pc' := 24) rfl (hb hby d1_20) (by decide) (by decide) k) ?_
    exact own_retZ X2 hx Bd.notSynchronized Bd.returns (hb hby d1_24) rfl ⟨rfl, N2, K2⟩ (by decide) (by decide)
def own_Ints (Z : State) (h : Heap) (a : Addr) (n : Nat) : Prop := ∃ c : Cell, Arr Z h a c .int ∧ c.slots.size = n ∧ ∀ k, k < n → ∃ z : Int32, c.slots[k]? = some (.int z)
theorem own_ints_new {Z : State} {h : Heap} {a : Addr} {k : ClassId} {n : Int32} (A : Arr Z h a (newA k .int n) .int) : own_Ints Z h a n.toNatClampNeg :=
  ⟨_, A, sz_new _ _ _, fun i hi => ⟨0, by simp [newA, hi, defaultValue]⟩⟩
theorem own_ints_set {Z : State} {h h' : Heap} {a : Addr} {c : Cell} {n j : Nat} {x : Int32} (A : Arr Z h a c .int) (S : c.slots.size = n) (G : ∀ k, k < n → ∃ z : Int32, c.slots[k]? = some (.int z)) (W : Wr h h' a j (.int x)) : own_Ints Z h' a n := by
  refine ⟨_, A.same W, by rw [sz_set]; exact S, fun k hk => ?_⟩
  by_cases q : j = k
  · subst q; exact ⟨x, by simp [Cell.setSlot, S, hk]⟩
  · obtain ⟨z, hz⟩ := G k hk
    exact ⟨z, by rw [← hz]; exact Array.getElem?_setIfInBounds_ne q⟩
theorem own_at (z : Int32) {n : Nat} (hn : n = 16) : ¬ (((z &&& (2147483647 : Int32)) - ((z &&& (2147483647 : Int32)) / (16 : Int32)) * (16 : Int32)) < 0 ∨ n ≤ ((z &&& (2147483647 : Int32)) - ((z &&& (2147483647 : Int32)) / (16 : Int32)) * (16 : Int32)).toNatClampNeg) := by
  have h : 0 ≤ (z &&& (2147483647 : Int32)).toInt := by
    rw [Jvm.Kit.i32_mask z (2147483647 : Int32) (k := 31) (by decide) (by decide)]; omega
  have q : ((z &&& (2147483647 : Int32)) - ((z &&& (2147483647 : Int32)) / (16 : Int32)) * (16 : Int32)).toInt = (z &&& (2147483647 : Int32)).toInt % 16 := by
    rw [irem_eq_mod, Jvm.Kit.i32_rem_nonneg h, show (16 : Int32).toInt = 16 from by decide]
  rw [Int32.lt_iff_toInt_lt, Int32.toNatClampNeg, q, show (0 : Int32).toInt = 0 from by decide]
  omega
theorem pn_0 : plainName "com/example/noddle/noddle/xml/CharactersIsCharPinLaw" = true := by first | (simp [plainName, overriddenIn]; done) | decide +kernel
theorem ef_0 (m : MethodId) (x0 : Int32) (x1 : Int32) (x2 : Int32) : entryFrame m #[(.int x0), (.int x1), (.int x2)] maxLocals = mkF m 0 #[.val (.int x0), .val (.int x1), .val (.int x2), .unset, .unset] [] := by first | (simp [entryFrame, mkF, argsToLocals, Value.category, maxLocals]; done) | rfl
def Q0 (Z : State) (p1 p2 p3 : Int32) (h0 : Heap) (n0 : Nat) (v : Option Value) (h : Heap) (L : List Loc) : Prop := v = some (.int 1) ∧ Fr n0 L
set_option maxRecDepth 65536 in
set_option maxHeartbeats 40000000 in
theorem rm0 (l : Launch) (Z : State) (a0 : Array Value) (hw : ∀ d ∈ tables_1, d.before a0 Z = true) (ws : List Jvm.Cond) (p1 : Int32) (p2 : Int32) (p3 : Int32) (h0 : Heap) (n0 : Nat) (Z0 : n0 ≤ h0.size) :
    MetFree l x (head1 (Jvm.Cond.code x code maxLocals ret :: ws) room_1) (fun aa U => aa = #[(.int p1), (.int p2), (.int p3)] ∧ Z.Warmed39 U.vm ∧ U.heap = h0) (fun _ _ _ _ _ => True) (fun _ U o U' => ∃ v L, o = .returned v ∧ Q0 Z p1 p2 p3 h0 n0 v U'.heap L ∧ FrameEnd U o U' L room_1.cells room_1.slots) := by
  refine MetFree.of_bodySF (plainFor_of_name pn_0) hisR ?_
  intro p e s m args below meth c s₁ Bd hml0 hP hK
  obtain ⟨rfl, hZ, hh⟩ := hP
  have hx := Bd.exec
  have hby := Bd.bytes
  have hml : c.maxLocals = 5 := hml0
  have hown : s.vm.findClass "com/example/noddle/noddle/xml/CharactersIsCharPinLaw" = some m.cls := findClass_of_methodNamed Bd.named
  have hnm := (name_of_methodNamed Bd.named Bd.method).1
  have X0 : Stand p l e room_1 s m #[(.int p1), (.int p2), (.int p3)] below meth c s₁ [] 0 0 := Stand.of_body Bd
  have e0 : s₁.heap = h0 := by rw [← hh, Bd.state]; rfl
  have N0 := Fr.nil n0
  refine own_enter (QQ := Q0 Z p1 p2 p3 h0 n0) (ef_0 m p1 p2 p3) ?_
  refine own_go (T' := s₁) (g' := (mkF m 2 #[.val (.int p1), .val (.int p2), .val (.int p3), .unset, .unset] [(.int (16 : Int32))])) (fun t k => XS.bipush X0.here hx rfl (hb hby at_0) k) ?_
  obtain ⟨T3, h3, k3, X3, e3, E3, A3, st3⟩ := newP X0 hx hZ (hw _ (List.mem_of_getElem? (i := 0) rfl)) e0 (g := (mkF m 2 #[.val (.int p1), .val (.int p2), .val (.int p3), .unset, .unset] [(.int (16 : Int32))])) rfl (hb hby at_2) rfl (by decide) (cap := 16) (by decide) (by decide) (by decide) (by decide)
  obtain ⟨b, gb⟩ : ∃ z, z = h0.size := ⟨_, rfl⟩
  rw [← gb] at A3 st3
  have I0 : own_Ints Z h3 b 16 := own_ints_new A3
  have gn : n0 ≤ b := Nat.le_trans Z0 (Nat.le_of_eq gb.symm)
  have Z3 : n0 ≤ h3.size := Nat.le_trans Z0 E3.1
  refine own_go (T' := T3) (g' := (mkF m 4 #[.val (.int p1), .val (.int p2), .val (.int p3), .unset, .unset] [(.ref b)])) (st3) ?_
  refine own_go (T' := T3) (g' := (mkF m 5 #[.val (.int p1), .val (.int p2), .val (.int p3), .unset, .unset] [(.ref b), (.ref b)])) (fun t k => XS.dup X3.here hx rfl (hb hby at_4) rfl rfl k) ?_
  refine own_go (T' := T3) (g' := (mkF m 6 #[.val (.int p1), .val (.int p2), .val (.int p3), .unset, .unset] [(.int (0 : Int32)), (.ref b), (.ref b)])) (fun t k => XS.iconst X3.here hx rfl (hb hby at_5) k) ?_
  refine own_go (T' := T3) (g' := (mkF m 8 #[.val (.int p1), .val (.int p2), .val (.int p3), .unset, .unset] [(.int (9 : Int32)), (.int (0 : Int32)), (.ref b), (.ref b)])) (fun t k => XS.bipush X3.here hx rfl (hb hby at_6) k) ?_
  obtain ⟨cl4, Ar4, S4, G4⟩ := I0
  obtain ⟨T4, h4, X4, e4, W4, st4⟩ := stI X3 hx hZ e3 Ar4 (j := (0 : Int32)) (by rw [S4]; decide) (g := (mkF m 8 #[.val (.int p1), .val (.int p2), .val (.int p3), .unset, .unset] [(.int (9 : Int32)), (.int (0 : Int32)), (.ref b), (.ref b)])) rfl rfl (hb hby at_8)
  have I0 := own_ints_set Ar4 S4 G4 W4
  have N4 := Fr.snoc X4 N0 gn
  have Z4 : n0 ≤ h4.size := Nat.le_trans Z3 (Keep.of_wr W4).1
  refine own_go (T' := T4) (g' := (mkF m 9 #[.val (.int p1), .val (.int p2), .val (.int p3), .unset, .unset] [(.ref b)])) (st4) ?_
  refine own_go (T' := T4) (g' := (mkF m 10 #[.val (.int p1), .val (.int p2), .val (.int p3), .unset, .unset] [(.ref b), (.ref b)])) (fun t k => XS.dup X4.here hx rfl (hb hby at_9) rfl rfl k) ?_
  refine own_go (T' := T4) (g' := (mkF m 11 #[.val (.int p1), .val (.int p2), .val (.int p3), .unset, .unset] [(.int (1 : Int32)), (.ref b), (.ref b)])) (fun t k => XS.iconst X4.here hx rfl (hb hby at_10) k) ?_
  refine own_go (T' := T4) (g' := (mkF m 13 #[.val (.int p1), .val (.int p2), .val (.int p3), .unset, .unset] [(.int (10 : Int32)), (.int (1 : Int32)), (.ref b), (.ref b)])) (fun t k => XS.bipush X4.here hx rfl (hb hby at_11) k) ?_
  obtain ⟨cl5, Ar5, S5, G5⟩ := I0
  obtain ⟨T5, h5, X5, e5, W5, st5⟩ := stI X4 hx hZ e4 Ar5 (j := (1 : Int32)) (by rw [S5]; decide) (g := (mkF m 13 #[.val (.int p1), .val (.int p2), .val (.int p3), .unset, .unset] [(.int (10 : Int32)), (.int (1 : Int32)), (.ref b), (.ref b)])) rfl rfl (hb hby at_13)
  have I0 := own_ints_set Ar5 S5 G5 W5
  have N5 := Fr.snoc X5 N4 gn
  have Z5 : n0 ≤ h5.size := Nat.le_trans Z4 (Keep.of_wr W5).1
  refine own_go (T' := T5) (g' := (mkF m 14 #[.val (.int p1), .val (.int p2), .val (.int p3), .unset, .unset] [(.ref b)])) (st5) ?_
  refine own_go (T' := T5) (g' := (mkF m 15 #[.val (.int p1), .val (.int p2), .val (.int p3), .unset, .unset] [(.ref b), (.ref b)])) (fun t k => XS.dup X5.here hx rfl (hb hby at_14) rfl rfl k) ?_
  refine own_go (T' := T5) (g' := (mkF m 16 #[.val (.int p1), .val (.int p2), .val (.int p3), .unset, .unset] [(.int (2 : Int32)), (.ref b), (.ref b)])) (fun t k => XS.iconst X5.here hx rfl (hb hby at_15) k) ?_
  refine own_go (T' := T5) (g' := (mkF m 18 #[.val (.int p1), .val (.int p2), .val (.int p3), .unset, .unset] [(.int (13 : Int32)), (.int (2 : Int32)), (.ref b), (.ref b)])) (fun t k => XS.bipush X5.here hx rfl (hb hby at_16) k) ?_
  obtain ⟨cl6, Ar6, S6, G6⟩ := I0
  obtain ⟨T6, h6, X6, e6, W6, st6⟩ := stI X5 hx hZ e5 Ar6 (j := (2 : Int32)) (by rw [S6]; decide) (g := (mkF m 18 #[.val (.int p1), .val (.int p2), .val (.int p3), .unset, .unset] [(.int (13 : Int32)), (.int (2 : Int32)), (.ref b), (.ref b)])) rfl rfl (hb hby at_18)
  have I0 := own_ints_set Ar6 S6 G6 W6
  have N6 := Fr.snoc X6 N5 gn
  have Z6 : n0 ≤ h6.size := Nat.le_trans Z5 (Keep.of_wr W6).1
  refine own_go (T' := T6) (g' := (mkF m 19 #[.val (.int p1), .val (.int p2), .val (.int p3), .unset, .unset] [(.ref b)])) (st6) ?_
  refine own_go (T' := T6) (g' := (mkF m 20 #[.val (.int p1), .val (.int p2), .val (.int p3), .unset, .unset] [(.ref b), (.ref b)])) (fun t k => XS.dup X6.here hx rfl (hb hby at_19) rfl rfl k) ?_
  refine own_go (T' := T6) (g' := (mkF m 21 #[.val (.int p1), .val (.int p2), .val (.int p3), .unset, .unset] [(.int (3 : Int32)), (.ref b), (.ref b)])) (fun t k => XS.iconst X6.here hx rfl (hb hby at_20) k) ?_
  refine own_go (T' := T6) (g' := (mkF m 23 #[.val (.int p1), .val (.int p2), .val (.int p3), .unset, .unset] [(.int (32 : Int32)), (.int (3 : Int32)), (.ref b), (.ref b)])) (fun t k => XS.bipush X6.here hx rfl (hb hby at_21) k) ?_
  obtain ⟨cl7, Ar7, S7, G7⟩ := I0
  obtain ⟨T7, h7, X7, e7, W7, st7⟩ := stI X6 hx hZ e6 Ar7 (j := (3 : Int32)) (by rw [S7]; decide) (g := (mkF m 23 #[.val (.int p1), .val (.int p2), .val (.int p3), .unset, .unset] [(.int (32 : Int32)), (.int (3 : Int32)), (.ref b), (.ref b)])) rfl rfl (hb hby at_23)
  have I0 := own_ints_set Ar7 S7 G7 W7
  have N7 := Fr.snoc X7 N6 gn
  have Z7 : n0 ≤ h7.size := Nat.le_trans Z6 (Keep.of_wr W7).1
  refine own_go (T' := T7) (g' := (mkF m 24 #[.val (.int p1), .val (.int p2), .val (.int p3), .unset, .unset] [(.ref b)])) (st7) ?_
  refine own_go (T' := T7) (g' := (mkF m 25 #[.val (.int p1), .val (.int p2), .val (.int p3), .unset, .unset] [(.ref b), (.ref b)])) (fun t k => XS.dup X7.here hx rfl (hb hby at_24) rfl rfl k) ?_
  refine own_go (T' := T7) (g' := (mkF m 26 #[.val (.int p1), .val (.int p2), .val (.int p3), .unset, .unset] [(.int (4 : Int32)), (.ref b), (.ref b)])) (fun t k => XS.iconst X7.here hx rfl (hb hby at_25) k) ?_
  refine own_go (T' := T7) (g' := (mkF m 28 #[.val (.int p1), .val (.int p2), .val (.int p3), .unset, .unset] [(.int (55295 : Int32)), (.int (4 : Int32)), (.ref b), (.ref b)])) (X7.ldcInt hx hown (mvT hZ (hw _ (List.mem_of_getElem? (i := 1) rfl))) (g := (mkF m 26 #[.val (.int p1), .val (.int p2), .val (.int p3), .unset, .unset] [(.int (4 : Int32)), (.ref b), (.ref b)])) rfl (hb hby at_26)) ?_
  obtain ⟨cl8, Ar8, S8, G8⟩ := I0
  obtain ⟨T8, h8, X8, e8, W8, st8⟩ := stI X7 hx hZ e7 Ar8 (j := (4 : Int32)) (by rw [S8]; decide) (g := (mkF m 28 #[.val (.int p1), .val (.int p2), .val (.int p3), .unset, .unset] [(.int (55295 : Int32)), (.int (4 : Int32)), (.ref b), (.ref b)])) rfl rfl (hb hby at_28)
  have I0 := own_ints_set Ar8 S8 G8 W8
  have N8 := Fr.snoc X8 N7 gn
  have Z8 : n0 ≤ h8.size := Nat.le_trans Z7 (Keep.of_wr W8).1
  refine own_go (T' := T8) (g' := (mkF m 29 #[.val (.int p1), .val (.int p2), .val (.int p3), .unset, .unset] [(.ref b)])) (st8) ?_
  refine own_go (T' := T8) (g' := (mkF m 30 #[.val (.int p1), .val (.int p2), .val (.int p3), .unset, .unset] [(.ref b), (.ref b)])) (fun t k => XS.dup X8.here hx rfl (hb hby at_29) rfl rfl k) ?_
  refine own_go (T' := T8) (g' := (mkF m 31 #[.val (.int p1), .val (.int p2), .val (.int p3), .unset, .unset] [(.int (5 : Int32)), (.ref b), (.ref b)])) (fun t k => XS.iconst X8.here hx rfl (hb hby at_30) k) ?_
  refine own_go (T' := T8) (g' := (mkF m 33 #[.val (.int p1), .val (.int p2), .val (.int p3), .unset, .unset] [(.int (57344 : Int32)), (.int (5 : Int32)), (.ref b), (.ref b)])) (X8.ldcInt hx hown (mvT hZ (hw _ (List.mem_of_getElem? (i := 2) rfl))) (g := (mkF m 31 #[.val (.int p1), .val (.int p2), .val (.int p3), .unset, .unset] [(.int (5 : Int32)), (.ref b), (.ref b)])) rfl (hb hby at_31)) ?_
  obtain ⟨cl9, Ar9, S9, G9⟩ := I0
  obtain ⟨T9, h9, X9, e9, W9, st9⟩ := stI X8 hx hZ e8 Ar9 (j := (5 : Int32)) (by rw [S9]; decide) (g := (mkF m 33 #[.val (.int p1), .val (.int p2), .val (.int p3), .unset, .unset] [(.int (57344 : Int32)), (.int (5 : Int32)), (.ref b), (.ref b)])) rfl rfl (hb hby at_33)
  have I0 := own_ints_set Ar9 S9 G9 W9
  have N9 := Fr.snoc X9 N8 gn
  have Z9 : n0 ≤ h9.size := Nat.le_trans Z8 (Keep.of_wr W9).1
  refine own_go (T' := T9) (g' := (mkF m 34 #[.val (.int p1), .val (.int p2), .val (.int p3), .unset, .unset] [(.ref b)])) (st9) ?_
  refine own_go (T' := T9) (g' := (mkF m 35 #[.val (.int p1), .val (.int p2), .val (.int p3), .unset, .unset] [(.ref b), (.ref b)])) (fun t k => XS.dup X9.here hx rfl (hb hby at_34) rfl rfl k) ?_
  refine own_go (T' := T9) (g' := (mkF m 37 #[.val (.int p1), .val (.int p2), .val (.int p3), .unset, .unset] [(.int (6 : Int32)), (.ref b), (.ref b)])) (fun t k => XS.bipush X9.here hx rfl (hb hby at_35) k) ?_
  refine own_go (T' := T9) (g' := (mkF m 39 #[.val (.int p1), .val (.int p2), .val (.int p3), .unset, .unset] [(.int (65533 : Int32)), (.int (6 : Int32)), (.ref b), (.ref b)])) (X9.ldcInt hx hown (mvT hZ (hw _ (List.mem_of_getElem? (i := 3) rfl))) (g := (mkF m 37 #[.val (.int p1), .val (.int p2), .val (.int p3), .unset, .unset] [(.int (6 : Int32)), (.ref b), (.ref b)])) rfl (hb hby at_37)) ?_
  obtain ⟨cl10, Ar10, S10, G10⟩ := I0
  obtain ⟨T10, h10, X10, e10, W10, st10⟩ := stI X9 hx hZ e9 Ar10 (j := (6 : Int32)) (by rw [S10]; decide) (g := (mkF m 39 #[.val (.int p1), .val (.int p2), .val (.int p3), .unset, .unset] [(.int (65533 : Int32)), (.int (6 : Int32)), (.ref b), (.ref b)])) rfl rfl (hb hby at_39)
  have I0 := own_ints_set Ar10 S10 G10 W10
  have N10 := Fr.snoc X10 N9 gn
  have Z10 : n0 ≤ h10.size := Nat.le_trans Z9 (Keep.of_wr W10).1
  refine own_go (T' := T10) (g' := (mkF m 40 #[.val (.int p1), .val (.int p2), .val (.int p3), .unset, .unset] [(.ref b)])) (st10) ?_
  refine own_go (T' := T10) (g' := (mkF m 41 #[.val (.int p1), .val (.int p2), .val (.int p3), .unset, .unset] [(.ref b), (.ref b)])) (fun t k => XS.dup X10.here hx rfl (hb hby at_40) rfl rfl k) ?_
  refine own_go (T' := T10) (g' := (mkF m 43 #[.val (.int p1), .val (.int p2), .val (.int p3), .unset, .unset] [(.int (7 : Int32)), (.ref b), (.ref b)])) (fun t k => XS.bipush X10.here hx rfl (hb hby at_41) k) ?_
  refine own_go (T' := T10) (g' := (mkF m 45 #[.val (.int p1), .val (.int p2), .val (.int p3), .unset, .unset] [(.int (65536 : Int32)), (.int (7 : Int32)), (.ref b), (.ref b)])) (X10.ldcInt hx hown (mvT hZ (hw _ (List.mem_of_getElem? (i := 4) rfl))) (g := (mkF m 43 #[.val (.int p1), .val (.int p2), .val (.int p3), .unset, .unset] [(.int (7 : Int32)), (.ref b), (.ref b)])) rfl (hb hby at_43)) ?_
  obtain ⟨cl11, Ar11, S11, G11⟩ := I0
  obtain ⟨T11, h11, X11, e11, W11, st11⟩ := stI X10 hx hZ e10 Ar11 (j := (7 : Int32)) (by rw [S11]; decide) (g := (mkF m 45 #[.val (.int p1), .val (.int p2), .val (.int p3), .unset, .unset] [(.int (65536 : Int32)), (.int (7 : Int32)), (.ref b), (.ref b)])) rfl rfl (hb hby at_45)
  have I0 := own_ints_set Ar11 S11 G11 W11
  have N11 := Fr.snoc X11 N10 gn
  have Z11 : n0 ≤ h11.size := Nat.le_trans Z10 (Keep.of_wr W11).1
  refine own_go (T' := T11) (g' := (mkF m 46 #[.val (.int p1), .val (.int p2), .val (.int p3), .unset, .unset] [(.ref b)])) (st11) ?_
  refine own_go (T' := T11) (g' := (mkF m 47 #[.val (.int p1), .val (.int p2), .val (.int p3), .unset, .unset] [(.ref b), (.ref b)])) (fun t k => XS.dup X11.here hx rfl (hb hby at_46) rfl rfl k) ?_
  refine own_go (T' := T11) (g' := (mkF m 49 #[.val (.int p1), .val (.int p2), .val (.int p3), .unset, .unset] [(.int (8 : Int32)), (.ref b), (.ref b)])) (fun t k => XS.bipush X11.here hx rfl (hb hby at_47) k) ?_
  refine own_go (T' := T11) (g' := (mkF m 51 #[.val (.int p1), .val (.int p2), .val (.int p3), .unset, .unset] [(.int (1114111 : Int32)), (.int (8 : Int32)), (.ref b), (.ref b)])) (X11.ldcInt hx hown (mvT hZ (hw _ (List.mem_of_getElem? (i := 5) rfl))) (g := (mkF m 49 #[.val (.int p1), .val (.int p2), .val (.int p3), .unset, .unset] [(.int (8 : Int32)), (.ref b), (.ref b)])) rfl (hb hby at_49)) ?_
  obtain ⟨cl12, Ar12, S12, G12⟩ := I0
  obtain ⟨T12, h12, X12, e12, W12, st12⟩ := stI X11 hx hZ e11 Ar12 (j := (8 : Int32)) (by rw [S12]; decide) (g := (mkF m 51 #[.val (.int p1), .val (.int p2), .val (.int p3), .unset, .unset] [(.int (1114111 : Int32)), (.int (8 : Int32)), (.ref b), (.ref b)])) rfl rfl (hb hby at_51)
  have I0 := own_ints_set Ar12 S12 G12 W12
  have N12 := Fr.snoc X12 N11 gn
  have Z12 : n0 ≤ h12.size := Nat.le_trans Z11 (Keep.of_wr W12).1
  refine own_go (T' := T12) (g' := (mkF m 52 #[.val (.int p1), .val (.int p2), .val (.int p3), .unset, .unset] [(.ref b)])) (st12) ?_
  refine own_go (T' := T12) (g' := (mkF m 53 #[.val (.int p1), .val (.int p2), .val (.int p3), .unset, .unset] [(.ref b), (.ref b)])) (fun t k => XS.dup X12.here hx rfl (hb hby at_52) rfl rfl k) ?_
  refine own_go (T' := T12) (g' := (mkF m 55 #[.val (.int p1), .val (.int p2), .val (.int p3), .unset, .unset] [(.int (9 : Int32)), (.ref b), (.ref b)])) (fun t k => XS.bipush X12.here hx rfl (hb hby at_53) k) ?_
  refine own_go (T' := T12) (g' := (mkF m 56 #[.val (.int p1), .val (.int p2), .val (.int p3), .unset, .unset] [(.int (0 : Int32)), (.int (9 : Int32)), (.ref b), (.ref b)])) (fun t k => XS.iconst X12.here hx rfl (hb hby at_55) k) ?_
  obtain ⟨cl13, Ar13, S13, G13⟩ := I0
  obtain ⟨T13, h13, X13, e13, W13, st13⟩ := stI X12 hx hZ e12 Ar13 (j := (9 : Int32)) (by rw [S13]; decide) (g := (mkF m 56 #[.val (.int p1), .val (.int p2), .val (.int p3), .unset, .unset] [(.int (0 : Int32)), (.int (9 : Int32)), (.ref b), (.ref b)])) rfl rfl (hb hby at_56)
  have I0 := own_ints_set Ar13 S13 G13 W13
  have N13 := Fr.snoc X13 N12 gn
  have Z13 : n0 ≤ h13.size := Nat.le_trans Z12 (Keep.of_wr W13).1
  refine own_go (T' := T13) (g' := (mkF m 57 #[.val (.int p1), .val (.int p2), .val (.int p3), .unset, .unset] [(.ref b)])) (st13) ?_
  refine own_go (T' := T13) (g' := (mkF m 58 #[.val (.int p1), .val (.int p2), .val (.int p3), .unset, .unset] [(.ref b), (.ref b)])) (fun t k => XS.dup X13.here hx rfl (hb hby at_57) rfl rfl k) ?_
  refine own_go (T' := T13) (g' := (mkF m 60 #[.val (.int p1), .val (.int p2), .val (.int p3), .unset, .unset] [(.int (10 : Int32)), (.ref b), (.ref b)])) (fun t k => XS.bipush X13.here hx rfl (hb hby at_58) k) ?_
  refine own_go (T' := T13) (g' := (mkF m 62 #[.val (.int p1), .val (.int p2), .val (.int p3), .unset, .unset] [(.int (-2147483648 : Int32)), (.int (10 : Int32)), (.ref b), (.ref b)])) (X13.ldcInt hx hown (mvT hZ (hw _ (List.mem_of_getElem? (i := 6) rfl))) (g := (mkF m 60 #[.val (.int p1), .val (.int p2), .val (.int p3), .unset, .unset] [(.int (10 : Int32)), (.ref b), (.ref b)])) rfl (hb hby at_60)) ?_
  obtain ⟨cl14, Ar14, S14, G14⟩ := I0
  obtain ⟨T14, h14, X14, e14, W14, st14⟩ := stI X13 hx hZ e13 Ar14 (j := (10 : Int32)) (by rw [S14]; decide) (g := (mkF m 62 #[.val (.int p1), .val (.int p2), .val (.int p3), .unset, .unset] [(.int (-2147483648 : Int32)), (.int (10 : Int32)), (.ref b), (.ref b)])) rfl rfl (hb hby at_62)
  have I0 := own_ints_set Ar14 S14 G14 W14
  have N14 := Fr.snoc X14 N13 gn
  have Z14 : n0 ≤ h14.size := Nat.le_trans Z13 (Keep.of_wr W14).1
  refine own_go (T' := T14) (g' := (mkF m 63 #[.val (.int p1), .val (.int p2), .val (.int p3), .unset, .unset] [(.ref b)])) (st14) ?_
  refine own_go (T' := T14) (g' := (mkF m 64 #[.val (.int p1), .val (.int p2), .val (.int p3), .unset, .unset] [(.ref b), (.ref b)])) (fun t k => XS.dup X14.here hx rfl (hb hby at_63) rfl rfl k) ?_
  refine own_go (T' := T14) (g' := (mkF m 66 #[.val (.int p1), .val (.int p2), .val (.int p3), .unset, .unset] [(.int (11 : Int32)), (.ref b), (.ref b)])) (fun t k => XS.bipush X14.here hx rfl (hb hby at_64) k) ?_
  refine own_go (T' := T14) (g' := (mkF m 68 #[.val (.int p1), .val (.int p2), .val (.int p3), .unset, .unset] [(.int (2147483647 : Int32)), (.int (11 : Int32)), (.ref b), (.ref b)])) (X14.ldcInt hx hown (mvT hZ (hw _ (List.mem_of_getElem? (i := 7) rfl))) (g := (mkF m 66 #[.val (.int p1), .val (.int p2), .val (.int p3), .unset, .unset] [(.int (11 : Int32)), (.ref b), (.ref b)])) rfl (hb hby at_66)) ?_
  obtain ⟨cl15, Ar15, S15, G15⟩ := I0
  obtain ⟨T15, h15, X15, e15, W15, st15⟩ := stI X14 hx hZ e14 Ar15 (j := (11 : Int32)) (by rw [S15]; decide) (g := (mkF m 68 #[.val (.int p1), .val (.int p2), .val (.int p3), .unset, .unset] [(.int (2147483647 : Int32)), (.int (11 : Int32)), (.ref b), (.ref b)])) rfl rfl (hb hby at_68)
  have I0 := own_ints_set Ar15 S15 G15 W15
  have N15 := Fr.snoc X15 N14 gn
  have Z15 : n0 ≤ h15.size := Nat.le_trans Z14 (Keep.of_wr W15).1
  refine own_go (T' := T15) (g' := (mkF m 69 #[.val (.int p1), .val (.int p2), .val (.int p3), .unset, .unset] [(.ref b)])) (st15) ?_
  refine own_go (T' := T15) (g' := (mkF m 70 #[.val (.int p1), .val (.int p2), .val (.int p3), .unset, .unset] [(.ref b), (.ref b)])) (fun t k => XS.dup X15.here hx rfl (hb hby at_69) rfl rfl k) ?_
  refine own_go (T' := T15) (g' := (mkF m 72 #[.val (.int p1), .val (.int p2), .val (.int p3), .unset, .unset] [(.int (12 : Int32)), (.ref b), (.ref b)])) (fun t k => XS.bipush X15.here hx rfl (hb hby at_70) k) ?_
  refine own_go (T' := T15) (g' := (mkF m 74 #[.val (.int p1), .val (.int p2), .val (.int p3), .unset, .unset] [(.int (11 : Int32)), (.int (12 : Int32)), (.ref b), (.ref b)])) (fun t k => XS.bipush X15.here hx rfl (hb hby at_72) k) ?_
  obtain ⟨cl16, Ar16, S16, G16⟩ := I0
  obtain ⟨T16, h16, X16, e16, W16, st16⟩ := stI X15 hx hZ e15 Ar16 (j := (12 : Int32)) (by rw [S16]; decide) (g := (mkF m 74 #[.val (.int p1), .val (.int p2), .val (.int p3), .unset, .unset] [(.int (11 : Int32)), (.int (12 : Int32)), (.ref b), (.ref b)])) rfl rfl (hb hby at_74)
  have I0 := own_ints_set Ar16 S16 G16 W16
  have N16 := Fr.snoc X16 N15 gn
  have Z16 : n0 ≤ h16.size := Nat.le_trans Z15 (Keep.of_wr W16).1
  refine own_go (T' := T16) (g' := (mkF m 75 #[.val (.int p1), .val (.int p2), .val (.int p3), .unset, .unset] [(.ref b)])) (st16) ?_
  refine own_go (T' := T16) (g' := (mkF m 76 #[.val (.int p1), .val (.int p2), .val (.int p3), .unset, .unset] [(.ref b), (.ref b)])) (fun t k => XS.dup X16.here hx rfl (hb hby at_75) rfl rfl k) ?_
  refine own_go (T' := T16) (g' := (mkF m 78 #[.val (.int p1), .val (.int p2), .val (.int p3), .unset, .unset] [(.int (13 : Int32)), (.ref b), (.ref b)])) (fun t k => XS.bipush X16.here hx rfl (hb hby at_76) k) ?_
  refine own_go (T' := T16) (g' := (mkF m 80 #[.val (.int p1), .val (.int p2), .val (.int p3), .unset, .unset] [(.int (55296 : Int32)), (.int (13 : Int32)), (.ref b), (.ref b)])) (X16.ldcInt hx hown (mvT hZ (hw _ (List.mem_of_getElem? (i := 8) rfl))) (g := (mkF m 78 #[.val (.int p1), .val (.int p2), .val (.int p3), .unset, .unset] [(.int (13 : Int32)), (.ref b), (.ref b)])) rfl (hb hby at_78)) ?_
  obtain ⟨cl17, Ar17, S17, G17⟩ := I0
  obtain ⟨T17, h17, X17, e17, W17, st17⟩ := stI X16 hx hZ e16 Ar17 (j := (13 : Int32)) (by rw [S17]; decide) (g := (mkF m 80 #[.val (.int p1), .val (.int p2), .val (.int p3), .unset, .unset] [(.int (55296 : Int32)), (.int (13 : Int32)), (.ref b), (.ref b)])) rfl rfl (hb hby at_80)
  have I0 := own_ints_set Ar17 S17 G17 W17
  have N17 := Fr.snoc X17 N16 gn
  have Z17 : n0 ≤ h17.size := Nat.le_trans Z16 (Keep.of_wr W17).1
  refine own_go (T' := T17) (g' := (mkF m 81 #[.val (.int p1), .val (.int p2), .val (.int p3), .unset, .unset] [(.ref b)])) (st17) ?_
  refine own_go (T' := T17) (g' := (mkF m 82 #[.val (.int p1), .val (.int p2), .val (.int p3), .unset, .unset] [(.ref b), (.ref b)])) (fun t k => XS.dup X17.here hx rfl (hb hby at_81) rfl rfl k) ?_
  refine own_go (T' := T17) (g' := (mkF m 84 #[.val (.int p1), .val (.int p2), .val (.int p3), .unset, .unset] [(.int (14 : Int32)), (.ref b), (.ref b)])) (fun t k => XS.bipush X17.here hx rfl (hb hby at_82) k) ?_
  refine own_go (T' := T17) (g' := (mkF m 86 #[.val (.int p1), .val (.int p2), .val (.int p3), .unset, .unset] [(.int (57343 : Int32)), (.int (14 : Int32)), (.ref b), (.ref b)])) (X17.ldcInt hx hown (mvT hZ (hw _ (List.mem_of_getElem? (i := 9) rfl))) (g := (mkF m 84 #[.val (.int p1), .val (.int p2), .val (.int p3), .unset, .unset] [(.int (14 : Int32)), (.ref b), (.ref b)])) rfl (hb hby at_84)) ?_
  obtain ⟨cl18, Ar18, S18, G18⟩ := I0
  obtain ⟨T18, h18, X18, e18, W18, st18⟩ := stI X17 hx hZ e17 Ar18 (j := (14 : Int32)) (by rw [S18]; decide) (g := (mkF m 86 #[.val (.int p1), .val (.int p2), .val (.int p3), .unset, .unset] [(.int (57343 : Int32)), (.int (14 : Int32)), (.ref b), (.ref b)])) rfl rfl (hb hby at_86)
  have I0 := own_ints_set Ar18 S18 G18 W18
  have N18 := Fr.snoc X18 N17 gn
  have Z18 : n0 ≤ h18.size := Nat.le_trans Z17 (Keep.of_wr W18).1
  refine own_go (T' := T18) (g' := (mkF m 87 #[.val (.int p1), .val (.int p2), .val (.int p3), .unset, .unset] [(.ref b)])) (st18) ?_
  refine own_go (T' := T18) (g' := (mkF m 88 #[.val (.int p1), .val (.int p2), .val (.int p3), .unset, .unset] [(.ref b), (.ref b)])) (fun t k => XS.dup X18.here hx rfl (hb hby at_87) rfl rfl k) ?_
  refine own_go (T' := T18) (g' := (mkF m 90 #[.val (.int p1), .val (.int p2), .val (.int p3), .unset, .unset] [(.int (15 : Int32)), (.ref b), (.ref b)])) (fun t k => XS.bipush X18.here hx rfl (hb hby at_88) k) ?_
  refine own_go (T' := T18) (g' := (mkF m 92 #[.val (.int p1), .val (.int p2), .val (.int p3), .unset, .unset] [(.int (65535 : Int32)), (.int (15 : Int32)), (.ref b), (.ref b)])) (X18.ldcInt hx hown (mvT hZ (hw _ (List.mem_of_getElem? (i := 10) rfl))) (g := (mkF m 90 #[.val (.int p1), .val (.int p2), .val (.int p3), .unset, .unset] [(.int (15 : Int32)), (.ref b), (.ref b)])) rfl (hb hby at_90)) ?_
  obtain ⟨cl19, Ar19, S19, G19⟩ := I0
  obtain ⟨T19, h19, X19, e19, W19, st19⟩ := stI X18 hx hZ e18 Ar19 (j := (15 : Int32)) (by rw [S19]; decide) (g := (mkF m 92 #[.val (.int p1), .val (.int p2), .val (.int p3), .unset, .unset] [(.int (65535 : Int32)), (.int (15 : Int32)), (.ref b), (.ref b)])) rfl rfl (hb hby at_92)
  have I0 := own_ints_set Ar19 S19 G19 W19
  have N19 := Fr.snoc X19 N18 gn
  have Z19 : n0 ≤ h19.size := Nat.le_trans Z18 (Keep.of_wr W19).1
  refine own_go (T' := T19) (g' := (mkF m 93 #[.val (.int p1), .val (.int p2), .val (.int p3), .unset, .unset] [(.ref b)])) (st19) ?_
  refine own_go (T' := T19) (g' := (mkF m 94 #[.val (.int p1), .val (.int p2), .val (.int p3), .val (.ref b), .unset] [])) (fun t k => XS.astoreN X19.here hx rfl (hb hby at_93) rfl rfl (l' := #[.val (.int p1), .val (.int p2), .val (.int p3), .val (.ref b), .unset]) rfl k) ?_
  refine own_go (T' := T19) (g' := (mkF m 95 #[.val (.int p1), .val (.int p2), .val (.int p3), .val (.ref b), .unset] [(.ref b)])) (fun t k => XS.aloadN X19.here hx rfl (hb hby at_94) rfl rfl k) ?_
  refine own_go (T' := T19) (g' := (mkF m 96 #[.val (.int p1), .val (.int p2), .val (.int p3), .val (.ref b), .unset] [(.int p2), (.ref b)])) (fun t k => XS.iloadN X19.here hx rfl (hb hby at_95) rfl k) ?_
  refine own_go (T' := T19) (g' := (mkF m 98 #[.val (.int p1), .val (.int p2), .val (.int p3), .val (.ref b), .unset] [(.int (2147483647 : Int32)), (.int p2), (.ref b)])) (X19.ldcInt hx hown (mvT hZ (hw _ (List.mem_of_getElem? (i := 7) rfl))) (g := (mkF m 96 #[.val (.int p1), .val (.int p2), .val (.int p3), .val (.ref b), .unset] [(.int p2), (.ref b)])) rfl (hb hby at_96)) ?_
  refine own_go (T' := T19) (g' := (mkF m 99 #[.val (.int p1), .val (.int p2), .val (.int p3), .val (.ref b), .unset] [(.int (p2 &&& (2147483647 : Int32))), (.ref b)])) (fun t k => XS.iand X19.here hx rfl (hb hby at_98) rfl k) ?_
  refine own_go (T' := T19) (g' := (mkF m 101 #[.val (.int p1), .val (.int p2), .val (.int p3), .val (.ref b), .unset] [(.int (16 : Int32)), (.int (p2 &&& (2147483647 : Int32))), (.ref b)])) (fun t k => XS.bipush X19.here hx rfl (hb hby at_99) k) ?_
  refine own_go (T' := T19) (g' := (mkF m 102 #[.val (.int p1), .val (.int p2), .val (.int p3), .val (.ref b), .unset] [(.int ((p2 &&& (2147483647 : Int32)) - ((p2 &&& (2147483647 : Int32)) / (16 : Int32)) * (16 : Int32))), (.ref b)])) (fun t k => XS.irem X19.here hx rfl (hb hby at_101) rfl (by decide) k) ?_
  obtain ⟨cl20, Ar20, S20, G20⟩ := I0
  have hin20 := own_at p2 S20
  obtain ⟨zz, hat20⟩ := G20 _ (Nat.lt_of_not_le fun q => hin20 (Or.inr (by rw [S20]; exact q)))
  refine own_go (T' := T19) (g' := (mkF m 103 #[.val (.int p1), .val (.int p2), .val (.int p3), .val (.ref b), .unset] [(.int zz)])) (X19.iaload hx (j := ((p2 &&& (2147483647 : Int32)) - ((p2 &&& (2147483647 : Int32)) / (16 : Int32)) * (16 : Int32))) (v := (.int zz)) (by rw [e19]; exact Ar20.1) (State.isArrayOf_alike hZ.alike Ar20.2.1) Ar20.2.2 hin20 hat20 (g := (mkF m 102 #[.val (.int p1), .val (.int p2), .val (.int p3), .val (.ref b), .unset] [(.int ((p2 &&& (2147483647 : Int32)) - ((p2 &&& (2147483647 : Int32)) / (16 : Int32)) * (16 : Int32))), (.ref b)])) rfl rfl (hb hby at_102)) ?_
  refine own_go (T' := T19) (g' := (mkF m 104 #[.val (.int p1), .val (.int p2), .val (.int p3), .val (.ref b), .unset] [(.int p3), (.int zz)])) (fun t k => XS.iloadN X19.here hx rfl (hb hby at_103) rfl k) ?_
  refine own_go (T' := T19) (g' := (mkF m 105 #[.val (.int p1), .val (.int p2), .val (.int p3), .val (.ref b), .unset] [(.int (3 : Int32)), (.int p3), (.int zz)])) (fun t k => XS.iconst X19.here hx rfl (hb hby at_104) k) ?_
  refine own_go (T' := T19) (g' := (mkF m 106 #[.val (.int p1), .val (.int p2), .val (.int p3), .val (.ref b), .unset] [(.int (p3 &&& (3 : Int32))), (.int zz)])) (fun t k => XS.iand X19.here hx rfl (hb hby at_105) rfl k) ?_
  refine own_go (T' := T19) (g' := (mkF m 107 #[.val (.int p1), .val (.int p2), .val (.int p3), .val (.ref b), .unset] [(.int (1 : Int32)), (.int (p3 &&& (3 : Int32))), (.int zz)])) (fun t k => XS.iconst X19.here hx rfl (hb hby at_106) k) ?_
  refine own_go (T' := T19) (g' := (mkF m 108 #[.val (.int p1), .val (.int p2), .val (.int p3), .val (.ref b), .unset] [(.int ((p3 &&& (3 : Int32)) - (1 : Int32))), (.int zz)])) (fun t k => XS.isub X19.here hx rfl (hb hby at_107) rfl k) ?_
  refine own_go (T' := T19) (g' := (mkF m 109 #[.val (.int p1), .val (.int p2), .val (.int p3), .val (.ref b), .unset] [(.int (zz + ((p3 &&& (3 : Int32)) - (1 : Int32))))])) (fun t k => XS.iadd X19.here hx rfl (hb hby at_108) rfl k) ?_
  refine own_go (T' := T19) (g' := (mkF m 111 #[.val (.int p1), .val (.int p2), .val (.int p3), .val (.ref b), .val (.int (zz + ((p3 &&& (3 : Int32)) - (1 : Int32))))] [])) (fun t k => XS.istore X19.here hx rfl (hb hby at_109) rfl (l' := #[.val (.int p1), .val (.int p2), .val (.int p3), .val (.ref b), .val (.int (zz + ((p3 &&& (3 : Int32)) - (1 : Int32))))]) rfl k) ?_
  refine own_go (T' := T19) (g' := (mkF m 112 #[.val (.int p1), .val (.int p2), .val (.int p3), .val (.ref b), .val (.int (zz + ((p3 &&& (3 : Int32)) - (1 : Int32))))] [(.int p1)])) (fun t k => XS.iloadN X19.here hx rfl (hb hby at_111) rfl k) ?_
  obtain ⟨_, _, ⟨T21, L21, k21, n21⟩, -, X21, ⟨Lc21, hQ21, l21, y21, z21⟩, st21⟩ := Jvm.LawKit.callS X19 hx (y := (⟨"com/example/noddle/noddle/xml/CharactersIsCharPinLaw", "agrees", "(I)Z"⟩ : MethodName)) hown (mvT hZ (hw _ (List.mem_of_getElem? (i := 11) rfl))) (mvT hZ (hw _ (List.mem_of_getElem? (i := 12) rfl))) (mvT hZ (hw _ (List.mem_of_getElem? (i := 13) rfl))) (mvT hZ (hw _ (List.mem_of_getElem? (i := 14) rfl))) (by decide) (backOf (W := 0) (rm1 l Z a0 hw [] p1 h19 n0 Z19) hZ (hw _ (List.mem_of_getElem? (i := 14) rfl)) (hw _ (List.mem_of_getElem? (i := 13) rfl)) (by decide) (by decide)) (g := (mkF m 112 #[.val (.int p1), .val (.int p2), .val (.int p3), .val (.ref b), .val (.int (zz + ((p3 &&& (3 : Int32)) - (1 : Int32))))] [(.int p1)])) rfl (by rw [hml]; rfl) (argsL := [(.int p1)]) (rest := []) (lenOf own_pd0 rfl) rfl (by show 2 * 0 + _ ≤ _; exact Nat.le_of_eq rfl) (hb hby at_112) (fun _ _ => ⟨rfl, e19, (by decide : 1 + 0 ≤ _), (by decide : 16 + 0 ≤ _)⟩)
  dsimp only [Pt.U, Pt.locs, Pt.cells, Pt.slots] at X21 l21 y21 z21 st21 hQ21
  subst l21 y21 z21
  obtain ⟨rfl, M21, K21⟩ := hQ21
  have N21 := Fr.app N19 M21
  refine own_go (T' := T21) (g' := (mkF m 115 #[.val (.int p1), .val (.int p2), .val (.int p3), .val (.ref b), .val (.int (zz + ((p3 &&& (3 : Int32)) - (1 : Int32))))] [(.int (1 : Int32))])) (st21) ?_
  refine own_go (T' := T21) (g' := (mkF m 118 #[.val (.int p1), .val (.int p2), .val (.int p3), .val (.ref b), .val (.int (zz + ((p3 &&& (3 : Int32)) - (1 : Int32))))] [])) (fun t k => XS.ifNo X21.here hx rfl (hb hby at_115) rfl ((if0 _ _).trans (feq (by decide : ¬ (1 : Int32) = (0 : Int32))).1) k) ?_
  refine own_go (T' := T21) (g' := (mkF m 120 #[.val (.int p1), .val (.int p2), .val (.int p3), .val (.ref b), .val (.int (zz + ((p3 &&& (3 : Int32)) - (1 : Int32))))] [(.int (zz + ((p3 &&& (3 : Int32)) - (1 : Int32))))])) (fun t k => XS.iload X21.here hx rfl (hb hby at_118) rfl k) ?_
  obtain ⟨_, _, ⟨T22, L22, k22, n22⟩, -, X22, ⟨Lc22, hQ22, l22, y22, z22⟩, st22⟩ := Jvm.LawKit.callS X21 hx (y := (⟨"com/example/noddle/noddle/xml/CharactersIsCharPinLaw", "agrees", "(I)Z"⟩ : MethodName)) hown (mvT hZ (hw _ (List.mem_of_getElem? (i := 11) rfl))) (mvT hZ (hw _ (List.mem_of_getElem? (i := 12) rfl))) (mvT hZ (hw _ (List.mem_of_getElem? (i := 13) rfl))) (mvT hZ (hw _ (List.mem_of_getElem? (i := 14) rfl))) (by decide) (backOf (W := 0) (rm1 l Z a0 hw [] (zz + ((p3 &&& (3 : Int32)) - (1 : Int32))) h19 n0 Z19) hZ (hw _ (List.mem_of_getElem? (i := 14) rfl)) (hw _ (List.mem_of_getElem? (i := 13) rfl)) (by decide) (by decide)) (g := (mkF m 120 #[.val (.int p1), .val (.int p2), .val (.int p3), .val (.ref b), .val (.int (zz + ((p3 &&& (3 : Int32)) - (1 : Int32))))] [(.int (zz + ((p3 &&& (3 : Int32)) - (1 : Int32))))])) rfl (by rw [hml]; rfl) (argsL := [(.int (zz + ((p3 &&& (3 : Int32)) - (1 : Int32))))]) (rest := []) (lenOf own_pd0 rfl) rfl (by show 2 * 0 + _ ≤ _; exact Nat.le_of_eq rfl) (hb hby at_120) (fun _ _ => ⟨rfl, K21, (by decide : 1 + 0 ≤ _), (by decide : 16 + 0 ≤ _)⟩)
  dsimp only [Pt.U, Pt.locs, Pt.cells, Pt.slots] at X22 l22 y22 z22 st22 hQ22
  subst l22 y22 z22
  obtain ⟨rfl, M22, K22⟩ := hQ22
  have N22 := Fr.app N21 M22
  refine own_go (T' := T22) (g' := (mkF m 123 #[.val (.int p1), .val (.int p2), .val (.int p3), .val (.ref b), .val (.int (zz + ((p3 &&& (3 : Int32)) - (1 : Int32))))] [(.int (1 : Int32))])) (st22) ?_
  refine own_go (T' := T22) (g' := (mkF m 126 #[.val (.int p1), .val (.int p2), .val (.int p3), .val (.ref b), .val (.int (zz + ((p3 &&& (3 : Int32)) - (1 : Int32))))] [])) (fun t k => XS.ifNo X22.here hx rfl (hb hby at_123) rfl ((if0 _ _).trans (feq (by decide : ¬ (1 : Int32) = (0 : Int32))).1) k) ?_
  refine own_go (T' := T22) (g' := (mkF m 127 #[.val (.int p1), .val (.int p2), .val (.int p3), .val (.ref b), .val (.int (zz + ((p3 &&& (3 : Int32)) - (1 : Int32))))] [(.int (1 : Int32))])) (fun t k => XS.iconst X22.here hx rfl (hb hby at_126) k) ?_
  refine own_go (T' := T22) (g' := (mkF m 131 #[.val (.int p1), .val (.int p2), .val (.int p3), .val (.ref b), .val (.int (zz + ((p3 &&& (3 : Int32)) - (1 : Int32))))] [(.int (1 : Int32))])) (fun t k => XS.goto X22.here hx rfl (pc0 := 127) (pc' := 131) rfl (hb hby at_127) (by decide) (by decide) k) ?_
  exact own_retZ X22 hx Bd.notSynchronized Bd.returns (hb hby at_131) rfl ⟨rfl, N22⟩ (by decide) (by decide)
set_option maxRecDepth 65536 in
set_option maxHeartbeats 40000000 in
theorem comes_1 {Post : Tables → Env → Array Value → State → Outcome → State → Prop} (hpost : ∀ tb e args s v u, (limb_1_1.after args s (.returned v) u = true ∧ limb_1_2.after args s (.returned v) u = true ∧ True) → FrameEnd s (.returned v) u (Jvm.fieldLocs frame_1_writes args s ++ Jvm.arrayLocs frame_1_arrays args s ++ Jvm.staticLocs frame_1_statics s) 16 128 → Post tb e args s (.returned v) u) :
    ArmFor flags0 classFile x code maxLocals ret World_1 tables_1 room_1 Calls_1 rest_1 Pre_1 Post := by
  intro l hfl _ _ p e ha hc hk s m args below hf hA hF happ hP
  obtain ⟨hcalls, hrest, hpre⟩ := hP
  obtain ⟨-, -, -, hnamed, -, -, -, hat⟩ := (Spec.applies_iff hf).mp happ
  obtain ⟨hg, hn⟩ := and_e (Cond.before_iff.mp (show (Jvm.Cond.and given_1 narrow_1).before args s = true from hpre))
  obtain ⟨g0, q0⟩ := and_e hg
  obtain ⟨ga0, q1⟩ := and_e q0
  obtain ⟨ga1, q2⟩ := and_e q1
  have ga2 := q2
  obtain ⟨w0, w1, w2, rfl⟩ : ∃ w0 w1 w2 : Value, args = #[w0, w1, w2] := by
    have hs : args.size = 3 := by simpa [Cond.value, given_1] using g0
    obtain ⟨L⟩ := args
    match L, hs with
    | [w0, w1, w2], _ => exact ⟨w0, w1, w2, rfl⟩
  have hw := fun d (hd : d ∈ tables_1) => atoms_spec (ws := Jvm.Cond.code x code maxLocals ret :: tables_1) hat d (List.mem_cons_of_mem _ hd)
  obtain ⟨i0, ei0⟩ := is_v ga0
  obtain rfl : w0 = (.int i0) := Option.some.inj ei0
  obtain ⟨i1, ei1⟩ := is_v ga1
  obtain rfl : w1 = (.int i1) := Option.some.inj ei1
  obtain ⟨i2, ei2⟩ := is_v ga2
  obtain rfl : w2 = (.int i2) := Option.some.inj ei2
  obtain ⟨n, o, h1, h2, h3, _, L, rfl, ⟨rfl, N⟩, hq⟩ := rm0 l s _ hw tables_1 i0 i1 i2 s.heap s.heap.size (Nat.le_refl _) p e ha hc hk s m _ below hf ((Spec.applies_iff_loose hf).mp happ).1 ⟨rfl, State.Warmed39.refl s, rfl⟩ trivial
  refine ⟨n, _, h1, h2, h3, hpost _ _ _ _ _ _ ⟨Cond.after_iff.mpr rfl, Cond.after_iff.mpr (eq_i res_at (Term.int_eval (1)) rfl), trivial⟩ ⟨hq.1, hq.2.1, (hq.2.2.sift fun y hy => Or.inr (N y hy)).mono (by decide) (by decide)⟩⟩
theorem main_1_1 : Claimed_1_1 := comes_1 fun _ _ _ _ _ _ h hF => ⟨h.1, hF⟩
theorem main_1_2 : Claimed_1_2 := comes_1 fun _ _ _ _ _ _ h hF => ⟨h.2.1, hF⟩
end Jvm.Pilot.@@N@@
namespace Jvm.Pilot.@@N@@
open Jvm Jvm.ClassFile Sem Op Lib Jvm.Free Jvm.Stand Jvm.Pilot.@@N@@.Jvm.D
/-! MADE BY PROGRAM (witnessworld.py) out of the Statement's table words and the real class files: 9 classes; the members and pool entries that the words name. The judged class is class 1, her method 3. -/
namespace start1
open Jvm.ClassFile
def u (s : String) : CpInfo := .utf8 (stringToUtf16 s)
/-- a pool by its gaps: so many unusable entries, then the entry; so many at the end -/
def gap : Nat → List CpInfo → List CpInfo
  | 0, r => r
  | n + 1, r => .unusable :: gap n r
def poolList (es : List (Nat × CpInfo)) (last : Nat) : List CpInfo := es.foldr (fun e r => gap e.1 (e.2 :: r)) (gap last [])
def pool (es : List (Nat × CpInfo)) (last : Nat) : Array CpInfo := ⟨poolList es last⟩
def fileOf (pool : Array CpInfo) (this : Nat) (attrs : Array Attribute := #[]) (ms : Array MethodInfo := #[]) (fl : Nat := 33) (sup : Nat := 0) (ifs : Array Nat := #[]) (fds : Array FieldInfo := #[]) : ClassFile where
  minorVersion := 0
  majorVersion := 65
  constantPool := pool
  accessFlags := fl
  thisClass := this
  superClass := sup
  interfaces := ifs
  fields := fds
  methods := ms
  attributes := attrs
def plain (name : String) (sup : Option ClassId) : Class where
  name := name
  kind := .ordinary
  loader := none
  accessFlags := 33
  super := sup
  interfaces := #[]
  cf := none
  fields := #[]
  methods := #[]
  instanceTypes := #[]
  staticTypes := #[]
  resolved := #[]
  callSites := []
  init := .initialized
  statics := none
  mirror := none

def pool0 : Array CpInfo := pool [(5, u "<init>"), (0, u "()V"), (1, .class_ 10), (1, u "java/lang/Object")] 113

def k0m0 : Method := { name := "<init>", desc := "()V", sig := { parameters := [], returnType := none }, accessFlags := 1, code := none }
/-- java/lang/Object -/
def k0 : Class := { plain "java/lang/Object" none with
  accessFlags := 33
  interfaces := #[]
  cf := some (fileOf pool0 8 #[] #[{ accessFlags := 1, nameIndex := 5, descriptorIndex := 6, attributes := #[] }] 33 0 #[] #[])
  fields := #[]
  methods := #[k0m0]
  instanceTypes := #[]
  staticTypes := #[]
  resolved := Array.replicate 124 none
  statics := none }

def pool1 : Array CpInfo := pool [(2, .class_ 4), (1, u "java/lang/Object"), (0, u "<init>"), (0, u "()V"), (0, .integer 55296), (0, .integer 57343), (0, .integer 65534), (0, .integer 65535), (0, .integer 1114111), (0, .methodref 13 14), (0, .class_ 15), (0, .nameAndType 16 17), (0, u "com/example/noddle/noddle/xml/Characters"), (0, u "isChar"), (0, u "(I)Z"), (0, .methodref 19 20), (0, .class_ 21), (0, .nameAndType 22 17), (0, u "com/example/noddle/noddle/xml/CharactersIsCharPinLaw"), (0, u "excluded"), (0, .integer 55295), (0, .integer 57344), (0, .integer 65533), (0, .integer 65536), (2, .integer 2147483648), (0, .integer 2147483647), (0, .methodref 19 32), (0, .nameAndType 33 17), (0, u "agrees"), (3, u "law"), (0, u "(III)Z")] 4

def k1m0 : Method := { name := "<init>", desc := "()V", sig := { parameters := [], returnType := none }, accessFlags := 2, code := none }
def k1c1 : Code := { maxStack := 2, maxLocals := 1, code := method_2_code, exceptionTable := #[], attributes := #[] }
def k1m1 : Method := { name := "excluded", desc := "(I)Z", sig := { parameters := [.int], returnType := some .boolean }, accessFlags := 10, code := some k1c1 }
def k1c2 : Code := { maxStack := 2, maxLocals := 1, code := method_3_code, exceptionTable := #[], attributes := #[] }
def k1m2 : Method := { name := "agrees", desc := "(I)Z", sig := { parameters := [.int], returnType := some .boolean }, accessFlags := 10, code := some k1c2 }
def k1c3 : Code := { maxStack := 4, maxLocals := 5, code := code, exceptionTable := #[], attributes := #[] }
def k1m3 : Method := { name := "law", desc := "(III)Z", sig := { parameters := [.int, .int, .int], returnType := some .boolean }, accessFlags := 9, code := some k1c3 }
/-- com/example/noddle/noddle/xml/CharactersIsCharPinLaw -/
def k1 : Class := { plain "com/example/noddle/noddle/xml/CharactersIsCharPinLaw" (some 0) with
  accessFlags := 49
  interfaces := #[]
  cf := some (fileOf pool1 19 #[] #[{ accessFlags := 2, nameIndex := 5, descriptorIndex := 6, attributes := #[] }, { accessFlags := 10, nameIndex := 22, descriptorIndex := 17, attributes := #[] }, { accessFlags := 10, nameIndex := 33, descriptorIndex := 17, attributes := #[] }, { accessFlags := 9, nameIndex := 37, descriptorIndex := 38, attributes := #[] }] 49 2 #[] #[])
  fields := #[]
  methods := #[k1m0, k1m1, k1m2, k1m3]
  instanceTypes := #[]
  staticTypes := #[]
  resolved := Array.replicate 43 none
  statics := none }

def pool2 : Array CpInfo := pool [(2, .class_ 4), (1, u "java/lang/Object"), (0, u "<init>"), (0, u "()V"), (0, .integer 55295), (0, .integer 57344), (0, .integer 65533), (0, .integer 65536), (0, .integer 1114111), (17, .class_ 31), (1, u "com/example/noddle/noddle/xml/Characters"), (26, u "(I)Z"), (2, u "isChar")] 7

def k2m0 : Method := { name := "<init>", desc := "()V", sig := { parameters := [], returnType := none }, accessFlags := 2, code := none }
def k2c1 : Code := { maxStack := 2, maxLocals := 1, code := prog_108_method_2_code, exceptionTable := #[], attributes := #[] }
def k2m1 : Method := { name := "isChar", desc := "(I)Z", sig := { parameters := [.int], returnType := some .boolean }, accessFlags := 9, code := some k2c1 }
/-- com/example/noddle/noddle/xml/Characters -/
def k2 : Class := { plain "com/example/noddle/noddle/xml/Characters" (some 0) with
  accessFlags := 33
  interfaces := #[]
  cf := some (fileOf pool2 29 #[] #[{ accessFlags := 2, nameIndex := 5, descriptorIndex := 6, attributes := #[] }, { accessFlags := 9, nameIndex := 61, descriptorIndex := 58, attributes := #[] }] 33 2 #[] #[])
  fields := #[]
  methods := #[k2m0, k2m1]
  instanceTypes := #[]
  staticTypes := #[]
  resolved := Array.replicate 69 none
  statics := none }

def pool3 : Array CpInfo := pool [(1, u "java/lang/Cloneable"), (0, .class_ 1), (0, u "java/lang/Object"), (0, .class_ 3)] 3

/-- java/lang/Cloneable -/
def k3 : Class := { plain "java/lang/Cloneable" (some 0) with
  accessFlags := 1537
  interfaces := #[]
  cf := some (fileOf pool3 2 #[] #[] 1537 4 #[] #[])
  fields := #[]
  methods := #[]
  instanceTypes := #[]
  staticTypes := #[]
  resolved := Array.replicate 8 none
  statics := none }

def pool4 : Array CpInfo := pool [(1, u "java/io/Serializable"), (0, .class_ 1), (0, u "java/lang/Object"), (0, .class_ 3)] 3

/-- java/io/Serializable -/
def k4 : Class := { plain "java/io/Serializable" (some 0) with
  accessFlags := 1537
  interfaces := #[]
  cf := some (fileOf pool4 2 #[] #[] 1537 4 #[] #[])
  fields := #[]
  methods := #[]
  instanceTypes := #[]
  staticTypes := #[]
  resolved := Array.replicate 8 none
  statics := none }

/-- the primitive byte -/
def k5 : Class := { plain "byte" none with kind := .primitive 'B', accessFlags := 0x411 }
/-- [B -/
def k6 : Class := { plain "[B" (some 0) with kind := .array 5 .byte, interfaces := #[3, 4], accessFlags := 1041 }

/-- the primitive int -/
def k7 : Class := { plain "int" none with kind := .primitive 'I', accessFlags := 0x411 }
/-- [I -/
def k8 : Class := { plain "[I" (some 0) with kind := .array 7 .int, interfaces := #[3, 4], accessFlags := 1041 }

def heap : Heap := #[]
def classes : Array Class := #[k0, k1, k2, k3, k4, k5, k6, k7, k8]
def interned : List (Array UInt16 × Addr) := []
def slotsUsed : Nat := 0
def theMethod : MethodId := ⟨1, 3⟩
def args0 : Array Value := #[.int 5, .int 300, .int 7]
def aboutOver (below : List Frame) : State where
  vm := { classes := classes, interned := interned.toArray }
  heap := heap
  slotsUsed := slotsUsed
  threads := #[{ frames := .invoking theMethod args0 :: below }]
def below0 : List Frame := [.native { method := ⟨0, 0⟩, args := #[] }]
def about1 : State := aboutOver below0
def p0 : Program := .bare "" "" ""
def e0 : Env := launch0.env 0 0 0
theorem w_frames : about1.frames = Frame.invoking theMethod args0 :: below0 := rfl
set_option maxRecDepth 65536 in
theorem w_args : argsFit about1.vm theMethod args0 = true := by decide +kernel
set_option maxRecDepth 65536 in
theorem w_heap : heapFits about1 = true := by decide +kernel
set_option maxRecDepth 65536 in
theorem w_runnable : about1.curStatus? = some .runnable := by decide +kernel
set_option maxRecDepth 65536 in
theorem w_alone : about1.alone = true := by decide +kernel
set_option maxRecDepth 65536 in
theorem w_named : about1.methodNamed? x = some theMethod := by decide +kernel
set_option maxRecDepth 65536 in
theorem w_hears : about1.hears theMethod below0 = true := by decide +kernel
set_option maxRecDepth 65536 in
theorem w_ripe : about1.ripe theMethod args0 below0 = true := by decide +kernel
theorem w_running : about1.status = .running := rfl
set_option maxRecDepth 65536 in
theorem w_room : about1.hasRoom e0.platform room_1 = true :=
  launch0.hasRoom_least _ room_1 (by decide +kernel) (by decide +kernel) (by decide +kernel) (by decide +kernel) (by decide +kernel) (by decide +kernel)
theorem allAtoms_all (ts : List Jvm.Cond) (a : Array Jvm.Value) (st : Jvm.State) : (allAtoms ts).before a st = ts.all (fun c => c.before a st) := by
  induction ts with
  | nil => rfl
  | cons c t ih =>
    show (Jvm.Cond.and c (allAtoms t)).before a st = _
    rw [Jvm.Cond.before_and, ih, List.all_cons]
def words1 : List Jvm.Cond := Jvm.Cond.code x code maxLocals ret :: tables_1
/-- a 'code' word, met by the world's own term for the bytes: nothing is compared byte by byte -/
theorem code_word {y : MethodName} {bytes : ByteArray} {mx : Nat} {rt : Option FieldType} {a : Array Value} {s : State} {m : MethodId} {meth : Method} {c : Code} (h1 : s.methodNamed? y = some m) (h2 : s.vm.method? m = some meth) (h3 : meth.code = some c) (h4 : c.code = bytes)
    (h5 : (c.maxLocals == mx && c.exceptionTable.isEmpty && decide (c.maxStack ≤ mostOperands) && decide (meth.sig.returnType = rt) && !meth.locks && decide (parseMethodDescriptor y.desc = some meth.sig)) = true) : (Jvm.Cond.code y bytes mx rt).before a s = true := by
  simp only [Bool.and_eq_true, beq_iff_eq, Bool.not_eq_true', decide_eq_true_eq] at h5
  obtain ⟨⟨⟨⟨⟨g1, g2⟩, g3⟩, g4⟩, g5⟩, g6⟩ := h5
  simp [Cond.before, Cond.holds, Cond.value, h1, h2, h3, h4, g1, g2, g3, g4, g5, g6]
def isCode : Jvm.Cond → Bool
  | .code _ _ _ _ => true
  | _ => false
theorem all_split {L : List Jvm.Cond} {P : Jvm.Cond → Bool} (h1 : L.all (fun c => isCode c || P c) = true) (h2 : ∀ c ∈ L.filter isCode, P c = true) : L.all P = true := by
  refine List.all_eq_true.mpr fun c hc => ?_
  have h := List.all_eq_true.mp h1 c hc
  rcases Bool.eq_false_or_eq_true (isCode c) with hi | hi
  · exact h2 c (List.mem_filter.mpr ⟨hc, hi⟩)
  · simpa [hi] using h
set_option maxRecDepth 65536 in
theorem w_c0 : (Jvm.Cond.code x code maxLocals ret).before args0 about1 = true := code_word (m := ⟨1, 3⟩) (meth := k1m3) (c := k1c3) (by decide +kernel) rfl rfl rfl (by decide +kernel)
set_option maxRecDepth 65536 in
theorem w_c1 : (Jvm.Cond.code ({ cls := "com/example/noddle/noddle/xml/CharactersIsCharPinLaw", name := "agrees", desc := "(I)Z" } : Jvm.MethodName) method_3_code (1 : Nat) (Option.some Jvm.ClassFile.FieldType.boolean)).before args0 about1 = true := code_word (m := ⟨1, 2⟩) (meth := k1m2) (c := k1c2) (by decide +kernel) rfl rfl rfl (by decide +kernel)
set_option maxRecDepth 65536 in
theorem w_c2 : (Jvm.Cond.code ({ cls := "com/example/noddle/noddle/xml/Characters", name := "isChar", desc := "(I)Z" } : Jvm.MethodName) prog_108_method_2_code (1 : Nat) (Option.some Jvm.ClassFile.FieldType.boolean)).before args0 about1 = true := code_word (m := ⟨2, 1⟩) (meth := k2m1) (c := k2c1) (by decide +kernel) rfl rfl rfl (by decide +kernel)
set_option maxRecDepth 65536 in
theorem w_c3 : (Jvm.Cond.code ({ cls := "com/example/noddle/noddle/xml/CharactersIsCharPinLaw", name := "excluded", desc := "(I)Z" } : Jvm.MethodName) method_2_code (1 : Nat) (Option.some Jvm.ClassFile.FieldType.boolean)).before args0 about1 = true := code_word (m := ⟨1, 1⟩) (meth := k1m1) (c := k1c1) (by decide +kernel) rfl rfl rfl (by decide +kernel)
def codes1 : List Jvm.Cond := [Jvm.Cond.code x code maxLocals ret, Jvm.Cond.code ({ cls := "com/example/noddle/noddle/xml/CharactersIsCharPinLaw", name := "agrees", desc := "(I)Z" } : Jvm.MethodName) method_3_code (1 : Nat) (Option.some Jvm.ClassFile.FieldType.boolean), Jvm.Cond.code ({ cls := "com/example/noddle/noddle/xml/Characters", name := "isChar", desc := "(I)Z" } : Jvm.MethodName) prog_108_method_2_code (1 : Nat) (Option.some Jvm.ClassFile.FieldType.boolean), Jvm.Cond.code ({ cls := "com/example/noddle/noddle/xml/CharactersIsCharPinLaw", name := "excluded", desc := "(I)Z" } : Jvm.MethodName) method_2_code (1 : Nat) (Option.some Jvm.ClassFile.FieldType.boolean)]
set_option maxRecDepth 65536 in
theorem codes_eq : words1.filter isCode = codes1 := rfl
theorem w_codes : ∀ c ∈ words1.filter isCode, c.before args0 about1 = true := by
  rw [codes_eq]
  intro c hc
  simp only [codes1, List.mem_cons, List.not_mem_nil, or_false] at hc
  rcases hc with rfl | rfl | rfl | rfl
  · exact w_c0
  · exact w_c1
  · exact w_c2
  · exact w_c3
set_option maxRecDepth 65536 in
theorem w_t1 : (words1.take 24).all (fun c => isCode c || c.before args0 about1) = true := by decide +kernel
set_option maxRecDepth 65536 in
theorem w_t2 : (words1.drop 24).all (fun c => isCode c || c.before args0 about1) = true := by decide +kernel
theorem w_tables : (allAtoms (Jvm.Cond.code x code maxLocals ret :: tables_1)).before args0 about1 = true := by
  rw [allAtoms_all]
  show words1.all (fun c => c.before args0 about1) = true
  refine all_split ?_ w_codes
  rw [← List.take_append_drop 24 words1, List.all_append, w_t1, w_t2]
  rfl
set_option maxRecDepth 65536 in
theorem w_case : (Jvm.Cond.and given_1 narrow_1).before args0 about1 = true := by decide +kernel
theorem w_applies : (headSpec (Jvm.Cond.code x code maxLocals ret :: tables_1) room_1).applies x e0.platform about1 = true :=
  (Spec.applies_iff w_frames).mpr ⟨w_running, w_runnable, w_alone, w_named, w_hears, w_ripe, w_room, w_tables⟩
theorem atStart : AtStart classFile x code maxLocals ret World_1 tables_1 room_1 Calls_1 rest_1 Pre_1 launch0 p0 e0 about1 theMethod args0 below0 :=
  ⟨lists_1, trivial, launch0.admits_env _ _ _, launch0.least_env, fairChoices_fair.cas, fairChoices_fair.clock, w_frames, w_args, w_heap, w_applies, trivial, trivial, w_case⟩
end start1
theorem witness_1 : WitnessClaimed_1 := ⟨start1.p0, start1.e0, start1.about1, start1.theMethod, start1.args0, start1.below0, start1.atStart⟩
end Jvm.Pilot.@@N@@
