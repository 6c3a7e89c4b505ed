import JvmDerived
import JvmDerived.Pilot.@@N@@Statement
import JvmDerived.Pilot.@@N@@Code
set_option linter.unusedVariables false
set_option linter.unusedSimpArgs false
namespace Jvm.Pilot.@@N@@
open Jvm Jvm.ClassFile Sem Op Lib Jvm.Free Jvm.Stand Jvm.LawKit Jvm.RoadKit Bundle Jvm.Pilot.@@N@@.Jvm.D
section Own
variable {p : Program} {l : Launch} {e : Env} {R : Room} {s : State} {m : MethodId} {args : Array Value} {below : List Frame} {meth : Method} {c : Code} {T T' : State} {locs : List Loc} {cells slots : Nat} {QQ : Option Value → Heap → List Loc → Prop} {RC RS : Nat} {g g' : JFrame}
/-- from this frame the run comes to the method's end, and what it leaves is as QQ says -/
def own_Run (p : Program) (e : Env) (below : List Frame) (s : State) (QQ : Option Value → Heap → List Loc → Prop) (RC RS : Nat) (T : State) (g : JFrame) : Prop :=
  ∃ s₂ o, Steps p.tables e below (T.setTop g) s₂ ∧ s₂.status = .running ∧ Ended s₂ below o ∧ ∃ v L, o = .returned v ∧ QQ v s₂.heap L ∧ FrameEnd s o s₂ L RC RS
theorem own_go (h : ∀ t, Steps p.tables e below (T'.setTop g') t → Steps p.tables e below (T.setTop g) t) (r : own_Run p e below s QQ RC RS T' g') : own_Run p e below s QQ RC RS T g := by
  obtain ⟨s₂, o, k, r⟩ := r
  exact ⟨s₂, o, h _ k, r⟩
theorem own_enter {g0 : JFrame} (q : g0 = g) (r : own_Run p e below s QQ RC RS T g) : ∃ s₂ o, Steps p.tables e below (T.setTop g0) s₂ ∧ s₂.status = .running ∧ Ended s₂ below o ∧ ∃ v L, o = .returned v ∧ QQ v s₂.heap L ∧ FrameEnd s o s₂ L RC RS := by
  subst q; exact r
theorem own_retZ (X : Stand p l e R s m args below meth c T locs cells slots) (hx : p.tables.exec = Jvm.exec) (hlk : meth.locks = false) (hret : meth.sig.returnType = some .boolean) {pc : Nat} {Ls : Array Slot} {z : Int32} {rest : List Value} (hd : decode c.code pc = .ok (.ireturn, 1)) (hz : nar .boolean z = z)
    (hQ : QQ (some (.int z)) T.heap locs) (hc : cells ≤ RC) (hs : slots ≤ RS) : own_Run p e below s QQ RC RS T (mkF m pc Ls (.int z :: rest)) := by
  obtain ⟨fs, hr, hrun, hended, hW, hsame⟩ := X.leave (v := some (.int z)) (fun h => by rw [hret] at h; cases h) hlk
  refine ⟨_, _, retN X hx (t := .boolean) hret (by simp) hd (by rw [hz]; exact hr), hrun, hended, _, _, rfl, hQ, ⟨_, rfl⟩, hW, hsame.mono hc hs⟩
theorem own_retI (X : Stand p l e R s m args below meth c T locs cells slots) (hx : p.tables.exec = Jvm.exec) (hlk : meth.locks = false) (hret : meth.sig.returnType = some .int) {pc : Nat} {Ls : Array Slot} {z : Int32} {rest : List Value} (hd : decode c.code pc = .ok (.ireturn, 1))
    (hQ : QQ (some (.int z)) T.heap locs) (hc : cells ≤ RC) (hs : slots ≤ RS) : own_Run p e below s QQ RC RS T (mkF m pc Ls (.int z :: rest)) := by
  obtain ⟨fs, hr, hrun, hended, hW, hsame⟩ := X.leave (v := some (.int z)) (fun h => by rw [hret] at h; cases h) hlk
  refine ⟨_, _, ?_, hrun, hended, _, _, rfl, hQ, ⟨_, rfl⟩, hW, hsame.mono hc hs⟩
  have hm' : T.vm.method? m = some meth := X.method'
  have hn : narrow .int (.int z) = .int z := rfl
  show Steps p.tables e below (T.setTop { method := m, pc := pc, locals := Ls, stack := _ :: rest, locked := none }) _
  jvm_step X.here [X.here.top, hx, hd, hm', hret, hn]
  first | (intro acts; rw [hr _ acts rfl rfl rfl]) | rw [hr _ _ rfl rfl rfl]
  exact Steps.refl _
theorem own_retJ (X : Stand p l e R s m args below meth c T locs cells slots) (hx : p.tables.exec = Jvm.exec) (hlk : meth.locks = false) (hret : meth.sig.returnType = some .long) {pc : Nat} {Ls : Array Slot} {z : Int64} (hd : decode c.code pc = .ok (.lreturn, 1))
    (hQ : QQ (some (.long z)) T.heap locs) (hc : cells ≤ RC) (hs : slots ≤ RS) : own_Run p e below s QQ RC RS T (mkF m pc Ls [.long z]) := by
  obtain ⟨fs, hr, hrun, hended, hW, hsame⟩ := X.leave (v := some (.long z)) (fun h => by rw [hret] at h; cases h) hlk
  exact ⟨_, _, X.lreturnOut hx hret hd hr, hrun, hended, _, _, rfl, hQ, ⟨_, rfl⟩, hW, hsame.mono hc hs⟩
theorem own_retV (X : Stand p l e R s m args below meth c T locs cells slots) (hx : p.tables.exec = Jvm.exec) (hlk : meth.locks = false) (hret : meth.sig.returnType = none) {pc : Nat} {Ls : Array Slot} (hd : decode c.code pc = .ok (.return_, 1))
    (hQ : QQ none T.heap locs) (hc : cells ≤ RC) (hs : slots ≤ RS) : own_Run p e below s QQ RC RS T (mkF m pc Ls []) := by
  obtain ⟨fs, hr, hrun, hended, hW, hsame⟩ := X.leave (v := none) (fun _ => rfl) hlk
  exact ⟨_, _, X.returnOut hx hret hd hr, hrun, hended, _, _, rfl, hQ, ⟨_, rfl⟩, hW, hsame.mono hc hs⟩
theorem own_retA (X : Stand p l e R s m args below meth c T locs cells slots) (hx : p.tables.exec = Jvm.exec) (hlk : meth.locks = false) {ty : FieldType} (hty : ty.isReference = true) (hret : meth.sig.returnType = some ty) {pc : Nat} {Ls : Array Slot} {a : Addr} {rest : List Value} (hd : decode c.code pc = .ok (.areturn, 1))
    (hQ : QQ (some (.ref a)) T.heap locs) (hc : cells ≤ RC) (hs : slots ≤ RS) : own_Run p e below s QQ RC RS T (mkF m pc Ls (.ref a :: rest)) := by
  obtain ⟨fs, hr, hrun, hended, hW, hsame⟩ := X.leave (v := some (.ref a)) (fun h => by rw [hret] at h; cases h) hlk
  refine ⟨_, _, ?_, hrun, hended, _, _, rfl, hQ, ⟨_, rfl⟩, hW, hsame.mono hc hs⟩
  have hm' : T.vm.method? m = some meth := X.method'
  show Steps p.tables e below (T.setTop { method := m, pc := pc, locals := Ls, stack := _ :: rest, locked := none }) _
  jvm_step X.here [X.here.top, hx, hd, hm', hret, hty, Value.isRef]
  first | (intro acts; rw [hr _ acts rfl rfl rfl]) | rw [hr _ _ rfl rfl rfl]
  exact Steps.refl _
end Own
theorem d4_0 : decode jdk_71_method_1_code 0 = .ok (.aload_n 0, 1) := by decide +kernel
theorem d4_1 : decode jdk_71_method_1_code 1 = .ok (.invokespecial 1, 3) := by decide +kernel
theorem d4_4 : decode jdk_71_method_1_code 4 = .ok (.return_, 1) := by decide +kernel
theorem pn_4 : plainName "java/util/AbstractMap" = true := by first | (simp [plainName, overriddenIn]; done) | decide +kernel
theorem own_pd0 : parseMethodDescriptor "()V" = some ⟨[], none⟩ := by decide +kernel
theorem ef_4 (m : MethodId) (x0 : Addr) : entryFrame m #[(.ref x0)] 1 = mkF m 0 #[.val (.ref x0)] [] := by first | (simp [entryFrame, mkF, argsToLocals, Value.category]; done) | rfl
def Q4 (Z : State) (a : Addr) (h0 : Heap) (n0 : Nat) (v : Option Value) (h : Heap) (L : List Loc) : Prop := v = none ∧ Fr n0 L ∧ h = h0
set_option maxRecDepth 65536 in
set_option maxHeartbeats 40000000 in
theorem rm4 (l : Launch) (Z : State) (a0 : Array Value) (hw : ∀ d ∈ tables_1, d.before a0 Z = true) (ws : List Jvm.Cond) (a : Addr) (h0 : Heap) (n0 : Nat) (Z0 : n0 ≤ h0.size) :
    MetFree l (⟨"java/util/AbstractMap", "<init>", "()V"⟩ : MethodName) (head1 (Jvm.Cond.code (⟨"java/util/AbstractMap", "<init>", "()V"⟩ : MethodName) jdk_71_method_1_code 1 none :: ws) ({ frames := 1, cells := 0, slots := 0, locals := 12 } : Room)) (fun aa U => aa = #[(.ref a)] ∧ Z.Warmed39 U.vm ∧ U.heap = h0) (fun _ _ _ _ _ => True) (fun _ U o U' => ∃ v L, o = .returned v ∧ Q4 Z a h0 n0 v U'.heap L ∧ FrameEnd U o U' L ({ frames := 1, cells := 0, slots := 0, locals := 12 } : Room).cells ({ frames := 1, cells := 0, slots := 0, locals := 12 } : Room).slots) := by
  refine MetFree.of_bodySF (plainFor_of_name pn_4) hisR ?_
  intro p e s m args below meth c s₁ Bd hml0 hP hK
  obtain ⟨rfl, hZ, hh⟩ := hP
  have hx := Bd.exec
  have hby := Bd.bytes
  have hml : c.maxLocals = 1 := hml0
  have hown : s.vm.findClass "java/util/AbstractMap" = some m.cls := findClass_of_methodNamed Bd.named
  have hnm := (name_of_methodNamed Bd.named Bd.method).1
  have X0 : Stand p l e ({ frames := 1, cells := 0, slots := 0, locals := 12 } : Room) s m #[(.ref a)] below meth c s₁ [] 0 0 := Stand.of_body Bd
  have e0 : s₁.heap = h0 := by rw [← hh, Bd.state]; rfl
  have N0 := Fr.nil n0
  refine own_enter (QQ := Q4 Z a h0 n0) (ef_4 m a) ?_
  refine own_go (T' := s₁) (g' := (mkF m 1 #[.val (.ref a)] [(.ref a)])) (fun t k => XS.aloadN X0.here hx rfl (hb hby d4_0) rfl rfl k) ?_
  obtain ⟨T1, X1, e1, st1⟩ := initO X0 hx hZ hown (hw _ (List.mem_of_getElem? (i := 21) rfl)) (hw _ (List.mem_of_getElem? (i := 7) rfl)) (hw _ (List.mem_of_getElem? (i := 8) rfl)) e0 (g := (mkF m 1 #[.val (.ref a)] [(.ref a)])) rfl (by rw [hml]; rfl) rfl (hb hby d4_1) (by decide) (W := 0) (by show 2 * 0 + _ ≤ _; exact Nat.le_of_eq rfl) (by decide)
  refine own_go (T' := T1) (g' := (mkF m 4 #[.val (.ref a)] [])) (st1) ?_
  exact own_retV X1 hx Bd.notSynchronized Bd.returns (hb hby d4_4) ⟨rfl, N0, e1⟩ (by decide) (by decide)
theorem d3_0 : decode jdk_69_method_7_code 0 = .ok (.aload_n 0, 1) := by decide +kernel
theorem d3_1 : decode jdk_69_method_7_code 1 = .ok (.invokespecial 43, 3) := by decide +kernel
theorem d3_4 : decode jdk_69_method_7_code 4 = .ok (.aload_n 0, 1) := by decide +kernel
theorem d3_5 : decode jdk_69_method_7_code 5 = .ok (.ldc 92, 2) := by decide +kernel
theorem d3_7 : decode jdk_69_method_7_code 7 = .ok (.putfield 81, 3) := by decide +kernel
theorem d3_10 : decode jdk_69_method_7_code 10 = .ok (.return_, 1) := by decide +kernel
theorem pn_3 : plainName "java/util/HashMap" = true := by first | (simp [plainName, overriddenIn]; done) | decide +kernel
theorem ef_3 (m : MethodId) (x0 : Addr) : entryFrame m #[(.ref x0)] 1 = mkF m 0 #[.val (.ref x0)] [] := by first | (simp [entryFrame, mkF, argsToLocals, Value.category]; done) | rfl
def Q3 (Z : State) (a : Addr) (h0 : Heap) (n0 : Nat) (v : Option Value) (h : Heap) (L : List Loc) : Prop := v = none ∧ Fr n0 L ∧ Keep h0 h [a]
set_option maxRecDepth 65536 in
set_option maxHeartbeats 40000000 in
theorem rm3 (l : Launch) (Z : State) (a0 : Array Value) (hw : ∀ d ∈ tables_1, d.before a0 Z = true) (ws : List Jvm.Cond) (a : Addr) (h0 : Heap) (n0 : Nat) (Z0 : n0 ≤ h0.size) (F_loadFactor_a : Fld Z h0 a "java/util/HashMap" "loadFactor" "F" (defaultValue .float)) (E_a : Exa Z h0 a "java/util/HashMap") (gn_a : n0 ≤ a) :
    MetFree l (⟨"java/util/HashMap", "<init>", "()V"⟩ : MethodName) (head1 (Jvm.Cond.code (⟨"java/util/HashMap", "<init>", "()V"⟩ : MethodName) jdk_69_method_7_code 1 none :: ws) ({ frames := 2, cells := 0, slots := 0, locals := 24 } : Room)) (fun aa U => aa = #[(.ref a)] ∧ Z.Warmed39 U.vm ∧ U.heap = h0) (fun _ _ _ _ _ => True) (fun _ U o U' => ∃ v L, o = .returned v ∧ Q3 Z a h0 n0 v U'.heap L ∧ FrameEnd U o U' L ({ frames := 2, cells := 0, slots := 0, locals := 24 } : Room).cells ({ frames := 2, cells := 0, slots := 0, locals := 24 } : Room).slots) := by
  refine MetFree.of_bodySF (plainFor_of_name pn_3) hisR ?_
  intro p e s m args below meth c s₁ Bd hml0 hP hK
  obtain ⟨rfl, hZ, hh⟩ := hP
  have hx := Bd.exec
  have hby := Bd.bytes
  have hml : c.maxLocals = 1 := hml0
  have hown : s.vm.findClass "java/util/HashMap" = some m.cls := findClass_of_methodNamed Bd.named
  have hnm := (name_of_methodNamed Bd.named Bd.method).1
  have X0 : Stand p l e ({ frames := 2, cells := 0, slots := 0, locals := 24 } : Room) s m #[(.ref a)] below meth c s₁ [] 0 0 := Stand.of_body Bd
  have e0 : s₁.heap = h0 := by rw [← hh, Bd.state]; rfl
  have N0 := Fr.nil n0
  refine own_enter (QQ := Q3 Z a h0 n0) (ef_3 m a) ?_
  refine own_go (T' := s₁) (g' := (mkF m 1 #[.val (.ref a)] [(.ref a)])) (fun t k => XS.aloadN X0.here hx rfl (hb hby d3_0) rfl rfl k) ?_
  obtain ⟨_, _, ⟨T2, L2, k2, n2⟩, -, X2, ⟨Lc2, hQ2, l2, y2, z2⟩, st2⟩ := X0.specialBack hx (y := (⟨"java/util/AbstractMap", "<init>", "()V"⟩ : MethodName)) rfl hown (mvT hZ (hw _ (List.mem_of_getElem? (i := 15) rfl))) (mvT hZ (hw _ (List.mem_of_getElem? (i := 16) rfl))) (mvT hZ (hw _ (List.mem_of_getElem? (i := 20) rfl))) (by decide) (backOf (W := 0) (rm4 l Z a0 hw [] a h0 n0 Z0) hZ (hw _ (List.mem_of_getElem? (i := 20) rfl)) (hw _ (List.mem_of_getElem? (i := 19) rfl)) (by decide) (by decide)) (g := (mkF m 1 #[.val (.ref a)] [(.ref a)])) rfl (by rw [hml]; rfl) (Steps.refl _) (a := a) (argsL := []) (rest := []) (lenOf own_pd0 rfl) rfl (by show 2 * 0 + _ ≤ _; exact Nat.le_of_eq rfl) (hb hby d3_1) (fun _ _ => ⟨rfl, e0, (by decide : 0 + 0 ≤ _), (by decide : 0 + 0 ≤ _)⟩)
  dsimp only [Pt.U, Pt.locs, Pt.cells, Pt.slots] at X2 l2 y2 z2 st2 hQ2
  subst l2 y2 z2
  obtain ⟨rfl, M2, K2⟩ := hQ2
  have N2 := Fr.app N0 M2
  refine own_go (T' := T2) (g' := (mkF m 4 #[.val (.ref a)] [])) (fun _ k => st2.trans k) ?_
  refine own_go (T' := T2) (g' := (mkF m 5 #[.val (.ref a)] [(.ref a)])) (fun t k => XS.aloadN X2.here hx rfl (hb hby d3_4) rfl rfl k) ?_
  refine own_go (T' := T2) (g' := (mkF m 7 #[.val (.ref a)] [(.float (1061158912 : UInt32)), (.ref a)])) (X2.ldcFloatC hx hown (mvT hZ (hw _ (List.mem_of_getElem? (i := 22) rfl))) (g := (mkF m 5 #[.val (.ref a)] [(.ref a)])) rfl (hb hby d3_5)) ?_
  obtain ⟨T3, h3, X3, e3, W3, st3⟩ := putF X2 hx hZ hown (host := "") (Or.inl (hw _ (List.mem_of_getElem? (i := 23) rfl))) Via.refl K2 F_loadFactor_a E_a (Or.inr ⟨(hw _ (List.mem_of_getElem? (i := 24) rfl)), rfl, hnm⟩) (hw _ (List.mem_of_getElem? (i := 10) rfl)) (ty := .float) (by decide) rfl rfl (g := (mkF m 7 #[.val (.ref a)] [(.float (1061158912 : UInt32)), (.ref a)])) rfl rfl (hb hby d3_7)
  have N3 := Fr.snoc X3 N2 gn_a
  have E_a := E_a.wr W3
  have F_loadFactor_a := F_loadFactor_a.same W3
  have Z4 : n0 ≤ h3.size := Nat.le_trans Z0 (Keep.of_wr W3).1
  have K5 : Keep h0 h3 [a] := (Keep.refl h0 [a]).wr W3 (Or.inl (List.mem_of_getElem? (i := 0) rfl))
  refine own_go (T' := T3) (g' := (mkF m 10 #[.val (.ref a)] [])) (st3) ?_
  exact own_retV X3 hx Bd.notSynchronized Bd.returns (hb hby d3_10) ⟨rfl, N3, by rw [e3]; exact K5⟩ (by decide) (by decide)
theorem d1_0 : decode prog_39_method_1_code 0 = .ok (.aload_n 0, 1) := by decide +kernel
theorem d1_1 : decode prog_39_method_1_code 1 = .ok (.invokespecial 1, 3) := by decide +kernel
theorem d1_4 : decode prog_39_method_1_code 4 = .ok (.aload_n 0, 1) := by decide +kernel
theorem d1_5 : decode prog_39_method_1_code 5 = .ok (.new 7, 3) := by decide +kernel
theorem d1_8 : decode prog_39_method_1_code 8 = .ok (.dup, 1) := by decide +kernel
theorem d1_9 : decode prog_39_method_1_code 9 = .ok (.invokespecial 9, 3) := by decide +kernel
theorem d1_12 : decode prog_39_method_1_code 12 = .ok (.putfield 10, 3) := by decide +kernel
theorem d1_15 : decode prog_39_method_1_code 15 = .ok (.aload_n 0, 1) := by decide +kernel
theorem d1_16 : decode prog_39_method_1_code 16 = .ok (.iload_n 1, 1) := by decide +kernel
theorem d1_17 : decode prog_39_method_1_code 17 = .ok (.putfield 16, 3) := by decide +kernel
theorem d1_20 : decode prog_39_method_1_code 20 = .ok (.return_, 1) := by decide +kernel
theorem pn_1 : plainName "com/example/noddle/noddle/dom/IdIndex" = true := by first | (simp [plainName, overriddenIn]; done) | decide +kernel
theorem ef_1 (m : MethodId) (x0 : Addr) (x1 : Int32) : entryFrame m #[(.ref x0), (.int x1)] 2 = mkF m 0 #[.val (.ref x0), .val (.int x1)] [] := by first | (simp [entryFrame, mkF, argsToLocals, Value.category]; done) | rfl
def Q1 (Z : State) (a : Addr) (p1 : Int32) (h0 : Heap) (n0 : Nat) (v : Option Value) (h : Heap) (L : List Loc) : Prop := v = none ∧ Fr n0 L ∧ Keep h0 h [a] ∧ Fld Z h a "com/example/noddle/noddle/dom/IdIndex" "listsDefaults" "Z" (.int (nar .boolean p1)) ∧ Fld Z h a "com/example/noddle/noddle/dom/IdIndex" "defaultsLeftOut" "Z" (.int (0 : Int32))
set_option maxRecDepth 65536 in
set_option maxHeartbeats 40000000 in
theorem rm1 (l : Launch) (Z : State) (a0 : Array Value) (hw : ∀ d ∈ tables_1, d.before a0 Z = true) (ws : List Jvm.Cond) (a : Addr) (p1 : Int32) (h0 : Heap) (n0 : Nat) (Z0 : n0 ≤ h0.size) (F_elements_a : Fld Z h0 a "com/example/noddle/noddle/dom/IdIndex" "elements" "Ljava/util/Map;" .null) (F_listsDefaults_a : Fld Z h0 a "com/example/noddle/noddle/dom/IdIndex" "listsDefaults" "Z" (.int (0 : Int32))) (F_defaultsLeftOut_a : Fld Z h0 a "com/example/noddle/noddle/dom/IdIndex" "defaultsLeftOut" "Z" (.int (0 : Int32))) (E_a : Exa Z h0 a "com/example/noddle/noddle/dom/IdIndex") (gn_a : n0 ≤ a) :
    MetFree l (⟨"com/example/noddle/noddle/dom/IdIndex", "<init>", "(Z)V"⟩ : MethodName) (head1 (Jvm.Cond.code (⟨"com/example/noddle/noddle/dom/IdIndex", "<init>", "(Z)V"⟩ : MethodName) prog_39_method_1_code 2 none :: ws) ({ frames := 3, cells := 1, slots := 8, locals := 38 } : Room)) (fun aa U => aa = #[(.ref a), (.int p1)] ∧ Z.Warmed39 U.vm ∧ U.heap = h0) (fun _ _ _ _ _ => True) (fun _ U o U' => ∃ v L, o = .returned v ∧ Q1 Z a p1 h0 n0 v U'.heap L ∧ FrameEnd U o U' L ({ frames := 3, cells := 1, slots := 8, locals := 38 } : Room).cells ({ frames := 3, cells := 1, slots := 8, locals := 38 } : Room).slots) := by
  refine MetFree.of_bodySF (plainFor_of_name pn_1) hisR ?_
  intro p e s m args below meth c s₁ Bd hml0 hP hK
  obtain ⟨rfl, hZ, hh⟩ := hP
  have hx := Bd.exec
  have hby := Bd.bytes
  have hml : c.maxLocals = 2 := hml0
  have hown : s.vm.findClass "com/example/noddle/noddle/dom/IdIndex" = some m.cls := findClass_of_methodNamed Bd.named
  have hnm := (name_of_methodNamed Bd.named Bd.method).1
  have X0 : Stand p l e ({ frames := 3, cells := 1, slots := 8, locals := 38 } : Room) s m #[(.ref a), (.int p1)] below meth c s₁ [] 0 0 := Stand.of_body Bd
  have e0 : s₁.heap = h0 := by rw [← hh, Bd.state]; rfl
  have N0 := Fr.nil n0
  refine own_enter (QQ := Q1 Z a p1 h0 n0) (ef_1 m a p1) ?_
  refine own_go (T' := s₁) (g' := (mkF m 1 #[.val (.ref a), .val (.int p1)] [(.ref a)])) (fun t k => XS.aloadN X0.here hx rfl (hb hby d1_0) rfl rfl k) ?_
  obtain ⟨T6, X6, e6, st6⟩ := initO X0 hx hZ hown (hw _ (List.mem_of_getElem? (i := 6) rfl)) (hw _ (List.mem_of_getElem? (i := 7) rfl)) (hw _ (List.mem_of_getElem? (i := 8) rfl)) e0 (g := (mkF m 1 #[.val (.ref a), .val (.int p1)] [(.ref a)])) rfl (by rw [hml]; rfl) rfl (hb hby d1_1) (by decide) (W := 0) (by show 2 * 0 + _ ≤ _; exact Nat.le_of_eq rfl) (by decide)
  refine own_go (T' := T6) (g' := (mkF m 4 #[.val (.ref a), .val (.int p1)] [])) (st6) ?_
  refine own_go (T' := T6) (g' := (mkF m 5 #[.val (.ref a), .val (.int p1)] [(.ref a)])) (fun t k => XS.aloadN X6.here hx rfl (hb hby d1_4) rfl rfl k) ?_
  obtain ⟨T7, h7, X7, e7, E7, A7, D7, -, st7⟩ := newO X6 hx hZ hown (hw _ (List.mem_of_getElem? (i := 9) rfl)) (hw _ (List.mem_of_getElem? (i := 10) rfl)) (hw _ (List.mem_of_getElem? (i := 11) rfl)) e6 (g := (mkF m 5 #[.val (.ref a), .val (.int p1)] [(.ref a)])) rfl (hb hby d1_5) (by decide) (by decide)
  obtain ⟨b7, g7⟩ : ∃ z, z = h0.size := ⟨_, rfl⟩
  rw [← g7] at A7 D7 st7
  have ne_a_b7 : a ≠ b7 := Nat.ne_of_lt (Nat.lt_of_lt_of_le E_a.lt (Nat.le_of_eq g7.symm))
  have ne_b7_a := Ne.symm ne_a_b7
  have gn_b7 : n0 ≤ b7 := Nat.le_trans Z0 (Nat.le_of_eq g7.symm)
  have sz_b7 : h0.size ≤ b7 := Nat.le_trans (Keep.refl h0 [a]).1 (Nat.le_of_eq g7.symm)
  have E_a := E_a.ext E7
  have F_elements_a := F_elements_a.ext E7
  have F_listsDefaults_a := F_listsDefaults_a.ext E7
  have F_defaultsLeftOut_a := F_defaultsLeftOut_a.ext E7
  have Z8 : n0 ≤ h7.size := Nat.le_trans Z0 E7.1
  have K9 : Keep h0 h7 [a] := (Keep.refl h0 [a]).ext E7
  have E_b7 := A7
  have F_loadFactor_b7 : Fld Z h7 b7 "java/util/HashMap" "loadFactor" "F" (defaultValue .float) := D7 (Or.inr (hw _ (List.mem_of_getElem? (i := 24) rfl))) (ty := .float) (by decide)
  refine own_go (T' := T7) (g' := (mkF m 8 #[.val (.ref a), .val (.int p1)] [(.ref b7), (.ref a)])) (st7) ?_
  refine own_go (T' := T7) (g' := (mkF m 9 #[.val (.ref a), .val (.int p1)] [(.ref b7), (.ref b7), (.ref a)])) (fun t k => XS.dup X7.here hx rfl (hb hby d1_8) rfl rfl k) ?_
  obtain ⟨_, _, ⟨T10, L10, k10, n10⟩, -, X10, ⟨Lc10, hQ10, l10, y10, z10⟩, st10⟩ := X7.specialBack hx (y := (⟨"java/util/HashMap", "<init>", "()V"⟩ : MethodName)) rfl hown (mvT hZ (hw _ (List.mem_of_getElem? (i := 12) rfl))) (mvT hZ (hw _ (List.mem_of_getElem? (i := 13) rfl))) (mvT hZ (hw _ (List.mem_of_getElem? (i := 14) rfl))) (by decide) (backOf (W := 2) (rm3 l Z a0 hw [] b7 h7 n0 Z8 F_loadFactor_b7 E_b7 gn_b7) hZ (hw _ (List.mem_of_getElem? (i := 14) rfl)) (hw _ (List.mem_of_getElem? (i := 11) rfl)) (by decide) (by decide)) (g := (mkF m 9 #[.val (.ref a), .val (.int p1)] [(.ref b7), (.ref b7), (.ref a)])) rfl (by rw [hml]; rfl) (Steps.refl _) (a := b7) (argsL := []) (rest := [(.ref b7), (.ref a)]) (lenOf own_pd0 rfl) rfl (by show 2 * 0 + _ ≤ _; exact Nat.le_of_eq rfl) (hb hby d1_9) (fun _ _ => ⟨rfl, e7, (by decide : 1 + 0 ≤ _), (by decide : 8 + 0 ≤ _)⟩)
  dsimp only [Pt.U, Pt.locs, Pt.cells, Pt.slots] at X10 l10 y10 z10 st10 hQ10
  subst l10 y10 z10
  obtain ⟨rfl, M10, K10⟩ := hQ10
  have N10 := Fr.app N0 M10
  refine own_go (T' := T10) (g' := (mkF m 12 #[.val (.ref a), .val (.int p1)] [(.ref b7), (.ref a)])) (fun _ k => st10.trans k) ?_
  have E_a := E_a.keep K10
  have F_elements_a := F_elements_a.keep K10 (ninS ne_a_b7 nin0)
  have F_listsDefaults_a := F_listsDefaults_a.keep K10 (ninS ne_a_b7 nin0)
  have F_defaultsLeftOut_a := F_defaultsLeftOut_a.keep K10 (ninS ne_a_b7 nin0)
  have E_b7 := E_b7.keep K10
  have Z11 : n0 ≤ T10.heap.size := Nat.le_trans Z8 K10.1
  have K12 : Keep h0 T10.heap [a] := K9.trans K10 (allS (Or.inr sz_b7) all0)
  obtain ⟨T13, h13, X13, e13, W13, st13⟩ := putF X10 hx hZ hown (host := "") (Or.inl (hw _ (List.mem_of_getElem? (i := 25) rfl))) Via.refl rfl F_elements_a E_a (Or.inr ⟨(hw _ (List.mem_of_getElem? (i := 26) rfl)), rfl, hnm⟩) (hw _ (List.mem_of_getElem? (i := 1) rfl)) (ty := (.object "java/util/Map")) (by decide) rfl rfl (g := (mkF m 12 #[.val (.ref a), .val (.int p1)] [(.ref b7), (.ref a)])) rfl rfl (hb hby d1_12)
  have N13 := Fr.snoc X13 N10 gn_a
  have E_a := E_a.wr W13
  have F_listsDefaults_a := F_listsDefaults_a.other W13 (Or.inr (slot_ne (Or.inr (hw _ (List.mem_of_getElem? (i := 28) rfl))) (Or.inr (hw _ (List.mem_of_getElem? (i := 26) rfl))) (by decide) (t := .boolean) (t' := (.object "java/util/Map")) (by decide) (by decide)))
  have F_defaultsLeftOut_a := F_defaultsLeftOut_a.other W13 (Or.inr (slot_ne (Or.inl (hw _ (List.mem_of_getElem? (i := 35) rfl))) (Or.inr (hw _ (List.mem_of_getElem? (i := 26) rfl))) (by decide) (t := .boolean) (t' := (.object "java/util/Map")) (by decide) (by decide)))
  have E_b7 := E_b7.wr W13
  have F_elements_a := F_elements_a.same W13
  have Z14 : n0 ≤ h13.size := Nat.le_trans Z11 (Keep.of_wr W13).1
  have K15 : Keep h0 h13 [a] := K12.wr W13 (Or.inl (List.mem_of_getElem? (i := 0) rfl))
  refine own_go (T' := T13) (g' := (mkF m 15 #[.val (.ref a), .val (.int p1)] [])) (st13) ?_
  refine own_go (T' := T13) (g' := (mkF m 16 #[.val (.ref a), .val (.int p1)] [(.ref a)])) (fun t k => XS.aloadN X13.here hx rfl (hb hby d1_15) rfl rfl k) ?_
  refine own_go (T' := T13) (g' := (mkF m 17 #[.val (.ref a), .val (.int p1)] [(.int p1), (.ref a)])) (fun t k => XS.iloadN X13.here hx rfl (hb hby d1_16) rfl k) ?_
  obtain ⟨T16, h16, X16, e16, W16, st16⟩ := putFN X13 hx hZ hown (hw _ (List.mem_of_getElem? (i := 27) rfl)) Via.refl e13 F_listsDefaults_a E_a (Or.inr ⟨(hw _ (List.mem_of_getElem? (i := 28) rfl)), rfl, hnm⟩) (hw _ (List.mem_of_getElem? (i := 1) rfl)) (ty := .boolean) (v' := (.int (nar .boolean p1))) (by decide) rfl (fits_nar_bool p1) (g := (mkF m 17 #[.val (.ref a), .val (.int p1)] [(.int p1), (.ref a)])) rfl rfl (hb hby d1_17)
  have N16 := Fr.snoc X16 N13 gn_a
  have E_a := E_a.wr W16
  have F_elements_a := F_elements_a.other W16 (Or.inr (slot_ne (Or.inr (hw _ (List.mem_of_getElem? (i := 26) rfl))) (Or.inr (hw _ (List.mem_of_getElem? (i := 28) rfl))) (by decide) (t := (.object "java/util/Map")) (t' := .boolean) (by decide) (by decide)))
  have F_defaultsLeftOut_a := F_defaultsLeftOut_a.other W16 (Or.inr (slot_ne (Or.inl (hw _ (List.mem_of_getElem? (i := 35) rfl))) (Or.inr (hw _ (List.mem_of_getElem? (i := 28) rfl))) (by decide) (t := .boolean) (t' := .boolean) (by decide) (by decide)))
  have E_b7 := E_b7.wr W16
  have F_listsDefaults_a := F_listsDefaults_a.same W16
  have Z17 : n0 ≤ h16.size := Nat.le_trans Z14 (Keep.of_wr W16).1
  have K18 : Keep h0 h16 [a] := K15.wr W16 (Or.inl (List.mem_of_getElem? (i := 0) rfl))
  refine own_go (T' := T16) (g' := (mkF m 20 #[.val (.ref a), .val (.int p1)] [])) (st16) ?_
  exact own_retV X16 hx Bd.notSynchronized Bd.returns (hb hby d1_20) ⟨rfl, N16, by rw [e16]; exact K18, by rw [e16]; exact F_listsDefaults_a, by rw [e16]; exact F_defaultsLeftOut_a⟩ (by decide) (by decide)
theorem d5_0 : decode prog_39_method_3_code 0 = .ok (.aload_n 0, 1) := by decide +kernel
theorem d5_1 : decode prog_39_method_3_code 1 = .ok (.getfield 16, 3) := by decide +kernel
theorem d5_4 : decode prog_39_method_3_code 4 = .ok (.ifCond .ne 10, 3) := by decide +kernel
theorem d5_7 : decode prog_39_method_3_code 7 = .ok (.aload_n 0, 1) := by decide +kernel
theorem d5_8 : decode prog_39_method_3_code 8 = .ok (.getfield 20, 3) := by decide +kernel
theorem d5_11 : decode prog_39_method_3_code 11 = .ok (.ifCond .ne 7, 3) := by decide +kernel
theorem d5_14 : decode prog_39_method_3_code 14 = .ok (.iconst 1, 1) := by decide +kernel
theorem d5_15 : decode prog_39_method_3_code 15 = .ok (.goto 4, 3) := by decide +kernel
theorem d5_18 : decode prog_39_method_3_code 18 = .ok (.iconst 0, 1) := by decide +kernel
theorem d5_19 : decode prog_39_method_3_code 19 = .ok (.ireturn, 1) := by decide +kernel
theorem pn_5 : plainName "com/example/noddle/noddle/dom/IdIndex" = true := by first | (simp [plainName, overriddenIn]; done) | decide +kernel
theorem ef_5 (m : MethodId) (x0 : Addr) : entryFrame m #[(.ref x0)] 1 = mkF m 0 #[.val (.ref x0)] [] := by first | (simp [entryFrame, mkF, argsToLocals, Value.category]; done) | rfl
def own_complete (q1 : Int32) (q2 : Int32) : Int32 :=
  if q1 = (0 : Int32) then (if q2 = (0 : Int32) then (1 : Int32) else
    (0 : Int32)) else
  (1 : Int32)
def Q5 (Z : State) (a : Addr) (q1 : Int32) (q2 : Int32) (h0 : Heap) (n0 : Nat) (v : Option Value) (h : Heap) (L : List Loc) : Prop := v = some (.int (own_complete q1 q2)) ∧ Fr n0 L ∧ h = h0
set_option maxRecDepth 65536 in
set_option maxHeartbeats 40000000 in
theorem rm5 (l : Launch) (Z : State) (a0 : Array Value) (hw : ∀ d ∈ tables_1, d.before a0 Z = true) (ws : List Jvm.Cond) (a : Addr) (q1 : Int32) (q2 : Int32) (h0 : Heap) (n0 : Nat) (Z0 : n0 ≤ h0.size) (F_listsDefaults_a : Fld Z h0 a "com/example/noddle/noddle/dom/IdIndex" "listsDefaults" "Z" (.int q1)) (F_defaultsLeftOut_a : Fld Z h0 a "com/example/noddle/noddle/dom/IdIndex" "defaultsLeftOut" "Z" (.int q2)) :
    MetFree l (⟨"com/example/noddle/noddle/dom/IdIndex", "complete", "()Z"⟩ : MethodName) (head1 (Jvm.Cond.code (⟨"com/example/noddle/noddle/dom/IdIndex", "complete", "()Z"⟩ : MethodName) prog_39_method_3_code 1 (some .boolean) :: ws) ({ frames := 0, cells := 0, slots := 0, locals := 0 } : Room)) (fun aa U => aa = #[(.ref a)] ∧ Z.Warmed39 U.vm ∧ U.heap = h0) (fun _ _ _ _ _ => True) (fun _ U o U' => ∃ v L, o = .returned v ∧ Q5 Z a q1 q2 h0 n0 v U'.heap L ∧ FrameEnd U o U' L ({ frames := 0, cells := 0, slots := 0, locals := 0 } : Room).cells ({ frames := 0, cells := 0, slots := 0, locals := 0 } : Room).slots) := by
  refine MetFree.of_bodySF (plainFor_of_name pn_5) hisR ?_
  intro p e s m args below meth c s₁ Bd hml0 hP hK
  obtain ⟨rfl, hZ, hh⟩ := hP
  have hx := Bd.exec
  have hby := Bd.bytes
  have hml : c.maxLocals = 1 := hml0
  have hown : s.vm.findClass "com/example/noddle/noddle/dom/IdIndex" = some m.cls := findClass_of_methodNamed Bd.named
  have hnm := (name_of_methodNamed Bd.named Bd.method).1
  have X0 : Stand p l e ({ frames := 0, cells := 0, slots := 0, locals := 0 } : Room) s m #[(.ref a)] below meth c s₁ [] 0 0 := Stand.of_body Bd
  have e0 : s₁.heap = h0 := by rw [← hh, Bd.state]; rfl
  have N0 := Fr.nil n0
  refine own_enter (QQ := Q5 Z a q1 q2 h0 n0) (ef_5 m a) ?_
  refine own_go (T' := s₁) (g' := (mkF m 1 #[.val (.ref a)] [(.ref a)])) (fun t k => XS.aloadN X0.here hx rfl (hb hby d5_0) rfl rfl k) ?_
  obtain ⟨T19, X19, e19, st19⟩ := getF X0 hx hZ hown (host := "") (Or.inl (hw _ (List.mem_of_getElem? (i := 27) rfl))) Via.refl e0 F_listsDefaults_a (g := (mkF m 1 #[.val (.ref a)] [(.ref a)])) rfl rfl (hb hby d5_1)
  refine own_go (T' := T19) (g' := (mkF m 4 #[.val (.ref a)] [(.int q1)])) (st19) ?_
  by_cases c4_1 : q1 = (0 : Int32)
  · refine own_go (T' := T19) (g' := (mkF m 7 #[.val (.ref a)] [])) (fun t k => XS.ifNo X19.here hx rfl (hb hby d5_4) rfl ((if0 _ _).trans (teq c4_1).2) k) ?_
    refine own_go (T' := T19) (g' := (mkF m 8 #[.val (.ref a)] [(.ref a)])) (fun t k => XS.aloadN X19.here hx rfl (hb hby d5_7) rfl rfl k) ?_
    obtain ⟨T20, X20, e20, st20⟩ := getF X19 hx hZ hown (host := "") (Or.inl (hw _ (List.mem_of_getElem? (i := 34) rfl))) Via.refl e19 F_defaultsLeftOut_a (g := (mkF m 8 #[.val (.ref a)] [(.ref a)])) rfl rfl (hb hby d5_8)
    refine own_go (T' := T20) (g' := (mkF m 11 #[.val (.ref a)] [(.int q2)])) (st20) ?_
    by_cases c11_2 : q2 = (0 : Int32)
    · refine own_go (T' := T20) (g' := (mkF m 14 #[.val (.ref a)] [])) (fun t k => XS.ifNo X20.here hx rfl (hb hby d5_11) rfl ((if0 _ _).trans (teq c11_2).2) k) ?_
      refine own_go (T' := T20) (g' := (mkF m 15 #[.val (.ref a)] [(.int (1 : Int32))])) (fun t k => XS.iconst X20.here hx rfl (hb hby d5_14) k) ?_
      refine own_go (T' := T20) (g' := (mkF m 19 #[.val (.ref a)] [(.int (1 : Int32))])) (fun t k => XS.goto X20.here hx rfl (pc0 := 15) (pc' := 19) rfl (hb hby d5_15) (by decide) (by decide) k) ?_
      exact own_retZ X20 hx Bd.notSynchronized Bd.returns (hb hby d5_19) rfl ⟨by unfold own_complete; rw [if_pos c4_1, if_pos c11_2], N0, e20⟩ (by decide) (by decide)
    · refine own_go (T' := T20) (g' := (mkF m 18 #[.val (.ref a)] [])) (fun t k => XS.ifYes X20.here hx rfl (pc0 := 11) (pc' := 18) rfl (hb hby d5_11) rfl ((if0 _ _).trans (feq c11_2).2) (by decide) (by decide) k) ?_
      refine own_go (T' := T20) (g' := (mkF m 19 #[.val (.ref a)] [(.int (0 : Int32))])) (fun t k => XS.iconst X20.here hx rfl (hb hby d5_18) k) ?_
      exact own_retZ X20 hx Bd.notSynchronized Bd.returns (hb hby d5_19) rfl ⟨by unfold own_complete; rw [if_pos c4_1, if_neg c11_2], N0, e20⟩ (by decide) (by decide)
  · refine own_go (T' := T19) (g' := (mkF m 14 #[.val (.ref a)] [])) (fun t k => XS.ifYes X19.here hx rfl (pc0 := 4) (pc' := 14) rfl (hb hby d5_4) rfl ((if0 _ _).trans (feq c4_1).2) (by decide) (by decide) k) ?_
    refine own_go (T' := T19) (g' := (mkF m 15 #[.val (.ref a)] [(.int (1 : Int32))])) (fun t k => XS.iconst X19.here hx rfl (hb hby d5_14) k) ?_
    refine own_go (T' := T19) (g' := (mkF m 19 #[.val (.ref a)] [(.int (1 : Int32))])) (fun t k => XS.goto X19.here hx rfl (pc0 := 15) (pc' := 19) rfl (hb hby d5_15) (by decide) (by decide) k) ?_
    exact own_retZ X19 hx Bd.notSynchronized Bd.returns (hb hby d5_19) rfl ⟨by unfold own_complete; rw [if_neg c4_1], N0, e19⟩ (by decide) (by decide)
theorem d6_0 : decode prog_39_method_2_code 0 = .ok (.aload_n 0, 1) := by decide +kernel
theorem d6_1 : decode prog_39_method_2_code 1 = .ok (.getfield 16, 3) := by decide +kernel
theorem d6_4 : decode prog_39_method_2_code 4 = .ok (.ireturn, 1) := by decide +kernel
theorem pn_6 : plainName "com/example/noddle/noddle/dom/IdIndex" = true := by first | (simp [plainName, overriddenIn]; done) | decide +kernel
theorem ef_6 (m : MethodId) (x0 : Addr) : entryFrame m #[(.ref x0)] 1 = mkF m 0 #[.val (.ref x0)] [] := by first | (simp [entryFrame, mkF, argsToLocals, Value.category]; done) | rfl
def own_lists (q1 : Int32) : Int32 :=
  q1
def Q6 (Z : State) (a : Addr) (q1 : Int32) (h0 : Heap) (n0 : Nat) (v : Option Value) (h : Heap) (L : List Loc) : Prop := v = some (.int (own_lists q1)) ∧ Fr n0 L ∧ h = h0
set_option maxRecDepth 65536 in
set_option maxHeartbeats 40000000 in
theorem rm6 (l : Launch) (Z : State) (a0 : Array Value) (hw : ∀ d ∈ tables_1, d.before a0 Z = true) (ws : List Jvm.Cond) (a : Addr) (q1 : Int32) (h0 : Heap) (n0 : Nat) (Z0 : n0 ≤ h0.size) (F_listsDefaults_a : Fld Z h0 a "com/example/noddle/noddle/dom/IdIndex" "listsDefaults" "Z" (.int q1)) (hq : nar .boolean q1 = q1) :
    MetFree l (⟨"com/example/noddle/noddle/dom/IdIndex", "listsDefaults", "()Z"⟩ : MethodName) (head1 (Jvm.Cond.code (⟨"com/example/noddle/noddle/dom/IdIndex", "listsDefaults", "()Z"⟩ : MethodName) prog_39_method_2_code 1 (some .boolean) :: ws) ({ frames := 0, cells := 0, slots := 0, locals := 0 } : Room)) (fun aa U => aa = #[(.ref a)] ∧ Z.Warmed39 U.vm ∧ U.heap = h0) (fun _ _ _ _ _ => True) (fun _ U o U' => ∃ v L, o = .returned v ∧ Q6 Z a q1 h0 n0 v U'.heap L ∧ FrameEnd U o U' L ({ frames := 0, cells := 0, slots := 0, locals := 0 } : Room).cells ({ frames := 0, cells := 0, slots := 0, locals := 0 } : Room).slots) := by
  refine MetFree.of_bodySF (plainFor_of_name pn_6) hisR ?_
  intro p e s m args below meth c s₁ Bd hml0 hP hK
  obtain ⟨rfl, hZ, hh⟩ := hP
  have hx := Bd.exec
  have hby := Bd.bytes
  have hml : c.maxLocals = 1 := hml0
  have hown : s.vm.findClass "com/example/noddle/noddle/dom/IdIndex" = some m.cls := findClass_of_methodNamed Bd.named
  have hnm := (name_of_methodNamed Bd.named Bd.method).1
  have X0 : Stand p l e ({ frames := 0, cells := 0, slots := 0, locals := 0 } : Room) s m #[(.ref a)] below meth c s₁ [] 0 0 := Stand.of_body Bd
  have e0 : s₁.heap = h0 := by rw [← hh, Bd.state]; rfl
  have N0 := Fr.nil n0
  refine own_enter (QQ := Q6 Z a q1 h0 n0) (ef_6 m a) ?_
  refine own_go (T' := s₁) (g' := (mkF m 1 #[.val (.ref a)] [(.ref a)])) (fun t k => XS.aloadN X0.here hx rfl (hb hby d6_0) rfl rfl k) ?_
  obtain ⟨T21, X21, e21, st21⟩ := getF X0 hx hZ hown (host := "") (Or.inl (hw _ (List.mem_of_getElem? (i := 27) rfl))) Via.refl e0 F_listsDefaults_a (g := (mkF m 1 #[.val (.ref a)] [(.ref a)])) rfl rfl (hb hby d6_1)
  refine own_go (T' := T21) (g' := (mkF m 4 #[.val (.ref a)] [(.int q1)])) (st21) ?_
  exact own_retZ X21 hx Bd.notSynchronized Bd.returns (hb hby d6_4) hq ⟨by unfold own_lists; rfl, N0, e21⟩ (by decide) (by decide)
theorem d7_0 : decode prog_39_method_4_code 0 = .ok (.aload_n 0, 1) := by decide +kernel
theorem d7_1 : decode prog_39_method_4_code 1 = .ok (.iconst 1, 1) := by decide +kernel
theorem d7_2 : decode prog_39_method_4_code 2 = .ok (.putfield 20, 3) := by decide +kernel
theorem d7_5 : decode prog_39_method_4_code 5 = .ok (.return_, 1) := by decide +kernel
theorem pn_7 : plainName "com/example/noddle/noddle/dom/IdIndex" = true := by first | (simp [plainName, overriddenIn]; done) | decide +kernel
theorem ef_7 (m : MethodId) (x0 : Addr) : entryFrame m #[(.ref x0)] 1 = mkF m 0 #[.val (.ref x0)] [] := by first | (simp [entryFrame, mkF, argsToLocals, Value.category]; done) | rfl
def Q7 (Z : State) (a : Addr) (q2 : Int32) (h0 : Heap) (n0 : Nat) (v : Option Value) (h : Heap) (L : List Loc) : Prop := v = none ∧ Fr n0 L ∧ Keep h0 h [a] ∧ (∀ w, Fld Z h0 a "com/example/noddle/noddle/dom/IdIndex" "listsDefaults" "Z" w → Fld Z h a "com/example/noddle/noddle/dom/IdIndex" "listsDefaults" "Z" w) ∧ Fld Z h a "com/example/noddle/noddle/dom/IdIndex" "defaultsLeftOut" "Z" (.int (1 : Int32))
set_option maxRecDepth 65536 in
set_option maxHeartbeats 40000000 in
theorem rm7 (l : Launch) (Z : State) (a0 : Array Value) (hw : ∀ d ∈ tables_1, d.before a0 Z = true) (ws : List Jvm.Cond) (a : Addr) (q2 : Int32) (h0 : Heap) (n0 : Nat) (Z0 : n0 ≤ h0.size) (F_defaultsLeftOut_a : Fld Z h0 a "com/example/noddle/noddle/dom/IdIndex" "defaultsLeftOut" "Z" (.int q2)) (E_a : Exa Z h0 a "com/example/noddle/noddle/dom/IdIndex") (gn_a : n0 ≤ a) :
    MetFree l (⟨"com/example/noddle/noddle/dom/IdIndex", "defaultLeftOut", "()V"⟩ : MethodName) (head1 (Jvm.Cond.code (⟨"com/example/noddle/noddle/dom/IdIndex", "defaultLeftOut", "()V"⟩ : MethodName) prog_39_method_4_code 1 none :: ws) ({ frames := 0, cells := 0, slots := 0, locals := 0 } : Room)) (fun aa U => aa = #[(.ref a)] ∧ Z.Warmed39 U.vm ∧ U.heap = h0) (fun _ _ _ _ _ => True) (fun _ U o U' => ∃ v L, o = .returned v ∧ Q7 Z a q2 h0 n0 v U'.heap L ∧ FrameEnd U o U' L ({ frames := 0, cells := 0, slots := 0, locals := 0 } : Room).cells ({ frames := 0, cells := 0, slots := 0, locals := 0 } : Room).slots) := by
  refine MetFree.of_bodySF (plainFor_of_name pn_7) hisR ?_
  intro p e s m args below meth c s₁ Bd hml0 hP hK
  obtain ⟨rfl, hZ, hh⟩ := hP
  have hx := Bd.exec
  have hby := Bd.bytes
  have hml : c.maxLocals = 1 := hml0
  have hown : s.vm.findClass "com/example/noddle/noddle/dom/IdIndex" = some m.cls := findClass_of_methodNamed Bd.named
  have hnm := (name_of_methodNamed Bd.named Bd.method).1
  have X0 : Stand p l e ({ frames := 0, cells := 0, slots := 0, locals := 0 } : Room) s m #[(.ref a)] below meth c s₁ [] 0 0 := Stand.of_body Bd
  have e0 : s₁.heap = h0 := by rw [← hh, Bd.state]; rfl
  have N0 := Fr.nil n0
  refine own_enter (QQ := Q7 Z a q2 h0 n0) (ef_7 m a) ?_
  refine own_go (T' := s₁) (g' := (mkF m 1 #[.val (.ref a)] [(.ref a)])) (fun t k => XS.aloadN X0.here hx rfl (hb hby d7_0) rfl rfl k) ?_
  refine own_go (T' := s₁) (g' := (mkF m 2 #[.val (.ref a)] [(.int (1 : Int32)), (.ref a)])) (fun t k => XS.iconst X0.here hx rfl (hb hby d7_1) k) ?_
  obtain ⟨T22, h22, X22, e22, W22, st22⟩ := putFN X0 hx hZ hown (hw _ (List.mem_of_getElem? (i := 34) rfl)) Via.refl e0 F_defaultsLeftOut_a E_a (Or.inl (hw _ (List.mem_of_getElem? (i := 35) rfl))) (hw _ (List.mem_of_getElem? (i := 1) rfl)) (ty := .boolean) (v' := (.int (1 : Int32))) (by decide) rfl rfl (g := (mkF m 2 #[.val (.ref a)] [(.int (1 : Int32)), (.ref a)])) rfl rfl (hb hby d7_2)
  have N22 := Fr.snoc X22 N0 gn_a
  have E_a := E_a.wr W22
  have F_defaultsLeftOut_a := F_defaultsLeftOut_a.same W22
  have Z23 : n0 ≤ h22.size := Nat.le_trans Z0 (Keep.of_wr W22).1
  have K24 : Keep h0 h22 [a] := (Keep.refl h0 [a]).wr W22 (Or.inl (List.mem_of_getElem? (i := 0) rfl))
  refine own_go (T' := T22) (g' := (mkF m 5 #[.val (.ref a)] [])) (st22) ?_
  exact own_retV X22 hx Bd.notSynchronized Bd.returns (hb hby d7_5) ⟨rfl, N22, by rw [e22]; exact K24, fun w Fw => by rw [e22]; exact Fw.other W22 (Or.inr (slot_ne (Or.inr (hw _ (List.mem_of_getElem? (i := 28) rfl))) (Or.inl (hw _ (List.mem_of_getElem? (i := 35) rfl))) (by decide) (t := .boolean) (t' := .boolean) (by decide) (by decide))), by rw [e22]; exact F_defaultsLeftOut_a⟩ (by decide) (by decide)
theorem own_lt12 {x : Int32} (h : x < 1) : x < 2 := by
  rw [Int32.lt_iff_toInt_lt] at *
  rw [show (1 : Int32).toInt = 1 from by decide] at h
  rw [show (2 : Int32).toInt = 2 from by decide]
  omega
theorem pn_0 : plainName "com/example/noddle/noddle/dom/IdIndexCompletePinLaw" = true := by first | (simp [plainName, overriddenIn]; done) | decide +kernel
theorem own_pd1 : parseMethodDescriptor "(Z)V" = some ⟨[.boolean], none⟩ := by decide +kernel
theorem own_pd2 : parseMethodDescriptor "()Z" = some ⟨[], some .boolean⟩ := by decide +kernel
theorem ef_0 (m : MethodId) (x0 : Int32) : entryFrame m #[(.int x0)] maxLocals = mkF m 0 #[.val (.int x0), .unset, .unset, .unset, .unset] [] := by first | (simp [entryFrame, mkF, argsToLocals, Value.category, maxLocals]; done) | rfl
def Q0 (Z : State) (p1 : Int32) (h0 : Heap) (n0 : Nat) (v : Option Value) (h : Heap) (L : List Loc) : Prop := v = some (.int 1) ∧ Fr n0 L
set_option maxRecDepth 65536 in
set_option maxHeartbeats 40000000 in
theorem rm0 (l : Launch) (Z : State) (a0 : Array Value) (hw : ∀ d ∈ tables_1, d.before a0 Z = true) (ws : List Jvm.Cond) (p1 : Int32) (h0 : Heap) (n0 : Nat) (Z0 : n0 ≤ h0.size) :
    MetFree l x (head1 (Jvm.Cond.code x code maxLocals ret :: ws) room_1) (fun aa U => aa = #[(.int p1)] ∧ Z.Warmed39 U.vm ∧ U.heap = h0) (fun _ _ _ _ _ => True) (fun _ U o U' => ∃ v L, o = .returned v ∧ Q0 Z p1 h0 n0 v U'.heap L ∧ FrameEnd U o U' L room_1.cells room_1.slots) := by
  refine MetFree.of_bodySF (plainFor_of_name pn_0) hisR ?_
  intro p e s m args below meth c s₁ Bd hml0 hP hK
  obtain ⟨rfl, hZ, hh⟩ := hP
  have hx := Bd.exec
  have hby := Bd.bytes
  have hml : c.maxLocals = 5 := hml0
  have hown : s.vm.findClass "com/example/noddle/noddle/dom/IdIndexCompletePinLaw" = some m.cls := findClass_of_methodNamed Bd.named
  have hnm := (name_of_methodNamed Bd.named Bd.method).1
  have X0 : Stand p l e room_1 s m #[(.int p1)] below meth c s₁ [] 0 0 := Stand.of_body Bd
  have e0 : s₁.heap = h0 := by rw [← hh, Bd.state]; rfl
  have N0 := Fr.nil n0
  refine own_enter (QQ := Q0 Z p1 h0 n0) (ef_0 m p1) ?_
  refine own_go (T' := s₁) (g' := (mkF m 1 #[.val (.int p1), .unset, .unset, .unset, .unset] [(.int p1)])) (fun t k => XS.iloadN X0.here hx rfl (hb hby at_0) rfl k) ?_
  refine own_go (T' := s₁) (g' := (mkF m 2 #[.val (.int p1), .unset, .unset, .unset, .unset] [(.int (1 : Int32)), (.int p1)])) (fun t k => XS.iconst X0.here hx rfl (hb hby at_1) k) ?_
  refine own_go (T' := s₁) (g' := (mkF m 3 #[.val (.int p1), .unset, .unset, .unset, .unset] [(.int (p1 &&& (1 : Int32)))])) (fun t k => XS.iand X0.here hx rfl (hb hby at_2) rfl k) ?_
  by_cases c3_1 : (p1 &&& (1 : Int32)) = (0 : Int32)
  · refine own_go (T' := s₁) (g' := (mkF m 10 #[.val (.int p1), .unset, .unset, .unset, .unset] [])) (fun t k => XS.ifYes X0.here hx rfl (pc0 := 3) (pc' := 10) rfl (hb hby at_3) rfl ((if0 _ _).trans (teq c3_1).1) (by decide) (by decide) k) ?_
    refine own_go (T' := s₁) (g' := (mkF m 11 #[.val (.int p1), .unset, .unset, .unset, .unset] [(.int (0 : Int32))])) (fun t k => XS.iconst X0.here hx rfl (hb hby at_10) k) ?_
    refine own_go (T' := s₁) (g' := (mkF m 12 #[.val (.int p1), .val (.int (0 : Int32)), .unset, .unset, .unset] [])) (fun t k => XS.istoreN X0.here hx rfl (hb hby at_11) rfl (l' := #[.val (.int p1), .val (.int (0 : Int32)), .unset, .unset, .unset]) rfl k) ?_
    refine own_go (T' := s₁) (g' := (mkF m 13 #[.val (.int p1), .val (.int (0 : Int32)), .unset, .unset, .unset] [(.int p1)])) (fun t k => XS.iloadN X0.here hx rfl (hb hby at_12) rfl k) ?_
    refine own_go (T' := s₁) (g' := (mkF m 14 #[.val (.int p1), .val (.int (0 : Int32)), .unset, .unset, .unset] [(.int (1 : Int32)), (.int p1)])) (fun t k => XS.iconst X0.here hx rfl (hb hby at_13) k) ?_
    refine own_go (T' := s₁) (g' := (mkF m 15 #[.val (.int p1), .val (.int (0 : Int32)), .unset, .unset, .unset] [(.int ((p1.toUInt32 >>> ((1 : Int32) &&& 31).toUInt32).toInt32))])) (fun t k => XS.iushr X0.here hx rfl (hb hby at_14) rfl k) ?_
    refine own_go (T' := s₁) (g' := (mkF m 16 #[.val (.int p1), .val (.int (0 : Int32)), .unset, .unset, .unset] [(.int (3 : Int32)), (.int ((p1.toUInt32 >>> ((1 : Int32) &&& 31).toUInt32).toInt32))])) (fun t k => XS.iconst X0.here hx rfl (hb hby at_15) k) ?_
    refine own_go (T' := s₁) (g' := (mkF m 17 #[.val (.int p1), .val (.int (0 : Int32)), .unset, .unset, .unset] [(.int (((p1.toUInt32 >>> ((1 : Int32) &&& 31).toUInt32).toInt32) &&& (3 : Int32)))])) (fun t k => XS.iand X0.here hx rfl (hb hby at_16) rfl k) ?_
    refine own_go (T' := s₁) (g' := (mkF m 18 #[.val (.int p1), .val (.int (0 : Int32)), .val (.int (((p1.toUInt32 >>> ((1 : Int32) &&& 31).toUInt32).toInt32) &&& (3 : Int32))), .unset, .unset] [])) (fun t k => XS.istoreN X0.here hx rfl (hb hby at_17) rfl (l' := #[.val (.int p1), .val (.int (0 : Int32)), .val (.int (((p1.toUInt32 >>> ((1 : Int32) &&& 31).toUInt32).toInt32) &&& (3 : Int32))), .unset, .unset]) rfl k) ?_
    obtain ⟨T25, h25, X25, e25, E25, A25, D25, -, st25⟩ := newO X0 hx hZ hown (hw _ (List.mem_of_getElem? (i := 0) rfl)) (hw _ (List.mem_of_getElem? (i := 1) rfl)) (hw _ (List.mem_of_getElem? (i := 2) rfl)) e0 (g := (mkF m 18 #[.val (.int p1), .val (.int (0 : Int32)), .val (.int (((p1.toUInt32 >>> ((1 : Int32) &&& 31).toUInt32).toInt32) &&& (3 : Int32))), .unset, .unset] [])) rfl (hb hby at_18) (by decide) (by decide)
    obtain ⟨b25, g25⟩ : ∃ z, z = h0.size := ⟨_, rfl⟩
    rw [← g25] at A25 D25 st25
    have gn_b25 : n0 ≤ b25 := Nat.le_trans Z0 (Nat.le_of_eq g25.symm)
    have Z26 : n0 ≤ h25.size := Nat.le_trans Z0 E25.1
    have E_b25 := A25
    have F_elements_b25 : Fld Z h25 b25 "com/example/noddle/noddle/dom/IdIndex" "elements" "Ljava/util/Map;" .null := D25 (Or.inr (hw _ (List.mem_of_getElem? (i := 26) rfl))) (ty := (.object "java/util/Map")) (by decide)
    have F_listsDefaults_b25 : Fld Z h25 b25 "com/example/noddle/noddle/dom/IdIndex" "listsDefaults" "Z" (.int (0 : Int32)) := D25 (Or.inr (hw _ (List.mem_of_getElem? (i := 28) rfl))) (ty := .boolean) (by decide)
    have F_defaultsLeftOut_b25 : Fld Z h25 b25 "com/example/noddle/noddle/dom/IdIndex" "defaultsLeftOut" "Z" (.int (0 : Int32)) := D25 (Or.inl (hw _ (List.mem_of_getElem? (i := 35) rfl))) (ty := .boolean) (by decide)
    refine own_go (T' := T25) (g' := (mkF m 21 #[.val (.int p1), .val (.int (0 : Int32)), .val (.int (((p1.toUInt32 >>> ((1 : Int32) &&& 31).toUInt32).toInt32) &&& (3 : Int32))), .unset, .unset] [(.ref b25)])) (st25) ?_
    refine own_go (T' := T25) (g' := (mkF m 22 #[.val (.int p1), .val (.int (0 : Int32)), .val (.int (((p1.toUInt32 >>> ((1 : Int32) &&& 31).toUInt32).toInt32) &&& (3 : Int32))), .unset, .unset] [(.ref b25), (.ref b25)])) (fun t k => XS.dup X25.here hx rfl (hb hby at_21) rfl rfl k) ?_
    refine own_go (T' := T25) (g' := (mkF m 23 #[.val (.int p1), .val (.int (0 : Int32)), .val (.int (((p1.toUInt32 >>> ((1 : Int32) &&& 31).toUInt32).toInt32) &&& (3 : Int32))), .unset, .unset] [(.int (0 : Int32)), (.ref b25), (.ref b25)])) (fun t k => XS.iloadN X25.here hx rfl (hb hby at_22) rfl k) ?_
    obtain ⟨_, _, ⟨T27, L27, k27, n27⟩, -, X27, ⟨Lc27, hQ27, l27, y27, z27⟩, st27⟩ := X25.specialBack hx (y := (⟨"com/example/noddle/noddle/dom/IdIndex", "<init>", "(Z)V"⟩ : MethodName)) rfl hown (mvT hZ (hw _ (List.mem_of_getElem? (i := 3) rfl))) (mvT hZ (hw _ (List.mem_of_getElem? (i := 4) rfl))) (mvT hZ (hw _ (List.mem_of_getElem? (i := 5) rfl))) (by decide) (backOf (W := 1) (rm1 l Z a0 hw [] b25 (0 : Int32) h25 n0 Z26 F_elements_b25 F_listsDefaults_b25 F_defaultsLeftOut_b25 E_b25 gn_b25) hZ (hw _ (List.mem_of_getElem? (i := 5) rfl)) (hw _ (List.mem_of_getElem? (i := 2) rfl)) (by decide) (by decide)) (g := (mkF m 23 #[.val (.int p1), .val (.int (0 : Int32)), .val (.int (((p1.toUInt32 >>> ((1 : Int32) &&& 31).toUInt32).toInt32) &&& (3 : Int32))), .unset, .unset] [(.int (0 : Int32)), (.ref b25), (.ref b25)])) rfl (by rw [hml]; rfl) (Steps.refl _) (a := b25) (argsL := [(.int (0 : Int32))]) (rest := [(.ref b25)]) (lenOf own_pd1 rfl) rfl (by show 2 * 0 + _ ≤ _; exact Nat.le_of_eq rfl) (hb hby at_23) (fun _ _ => ⟨rfl, e25, (by decide : 1 + 1 ≤ _), (by decide : 4 + 8 ≤ _)⟩)
    dsimp only [Pt.U, Pt.locs, Pt.cells, Pt.slots] at X27 l27 y27 z27 st27 hQ27
    subst l27 y27 z27
    obtain ⟨rfl, M27, K27, G0_27, G1_27⟩ := hQ27
    have N27 := Fr.app N0 M27
    refine own_go (T' := T27) (g' := (mkF m 26 #[.val (.int p1), .val (.int (0 : Int32)), .val (.int (((p1.toUInt32 >>> ((1 : Int32) &&& 31).toUInt32).toInt32) &&& (3 : Int32))), .unset, .unset] [(.ref b25)])) (fun _ k => st27.trans k) ?_
    have E_b25 := E_b25.keep K27
    have Z28 : n0 ≤ T27.heap.size := Nat.le_trans Z26 K27.1
    have F_listsDefaults_b25 : Fld Z T27.heap b25 "com/example/noddle/noddle/dom/IdIndex" "listsDefaults" "Z" (.int (0 : Int32)) := G0_27
    have F_defaultsLeftOut_b25 : Fld Z T27.heap b25 "com/example/noddle/noddle/dom/IdIndex" "defaultsLeftOut" "Z" (.int (0 : Int32)) := G1_27
    refine own_go (T' := T27) (g' := (mkF m 27 #[.val (.int p1), .val (.int (0 : Int32)), .val (.int (((p1.toUInt32 >>> ((1 : Int32) &&& 31).toUInt32).toInt32) &&& (3 : Int32))), .val (.ref b25), .unset] [])) (fun t k => XS.astoreN X27.here hx rfl (hb hby at_26) rfl rfl (l' := #[.val (.int p1), .val (.int (0 : Int32)), .val (.int (((p1.toUInt32 >>> ((1 : Int32) &&& 31).toUInt32).toInt32) &&& (3 : Int32))), .val (.ref b25), .unset]) rfl k) ?_
    refine own_go (T' := T27) (g' := (mkF m 28 #[.val (.int p1), .val (.int (0 : Int32)), .val (.int (((p1.toUInt32 >>> ((1 : Int32) &&& 31).toUInt32).toInt32) &&& (3 : Int32))), .val (.ref b25), .unset] [(.ref b25)])) (fun t k => XS.aloadN X27.here hx rfl (hb hby at_27) rfl rfl k) ?_
    obtain ⟨cq29, kq29, q29a, q29b, q29c⟩ := isOf hZ rfl E_b25
    obtain ⟨_, _, ⟨T29, L29, k29, n29⟩, -, X29, ⟨Lc29, hQ29, l29, y29, z29⟩, st29⟩ := X27.virtualBack hx (y := (⟨"com/example/noddle/noddle/dom/IdIndex", "complete", "()Z"⟩ : MethodName)) (z := (⟨"com/example/noddle/noddle/dom/IdIndex", "complete", "()Z"⟩ : MethodName)) hown (mvT hZ (hw _ (List.mem_of_getElem? (i := 29) rfl))) (mvT hZ (hw _ (List.mem_of_getElem? (i := 30) rfl))) (notFace_of_selects (args := #[]) (mvT hZ (hw _ (List.mem_of_getElem? (i := 32) rfl)))) (mvT hZ (hw _ (List.mem_of_getElem? (i := 32) rfl))) (mvT hZ (hw _ (List.mem_of_getElem? (i := 31) rfl))) (by decide) (backOf (W := 0) (rm5 l Z a0 hw [] b25 (0 : Int32) (0 : Int32) T27.heap n0 Z28 F_listsDefaults_b25 F_defaultsLeftOut_b25) hZ (hw _ (List.mem_of_getElem? (i := 33) rfl)) (hw _ (List.mem_of_getElem? (i := 2) rfl)) (by decide) (by decide)) q29a q29c (g := (mkF m 28 #[.val (.int p1), .val (.int (0 : Int32)), .val (.int (((p1.toUInt32 >>> ((1 : Int32) &&& 31).toUInt32).toInt32) &&& (3 : Int32))), .val (.ref b25), .unset] [(.ref b25)])) rfl (by rw [hml]; rfl) (Steps.refl _) (argsL := []) (rest := []) (lenOf own_pd2 rfl) rfl (by show 2 * 0 + _ ≤ _; exact Nat.le_of_eq rfl) (hb hby at_28) (fun _ _ => ⟨rfl, rfl, (by decide : 2 + 0 ≤ _), (by decide : 12 + 0 ≤ _)⟩)
    dsimp only [Pt.U, Pt.locs, Pt.cells, Pt.slots] at X29 l29 y29 z29 st29 hQ29
    subst l29 y29 z29
    obtain ⟨hv29, M29, K29⟩ := hQ29
    rw [show own_complete (0 : Int32) (0 : Int32) = (1 : Int32) from by decide] at hv29
    subst hv29
    have N29 := Fr.app N27 M29
    refine own_go (T' := T29) (g' := (mkF m 31 #[.val (.int p1), .val (.int (0 : Int32)), .val (.int (((p1.toUInt32 >>> ((1 : Int32) &&& 31).toUInt32).toInt32) &&& (3 : Int32))), .val (.ref b25), .unset] [(.int (1 : Int32))])) (fun _ k => st29.trans k) ?_
    refine own_go (T' := T29) (g' := (mkF m 33 #[.val (.int p1), .val (.int (0 : Int32)), .val (.int (((p1.toUInt32 >>> ((1 : Int32) &&& 31).toUInt32).toInt32) &&& (3 : Int32))), .val (.ref b25), .val (.int (1 : Int32))] [])) (fun t k => XS.istore X29.here hx rfl (hb hby at_31) rfl (l' := #[.val (.int p1), .val (.int (0 : Int32)), .val (.int (((p1.toUInt32 >>> ((1 : Int32) &&& 31).toUInt32).toInt32) &&& (3 : Int32))), .val (.ref b25), .val (.int (1 : Int32))]) rfl k) ?_
    refine own_go (T' := T29) (g' := (mkF m 35 #[.val (.int p1), .val (.int (0 : Int32)), .val (.int (((p1.toUInt32 >>> ((1 : Int32) &&& 31).toUInt32).toInt32) &&& (3 : Int32))), .val (.ref b25), .val (.int (1 : Int32))] [(.int (1 : Int32))])) (fun t k => XS.iload X29.here hx rfl (hb hby at_33) rfl k) ?_
    refine own_go (T' := T29) (g' := (mkF m 38 #[.val (.int p1), .val (.int (0 : Int32)), .val (.int (((p1.toUInt32 >>> ((1 : Int32) &&& 31).toUInt32).toInt32) &&& (3 : Int32))), .val (.ref b25), .val (.int (1 : Int32))] [])) (fun t k => XS.ifNo X29.here hx rfl (hb hby at_35) rfl ((if0 _ _).trans (feq (by decide : ¬ (1 : Int32) = (0 : Int32))).1) k) ?_
    refine own_go (T' := T29) (g' := (mkF m 39 #[.val (.int p1), .val (.int (0 : Int32)), .val (.int (((p1.toUInt32 >>> ((1 : Int32) &&& 31).toUInt32).toInt32) &&& (3 : Int32))), .val (.ref b25), .val (.int (1 : Int32))] [(.ref b25)])) (fun t k => XS.aloadN X29.here hx rfl (hb hby at_38) rfl rfl k) ?_
    obtain ⟨cq30, kq30, q30a, q30b, q30c⟩ := isOf hZ K29 E_b25
    obtain ⟨_, _, ⟨T30, L30, k30, n30⟩, -, X30, ⟨Lc30, hQ30, l30, y30, z30⟩, st30⟩ := X29.virtualBack hx (y := (⟨"com/example/noddle/noddle/dom/IdIndex", "listsDefaults", "()Z"⟩ : MethodName)) (z := (⟨"com/example/noddle/noddle/dom/IdIndex", "listsDefaults", "()Z"⟩ : MethodName)) hown (mvT hZ (hw _ (List.mem_of_getElem? (i := 36) rfl))) (mvT hZ (hw _ (List.mem_of_getElem? (i := 37) rfl))) (notFace_of_selects (args := #[]) (mvT hZ (hw _ (List.mem_of_getElem? (i := 39) rfl)))) (mvT hZ (hw _ (List.mem_of_getElem? (i := 39) rfl))) (mvT hZ (hw _ (List.mem_of_getElem? (i := 38) rfl))) (by decide) (backOf (W := 0) (rm6 l Z a0 hw [] b25 (0 : Int32) T27.heap n0 Z28 F_listsDefaults_b25 (by decide)) hZ (hw _ (List.mem_of_getElem? (i := 40) rfl)) (hw _ (List.mem_of_getElem? (i := 2) rfl)) (by decide) (by decide)) q30a q30c (g := (mkF m 39 #[.val (.int p1), .val (.int (0 : Int32)), .val (.int (((p1.toUInt32 >>> ((1 : Int32) &&& 31).toUInt32).toInt32) &&& (3 : Int32))), .val (.ref b25), .val (.int (1 : Int32))] [(.ref b25)])) rfl (by rw [hml]; rfl) (Steps.refl _) (argsL := []) (rest := []) (lenOf own_pd2 rfl) rfl (by show 2 * 0 + _ ≤ _; exact Nat.le_of_eq rfl) (hb hby at_39) (fun _ _ => ⟨rfl, K29, (by decide : 2 + 0 ≤ _), (by decide : 12 + 0 ≤ _)⟩)
    dsimp only [Pt.U, Pt.locs, Pt.cells, Pt.slots] at X30 l30 y30 z30 st30 hQ30
    subst l30 y30 z30
    obtain ⟨hv30, M30, K30⟩ := hQ30
    rw [show own_lists (0 : Int32) = (0 : Int32) from rfl] at hv30
    subst hv30
    have N30 := Fr.app N29 M30
    refine own_go (T' := T30) (g' := (mkF m 42 #[.val (.int p1), .val (.int (0 : Int32)), .val (.int (((p1.toUInt32 >>> ((1 : Int32) &&& 31).toUInt32).toInt32) &&& (3 : Int32))), .val (.ref b25), .val (.int (1 : Int32))] [(.int (0 : Int32))])) (fun _ k => st30.trans k) ?_
    refine own_go (T' := T30) (g' := (mkF m 43 #[.val (.int p1), .val (.int (0 : Int32)), .val (.int (((p1.toUInt32 >>> ((1 : Int32) &&& 31).toUInt32).toInt32) &&& (3 : Int32))), .val (.ref b25), .val (.int (1 : Int32))] [(.int (0 : Int32)), (.int (0 : Int32))])) (fun t k => XS.iloadN X30.here hx rfl (hb hby at_42) rfl k) ?_
    refine own_go (T' := T30) (g' := (mkF m 46 #[.val (.int p1), .val (.int (0 : Int32)), .val (.int (((p1.toUInt32 >>> ((1 : Int32) &&& 31).toUInt32).toInt32) &&& (3 : Int32))), .val (.ref b25), .val (.int (1 : Int32))] [])) (fun t k => XS.icmpNo X30.here hx rfl (hb hby at_43) rfl (teq (by decide : (0 : Int32) = (0 : Int32))).2 k) ?_
    refine own_go (T' := T30) (g' := (mkF m 47 #[.val (.int p1), .val (.int (0 : Int32)), .val (.int (((p1.toUInt32 >>> ((1 : Int32) &&& 31).toUInt32).toInt32) &&& (3 : Int32))), .val (.ref b25), .val (.int (1 : Int32))] [(.int (1 : Int32))])) (fun t k => XS.iconst X30.here hx rfl (hb hby at_46) k) ?_
    refine own_go (T' := T30) (g' := (mkF m 51 #[.val (.int p1), .val (.int (0 : Int32)), .val (.int (((p1.toUInt32 >>> ((1 : Int32) &&& 31).toUInt32).toInt32) &&& (3 : Int32))), .val (.ref b25), .val (.int (1 : Int32))] [(.int (1 : Int32))])) (fun t k => XS.goto X30.here hx rfl (pc0 := 47) (pc' := 51) rfl (hb hby at_47) (by decide) (by decide) k) ?_
    refine own_go (T' := T30) (g' := (mkF m 53 #[.val (.int p1), .val (.int (0 : Int32)), .val (.int (((p1.toUInt32 >>> ((1 : Int32) &&& 31).toUInt32).toInt32) &&& (3 : Int32))), .val (.ref b25), .val (.int (1 : Int32))] [])) (fun t k => XS.istore X30.here hx rfl (hb hby at_51) rfl (l' := #[.val (.int p1), .val (.int (0 : Int32)), .val (.int (((p1.toUInt32 >>> ((1 : Int32) &&& 31).toUInt32).toInt32) &&& (3 : Int32))), .val (.ref b25), .val (.int (1 : Int32))]) rfl k) ?_
    refine own_go (T' := T30) (g' := (mkF m 54 #[.val (.int p1), .val (.int (0 : Int32)), .val (.int (((p1.toUInt32 >>> ((1 : Int32) &&& 31).toUInt32).toInt32) &&& (3 : Int32))), .val (.ref b25), .val (.int (1 : Int32))] [(.int (((p1.toUInt32 >>> ((1 : Int32) &&& 31).toUInt32).toInt32) &&& (3 : Int32)))])) (fun t k => XS.iloadN X30.here hx rfl (hb hby at_53) rfl k) ?_
    refine own_go (T' := T30) (g' := (mkF m 55 #[.val (.int p1), .val (.int (0 : Int32)), .val (.int (((p1.toUInt32 >>> ((1 : Int32) &&& 31).toUInt32).toInt32) &&& (3 : Int32))), .val (.ref b25), .val (.int (1 : Int32))] [(.int (1 : Int32)), (.int (((p1.toUInt32 >>> ((1 : Int32) &&& 31).toUInt32).toInt32) &&& (3 : Int32)))])) (fun t k => XS.iconst X30.here hx rfl (hb hby at_54) k) ?_
    by_cases c55_2 : (((p1.toUInt32 >>> ((1 : Int32) &&& 31).toUInt32).toInt32) &&& (3 : Int32)) < (1 : Int32)
    · refine own_go (T' := T30) (g' := (mkF m 82 #[.val (.int p1), .val (.int (0 : Int32)), .val (.int (((p1.toUInt32 >>> ((1 : Int32) &&& 31).toUInt32).toInt32) &&& (3 : Int32))), .val (.ref b25), .val (.int (1 : Int32))] [])) (fun t k => XS.icmpYes X30.here hx rfl (pc0 := 55) (pc' := 82) rfl (hb hby at_55) rfl (tlt c55_2).1 (by decide) (by decide) k) ?_
      refine own_go (T' := T30) (g' := (mkF m 83 #[.val (.int p1), .val (.int (0 : Int32)), .val (.int (((p1.toUInt32 >>> ((1 : Int32) &&& 31).toUInt32).toInt32) &&& (3 : Int32))), .val (.ref b25), .val (.int (1 : Int32))] [(.int (((p1.toUInt32 >>> ((1 : Int32) &&& 31).toUInt32).toInt32) &&& (3 : Int32)))])) (fun t k => XS.iloadN X30.here hx rfl (hb hby at_82) rfl k) ?_
      refine own_go (T' := T30) (g' := (mkF m 84 #[.val (.int p1), .val (.int (0 : Int32)), .val (.int (((p1.toUInt32 >>> ((1 : Int32) &&& 31).toUInt32).toInt32) &&& (3 : Int32))), .val (.ref b25), .val (.int (1 : Int32))] [(.int (2 : Int32)), (.int (((p1.toUInt32 >>> ((1 : Int32) &&& 31).toUInt32).toInt32) &&& (3 : Int32)))])) (fun t k => XS.iconst X30.here hx rfl (hb hby at_83) k) ?_
      refine own_go (T' := T30) (g' := (mkF m 111 #[.val (.int p1), .val (.int (0 : Int32)), .val (.int (((p1.toUInt32 >>> ((1 : Int32) &&& 31).toUInt32).toInt32) &&& (3 : Int32))), .val (.ref b25), .val (.int (1 : Int32))] [])) (fun t k => XS.icmpYes X30.here hx rfl (pc0 := 84) (pc' := 111) rfl (hb hby at_84) rfl (tlt (own_lt12 c55_2)).1 (by decide) (by decide) k) ?_
      refine own_go (T' := T30) (g' := (mkF m 112 #[.val (.int p1), .val (.int (0 : Int32)), .val (.int (((p1.toUInt32 >>> ((1 : Int32) &&& 31).toUInt32).toInt32) &&& (3 : Int32))), .val (.ref b25), .val (.int (1 : Int32))] [(.int (((p1.toUInt32 >>> ((1 : Int32) &&& 31).toUInt32).toInt32) &&& (3 : Int32)))])) (fun t k => XS.iloadN X30.here hx rfl (hb hby at_111) rfl k) ?_
      by_cases c112_3 : (((p1.toUInt32 >>> ((1 : Int32) &&& 31).toUInt32).toInt32) &&& (3 : Int32)) = (0 : Int32)
      · refine own_go (T' := T30) (g' := (mkF m 115 #[.val (.int p1), .val (.int (0 : Int32)), .val (.int (((p1.toUInt32 >>> ((1 : Int32) &&& 31).toUInt32).toInt32) &&& (3 : Int32))), .val (.ref b25), .val (.int (1 : Int32))] [])) (fun t k => XS.ifNo X30.here hx rfl (hb hby at_112) rfl ((if0 _ _).trans (teq c112_3).2) k) ?_
        refine own_go (T' := T30) (g' := (mkF m 117 #[.val (.int p1), .val (.int (0 : Int32)), .val (.int (((p1.toUInt32 >>> ((1 : Int32) &&& 31).toUInt32).toInt32) &&& (3 : Int32))), .val (.ref b25), .val (.int (1 : Int32))] [(.int (1 : Int32))])) (fun t k => XS.iload X30.here hx rfl (hb hby at_115) rfl k) ?_
        refine own_go (T' := T30) (g' := (mkF m 120 #[.val (.int p1), .val (.int (0 : Int32)), .val (.int (((p1.toUInt32 >>> ((1 : Int32) &&& 31).toUInt32).toInt32) &&& (3 : Int32))), .val (.ref b25), .val (.int (1 : Int32))] [])) (fun t k => XS.ifNo X30.here hx rfl (hb hby at_117) rfl ((if0 _ _).trans (feq (by decide : ¬ (1 : Int32) = (0 : Int32))).1) k) ?_
        refine own_go (T' := T30) (g' := (mkF m 121 #[.val (.int p1), .val (.int (0 : Int32)), .val (.int (((p1.toUInt32 >>> ((1 : Int32) &&& 31).toUInt32).toInt32) &&& (3 : Int32))), .val (.ref b25), .val (.int (1 : Int32))] [(.ref b25)])) (fun t k => XS.aloadN X30.here hx rfl (hb hby at_120) rfl rfl k) ?_
        obtain ⟨cq31, kq31, q31a, q31b, q31c⟩ := isOf hZ K30 E_b25
        obtain ⟨_, _, ⟨T31, L31, k31, n31⟩, -, X31, ⟨Lc31, hQ31, l31, y31, z31⟩, st31⟩ := X30.virtualBack hx (y := (⟨"com/example/noddle/noddle/dom/IdIndex", "complete", "()Z"⟩ : MethodName)) (z := (⟨"com/example/noddle/noddle/dom/IdIndex", "complete", "()Z"⟩ : MethodName)) hown (mvT hZ (hw _ (List.mem_of_getElem? (i := 29) rfl))) (mvT hZ (hw _ (List.mem_of_getElem? (i := 30) rfl))) (notFace_of_selects (args := #[]) (mvT hZ (hw _ (List.mem_of_getElem? (i := 32) rfl)))) (mvT hZ (hw _ (List.mem_of_getElem? (i := 32) rfl))) (mvT hZ (hw _ (List.mem_of_getElem? (i := 31) rfl))) (by decide) (backOf (W := 0) (rm5 l Z a0 hw [] b25 (0 : Int32) (0 : Int32) T27.heap n0 Z28 F_listsDefaults_b25 F_defaultsLeftOut_b25) hZ (hw _ (List.mem_of_getElem? (i := 33) rfl)) (hw _ (List.mem_of_getElem? (i := 2) rfl)) (by decide) (by decide)) q31a q31c (g := (mkF m 121 #[.val (.int p1), .val (.int (0 : Int32)), .val (.int (((p1.toUInt32 >>> ((1 : Int32) &&& 31).toUInt32).toInt32) &&& (3 : Int32))), .val (.ref b25), .val (.int (1 : Int32))] [(.ref b25)])) rfl (by rw [hml]; rfl) (Steps.refl _) (argsL := []) (rest := []) (lenOf own_pd2 rfl) rfl (by show 2 * 0 + _ ≤ _; exact Nat.le_of_eq rfl) (hb hby at_121) (fun _ _ => ⟨rfl, K30, (by decide : 2 + 0 ≤ _), (by decide : 12 + 0 ≤ _)⟩)
        dsimp only [Pt.U, Pt.locs, Pt.cells, Pt.slots] at X31 l31 y31 z31 st31 hQ31
        subst l31 y31 z31
        obtain ⟨hv31, M31, K31⟩ := hQ31
        rw [show own_complete (0 : Int32) (0 : Int32) = (1 : Int32) from by decide] at hv31
        subst hv31
        have N31 := Fr.app N30 M31
        refine own_go (T' := T31) (g' := (mkF m 124 #[.val (.int p1), .val (.int (0 : Int32)), .val (.int (((p1.toUInt32 >>> ((1 : Int32) &&& 31).toUInt32).toInt32) &&& (3 : Int32))), .val (.ref b25), .val (.int (1 : Int32))] [(.int (1 : Int32))])) (fun _ k => st31.trans k) ?_
        refine own_go (T' := T31) (g' := (mkF m 127 #[.val (.int p1), .val (.int (0 : Int32)), .val (.int (((p1.toUInt32 >>> ((1 : Int32) &&& 31).toUInt32).toInt32) &&& (3 : Int32))), .val (.ref b25), .val (.int (1 : Int32))] [])) (fun t k => XS.ifNo X31.here hx rfl (hb hby at_124) rfl ((if0 _ _).trans (feq (by decide : ¬ (1 : Int32) = (0 : Int32))).1) k) ?_
        refine own_go (T' := T31) (g' := (mkF m 128 #[.val (.int p1), .val (.int (0 : Int32)), .val (.int (((p1.toUInt32 >>> ((1 : Int32) &&& 31).toUInt32).toInt32) &&& (3 : Int32))), .val (.ref b25), .val (.int (1 : Int32))] [(.int (1 : Int32))])) (fun t k => XS.iconst X31.here hx rfl (hb hby at_127) k) ?_
        refine own_go (T' := T31) (g' := (mkF m 132 #[.val (.int p1), .val (.int (0 : Int32)), .val (.int (((p1.toUInt32 >>> ((1 : Int32) &&& 31).toUInt32).toInt32) &&& (3 : Int32))), .val (.ref b25), .val (.int (1 : Int32))] [(.int (1 : Int32))])) (fun t k => XS.goto X31.here hx rfl (pc0 := 128) (pc' := 132) rfl (hb hby at_128) (by decide) (by decide) k) ?_
        refine own_go (T' := T31) (g' := (mkF m 134 #[.val (.int p1), .val (.int (0 : Int32)), .val (.int (((p1.toUInt32 >>> ((1 : Int32) &&& 31).toUInt32).toInt32) &&& (3 : Int32))), .val (.ref b25), .val (.int (1 : Int32))] [])) (fun t k => XS.istore X31.here hx rfl (hb hby at_132) rfl (l' := #[.val (.int p1), .val (.int (0 : Int32)), .val (.int (((p1.toUInt32 >>> ((1 : Int32) &&& 31).toUInt32).toInt32) &&& (3 : Int32))), .val (.ref b25), .val (.int (1 : Int32))]) rfl k) ?_
        refine own_go (T' := T31) (g' := (mkF m 136 #[.val (.int p1), .val (.int (0 : Int32)), .val (.int (((p1.toUInt32 >>> ((1 : Int32) &&& 31).toUInt32).toInt32) &&& (3 : Int32))), .val (.ref b25), .val (.int (1 : Int32))] [(.int (1 : Int32))])) (fun t k => XS.iload X31.here hx rfl (hb hby at_134) rfl k) ?_
        exact own_retZ X31 hx Bd.notSynchronized Bd.returns (hb hby at_136) rfl ⟨rfl, N31⟩ (by decide) (by decide)
      · refine own_go (T' := T30) (g' := (mkF m 134 #[.val (.int p1), .val (.int (0 : Int32)), .val (.int (((p1.toUInt32 >>> ((1 : Int32) &&& 31).toUInt32).toInt32) &&& (3 : Int32))), .val (.ref b25), .val (.int (1 : Int32))] [])) (fun t k => XS.ifYes X30.here hx rfl (pc0 := 112) (pc' := 134) rfl (hb hby at_112) rfl ((if0 _ _).trans (feq c112_3).2) (by decide) (by decide) k) ?_
        refine own_go (T' := T30) (g' := (mkF m 136 #[.val (.int p1), .val (.int (0 : Int32)), .val (.int (((p1.toUInt32 >>> ((1 : Int32) &&& 31).toUInt32).toInt32) &&& (3 : Int32))), .val (.ref b25), .val (.int (1 : Int32))] [(.int (1 : Int32))])) (fun t k => XS.iload X30.here hx rfl (hb hby at_134) rfl k) ?_
        exact own_retZ X30 hx Bd.notSynchronized Bd.returns (hb hby at_136) rfl ⟨rfl, N30⟩ (by decide) (by decide)
    · refine own_go (T' := T30) (g' := (mkF m 58 #[.val (.int p1), .val (.int (0 : Int32)), .val (.int (((p1.toUInt32 >>> ((1 : Int32) &&& 31).toUInt32).toInt32) &&& (3 : Int32))), .val (.ref b25), .val (.int (1 : Int32))] [])) (fun t k => XS.icmpNo X30.here hx rfl (hb hby at_55) rfl (flt c55_2).1 k) ?_
      refine own_go (T' := T30) (g' := (mkF m 59 #[.val (.int p1), .val (.int (0 : Int32)), .val (.int (((p1.toUInt32 >>> ((1 : Int32) &&& 31).toUInt32).toInt32) &&& (3 : Int32))), .val (.ref b25), .val (.int (1 : Int32))] [(.ref b25)])) (fun t k => XS.aloadN X30.here hx rfl (hb hby at_58) rfl rfl k) ?_
      have oldF_b25 := F_listsDefaults_b25
      obtain ⟨cq32, kq32, q32a, q32b, q32c⟩ := isOf hZ K30 E_b25
      obtain ⟨_, _, ⟨T32, L32, k32, n32⟩, -, X32, ⟨Lc32, hQ32, l32, y32, z32⟩, st32⟩ := X30.virtualBack hx (y := (⟨"com/example/noddle/noddle/dom/IdIndex", "defaultLeftOut", "()V"⟩ : MethodName)) (z := (⟨"com/example/noddle/noddle/dom/IdIndex", "defaultLeftOut", "()V"⟩ : MethodName)) hown (mvT hZ (hw _ (List.mem_of_getElem? (i := 41) rfl))) (mvT hZ (hw _ (List.mem_of_getElem? (i := 42) rfl))) (notFace_of_selects (args := #[]) (mvT hZ (hw _ (List.mem_of_getElem? (i := 44) rfl)))) (mvT hZ (hw _ (List.mem_of_getElem? (i := 44) rfl))) (mvT hZ (hw _ (List.mem_of_getElem? (i := 43) rfl))) (by decide) (backOf (W := 0) (rm7 l Z a0 hw [] b25 (0 : Int32) T27.heap n0 Z28 F_defaultsLeftOut_b25 E_b25 gn_b25) hZ (hw _ (List.mem_of_getElem? (i := 45) rfl)) (hw _ (List.mem_of_getElem? (i := 2) rfl)) (by decide) (by decide)) q32a q32c (g := (mkF m 59 #[.val (.int p1), .val (.int (0 : Int32)), .val (.int (((p1.toUInt32 >>> ((1 : Int32) &&& 31).toUInt32).toInt32) &&& (3 : Int32))), .val (.ref b25), .val (.int (1 : Int32))] [(.ref b25)])) rfl (by rw [hml]; rfl) (Steps.refl _) (argsL := []) (rest := []) (lenOf own_pd0 rfl) rfl (by show 2 * 0 + _ ≤ _; exact Nat.le_of_eq rfl) (hb hby at_59) (fun _ _ => ⟨rfl, K30, (by decide : 2 + 0 ≤ _), (by decide : 12 + 0 ≤ _)⟩)
      dsimp only [Pt.U, Pt.locs, Pt.cells, Pt.slots] at X32 l32 y32 z32 st32 hQ32
      subst l32 y32 z32
      obtain ⟨rfl, M32, K32, G0_32, G1_32⟩ := hQ32
      have N32 := Fr.app N30 M32
      refine own_go (T' := T32) (g' := (mkF m 62 #[.val (.int p1), .val (.int (0 : Int32)), .val (.int (((p1.toUInt32 >>> ((1 : Int32) &&& 31).toUInt32).toInt32) &&& (3 : Int32))), .val (.ref b25), .val (.int (1 : Int32))] [])) (fun _ k => st32.trans k) ?_
      have E_b25 := E_b25.keep K32
      have Z33 : n0 ≤ T32.heap.size := Nat.le_trans Z28 K32.1
      have F_listsDefaults_b25 := G0_32 _ oldF_b25
      have F_defaultsLeftOut_b25 := G1_32
      refine own_go (T' := T32) (g' := (mkF m 64 #[.val (.int p1), .val (.int (0 : Int32)), .val (.int (((p1.toUInt32 >>> ((1 : Int32) &&& 31).toUInt32).toInt32) &&& (3 : Int32))), .val (.ref b25), .val (.int (1 : Int32))] [(.int (1 : Int32))])) (fun t k => XS.iload X32.here hx rfl (hb hby at_62) rfl k) ?_
      refine own_go (T' := T32) (g' := (mkF m 67 #[.val (.int p1), .val (.int (0 : Int32)), .val (.int (((p1.toUInt32 >>> ((1 : Int32) &&& 31).toUInt32).toInt32) &&& (3 : Int32))), .val (.ref b25), .val (.int (1 : Int32))] [])) (fun t k => XS.ifNo X32.here hx rfl (hb hby at_64) rfl ((if0 _ _).trans (feq (by decide : ¬ (1 : Int32) = (0 : Int32))).1) k) ?_
      refine own_go (T' := T32) (g' := (mkF m 68 #[.val (.int p1), .val (.int (0 : Int32)), .val (.int (((p1.toUInt32 >>> ((1 : Int32) &&& 31).toUInt32).toInt32) &&& (3 : Int32))), .val (.ref b25), .val (.int (1 : Int32))] [(.ref b25)])) (fun t k => XS.aloadN X32.here hx rfl (hb hby at_67) rfl rfl k) ?_
      obtain ⟨cq34, kq34, q34a, q34b, q34c⟩ := isOf hZ rfl E_b25
      obtain ⟨_, _, ⟨T34, L34, k34, n34⟩, -, X34, ⟨Lc34, hQ34, l34, y34, z34⟩, st34⟩ := X32.virtualBack hx (y := (⟨"com/example/noddle/noddle/dom/IdIndex", "complete", "()Z"⟩ : MethodName)) (z := (⟨"com/example/noddle/noddle/dom/IdIndex", "complete", "()Z"⟩ : MethodName)) hown (mvT hZ (hw _ (List.mem_of_getElem? (i := 29) rfl))) (mvT hZ (hw _ (List.mem_of_getElem? (i := 30) rfl))) (notFace_of_selects (args := #[]) (mvT hZ (hw _ (List.mem_of_getElem? (i := 32) rfl)))) (mvT hZ (hw _ (List.mem_of_getElem? (i := 32) rfl))) (mvT hZ (hw _ (List.mem_of_getElem? (i := 31) rfl))) (by decide) (backOf (W := 0) (rm5 l Z a0 hw [] b25 (0 : Int32) (1 : Int32) T32.heap n0 Z33 F_listsDefaults_b25 F_defaultsLeftOut_b25) hZ (hw _ (List.mem_of_getElem? (i := 33) rfl)) (hw _ (List.mem_of_getElem? (i := 2) rfl)) (by decide) (by decide)) q34a q34c (g := (mkF m 68 #[.val (.int p1), .val (.int (0 : Int32)), .val (.int (((p1.toUInt32 >>> ((1 : Int32) &&& 31).toUInt32).toInt32) &&& (3 : Int32))), .val (.ref b25), .val (.int (1 : Int32))] [(.ref b25)])) rfl (by rw [hml]; rfl) (Steps.refl _) (argsL := []) (rest := []) (lenOf own_pd2 rfl) rfl (by show 2 * 0 + _ ≤ _; exact Nat.le_of_eq rfl) (hb hby at_68) (fun _ _ => ⟨rfl, rfl, (by decide : 2 + 0 ≤ _), (by decide : 12 + 0 ≤ _)⟩)
      dsimp only [Pt.U, Pt.locs, Pt.cells, Pt.slots] at X34 l34 y34 z34 st34 hQ34
      subst l34 y34 z34
      obtain ⟨hv34, M34, K34⟩ := hQ34
      rw [show own_complete (0 : Int32) (1 : Int32) = (0 : Int32) from by decide] at hv34
      subst hv34
      have N34 := Fr.app N32 M34
      refine own_go (T' := T34) (g' := (mkF m 71 #[.val (.int p1), .val (.int (0 : Int32)), .val (.int (((p1.toUInt32 >>> ((1 : Int32) &&& 31).toUInt32).toInt32) &&& (3 : Int32))), .val (.ref b25), .val (.int (1 : Int32))] [(.int (0 : Int32))])) (fun _ k => st34.trans k) ?_
      refine own_go (T' := T34) (g' := (mkF m 72 #[.val (.int p1), .val (.int (0 : Int32)), .val (.int (((p1.toUInt32 >>> ((1 : Int32) &&& 31).toUInt32).toInt32) &&& (3 : Int32))), .val (.ref b25), .val (.int (1 : Int32))] [(.int (0 : Int32)), (.int (0 : Int32))])) (fun t k => XS.iloadN X34.here hx rfl (hb hby at_71) rfl k) ?_
      refine own_go (T' := T34) (g' := (mkF m 75 #[.val (.int p1), .val (.int (0 : Int32)), .val (.int (((p1.toUInt32 >>> ((1 : Int32) &&& 31).toUInt32).toInt32) &&& (3 : Int32))), .val (.ref b25), .val (.int (1 : Int32))] [])) (fun t k => XS.icmpNo X34.here hx rfl (hb hby at_72) rfl (teq (by decide : (0 : Int32) = (0 : Int32))).2 k) ?_
      refine own_go (T' := T34) (g' := (mkF m 76 #[.val (.int p1), .val (.int (0 : Int32)), .val (.int (((p1.toUInt32 >>> ((1 : Int32) &&& 31).toUInt32).toInt32) &&& (3 : Int32))), .val (.ref b25), .val (.int (1 : Int32))] [(.int (1 : Int32))])) (fun t k => XS.iconst X34.here hx rfl (hb hby at_75) k) ?_
      refine own_go (T' := T34) (g' := (mkF m 80 #[.val (.int p1), .val (.int (0 : Int32)), .val (.int (((p1.toUInt32 >>> ((1 : Int32) &&& 31).toUInt32).toInt32) &&& (3 : Int32))), .val (.ref b25), .val (.int (1 : Int32))] [(.int (1 : Int32))])) (fun t k => XS.goto X34.here hx rfl (pc0 := 76) (pc' := 80) rfl (hb hby at_76) (by decide) (by decide) k) ?_
      refine own_go (T' := T34) (g' := (mkF m 82 #[.val (.int p1), .val (.int (0 : Int32)), .val (.int (((p1.toUInt32 >>> ((1 : Int32) &&& 31).toUInt32).toInt32) &&& (3 : Int32))), .val (.ref b25), .val (.int (1 : Int32))] [])) (fun t k => XS.istore X34.here hx rfl (hb hby at_80) rfl (l' := #[.val (.int p1), .val (.int (0 : Int32)), .val (.int (((p1.toUInt32 >>> ((1 : Int32) &&& 31).toUInt32).toInt32) &&& (3 : Int32))), .val (.ref b25), .val (.int (1 : Int32))]) rfl k) ?_
      refine own_go (T' := T34) (g' := (mkF m 83 #[.val (.int p1), .val (.int (0 : Int32)), .val (.int (((p1.toUInt32 >>> ((1 : Int32) &&& 31).toUInt32).toInt32) &&& (3 : Int32))), .val (.ref b25), .val (.int (1 : Int32))] [(.int (((p1.toUInt32 >>> ((1 : Int32) &&& 31).toUInt32).toInt32) &&& (3 : Int32)))])) (fun t k => XS.iloadN X34.here hx rfl (hb hby at_82) rfl k) ?_
      refine own_go (T' := T34) (g' := (mkF m 84 #[.val (.int p1), .val (.int (0 : Int32)), .val (.int (((p1.toUInt32 >>> ((1 : Int32) &&& 31).toUInt32).toInt32) &&& (3 : Int32))), .val (.ref b25), .val (.int (1 : Int32))] [(.int (2 : Int32)), (.int (((p1.toUInt32 >>> ((1 : Int32) &&& 31).toUInt32).toInt32) &&& (3 : Int32)))])) (fun t k => XS.iconst X34.here hx rfl (hb hby at_83) k) ?_
      by_cases c84_4 : (((p1.toUInt32 >>> ((1 : Int32) &&& 31).toUInt32).toInt32) &&& (3 : Int32)) < (2 : Int32)
      · refine own_go (T' := T34) (g' := (mkF m 111 #[.val (.int p1), .val (.int (0 : Int32)), .val (.int (((p1.toUInt32 >>> ((1 : Int32) &&& 31).toUInt32).toInt32) &&& (3 : Int32))), .val (.ref b25), .val (.int (1 : Int32))] [])) (fun t k => XS.icmpYes X34.here hx rfl (pc0 := 84) (pc' := 111) rfl (hb hby at_84) rfl (tlt c84_4).1 (by decide) (by decide) k) ?_
        refine own_go (T' := T34) (g' := (mkF m 112 #[.val (.int p1), .val (.int (0 : Int32)), .val (.int (((p1.toUInt32 >>> ((1 : Int32) &&& 31).toUInt32).toInt32) &&& (3 : Int32))), .val (.ref b25), .val (.int (1 : Int32))] [(.int (((p1.toUInt32 >>> ((1 : Int32) &&& 31).toUInt32).toInt32) &&& (3 : Int32)))])) (fun t k => XS.iloadN X34.here hx rfl (hb hby at_111) rfl k) ?_
        refine own_go (T' := T34) (g' := (mkF m 134 #[.val (.int p1), .val (.int (0 : Int32)), .val (.int (((p1.toUInt32 >>> ((1 : Int32) &&& 31).toUInt32).toInt32) &&& (3 : Int32))), .val (.ref b25), .val (.int (1 : Int32))] [])) (fun t k => XS.ifYes X34.here hx rfl (pc0 := 112) (pc' := 134) rfl (hb hby at_112) rfl ((if0 _ _).trans (feq (fun q => c55_2 (by rw [q]; decide))).2) (by decide) (by decide) k) ?_
        refine own_go (T' := T34) (g' := (mkF m 136 #[.val (.int p1), .val (.int (0 : Int32)), .val (.int (((p1.toUInt32 >>> ((1 : Int32) &&& 31).toUInt32).toInt32) &&& (3 : Int32))), .val (.ref b25), .val (.int (1 : Int32))] [(.int (1 : Int32))])) (fun t k => XS.iload X34.here hx rfl (hb hby at_134) rfl k) ?_
        exact own_retZ X34 hx Bd.notSynchronized Bd.returns (hb hby at_136) rfl ⟨rfl, N34⟩ (by decide) (by decide)
      · refine own_go (T' := T34) (g' := (mkF m 87 #[.val (.int p1), .val (.int (0 : Int32)), .val (.int (((p1.toUInt32 >>> ((1 : Int32) &&& 31).toUInt32).toInt32) &&& (3 : Int32))), .val (.ref b25), .val (.int (1 : Int32))] [])) (fun t k => XS.icmpNo X34.here hx rfl (hb hby at_84) rfl (flt c84_4).1 k) ?_
        refine own_go (T' := T34) (g' := (mkF m 88 #[.val (.int p1), .val (.int (0 : Int32)), .val (.int (((p1.toUInt32 >>> ((1 : Int32) &&& 31).toUInt32).toInt32) &&& (3 : Int32))), .val (.ref b25), .val (.int (1 : Int32))] [(.ref b25)])) (fun t k => XS.aloadN X34.here hx rfl (hb hby at_87) rfl rfl k) ?_
        have oldF_b25 := F_listsDefaults_b25
        obtain ⟨cq35, kq35, q35a, q35b, q35c⟩ := isOf hZ K34 E_b25
        obtain ⟨_, _, ⟨T35, L35, k35, n35⟩, -, X35, ⟨Lc35, hQ35, l35, y35, z35⟩, st35⟩ := X34.virtualBack hx (y := (⟨"com/example/noddle/noddle/dom/IdIndex", "defaultLeftOut", "()V"⟩ : MethodName)) (z := (⟨"com/example/noddle/noddle/dom/IdIndex", "defaultLeftOut", "()V"⟩ : MethodName)) hown (mvT hZ (hw _ (List.mem_of_getElem? (i := 41) rfl))) (mvT hZ (hw _ (List.mem_of_getElem? (i := 42) rfl))) (notFace_of_selects (args := #[]) (mvT hZ (hw _ (List.mem_of_getElem? (i := 44) rfl)))) (mvT hZ (hw _ (List.mem_of_getElem? (i := 44) rfl))) (mvT hZ (hw _ (List.mem_of_getElem? (i := 43) rfl))) (by decide) (backOf (W := 0) (rm7 l Z a0 hw [] b25 (1 : Int32) T32.heap n0 Z33 F_defaultsLeftOut_b25 E_b25 gn_b25) hZ (hw _ (List.mem_of_getElem? (i := 45) rfl)) (hw _ (List.mem_of_getElem? (i := 2) rfl)) (by decide) (by decide)) q35a q35c (g := (mkF m 88 #[.val (.int p1), .val (.int (0 : Int32)), .val (.int (((p1.toUInt32 >>> ((1 : Int32) &&& 31).toUInt32).toInt32) &&& (3 : Int32))), .val (.ref b25), .val (.int (1 : Int32))] [(.ref b25)])) rfl (by rw [hml]; rfl) (Steps.refl _) (argsL := []) (rest := []) (lenOf own_pd0 rfl) rfl (by show 2 * 0 + _ ≤ _; exact Nat.le_of_eq rfl) (hb hby at_88) (fun _ _ => ⟨rfl, K34, (by decide : 2 + 0 ≤ _), (by decide : 12 + 0 ≤ _)⟩)
        dsimp only [Pt.U, Pt.locs, Pt.cells, Pt.slots] at X35 l35 y35 z35 st35 hQ35
        subst l35 y35 z35
        obtain ⟨rfl, M35, K35, G0_35, G1_35⟩ := hQ35
        have N35 := Fr.app N34 M35
        refine own_go (T' := T35) (g' := (mkF m 91 #[.val (.int p1), .val (.int (0 : Int32)), .val (.int (((p1.toUInt32 >>> ((1 : Int32) &&& 31).toUInt32).toInt32) &&& (3 : Int32))), .val (.ref b25), .val (.int (1 : Int32))] [])) (fun _ k => st35.trans k) ?_
        have E_b25 := E_b25.keep K35
        have Z36 : n0 ≤ T35.heap.size := Nat.le_trans Z33 K35.1
        have F_listsDefaults_b25 := G0_35 _ oldF_b25
        have F_defaultsLeftOut_b25 := G1_35
        refine own_go (T' := T35) (g' := (mkF m 93 #[.val (.int p1), .val (.int (0 : Int32)), .val (.int (((p1.toUInt32 >>> ((1 : Int32) &&& 31).toUInt32).toInt32) &&& (3 : Int32))), .val (.ref b25), .val (.int (1 : Int32))] [(.int (1 : Int32))])) (fun t k => XS.iload X35.here hx rfl (hb hby at_91) rfl k) ?_
        refine own_go (T' := T35) (g' := (mkF m 96 #[.val (.int p1), .val (.int (0 : Int32)), .val (.int (((p1.toUInt32 >>> ((1 : Int32) &&& 31).toUInt32).toInt32) &&& (3 : Int32))), .val (.ref b25), .val (.int (1 : Int32))] [])) (fun t k => XS.ifNo X35.here hx rfl (hb hby at_93) rfl ((if0 _ _).trans (feq (by decide : ¬ (1 : Int32) = (0 : Int32))).1) k) ?_
        refine own_go (T' := T35) (g' := (mkF m 97 #[.val (.int p1), .val (.int (0 : Int32)), .val (.int (((p1.toUInt32 >>> ((1 : Int32) &&& 31).toUInt32).toInt32) &&& (3 : Int32))), .val (.ref b25), .val (.int (1 : Int32))] [(.ref b25)])) (fun t k => XS.aloadN X35.here hx rfl (hb hby at_96) rfl rfl k) ?_
        obtain ⟨cq37, kq37, q37a, q37b, q37c⟩ := isOf hZ rfl E_b25
        obtain ⟨_, _, ⟨T37, L37, k37, n37⟩, -, X37, ⟨Lc37, hQ37, l37, y37, z37⟩, st37⟩ := X35.virtualBack hx (y := (⟨"com/example/noddle/noddle/dom/IdIndex", "complete", "()Z"⟩ : MethodName)) (z := (⟨"com/example/noddle/noddle/dom/IdIndex", "complete", "()Z"⟩ : MethodName)) hown (mvT hZ (hw _ (List.mem_of_getElem? (i := 29) rfl))) (mvT hZ (hw _ (List.mem_of_getElem? (i := 30) rfl))) (notFace_of_selects (args := #[]) (mvT hZ (hw _ (List.mem_of_getElem? (i := 32) rfl)))) (mvT hZ (hw _ (List.mem_of_getElem? (i := 32) rfl))) (mvT hZ (hw _ (List.mem_of_getElem? (i := 31) rfl))) (by decide) (backOf (W := 0) (rm5 l Z a0 hw [] b25 (0 : Int32) (1 : Int32) T35.heap n0 Z36 F_listsDefaults_b25 F_defaultsLeftOut_b25) hZ (hw _ (List.mem_of_getElem? (i := 33) rfl)) (hw _ (List.mem_of_getElem? (i := 2) rfl)) (by decide) (by decide)) q37a q37c (g := (mkF m 97 #[.val (.int p1), .val (.int (0 : Int32)), .val (.int (((p1.toUInt32 >>> ((1 : Int32) &&& 31).toUInt32).toInt32) &&& (3 : Int32))), .val (.ref b25), .val (.int (1 : Int32))] [(.ref b25)])) rfl (by rw [hml]; rfl) (Steps.refl _) (argsL := []) (rest := []) (lenOf own_pd2 rfl) rfl (by show 2 * 0 + _ ≤ _; exact Nat.le_of_eq rfl) (hb hby at_97) (fun _ _ => ⟨rfl, rfl, (by decide : 2 + 0 ≤ _), (by decide : 12 + 0 ≤ _)⟩)
        dsimp only [Pt.U, Pt.locs, Pt.cells, Pt.slots] at X37 l37 y37 z37 st37 hQ37
        subst l37 y37 z37
        obtain ⟨hv37, M37, K37⟩ := hQ37
        rw [show own_complete (0 : Int32) (1 : Int32) = (0 : Int32) from by decide] at hv37
        subst hv37
        have N37 := Fr.app N35 M37
        refine own_go (T' := T37) (g' := (mkF m 100 #[.val (.int p1), .val (.int (0 : Int32)), .val (.int (((p1.toUInt32 >>> ((1 : Int32) &&& 31).toUInt32).toInt32) &&& (3 : Int32))), .val (.ref b25), .val (.int (1 : Int32))] [(.int (0 : Int32))])) (fun _ k => st37.trans k) ?_
        refine own_go (T' := T37) (g' := (mkF m 101 #[.val (.int p1), .val (.int (0 : Int32)), .val (.int (((p1.toUInt32 >>> ((1 : Int32) &&& 31).toUInt32).toInt32) &&& (3 : Int32))), .val (.ref b25), .val (.int (1 : Int32))] [(.int (0 : Int32)), (.int (0 : Int32))])) (fun t k => XS.iloadN X37.here hx rfl (hb hby at_100) rfl k) ?_
        refine own_go (T' := T37) (g' := (mkF m 104 #[.val (.int p1), .val (.int (0 : Int32)), .val (.int (((p1.toUInt32 >>> ((1 : Int32) &&& 31).toUInt32).toInt32) &&& (3 : Int32))), .val (.ref b25), .val (.int (1 : Int32))] [])) (fun t k => XS.icmpNo X37.here hx rfl (hb hby at_101) rfl (teq (by decide : (0 : Int32) = (0 : Int32))).2 k) ?_
        refine own_go (T' := T37) (g' := (mkF m 105 #[.val (.int p1), .val (.int (0 : Int32)), .val (.int (((p1.toUInt32 >>> ((1 : Int32) &&& 31).toUInt32).toInt32) &&& (3 : Int32))), .val (.ref b25), .val (.int (1 : Int32))] [(.int (1 : Int32))])) (fun t k => XS.iconst X37.here hx rfl (hb hby at_104) k) ?_
        refine own_go (T' := T37) (g' := (mkF m 109 #[.val (.int p1), .val (.int (0 : Int32)), .val (.int (((p1.toUInt32 >>> ((1 : Int32) &&& 31).toUInt32).toInt32) &&& (3 : Int32))), .val (.ref b25), .val (.int (1 : Int32))] [(.int (1 : Int32))])) (fun t k => XS.goto X37.here hx rfl (pc0 := 105) (pc' := 109) rfl (hb hby at_105) (by decide) (by decide) k) ?_
        refine own_go (T' := T37) (g' := (mkF m 111 #[.val (.int p1), .val (.int (0 : Int32)), .val (.int (((p1.toUInt32 >>> ((1 : Int32) &&& 31).toUInt32).toInt32) &&& (3 : Int32))), .val (.ref b25), .val (.int (1 : Int32))] [])) (fun t k => XS.istore X37.here hx rfl (hb hby at_109) rfl (l' := #[.val (.int p1), .val (.int (0 : Int32)), .val (.int (((p1.toUInt32 >>> ((1 : Int32) &&& 31).toUInt32).toInt32) &&& (3 : Int32))), .val (.ref b25), .val (.int (1 : Int32))]) rfl k) ?_
        refine own_go (T' := T37) (g' := (mkF m 112 #[.val (.int p1), .val (.int (0 : Int32)), .val (.int (((p1.toUInt32 >>> ((1 : Int32) &&& 31).toUInt32).toInt32) &&& (3 : Int32))), .val (.ref b25), .val (.int (1 : Int32))] [(.int (((p1.toUInt32 >>> ((1 : Int32) &&& 31).toUInt32).toInt32) &&& (3 : Int32)))])) (fun t k => XS.iloadN X37.here hx rfl (hb hby at_111) rfl k) ?_
        refine own_go (T' := T37) (g' := (mkF m 134 #[.val (.int p1), .val (.int (0 : Int32)), .val (.int (((p1.toUInt32 >>> ((1 : Int32) &&& 31).toUInt32).toInt32) &&& (3 : Int32))), .val (.ref b25), .val (.int (1 : Int32))] [])) (fun t k => XS.ifYes X37.here hx rfl (pc0 := 112) (pc' := 134) rfl (hb hby at_112) rfl ((if0 _ _).trans (feq (fun q => c55_2 (by rw [q]; decide))).2) (by decide) (by decide) k) ?_
        refine own_go (T' := T37) (g' := (mkF m 136 #[.val (.int p1), .val (.int (0 : Int32)), .val (.int (((p1.toUInt32 >>> ((1 : Int32) &&& 31).toUInt32).toInt32) &&& (3 : Int32))), .val (.ref b25), .val (.int (1 : Int32))] [(.int (1 : Int32))])) (fun t k => XS.iload X37.here hx rfl (hb hby at_134) rfl k) ?_
        exact own_retZ X37 hx Bd.notSynchronized Bd.returns (hb hby at_136) rfl ⟨rfl, N37⟩ (by decide) (by decide)
  · refine own_go (T' := s₁) (g' := (mkF m 6 #[.val (.int p1), .unset, .unset, .unset, .unset] [])) (fun t k => XS.ifNo X0.here hx rfl (hb hby at_3) rfl ((if0 _ _).trans (feq c3_1).1) k) ?_
    refine own_go (T' := s₁) (g' := (mkF m 7 #[.val (.int p1), .unset, .unset, .unset, .unset] [(.int (1 : Int32))])) (fun t k => XS.iconst X0.here hx rfl (hb hby at_6) k) ?_
    refine own_go (T' := s₁) (g' := (mkF m 11 #[.val (.int p1), .unset, .unset, .unset, .unset] [(.int (1 : Int32))])) (fun t k => XS.goto X0.here hx rfl (pc0 := 7) (pc' := 11) rfl (hb hby at_7) (by decide) (by decide) k) ?_
    refine own_go (T' := s₁) (g' := (mkF m 12 #[.val (.int p1), .val (.int (1 : Int32)), .unset, .unset, .unset] [])) (fun t k => XS.istoreN X0.here hx rfl (hb hby at_11) rfl (l' := #[.val (.int p1), .val (.int (1 : Int32)), .unset, .unset, .unset]) rfl k) ?_
    refine own_go (T' := s₁) (g' := (mkF m 13 #[.val (.int p1), .val (.int (1 : Int32)), .unset, .unset, .unset] [(.int p1)])) (fun t k => XS.iloadN X0.here hx rfl (hb hby at_12) rfl k) ?_
    refine own_go (T' := s₁) (g' := (mkF m 14 #[.val (.int p1), .val (.int (1 : Int32)), .unset, .unset, .unset] [(.int (1 : Int32)), (.int p1)])) (fun t k => XS.iconst X0.here hx rfl (hb hby at_13) k) ?_
    refine own_go (T' := s₁) (g' := (mkF m 15 #[.val (.int p1), .val (.int (1 : Int32)), .unset, .unset, .unset] [(.int ((p1.toUInt32 >>> ((1 : Int32) &&& 31).toUInt32).toInt32))])) (fun t k => XS.iushr X0.here hx rfl (hb hby at_14) rfl k) ?_
    refine own_go (T' := s₁) (g' := (mkF m 16 #[.val (.int p1), .val (.int (1 : Int32)), .unset, .unset, .unset] [(.int (3 : Int32)), (.int ((p1.toUInt32 >>> ((1 : Int32) &&& 31).toUInt32).toInt32))])) (fun t k => XS.iconst X0.here hx rfl (hb hby at_15) k) ?_
    refine own_go (T' := s₁) (g' := (mkF m 17 #[.val (.int p1), .val (.int (1 : Int32)), .unset, .unset, .unset] [(.int (((p1.toUInt32 >>> ((1 : Int32) &&& 31).toUInt32).toInt32) &&& (3 : Int32)))])) (fun t k => XS.iand X0.here hx rfl (hb hby at_16) rfl k) ?_
    refine own_go (T' := s₁) (g' := (mkF m 18 #[.val (.int p1), .val (.int (1 : Int32)), .val (.int (((p1.toUInt32 >>> ((1 : Int32) &&& 31).toUInt32).toInt32) &&& (3 : Int32))), .unset, .unset] [])) (fun t k => XS.istoreN X0.here hx rfl (hb hby at_17) rfl (l' := #[.val (.int p1), .val (.int (1 : Int32)), .val (.int (((p1.toUInt32 >>> ((1 : Int32) &&& 31).toUInt32).toInt32) &&& (3 : Int32))), .unset, .unset]) rfl k) ?_
    obtain ⟨T38, h38, X38, e38, E38, A38, D38, -, st38⟩ := newO X0 hx hZ hown (hw _ (List.mem_of_getElem? (i := 0) rfl)) (hw _ (List.mem_of_getElem? (i := 1) rfl)) (hw _ (List.mem_of_getElem? (i := 2) rfl)) e0 (g := (mkF m 18 #[.val (.int p1), .val (.int (1 : Int32)), .val (.int (((p1.toUInt32 >>> ((1 : Int32) &&& 31).toUInt32).toInt32) &&& (3 : Int32))), .unset, .unset] [])) rfl (hb hby at_18) (by decide) (by decide)
    obtain ⟨b38, g38⟩ : ∃ z, z = h0.size := ⟨_, rfl⟩
    rw [← g38] at A38 D38 st38
    have gn_b38 : n0 ≤ b38 := Nat.le_trans Z0 (Nat.le_of_eq g38.symm)
    have Z39 : n0 ≤ h38.size := Nat.le_trans Z0 E38.1
    have E_b38 := A38
    have F_elements_b38 : Fld Z h38 b38 "com/example/noddle/noddle/dom/IdIndex" "elements" "Ljava/util/Map;" .null := D38 (Or.inr (hw _ (List.mem_of_getElem? (i := 26) rfl))) (ty := (.object "java/util/Map")) (by decide)
    have F_listsDefaults_b38 : Fld Z h38 b38 "com/example/noddle/noddle/dom/IdIndex" "listsDefaults" "Z" (.int (0 : Int32)) := D38 (Or.inr (hw _ (List.mem_of_getElem? (i := 28) rfl))) (ty := .boolean) (by decide)
    have F_defaultsLeftOut_b38 : Fld Z h38 b38 "com/example/noddle/noddle/dom/IdIndex" "defaultsLeftOut" "Z" (.int (0 : Int32)) := D38 (Or.inl (hw _ (List.mem_of_getElem? (i := 35) rfl))) (ty := .boolean) (by decide)
    refine own_go (T' := T38) (g' := (mkF m 21 #[.val (.int p1), .val (.int (1 : Int32)), .val (.int (((p1.toUInt32 >>> ((1 : Int32) &&& 31).toUInt32).toInt32) &&& (3 : Int32))), .unset, .unset] [(.ref b38)])) (st38) ?_
    refine own_go (T' := T38) (g' := (mkF m 22 #[.val (.int p1), .val (.int (1 : Int32)), .val (.int (((p1.toUInt32 >>> ((1 : Int32) &&& 31).toUInt32).toInt32) &&& (3 : Int32))), .unset, .unset] [(.ref b38), (.ref b38)])) (fun t k => XS.dup X38.here hx rfl (hb hby at_21) rfl rfl k) ?_
    refine own_go (T' := T38) (g' := (mkF m 23 #[.val (.int p1), .val (.int (1 : Int32)), .val (.int (((p1.toUInt32 >>> ((1 : Int32) &&& 31).toUInt32).toInt32) &&& (3 : Int32))), .unset, .unset] [(.int (1 : Int32)), (.ref b38), (.ref b38)])) (fun t k => XS.iloadN X38.here hx rfl (hb hby at_22) rfl k) ?_
    obtain ⟨_, _, ⟨T40, L40, k40, n40⟩, -, X40, ⟨Lc40, hQ40, l40, y40, z40⟩, st40⟩ := X38.specialBack hx (y := (⟨"com/example/noddle/noddle/dom/IdIndex", "<init>", "(Z)V"⟩ : MethodName)) rfl hown (mvT hZ (hw _ (List.mem_of_getElem? (i := 3) rfl))) (mvT hZ (hw _ (List.mem_of_getElem? (i := 4) rfl))) (mvT hZ (hw _ (List.mem_of_getElem? (i := 5) rfl))) (by decide) (backOf (W := 1) (rm1 l Z a0 hw [] b38 (1 : Int32) h38 n0 Z39 F_elements_b38 F_listsDefaults_b38 F_defaultsLeftOut_b38 E_b38 gn_b38) hZ (hw _ (List.mem_of_getElem? (i := 5) rfl)) (hw _ (List.mem_of_getElem? (i := 2) rfl)) (by decide) (by decide)) (g := (mkF m 23 #[.val (.int p1), .val (.int (1 : Int32)), .val (.int (((p1.toUInt32 >>> ((1 : Int32) &&& 31).toUInt32).toInt32) &&& (3 : Int32))), .unset, .unset] [(.int (1 : Int32)), (.ref b38), (.ref b38)])) rfl (by rw [hml]; rfl) (Steps.refl _) (a := b38) (argsL := [(.int (1 : Int32))]) (rest := [(.ref b38)]) (lenOf own_pd1 rfl) rfl (by show 2 * 0 + _ ≤ _; exact Nat.le_of_eq rfl) (hb hby at_23) (fun _ _ => ⟨rfl, e38, (by decide : 1 + 1 ≤ _), (by decide : 4 + 8 ≤ _)⟩)
    dsimp only [Pt.U, Pt.locs, Pt.cells, Pt.slots] at X40 l40 y40 z40 st40 hQ40
    subst l40 y40 z40
    obtain ⟨rfl, M40, K40, G0_40, G1_40⟩ := hQ40
    have N40 := Fr.app N0 M40
    refine own_go (T' := T40) (g' := (mkF m 26 #[.val (.int p1), .val (.int (1 : Int32)), .val (.int (((p1.toUInt32 >>> ((1 : Int32) &&& 31).toUInt32).toInt32) &&& (3 : Int32))), .unset, .unset] [(.ref b38)])) (fun _ k => st40.trans k) ?_
    have E_b38 := E_b38.keep K40
    have Z41 : n0 ≤ T40.heap.size := Nat.le_trans Z39 K40.1
    have F_listsDefaults_b38 : Fld Z T40.heap b38 "com/example/noddle/noddle/dom/IdIndex" "listsDefaults" "Z" (.int (1 : Int32)) := G0_40
    have F_defaultsLeftOut_b38 : Fld Z T40.heap b38 "com/example/noddle/noddle/dom/IdIndex" "defaultsLeftOut" "Z" (.int (0 : Int32)) := G1_40
    refine own_go (T' := T40) (g' := (mkF m 27 #[.val (.int p1), .val (.int (1 : Int32)), .val (.int (((p1.toUInt32 >>> ((1 : Int32) &&& 31).toUInt32).toInt32) &&& (3 : Int32))), .val (.ref b38), .unset] [])) (fun t k => XS.astoreN X40.here hx rfl (hb hby at_26) rfl rfl (l' := #[.val (.int p1), .val (.int (1 : Int32)), .val (.int (((p1.toUInt32 >>> ((1 : Int32) &&& 31).toUInt32).toInt32) &&& (3 : Int32))), .val (.ref b38), .unset]) rfl k) ?_
    refine own_go (T' := T40) (g' := (mkF m 28 #[.val (.int p1), .val (.int (1 : Int32)), .val (.int (((p1.toUInt32 >>> ((1 : Int32) &&& 31).toUInt32).toInt32) &&& (3 : Int32))), .val (.ref b38), .unset] [(.ref b38)])) (fun t k => XS.aloadN X40.here hx rfl (hb hby at_27) rfl rfl k) ?_
    obtain ⟨cq42, kq42, q42a, q42b, q42c⟩ := isOf hZ rfl E_b38
    obtain ⟨_, _, ⟨T42, L42, k42, n42⟩, -, X42, ⟨Lc42, hQ42, l42, y42, z42⟩, st42⟩ := X40.virtualBack hx (y := (⟨"com/example/noddle/noddle/dom/IdIndex", "complete", "()Z"⟩ : MethodName)) (z := (⟨"com/example/noddle/noddle/dom/IdIndex", "complete", "()Z"⟩ : MethodName)) hown (mvT hZ (hw _ (List.mem_of_getElem? (i := 29) rfl))) (mvT hZ (hw _ (List.mem_of_getElem? (i := 30) rfl))) (notFace_of_selects (args := #[]) (mvT hZ (hw _ (List.mem_of_getElem? (i := 32) rfl)))) (mvT hZ (hw _ (List.mem_of_getElem? (i := 32) rfl))) (mvT hZ (hw _ (List.mem_of_getElem? (i := 31) rfl))) (by decide) (backOf (W := 0) (rm5 l Z a0 hw [] b38 (1 : Int32) (0 : Int32) T40.heap n0 Z41 F_listsDefaults_b38 F_defaultsLeftOut_b38) hZ (hw _ (List.mem_of_getElem? (i := 33) rfl)) (hw _ (List.mem_of_getElem? (i := 2) rfl)) (by decide) (by decide)) q42a q42c (g := (mkF m 28 #[.val (.int p1), .val (.int (1 : Int32)), .val (.int (((p1.toUInt32 >>> ((1 : Int32) &&& 31).toUInt32).toInt32) &&& (3 : Int32))), .val (.ref b38), .unset] [(.ref b38)])) rfl (by rw [hml]; rfl) (Steps.refl _) (argsL := []) (rest := []) (lenOf own_pd2 rfl) rfl (by show 2 * 0 + _ ≤ _; exact Nat.le_of_eq rfl) (hb hby at_28) (fun _ _ => ⟨rfl, rfl, (by decide : 2 + 0 ≤ _), (by decide : 12 + 0 ≤ _)⟩)
    dsimp only [Pt.U, Pt.locs, Pt.cells, Pt.slots] at X42 l42 y42 z42 st42 hQ42
    subst l42 y42 z42
    obtain ⟨hv42, M42, K42⟩ := hQ42
    rw [show own_complete (1 : Int32) (0 : Int32) = (1 : Int32) from by decide] at hv42
    subst hv42
    have N42 := Fr.app N40 M42
    refine own_go (T' := T42) (g' := (mkF m 31 #[.val (.int p1), .val (.int (1 : Int32)), .val (.int (((p1.toUInt32 >>> ((1 : Int32) &&& 31).toUInt32).toInt32) &&& (3 : Int32))), .val (.ref b38), .unset] [(.int (1 : Int32))])) (fun _ k => st42.trans k) ?_
    refine own_go (T' := T42) (g' := (mkF m 33 #[.val (.int p1), .val (.int (1 : Int32)), .val (.int (((p1.toUInt32 >>> ((1 : Int32) &&& 31).toUInt32).toInt32) &&& (3 : Int32))), .val (.ref b38), .val (.int (1 : Int32))] [])) (fun t k => XS.istore X42.here hx rfl (hb hby at_31) rfl (l' := #[.val (.int p1), .val (.int (1 : Int32)), .val (.int (((p1.toUInt32 >>> ((1 : Int32) &&& 31).toUInt32).toInt32) &&& (3 : Int32))), .val (.ref b38), .val (.int (1 : Int32))]) rfl k) ?_
    refine own_go (T' := T42) (g' := (mkF m 35 #[.val (.int p1), .val (.int (1 : Int32)), .val (.int (((p1.toUInt32 >>> ((1 : Int32) &&& 31).toUInt32).toInt32) &&& (3 : Int32))), .val (.ref b38), .val (.int (1 : Int32))] [(.int (1 : Int32))])) (fun t k => XS.iload X42.here hx rfl (hb hby at_33) rfl k) ?_
    refine own_go (T' := T42) (g' := (mkF m 38 #[.val (.int p1), .val (.int (1 : Int32)), .val (.int (((p1.toUInt32 >>> ((1 : Int32) &&& 31).toUInt32).toInt32) &&& (3 : Int32))), .val (.ref b38), .val (.int (1 : Int32))] [])) (fun t k => XS.ifNo X42.here hx rfl (hb hby at_35) rfl ((if0 _ _).trans (feq (by decide : ¬ (1 : Int32) = (0 : Int32))).1) k) ?_
    refine own_go (T' := T42) (g' := (mkF m 39 #[.val (.int p1), .val (.int (1 : Int32)), .val (.int (((p1.toUInt32 >>> ((1 : Int32) &&& 31).toUInt32).toInt32) &&& (3 : Int32))), .val (.ref b38), .val (.int (1 : Int32))] [(.ref b38)])) (fun t k => XS.aloadN X42.here hx rfl (hb hby at_38) rfl rfl k) ?_
    obtain ⟨cq43, kq43, q43a, q43b, q43c⟩ := isOf hZ K42 E_b38
    obtain ⟨_, _, ⟨T43, L43, k43, n43⟩, -, X43, ⟨Lc43, hQ43, l43, y43, z43⟩, st43⟩ := X42.virtualBack hx (y := (⟨"com/example/noddle/noddle/dom/IdIndex", "listsDefaults", "()Z"⟩ : MethodName)) (z := (⟨"com/example/noddle/noddle/dom/IdIndex", "listsDefaults", "()Z"⟩ : MethodName)) hown (mvT hZ (hw _ (List.mem_of_getElem? (i := 36) rfl))) (mvT hZ (hw _ (List.mem_of_getElem? (i := 37) rfl))) (notFace_of_selects (args := #[]) (mvT hZ (hw _ (List.mem_of_getElem? (i := 39) rfl)))) (mvT hZ (hw _ (List.mem_of_getElem? (i := 39) rfl))) (mvT hZ (hw _ (List.mem_of_getElem? (i := 38) rfl))) (by decide) (backOf (W := 0) (rm6 l Z a0 hw [] b38 (1 : Int32) T40.heap n0 Z41 F_listsDefaults_b38 (by decide)) hZ (hw _ (List.mem_of_getElem? (i := 40) rfl)) (hw _ (List.mem_of_getElem? (i := 2) rfl)) (by decide) (by decide)) q43a q43c (g := (mkF m 39 #[.val (.int p1), .val (.int (1 : Int32)), .val (.int (((p1.toUInt32 >>> ((1 : Int32) &&& 31).toUInt32).toInt32) &&& (3 : Int32))), .val (.ref b38), .val (.int (1 : Int32))] [(.ref b38)])) rfl (by rw [hml]; rfl) (Steps.refl _) (argsL := []) (rest := []) (lenOf own_pd2 rfl) rfl (by show 2 * 0 + _ ≤ _; exact Nat.le_of_eq rfl) (hb hby at_39) (fun _ _ => ⟨rfl, K42, (by decide : 2 + 0 ≤ _), (by decide : 12 + 0 ≤ _)⟩)
    dsimp only [Pt.U, Pt.locs, Pt.cells, Pt.slots] at X43 l43 y43 z43 st43 hQ43
    subst l43 y43 z43
    obtain ⟨hv43, M43, K43⟩ := hQ43
    rw [show own_lists (1 : Int32) = (1 : Int32) from rfl] at hv43
    subst hv43
    have N43 := Fr.app N42 M43
    refine own_go (T' := T43) (g' := (mkF m 42 #[.val (.int p1), .val (.int (1 : Int32)), .val (.int (((p1.toUInt32 >>> ((1 : Int32) &&& 31).toUInt32).toInt32) &&& (3 : Int32))), .val (.ref b38), .val (.int (1 : Int32))] [(.int (1 : Int32))])) (fun _ k => st43.trans k) ?_
    refine own_go (T' := T43) (g' := (mkF m 43 #[.val (.int p1), .val (.int (1 : Int32)), .val (.int (((p1.toUInt32 >>> ((1 : Int32) &&& 31).toUInt32).toInt32) &&& (3 : Int32))), .val (.ref b38), .val (.int (1 : Int32))] [(.int (1 : Int32)), (.int (1 : Int32))])) (fun t k => XS.iloadN X43.here hx rfl (hb hby at_42) rfl k) ?_
    refine own_go (T' := T43) (g' := (mkF m 46 #[.val (.int p1), .val (.int (1 : Int32)), .val (.int (((p1.toUInt32 >>> ((1 : Int32) &&& 31).toUInt32).toInt32) &&& (3 : Int32))), .val (.ref b38), .val (.int (1 : Int32))] [])) (fun t k => XS.icmpNo X43.here hx rfl (hb hby at_43) rfl (teq (by decide : (1 : Int32) = (1 : Int32))).2 k) ?_
    refine own_go (T' := T43) (g' := (mkF m 47 #[.val (.int p1), .val (.int (1 : Int32)), .val (.int (((p1.toUInt32 >>> ((1 : Int32) &&& 31).toUInt32).toInt32) &&& (3 : Int32))), .val (.ref b38), .val (.int (1 : Int32))] [(.int (1 : Int32))])) (fun t k => XS.iconst X43.here hx rfl (hb hby at_46) k) ?_
    refine own_go (T' := T43) (g' := (mkF m 51 #[.val (.int p1), .val (.int (1 : Int32)), .val (.int (((p1.toUInt32 >>> ((1 : Int32) &&& 31).toUInt32).toInt32) &&& (3 : Int32))), .val (.ref b38), .val (.int (1 : Int32))] [(.int (1 : Int32))])) (fun t k => XS.goto X43.here hx rfl (pc0 := 47) (pc' := 51) rfl (hb hby at_47) (by decide) (by decide) k) ?_
    refine own_go (T' := T43) (g' := (mkF m 53 #[.val (.int p1), .val (.int (1 : Int32)), .val (.int (((p1.toUInt32 >>> ((1 : Int32) &&& 31).toUInt32).toInt32) &&& (3 : Int32))), .val (.ref b38), .val (.int (1 : Int32))] [])) (fun t k => XS.istore X43.here hx rfl (hb hby at_51) rfl (l' := #[.val (.int p1), .val (.int (1 : Int32)), .val (.int (((p1.toUInt32 >>> ((1 : Int32) &&& 31).toUInt32).toInt32) &&& (3 : Int32))), .val (.ref b38), .val (.int (1 : Int32))]) rfl k) ?_
    refine own_go (T' := T43) (g' := (mkF m 54 #[.val (.int p1), .val (.int (1 : Int32)), .val (.int (((p1.toUInt32 >>> ((1 : Int32) &&& 31).toUInt32).toInt32) &&& (3 : Int32))), .val (.ref b38), .val (.int (1 : Int32))] [(.int (((p1.toUInt32 >>> ((1 : Int32) &&& 31).toUInt32).toInt32) &&& (3 : Int32)))])) (fun t k => XS.iloadN X43.here hx rfl (hb hby at_53) rfl k) ?_
    refine own_go (T' := T43) (g' := (mkF m 55 #[.val (.int p1), .val (.int (1 : Int32)), .val (.int (((p1.toUInt32 >>> ((1 : Int32) &&& 31).toUInt32).toInt32) &&& (3 : Int32))), .val (.ref b38), .val (.int (1 : Int32))] [(.int (1 : Int32)), (.int (((p1.toUInt32 >>> ((1 : Int32) &&& 31).toUInt32).toInt32) &&& (3 : Int32)))])) (fun t k => XS.iconst X43.here hx rfl (hb hby at_54) k) ?_
    by_cases c55_5 : (((p1.toUInt32 >>> ((1 : Int32) &&& 31).toUInt32).toInt32) &&& (3 : Int32)) < (1 : Int32)
    · refine own_go (T' := T43) (g' := (mkF m 82 #[.val (.int p1), .val (.int (1 : Int32)), .val (.int (((p1.toUInt32 >>> ((1 : Int32) &&& 31).toUInt32).toInt32) &&& (3 : Int32))), .val (.ref b38), .val (.int (1 : Int32))] [])) (fun t k => XS.icmpYes X43.here hx rfl (pc0 := 55) (pc' := 82) rfl (hb hby at_55) rfl (tlt c55_5).1 (by decide) (by decide) k) ?_
      refine own_go (T' := T43) (g' := (mkF m 83 #[.val (.int p1), .val (.int (1 : Int32)), .val (.int (((p1.toUInt32 >>> ((1 : Int32) &&& 31).toUInt32).toInt32) &&& (3 : Int32))), .val (.ref b38), .val (.int (1 : Int32))] [(.int (((p1.toUInt32 >>> ((1 : Int32) &&& 31).toUInt32).toInt32) &&& (3 : Int32)))])) (fun t k => XS.iloadN X43.here hx rfl (hb hby at_82) rfl k) ?_
      refine own_go (T' := T43) (g' := (mkF m 84 #[.val (.int p1), .val (.int (1 : Int32)), .val (.int (((p1.toUInt32 >>> ((1 : Int32) &&& 31).toUInt32).toInt32) &&& (3 : Int32))), .val (.ref b38), .val (.int (1 : Int32))] [(.int (2 : Int32)), (.int (((p1.toUInt32 >>> ((1 : Int32) &&& 31).toUInt32).toInt32) &&& (3 : Int32)))])) (fun t k => XS.iconst X43.here hx rfl (hb hby at_83) k) ?_
      refine own_go (T' := T43) (g' := (mkF m 111 #[.val (.int p1), .val (.int (1 : Int32)), .val (.int (((p1.toUInt32 >>> ((1 : Int32) &&& 31).toUInt32).toInt32) &&& (3 : Int32))), .val (.ref b38), .val (.int (1 : Int32))] [])) (fun t k => XS.icmpYes X43.here hx rfl (pc0 := 84) (pc' := 111) rfl (hb hby at_84) rfl (tlt (own_lt12 c55_5)).1 (by decide) (by decide) k) ?_
      refine own_go (T' := T43) (g' := (mkF m 112 #[.val (.int p1), .val (.int (1 : Int32)), .val (.int (((p1.toUInt32 >>> ((1 : Int32) &&& 31).toUInt32).toInt32) &&& (3 : Int32))), .val (.ref b38), .val (.int (1 : Int32))] [(.int (((p1.toUInt32 >>> ((1 : Int32) &&& 31).toUInt32).toInt32) &&& (3 : Int32)))])) (fun t k => XS.iloadN X43.here hx rfl (hb hby at_111) rfl k) ?_
      by_cases c112_6 : (((p1.toUInt32 >>> ((1 : Int32) &&& 31).toUInt32).toInt32) &&& (3 : Int32)) = (0 : Int32)
      · refine own_go (T' := T43) (g' := (mkF m 115 #[.val (.int p1), .val (.int (1 : Int32)), .val (.int (((p1.toUInt32 >>> ((1 : Int32) &&& 31).toUInt32).toInt32) &&& (3 : Int32))), .val (.ref b38), .val (.int (1 : Int32))] [])) (fun t k => XS.ifNo X43.here hx rfl (hb hby at_112) rfl ((if0 _ _).trans (teq c112_6).2) k) ?_
        refine own_go (T' := T43) (g' := (mkF m 117 #[.val (.int p1), .val (.int (1 : Int32)), .val (.int (((p1.toUInt32 >>> ((1 : Int32) &&& 31).toUInt32).toInt32) &&& (3 : Int32))), .val (.ref b38), .val (.int (1 : Int32))] [(.int (1 : Int32))])) (fun t k => XS.iload X43.here hx rfl (hb hby at_115) rfl k) ?_
        refine own_go (T' := T43) (g' := (mkF m 120 #[.val (.int p1), .val (.int (1 : Int32)), .val (.int (((p1.toUInt32 >>> ((1 : Int32) &&& 31).toUInt32).toInt32) &&& (3 : Int32))), .val (.ref b38), .val (.int (1 : Int32))] [])) (fun t k => XS.ifNo X43.here hx rfl (hb hby at_117) rfl ((if0 _ _).trans (feq (by decide : ¬ (1 : Int32) = (0 : Int32))).1) k) ?_
        refine own_go (T' := T43) (g' := (mkF m 121 #[.val (.int p1), .val (.int (1 : Int32)), .val (.int (((p1.toUInt32 >>> ((1 : Int32) &&& 31).toUInt32).toInt32) &&& (3 : Int32))), .val (.ref b38), .val (.int (1 : Int32))] [(.ref b38)])) (fun t k => XS.aloadN X43.here hx rfl (hb hby at_120) rfl rfl k) ?_
        obtain ⟨cq44, kq44, q44a, q44b, q44c⟩ := isOf hZ K43 E_b38
        obtain ⟨_, _, ⟨T44, L44, k44, n44⟩, -, X44, ⟨Lc44, hQ44, l44, y44, z44⟩, st44⟩ := X43.virtualBack hx (y := (⟨"com/example/noddle/noddle/dom/IdIndex", "complete", "()Z"⟩ : MethodName)) (z := (⟨"com/example/noddle/noddle/dom/IdIndex", "complete", "()Z"⟩ : MethodName)) hown (mvT hZ (hw _ (List.mem_of_getElem? (i := 29) rfl))) (mvT hZ (hw _ (List.mem_of_getElem? (i := 30) rfl))) (notFace_of_selects (args := #[]) (mvT hZ (hw _ (List.mem_of_getElem? (i := 32) rfl)))) (mvT hZ (hw _ (List.mem_of_getElem? (i := 32) rfl))) (mvT hZ (hw _ (List.mem_of_getElem? (i := 31) rfl))) (by decide) (backOf (W := 0) (rm5 l Z a0 hw [] b38 (1 : Int32) (0 : Int32) T40.heap n0 Z41 F_listsDefaults_b38 F_defaultsLeftOut_b38) hZ (hw _ (List.mem_of_getElem? (i := 33) rfl)) (hw _ (List.mem_of_getElem? (i := 2) rfl)) (by decide) (by decide)) q44a q44c (g := (mkF m 121 #[.val (.int p1), .val (.int (1 : Int32)), .val (.int (((p1.toUInt32 >>> ((1 : Int32) &&& 31).toUInt32).toInt32) &&& (3 : Int32))), .val (.ref b38), .val (.int (1 : Int32))] [(.ref b38)])) rfl (by rw [hml]; rfl) (Steps.refl _) (argsL := []) (rest := []) (lenOf own_pd2 rfl) rfl (by show 2 * 0 + _ ≤ _; exact Nat.le_of_eq rfl) (hb hby at_121) (fun _ _ => ⟨rfl, K43, (by decide : 2 + 0 ≤ _), (by decide : 12 + 0 ≤ _)⟩)
        dsimp only [Pt.U, Pt.locs, Pt.cells, Pt.slots] at X44 l44 y44 z44 st44 hQ44
        subst l44 y44 z44
        obtain ⟨hv44, M44, K44⟩ := hQ44
        rw [show own_complete (1 : Int32) (0 : Int32) = (1 : Int32) from by decide] at hv44
        subst hv44
        have N44 := Fr.app N43 M44
        refine own_go (T' := T44) (g' := (mkF m 124 #[.val (.int p1), .val (.int (1 : Int32)), .val (.int (((p1.toUInt32 >>> ((1 : Int32) &&& 31).toUInt32).toInt32) &&& (3 : Int32))), .val (.ref b38), .val (.int (1 : Int32))] [(.int (1 : Int32))])) (fun _ k => st44.trans k) ?_
        refine own_go (T' := T44) (g' := (mkF m 127 #[.val (.int p1), .val (.int (1 : Int32)), .val (.int (((p1.toUInt32 >>> ((1 : Int32) &&& 31).toUInt32).toInt32) &&& (3 : Int32))), .val (.ref b38), .val (.int (1 : Int32))] [])) (fun t k => XS.ifNo X44.here hx rfl (hb hby at_124) rfl ((if0 _ _).trans (feq (by decide : ¬ (1 : Int32) = (0 : Int32))).1) k) ?_
        refine own_go (T' := T44) (g' := (mkF m 128 #[.val (.int p1), .val (.int (1 : Int32)), .val (.int (((p1.toUInt32 >>> ((1 : Int32) &&& 31).toUInt32).toInt32) &&& (3 : Int32))), .val (.ref b38), .val (.int (1 : Int32))] [(.int (1 : Int32))])) (fun t k => XS.iconst X44.here hx rfl (hb hby at_127) k) ?_
        refine own_go (T' := T44) (g' := (mkF m 132 #[.val (.int p1), .val (.int (1 : Int32)), .val (.int (((p1.toUInt32 >>> ((1 : Int32) &&& 31).toUInt32).toInt32) &&& (3 : Int32))), .val (.ref b38), .val (.int (1 : Int32))] [(.int (1 : Int32))])) (fun t k => XS.goto X44.here hx rfl (pc0 := 128) (pc' := 132) rfl (hb hby at_128) (by decide) (by decide) k) ?_
        refine own_go (T' := T44) (g' := (mkF m 134 #[.val (.int p1), .val (.int (1 : Int32)), .val (.int (((p1.toUInt32 >>> ((1 : Int32) &&& 31).toUInt32).toInt32) &&& (3 : Int32))), .val (.ref b38), .val (.int (1 : Int32))] [])) (fun t k => XS.istore X44.here hx rfl (hb hby at_132) rfl (l' := #[.val (.int p1), .val (.int (1 : Int32)), .val (.int (((p1.toUInt32 >>> ((1 : Int32) &&& 31).toUInt32).toInt32) &&& (3 : Int32))), .val (.ref b38), .val (.int (1 : Int32))]) rfl k) ?_
        refine own_go (T' := T44) (g' := (mkF m 136 #[.val (.int p1), .val (.int (1 : Int32)), .val (.int (((p1.toUInt32 >>> ((1 : Int32) &&& 31).toUInt32).toInt32) &&& (3 : Int32))), .val (.ref b38), .val (.int (1 : Int32))] [(.int (1 : Int32))])) (fun t k => XS.iload X44.here hx rfl (hb hby at_134) rfl k) ?_
        exact own_retZ X44 hx Bd.notSynchronized Bd.returns (hb hby at_136) rfl ⟨rfl, N44⟩ (by decide) (by decide)
      · refine own_go (T' := T43) (g' := (mkF m 134 #[.val (.int p1), .val (.int (1 : Int32)), .val (.int (((p1.toUInt32 >>> ((1 : Int32) &&& 31).toUInt32).toInt32) &&& (3 : Int32))), .val (.ref b38), .val (.int (1 : Int32))] [])) (fun t k => XS.ifYes X43.here hx rfl (pc0 := 112) (pc' := 134) rfl (hb hby at_112) rfl ((if0 _ _).trans (feq c112_6).2) (by decide) (by decide) k) ?_
        refine own_go (T' := T43) (g' := (mkF m 136 #[.val (.int p1), .val (.int (1 : Int32)), .val (.int (((p1.toUInt32 >>> ((1 : Int32) &&& 31).toUInt32).toInt32) &&& (3 : Int32))), .val (.ref b38), .val (.int (1 : Int32))] [(.int (1 : Int32))])) (fun t k => XS.iload X43.here hx rfl (hb hby at_134) rfl k) ?_
        exact own_retZ X43 hx Bd.notSynchronized Bd.returns (hb hby at_136) rfl ⟨rfl, N43⟩ (by decide) (by decide)
    · refine own_go (T' := T43) (g' := (mkF m 58 #[.val (.int p1), .val (.int (1 : Int32)), .val (.int (((p1.toUInt32 >>> ((1 : Int32) &&& 31).toUInt32).toInt32) &&& (3 : Int32))), .val (.ref b38), .val (.int (1 : Int32))] [])) (fun t k => XS.icmpNo X43.here hx rfl (hb hby at_55) rfl (flt c55_5).1 k) ?_
      refine own_go (T' := T43) (g' := (mkF m 59 #[.val (.int p1), .val (.int (1 : Int32)), .val (.int (((p1.toUInt32 >>> ((1 : Int32) &&& 31).toUInt32).toInt32) &&& (3 : Int32))), .val (.ref b38), .val (.int (1 : Int32))] [(.ref b38)])) (fun t k => XS.aloadN X43.here hx rfl (hb hby at_58) rfl rfl k) ?_
      have oldF_b38 := F_listsDefaults_b38
      obtain ⟨cq45, kq45, q45a, q45b, q45c⟩ := isOf hZ K43 E_b38
      obtain ⟨_, _, ⟨T45, L45, k45, n45⟩, -, X45, ⟨Lc45, hQ45, l45, y45, z45⟩, st45⟩ := X43.virtualBack hx (y := (⟨"com/example/noddle/noddle/dom/IdIndex", "defaultLeftOut", "()V"⟩ : MethodName)) (z := (⟨"com/example/noddle/noddle/dom/IdIndex", "defaultLeftOut", "()V"⟩ : MethodName)) hown (mvT hZ (hw _ (List.mem_of_getElem? (i := 41) rfl))) (mvT hZ (hw _ (List.mem_of_getElem? (i := 42) rfl))) (notFace_of_selects (args := #[]) (mvT hZ (hw _ (List.mem_of_getElem? (i := 44) rfl)))) (mvT hZ (hw _ (List.mem_of_getElem? (i := 44) rfl))) (mvT hZ (hw _ (List.mem_of_getElem? (i := 43) rfl))) (by decide) (backOf (W := 0) (rm7 l Z a0 hw [] b38 (0 : Int32) T40.heap n0 Z41 F_defaultsLeftOut_b38 E_b38 gn_b38) hZ (hw _ (List.mem_of_getElem? (i := 45) rfl)) (hw _ (List.mem_of_getElem? (i := 2) rfl)) (by decide) (by decide)) q45a q45c (g := (mkF m 59 #[.val (.int p1), .val (.int (1 : Int32)), .val (.int (((p1.toUInt32 >>> ((1 : Int32) &&& 31).toUInt32).toInt32) &&& (3 : Int32))), .val (.ref b38), .val (.int (1 : Int32))] [(.ref b38)])) rfl (by rw [hml]; rfl) (Steps.refl _) (argsL := []) (rest := []) (lenOf own_pd0 rfl) rfl (by show 2 * 0 + _ ≤ _; exact Nat.le_of_eq rfl) (hb hby at_59) (fun _ _ => ⟨rfl, K43, (by decide : 2 + 0 ≤ _), (by decide : 12 + 0 ≤ _)⟩)
      dsimp only [Pt.U, Pt.locs, Pt.cells, Pt.slots] at X45 l45 y45 z45 st45 hQ45
      subst l45 y45 z45
      obtain ⟨rfl, M45, K45, G0_45, G1_45⟩ := hQ45
      have N45 := Fr.app N43 M45
      refine own_go (T' := T45) (g' := (mkF m 62 #[.val (.int p1), .val (.int (1 : Int32)), .val (.int (((p1.toUInt32 >>> ((1 : Int32) &&& 31).toUInt32).toInt32) &&& (3 : Int32))), .val (.ref b38), .val (.int (1 : Int32))] [])) (fun _ k => st45.trans k) ?_
      have E_b38 := E_b38.keep K45
      have Z46 : n0 ≤ T45.heap.size := Nat.le_trans Z41 K45.1
      have F_listsDefaults_b38 := G0_45 _ oldF_b38
      have F_defaultsLeftOut_b38 := G1_45
      refine own_go (T' := T45) (g' := (mkF m 64 #[.val (.int p1), .val (.int (1 : Int32)), .val (.int (((p1.toUInt32 >>> ((1 : Int32) &&& 31).toUInt32).toInt32) &&& (3 : Int32))), .val (.ref b38), .val (.int (1 : Int32))] [(.int (1 : Int32))])) (fun t k => XS.iload X45.here hx rfl (hb hby at_62) rfl k) ?_
      refine own_go (T' := T45) (g' := (mkF m 67 #[.val (.int p1), .val (.int (1 : Int32)), .val (.int (((p1.toUInt32 >>> ((1 : Int32) &&& 31).toUInt32).toInt32) &&& (3 : Int32))), .val (.ref b38), .val (.int (1 : Int32))] [])) (fun t k => XS.ifNo X45.here hx rfl (hb hby at_64) rfl ((if0 _ _).trans (feq (by decide : ¬ (1 : Int32) = (0 : Int32))).1) k) ?_
      refine own_go (T' := T45) (g' := (mkF m 68 #[.val (.int p1), .val (.int (1 : Int32)), .val (.int (((p1.toUInt32 >>> ((1 : Int32) &&& 31).toUInt32).toInt32) &&& (3 : Int32))), .val (.ref b38), .val (.int (1 : Int32))] [(.ref b38)])) (fun t k => XS.aloadN X45.here hx rfl (hb hby at_67) rfl rfl k) ?_
      obtain ⟨cq47, kq47, q47a, q47b, q47c⟩ := isOf hZ rfl E_b38
      obtain ⟨_, _, ⟨T47, L47, k47, n47⟩, -, X47, ⟨Lc47, hQ47, l47, y47, z47⟩, st47⟩ := X45.virtualBack hx (y := (⟨"com/example/noddle/noddle/dom/IdIndex", "complete", "()Z"⟩ : MethodName)) (z := (⟨"com/example/noddle/noddle/dom/IdIndex", "complete", "()Z"⟩ : MethodName)) hown (mvT hZ (hw _ (List.mem_of_getElem? (i := 29) rfl))) (mvT hZ (hw _ (List.mem_of_getElem? (i := 30) rfl))) (notFace_of_selects (args := #[]) (mvT hZ (hw _ (List.mem_of_getElem? (i := 32) rfl)))) (mvT hZ (hw _ (List.mem_of_getElem? (i := 32) rfl))) (mvT hZ (hw _ (List.mem_of_getElem? (i := 31) rfl))) (by decide) (backOf (W := 0) (rm5 l Z a0 hw [] b38 (1 : Int32) (1 : Int32) T45.heap n0 Z46 F_listsDefaults_b38 F_defaultsLeftOut_b38) hZ (hw _ (List.mem_of_getElem? (i := 33) rfl)) (hw _ (List.mem_of_getElem? (i := 2) rfl)) (by decide) (by decide)) q47a q47c (g := (mkF m 68 #[.val (.int p1), .val (.int (1 : Int32)), .val (.int (((p1.toUInt32 >>> ((1 : Int32) &&& 31).toUInt32).toInt32) &&& (3 : Int32))), .val (.ref b38), .val (.int (1 : Int32))] [(.ref b38)])) rfl (by rw [hml]; rfl) (Steps.refl _) (argsL := []) (rest := []) (lenOf own_pd2 rfl) rfl (by show 2 * 0 + _ ≤ _; exact Nat.le_of_eq rfl) (hb hby at_68) (fun _ _ => ⟨rfl, rfl, (by decide : 2 + 0 ≤ _), (by decide : 12 + 0 ≤ _)⟩)
      dsimp only [Pt.U, Pt.locs, Pt.cells, Pt.slots] at X47 l47 y47 z47 st47 hQ47
      subst l47 y47 z47
      obtain ⟨hv47, M47, K47⟩ := hQ47
      rw [show own_complete (1 : Int32) (1 : Int32) = (1 : Int32) from by decide] at hv47
      subst hv47
      have N47 := Fr.app N45 M47
      refine own_go (T' := T47) (g' := (mkF m 71 #[.val (.int p1), .val (.int (1 : Int32)), .val (.int (((p1.toUInt32 >>> ((1 : Int32) &&& 31).toUInt32).toInt32) &&& (3 : Int32))), .val (.ref b38), .val (.int (1 : Int32))] [(.int (1 : Int32))])) (fun _ k => st47.trans k) ?_
      refine own_go (T' := T47) (g' := (mkF m 72 #[.val (.int p1), .val (.int (1 : Int32)), .val (.int (((p1.toUInt32 >>> ((1 : Int32) &&& 31).toUInt32).toInt32) &&& (3 : Int32))), .val (.ref b38), .val (.int (1 : Int32))] [(.int (1 : Int32)), (.int (1 : Int32))])) (fun t k => XS.iloadN X47.here hx rfl (hb hby at_71) rfl k) ?_
      refine own_go (T' := T47) (g' := (mkF m 75 #[.val (.int p1), .val (.int (1 : Int32)), .val (.int (((p1.toUInt32 >>> ((1 : Int32) &&& 31).toUInt32).toInt32) &&& (3 : Int32))), .val (.ref b38), .val (.int (1 : Int32))] [])) (fun t k => XS.icmpNo X47.here hx rfl (hb hby at_72) rfl (teq (by decide : (1 : Int32) = (1 : Int32))).2 k) ?_
      refine own_go (T' := T47) (g' := (mkF m 76 #[.val (.int p1), .val (.int (1 : Int32)), .val (.int (((p1.toUInt32 >>> ((1 : Int32) &&& 31).toUInt32).toInt32) &&& (3 : Int32))), .val (.ref b38), .val (.int (1 : Int32))] [(.int (1 : Int32))])) (fun t k => XS.iconst X47.here hx rfl (hb hby at_75) k) ?_
      refine own_go (T' := T47) (g' := (mkF m 80 #[.val (.int p1), .val (.int (1 : Int32)), .val (.int (((p1.toUInt32 >>> ((1 : Int32) &&& 31).toUInt32).toInt32) &&& (3 : Int32))), .val (.ref b38), .val (.int (1 : Int32))] [(.int (1 : Int32))])) (fun t k => XS.goto X47.here hx rfl (pc0 := 76) (pc' := 80) rfl (hb hby at_76) (by decide) (by decide) k) ?_
      refine own_go (T' := T47) (g' := (mkF m 82 #[.val (.int p1), .val (.int (1 : Int32)), .val (.int (((p1.toUInt32 >>> ((1 : Int32) &&& 31).toUInt32).toInt32) &&& (3 : Int32))), .val (.ref b38), .val (.int (1 : Int32))] [])) (fun t k => XS.istore X47.here hx rfl (hb hby at_80) rfl (l' := #[.val (.int p1), .val (.int (1 : Int32)), .val (.int (((p1.toUInt32 >>> ((1 : Int32) &&& 31).toUInt32).toInt32) &&& (3 : Int32))), .val (.ref b38), .val (.int (1 : Int32))]) rfl k) ?_
      refine own_go (T' := T47) (g' := (mkF m 83 #[.val (.int p1), .val (.int (1 : Int32)), .val (.int (((p1.toUInt32 >>> ((1 : Int32) &&& 31).toUInt32).toInt32) &&& (3 : Int32))), .val (.ref b38), .val (.int (1 : Int32))] [(.int (((p1.toUInt32 >>> ((1 : Int32) &&& 31).toUInt32).toInt32) &&& (3 : Int32)))])) (fun t k => XS.iloadN X47.here hx rfl (hb hby at_82) rfl k) ?_
      refine own_go (T' := T47) (g' := (mkF m 84 #[.val (.int p1), .val (.int (1 : Int32)), .val (.int (((p1.toUInt32 >>> ((1 : Int32) &&& 31).toUInt32).toInt32) &&& (3 : Int32))), .val (.ref b38), .val (.int (1 : Int32))] [(.int (2 : Int32)), (.int (((p1.toUInt32 >>> ((1 : Int32) &&& 31).toUInt32).toInt32) &&& (3 : Int32)))])) (fun t k => XS.iconst X47.here hx rfl (hb hby at_83) k) ?_
      by_cases c84_7 : (((p1.toUInt32 >>> ((1 : Int32) &&& 31).toUInt32).toInt32) &&& (3 : Int32)) < (2 : Int32)
      · refine own_go (T' := T47) (g' := (mkF m 111 #[.val (.int p1), .val (.int (1 : Int32)), .val (.int (((p1.toUInt32 >>> ((1 : Int32) &&& 31).toUInt32).toInt32) &&& (3 : Int32))), .val (.ref b38), .val (.int (1 : Int32))] [])) (fun t k => XS.icmpYes X47.here hx rfl (pc0 := 84) (pc' := 111) rfl (hb hby at_84) rfl (tlt c84_7).1 (by decide) (by decide) k) ?_
        refine own_go (T' := T47) (g' := (mkF m 112 #[.val (.int p1), .val (.int (1 : Int32)), .val (.int (((p1.toUInt32 >>> ((1 : Int32) &&& 31).toUInt32).toInt32) &&& (3 : Int32))), .val (.ref b38), .val (.int (1 : Int32))] [(.int (((p1.toUInt32 >>> ((1 : Int32) &&& 31).toUInt32).toInt32) &&& (3 : Int32)))])) (fun t k => XS.iloadN X47.here hx rfl (hb hby at_111) rfl k) ?_
        refine own_go (T' := T47) (g' := (mkF m 134 #[.val (.int p1), .val (.int (1 : Int32)), .val (.int (((p1.toUInt32 >>> ((1 : Int32) &&& 31).toUInt32).toInt32) &&& (3 : Int32))), .val (.ref b38), .val (.int (1 : Int32))] [])) (fun t k => XS.ifYes X47.here hx rfl (pc0 := 112) (pc' := 134) rfl (hb hby at_112) rfl ((if0 _ _).trans (feq (fun q => c55_5 (by rw [q]; decide))).2) (by decide) (by decide) k) ?_
        refine own_go (T' := T47) (g' := (mkF m 136 #[.val (.int p1), .val (.int (1 : Int32)), .val (.int (((p1.toUInt32 >>> ((1 : Int32) &&& 31).toUInt32).toInt32) &&& (3 : Int32))), .val (.ref b38), .val (.int (1 : Int32))] [(.int (1 : Int32))])) (fun t k => XS.iload X47.here hx rfl (hb hby at_134) rfl k) ?_
        exact own_retZ X47 hx Bd.notSynchronized Bd.returns (hb hby at_136) rfl ⟨rfl, N47⟩ (by decide) (by decide)
      · refine own_go (T' := T47) (g' := (mkF m 87 #[.val (.int p1), .val (.int (1 : Int32)), .val (.int (((p1.toUInt32 >>> ((1 : Int32) &&& 31).toUInt32).toInt32) &&& (3 : Int32))), .val (.ref b38), .val (.int (1 : Int32))] [])) (fun t k => XS.icmpNo X47.here hx rfl (hb hby at_84) rfl (flt c84_7).1 k) ?_
        refine own_go (T' := T47) (g' := (mkF m 88 #[.val (.int p1), .val (.int (1 : Int32)), .val (.int (((p1.toUInt32 >>> ((1 : Int32) &&& 31).toUInt32).toInt32) &&& (3 : Int32))), .val (.ref b38), .val (.int (1 : Int32))] [(.ref b38)])) (fun t k => XS.aloadN X47.here hx rfl (hb hby at_87) rfl rfl k) ?_
        have oldF_b38 := F_listsDefaults_b38
        obtain ⟨cq48, kq48, q48a, q48b, q48c⟩ := isOf hZ K47 E_b38
        obtain ⟨_, _, ⟨T48, L48, k48, n48⟩, -, X48, ⟨Lc48, hQ48, l48, y48, z48⟩, st48⟩ := X47.virtualBack hx (y := (⟨"com/example/noddle/noddle/dom/IdIndex", "defaultLeftOut", "()V"⟩ : MethodName)) (z := (⟨"com/example/noddle/noddle/dom/IdIndex", "defaultLeftOut", "()V"⟩ : MethodName)) hown (mvT hZ (hw _ (List.mem_of_getElem? (i := 41) rfl))) (mvT hZ (hw _ (List.mem_of_getElem? (i := 42) rfl))) (notFace_of_selects (args := #[]) (mvT hZ (hw _ (List.mem_of_getElem? (i := 44) rfl)))) (mvT hZ (hw _ (List.mem_of_getElem? (i := 44) rfl))) (mvT hZ (hw _ (List.mem_of_getElem? (i := 43) rfl))) (by decide) (backOf (W := 0) (rm7 l Z a0 hw [] b38 (1 : Int32) T45.heap n0 Z46 F_defaultsLeftOut_b38 E_b38 gn_b38) hZ (hw _ (List.mem_of_getElem? (i := 45) rfl)) (hw _ (List.mem_of_getElem? (i := 2) rfl)) (by decide) (by decide)) q48a q48c (g := (mkF m 88 #[.val (.int p1), .val (.int (1 : Int32)), .val (.int (((p1.toUInt32 >>> ((1 : Int32) &&& 31).toUInt32).toInt32) &&& (3 : Int32))), .val (.ref b38), .val (.int (1 : Int32))] [(.ref b38)])) rfl (by rw [hml]; rfl) (Steps.refl _) (argsL := []) (rest := []) (lenOf own_pd0 rfl) rfl (by show 2 * 0 + _ ≤ _; exact Nat.le_of_eq rfl) (hb hby at_88) (fun _ _ => ⟨rfl, K47, (by decide : 2 + 0 ≤ _), (by decide : 12 + 0 ≤ _)⟩)
        dsimp only [Pt.U, Pt.locs, Pt.cells, Pt.slots] at X48 l48 y48 z48 st48 hQ48
        subst l48 y48 z48
        obtain ⟨rfl, M48, K48, G0_48, G1_48⟩ := hQ48
        have N48 := Fr.app N47 M48
        refine own_go (T' := T48) (g' := (mkF m 91 #[.val (.int p1), .val (.int (1 : Int32)), .val (.int (((p1.toUInt32 >>> ((1 : Int32) &&& 31).toUInt32).toInt32) &&& (3 : Int32))), .val (.ref b38), .val (.int (1 : Int32))] [])) (fun _ k => st48.trans k) ?_
        have E_b38 := E_b38.keep K48
        have Z49 : n0 ≤ T48.heap.size := Nat.le_trans Z46 K48.1
        have F_listsDefaults_b38 := G0_48 _ oldF_b38
        have F_defaultsLeftOut_b38 := G1_48
        refine own_go (T' := T48) (g' := (mkF m 93 #[.val (.int p1), .val (.int (1 : Int32)), .val (.int (((p1.toUInt32 >>> ((1 : Int32) &&& 31).toUInt32).toInt32) &&& (3 : Int32))), .val (.ref b38), .val (.int (1 : Int32))] [(.int (1 : Int32))])) (fun t k => XS.iload X48.here hx rfl (hb hby at_91) rfl k) ?_
        refine own_go (T' := T48) (g' := (mkF m 96 #[.val (.int p1), .val (.int (1 : Int32)), .val (.int (((p1.toUInt32 >>> ((1 : Int32) &&& 31).toUInt32).toInt32) &&& (3 : Int32))), .val (.ref b38), .val (.int (1 : Int32))] [])) (fun t k => XS.ifNo X48.here hx rfl (hb hby at_93) rfl ((if0 _ _).trans (feq (by decide : ¬ (1 : Int32) = (0 : Int32))).1) k) ?_
        refine own_go (T' := T48) (g' := (mkF m 97 #[.val (.int p1), .val (.int (1 : Int32)), .val (.int (((p1.toUInt32 >>> ((1 : Int32) &&& 31).toUInt32).toInt32) &&& (3 : Int32))), .val (.ref b38), .val (.int (1 : Int32))] [(.ref b38)])) (fun t k => XS.aloadN X48.here hx rfl (hb hby at_96) rfl rfl k) ?_
        obtain ⟨cq50, kq50, q50a, q50b, q50c⟩ := isOf hZ rfl E_b38
        obtain ⟨_, _, ⟨T50, L50, k50, n50⟩, -, X50, ⟨Lc50, hQ50, l50, y50, z50⟩, st50⟩ := X48.virtualBack hx (y := (⟨"com/example/noddle/noddle/dom/IdIndex", "complete", "()Z"⟩ : MethodName)) (z := (⟨"com/example/noddle/noddle/dom/IdIndex", "complete", "()Z"⟩ : MethodName)) hown (mvT hZ (hw _ (List.mem_of_getElem? (i := 29) rfl))) (mvT hZ (hw _ (List.mem_of_getElem? (i := 30) rfl))) (notFace_of_selects (args := #[]) (mvT hZ (hw _ (List.mem_of_getElem? (i := 32) rfl)))) (mvT hZ (hw _ (List.mem_of_getElem? (i := 32) rfl))) (mvT hZ (hw _ (List.mem_of_getElem? (i := 31) rfl))) (by decide) (backOf (W := 0) (rm5 l Z a0 hw [] b38 (1 : Int32) (1 : Int32) T48.heap n0 Z49 F_listsDefaults_b38 F_defaultsLeftOut_b38) hZ (hw _ (List.mem_of_getElem? (i := 33) rfl)) (hw _ (List.mem_of_getElem? (i := 2) rfl)) (by decide) (by decide)) q50a q50c (g := (mkF m 97 #[.val (.int p1), .val (.int (1 : Int32)), .val (.int (((p1.toUInt32 >>> ((1 : Int32) &&& 31).toUInt32).toInt32) &&& (3 : Int32))), .val (.ref b38), .val (.int (1 : Int32))] [(.ref b38)])) rfl (by rw [hml]; rfl) (Steps.refl _) (argsL := []) (rest := []) (lenOf own_pd2 rfl) rfl (by show 2 * 0 + _ ≤ _; exact Nat.le_of_eq rfl) (hb hby at_97) (fun _ _ => ⟨rfl, rfl, (by decide : 2 + 0 ≤ _), (by decide : 12 + 0 ≤ _)⟩)
        dsimp only [Pt.U, Pt.locs, Pt.cells, Pt.slots] at X50 l50 y50 z50 st50 hQ50
        subst l50 y50 z50
        obtain ⟨hv50, M50, K50⟩ := hQ50
        rw [show own_complete (1 : Int32) (1 : Int32) = (1 : Int32) from by decide] at hv50
        subst hv50
        have N50 := Fr.app N48 M50
        refine own_go (T' := T50) (g' := (mkF m 100 #[.val (.int p1), .val (.int (1 : Int32)), .val (.int (((p1.toUInt32 >>> ((1 : Int32) &&& 31).toUInt32).toInt32) &&& (3 : Int32))), .val (.ref b38), .val (.int (1 : Int32))] [(.int (1 : Int32))])) (fun _ k => st50.trans k) ?_
        refine own_go (T' := T50) (g' := (mkF m 101 #[.val (.int p1), .val (.int (1 : Int32)), .val (.int (((p1.toUInt32 >>> ((1 : Int32) &&& 31).toUInt32).toInt32) &&& (3 : Int32))), .val (.ref b38), .val (.int (1 : Int32))] [(.int (1 : Int32)), (.int (1 : Int32))])) (fun t k => XS.iloadN X50.here hx rfl (hb hby at_100) rfl k) ?_
        refine own_go (T' := T50) (g' := (mkF m 104 #[.val (.int p1), .val (.int (1 : Int32)), .val (.int (((p1.toUInt32 >>> ((1 : Int32) &&& 31).toUInt32).toInt32) &&& (3 : Int32))), .val (.ref b38), .val (.int (1 : Int32))] [])) (fun t k => XS.icmpNo X50.here hx rfl (hb hby at_101) rfl (teq (by decide : (1 : Int32) = (1 : Int32))).2 k) ?_
        refine own_go (T' := T50) (g' := (mkF m 105 #[.val (.int p1), .val (.int (1 : Int32)), .val (.int (((p1.toUInt32 >>> ((1 : Int32) &&& 31).toUInt32).toInt32) &&& (3 : Int32))), .val (.ref b38), .val (.int (1 : Int32))] [(.int (1 : Int32))])) (fun t k => XS.iconst X50.here hx rfl (hb hby at_104) k) ?_
        refine own_go (T' := T50) (g' := (mkF m 109 #[.val (.int p1), .val (.int (1 : Int32)), .val (.int (((p1.toUInt32 >>> ((1 : Int32) &&& 31).toUInt32).toInt32) &&& (3 : Int32))), .val (.ref b38), .val (.int (1 : Int32))] [(.int (1 : Int32))])) (fun t k => XS.goto X50.here hx rfl (pc0 := 105) (pc' := 109) rfl (hb hby at_105) (by decide) (by decide) k) ?_
        refine own_go (T' := T50) (g' := (mkF m 111 #[.val (.int p1), .val (.int (1 : Int32)), .val (.int (((p1.toUInt32 >>> ((1 : Int32) &&& 31).toUInt32).toInt32) &&& (3 : Int32))), .val (.ref b38), .val (.int (1 : Int32))] [])) (fun t k => XS.istore X50.here hx rfl (hb hby at_109) rfl (l' := #[.val (.int p1), .val (.int (1 : Int32)), .val (.int (((p1.toUInt32 >>> ((1 : Int32) &&& 31).toUInt32).toInt32) &&& (3 : Int32))), .val (.ref b38), .val (.int (1 : Int32))]) rfl k) ?_
        refine own_go (T' := T50) (g' := (mkF m 112 #[.val (.int p1), .val (.int (1 : Int32)), .val (.int (((p1.toUInt32 >>> ((1 : Int32) &&& 31).toUInt32).toInt32) &&& (3 : Int32))), .val (.ref b38), .val (.int (1 : Int32))] [(.int (((p1.toUInt32 >>> ((1 : Int32) &&& 31).toUInt32).toInt32) &&& (3 : Int32)))])) (fun t k => XS.iloadN X50.here hx rfl (hb hby at_111) rfl k) ?_
        refine own_go (T' := T50) (g' := (mkF m 134 #[.val (.int p1), .val (.int (1 : Int32)), .val (.int (((p1.toUInt32 >>> ((1 : Int32) &&& 31).toUInt32).toInt32) &&& (3 : Int32))), .val (.ref b38), .val (.int (1 : Int32))] [])) (fun t k => XS.ifYes X50.here hx rfl (pc0 := 112) (pc' := 134) rfl (hb hby at_112) rfl ((if0 _ _).trans (feq (fun q => c55_5 (by rw [q]; decide))).2) (by decide) (by decide) k) ?_
        refine own_go (T' := T50) (g' := (mkF m 136 #[.val (.int p1), .val (.int (1 : Int32)), .val (.int (((p1.toUInt32 >>> ((1 : Int32) &&& 31).toUInt32).toInt32) &&& (3 : Int32))), .val (.ref b38), .val (.int (1 : Int32))] [(.int (1 : Int32))])) (fun t k => XS.iload X50.here hx rfl (hb hby at_134) rfl k) ?_
        exact own_retZ X50 hx Bd.notSynchronized Bd.returns (hb hby at_136) rfl ⟨rfl, N50⟩ (by decide) (by decide)
set_option maxRecDepth 65536 in
set_option maxHeartbeats 40000000 in
theorem comes_1 {Post : Tables → Env → Array Value → State → Outcome → State → Prop} (hpost : ∀ tb e args s v u, (limb_1_1.after args s (.returned v) u = true ∧ limb_1_2.after args s (.returned v) u = true ∧ True) → FrameEnd s (.returned v) u (Jvm.fieldLocs frame_1_writes args s ++ Jvm.arrayLocs frame_1_arrays args s ++ Jvm.staticLocs frame_1_statics s) 16 128 → Post tb e args s (.returned v) u) :
    ArmFor flags0 classFile x code maxLocals ret World_1 tables_1 room_1 Calls_1 rest_1 Pre_1 Post := by
  intro l hfl _ _ p e ha hc hk s m args below hf hA hF happ hP
  obtain ⟨hcalls, hrest, hpre⟩ := hP
  obtain ⟨-, -, -, hnamed, -, -, -, hat⟩ := (Spec.applies_iff hf).mp happ
  obtain ⟨hg, hn⟩ := and_e (Cond.before_iff.mp (show (Jvm.Cond.and given_1 narrow_1).before args s = true from hpre))
  obtain ⟨g0, q0⟩ := and_e hg
  have ga0 := q0
  obtain ⟨w0, rfl⟩ : ∃ w0 : Value, args = #[w0] := by
    have hs : args.size = 1 := by simpa [Cond.value, given_1] using g0
    obtain ⟨L⟩ := args
    match L, hs with
    | [w0], _ => exact ⟨w0, rfl⟩
  have hw := fun d (hd : d ∈ tables_1) => atoms_spec (ws := Jvm.Cond.code x code maxLocals ret :: tables_1) hat d (List.mem_cons_of_mem _ hd)
  obtain ⟨i0, ei0⟩ := is_v ga0
  obtain rfl : w0 = (.int i0) := Option.some.inj ei0
  obtain ⟨n, o, h1, h2, h3, _, L, rfl, ⟨rfl, N⟩, hq⟩ := rm0 l s _ hw tables_1 i0 s.heap s.heap.size (Nat.le_refl _) p e ha hc hk s m _ below hf ((Spec.applies_iff_loose hf).mp happ).1 ⟨rfl, State.Warmed39.refl s, rfl⟩ trivial
  refine ⟨n, _, h1, h2, h3, hpost _ _ _ _ _ _ ⟨Cond.after_iff.mpr rfl, Cond.after_iff.mpr (eq_i res_at (Term.int_eval (1)) rfl), trivial⟩ ⟨hq.1, hq.2.1, (hq.2.2.sift fun y hy => Or.inr (N y hy)).mono (by decide) (by decide)⟩⟩
theorem main_1_1 : Claimed_1_1 := comes_1 fun _ _ _ _ _ _ h hF => ⟨h.1, hF⟩
theorem main_1_2 : Claimed_1_2 := comes_1 fun _ _ _ _ _ _ h hF => ⟨h.2.1, hF⟩
end Jvm.Pilot.@@N@@
namespace Jvm.Pilot.@@N@@
open Jvm Jvm.ClassFile Sem Op Lib Jvm.Free Jvm.Stand Jvm.Pilot.@@N@@.Jvm.D
/-! MADE BY PROGRAM (witnessworld.py) out of the Statement's table words and the real class files: 12 classes; the members and pool entries that the words name. The judged class is class 1, her method 1. -/
namespace start1
open Jvm.ClassFile
def u (s : String) : CpInfo := .utf8 (stringToUtf16 s)
/-- a pool by its gaps: so many unusable entries, then the entry; so many at the end -/
def gap : Nat → List CpInfo → List CpInfo
  | 0, r => r
  | n + 1, r => .unusable :: gap n r
def poolList (es : List (Nat × CpInfo)) (last : Nat) : List CpInfo := es.foldr (fun e r => gap e.1 (e.2 :: r)) (gap last [])
def pool (es : List (Nat × CpInfo)) (last : Nat) : Array CpInfo := ⟨poolList es last⟩
def fileOf (pool : Array CpInfo) (this : Nat) (attrs : Array Attribute := #[]) (ms : Array MethodInfo := #[]) (fl : Nat := 33) (sup : Nat := 0) (ifs : Array Nat := #[]) (fds : Array FieldInfo := #[]) : ClassFile where
  minorVersion := 0
  majorVersion := 65
  constantPool := pool
  accessFlags := fl
  thisClass := this
  superClass := sup
  interfaces := ifs
  fields := fds
  methods := ms
  attributes := attrs
def plain (name : String) (sup : Option ClassId) : Class where
  name := name
  kind := .ordinary
  loader := none
  accessFlags := 33
  super := sup
  interfaces := #[]
  cf := none
  fields := #[]
  methods := #[]
  instanceTypes := #[]
  staticTypes := #[]
  resolved := #[]
  callSites := []
  init := .initialized
  statics := none
  mirror := none

def pool0 : Array CpInfo := pool [(5, u "<init>"), (0, u "()V"), (1, .class_ 10), (1, u "java/lang/Object")] 113

def k0c0 : Code := { maxStack := 0, maxLocals := 1, code := object_method_1_code, exceptionTable := #[], attributes := #[] }
def k0m0 : Method := { name := "<init>", desc := "()V", sig := { parameters := [], returnType := none }, accessFlags := 1, code := some k0c0 }
/-- java/lang/Object -/
def k0 : Class := { plain "java/lang/Object" none with
  accessFlags := 33
  interfaces := #[]
  cf := some (fileOf pool0 8 #[] #[{ accessFlags := 1, nameIndex := 5, descriptorIndex := 6, attributes := #[] }] 33 0 #[] #[])
  fields := #[]
  methods := #[k0m0]
  instanceTypes := #[]
  staticTypes := #[]
  resolved := Array.replicate 124 none
  statics := none }

def pool1 : Array CpInfo := pool [(2, .class_ 4), (1, u "java/lang/Object"), (0, u "<init>"), (0, u "()V"), (0, .class_ 8), (0, u "com/example/noddle/noddle/dom/IdIndex"), (0, .methodref 7 10), (0, .nameAndType 5 11), (0, u "(Z)V"), (0, .methodref 7 13), (0, .nameAndType 14 15), (0, u "complete"), (0, u "()Z"), (0, .methodref 7 17), (0, .nameAndType 18 15), (0, u "listsDefaults"), (0, .methodref 7 20), (0, .nameAndType 21 6), (0, u "defaultLeftOut"), (0, .class_ 23), (0, u "com/example/noddle/noddle/dom/IdIndexCompletePinLaw"), (2, u "law"), (0, u "(I)Z")] 3

def k1m0 : Method := { name := "<init>", desc := "()V", sig := { parameters := [], returnType := none }, accessFlags := 1, code := none }
def k1c1 : Code := { maxStack := 3, maxLocals := 5, code := code, exceptionTable := #[], attributes := #[] }
def k1m1 : Method := { name := "law", desc := "(I)Z", sig := { parameters := [.int], returnType := some .boolean }, accessFlags := 9, code := some k1c1 }
/-- com/example/noddle/noddle/dom/IdIndexCompletePinLaw -/
def k1 : Class := { plain "com/example/noddle/noddle/dom/IdIndexCompletePinLaw" (some 0) with
  accessFlags := 49
  interfaces := #[]
  cf := some (fileOf pool1 22 #[] #[{ accessFlags := 1, nameIndex := 5, descriptorIndex := 6, attributes := #[] }, { accessFlags := 9, nameIndex := 26, descriptorIndex := 27, attributes := #[] }] 49 2 #[] #[])
  fields := #[]
  methods := #[k1m0, k1m1]
  instanceTypes := #[]
  staticTypes := #[]
  resolved := Array.replicate 31 none
  statics := none }

def pool2 : Array CpInfo := pool [(1, .methodref 2 3), (0, .class_ 4), (0, .nameAndType 5 6), (0, u "java/lang/Object"), (0, u "<init>"), (0, u "()V"), (0, .class_ 8), (0, u "java/util/HashMap"), (0, .methodref 7 3), (0, .fieldref 11 12), (0, .class_ 13), (0, .nameAndType 14 15), (0, u "com/example/noddle/noddle/dom/IdIndex"), (0, u "elements"), (0, u "Ljava/util/Map;"), (0, .fieldref 11 17), (0, .nameAndType 18 19), (0, u "listsDefaults"), (0, u "Z"), (0, .fieldref 11 21), (0, .nameAndType 22 19), (0, u "defaultsLeftOut"), (6, .class_ 30), (0, u "com/example/noddle/noddle/dom/IdIndex$Shared"), (8, u "walk"), (0, u "Ljava/lang/Object;"), (5, u "(Z)V"), (47, .class_ 95), (0, u "com/example/noddle/noddle/dom/IdIndex$Several"), (45, u "()Z"), (3, .class_ 146), (0, u "com/example/noddle/noddle/dom/IdIndex$Member"), (29, u "complete"), (1, u "defaultLeftOut")] 11

def k2c0 : Code := { maxStack := 3, maxLocals := 2, code := prog_39_method_1_code, exceptionTable := #[], attributes := #[] }
def k2m0 : Method := { name := "<init>", desc := "(Z)V", sig := { parameters := [.boolean], returnType := none }, accessFlags := 0, code := some k2c0 }
def k2c1 : Code := { maxStack := 1, maxLocals := 1, code := prog_39_method_2_code, exceptionTable := #[], attributes := #[] }
def k2m1 : Method := { name := "listsDefaults", desc := "()Z", sig := { parameters := [], returnType := some .boolean }, accessFlags := 0, code := some k2c1 }
def k2c2 : Code := { maxStack := 1, maxLocals := 1, code := prog_39_method_3_code, exceptionTable := #[], attributes := #[] }
def k2m2 : Method := { name := "complete", desc := "()Z", sig := { parameters := [], returnType := some .boolean }, accessFlags := 0, code := some k2c2 }
def k2c3 : Code := { maxStack := 2, maxLocals := 1, code := prog_39_method_4_code, exceptionTable := #[], attributes := #[] }
def k2m3 : Method := { name := "defaultLeftOut", desc := "()V", sig := { parameters := [], returnType := none }, accessFlags := 0, code := some k2c3 }
/-- com/example/noddle/noddle/dom/IdIndex -/
def k2 : Class := { plain "com/example/noddle/noddle/dom/IdIndex" (some 0) with
  accessFlags := 32
  interfaces := #[]
  cf := some (fileOf pool2 11 #[.nestMembers #[145, 29, 94]] #[{ accessFlags := 0, nameIndex := 5, descriptorIndex := 46, attributes := #[] }, { accessFlags := 0, nameIndex := 18, descriptorIndex := 141, attributes := #[] }, { accessFlags := 0, nameIndex := 176, descriptorIndex := 141, attributes := #[] }, { accessFlags := 0, nameIndex := 178, descriptorIndex := 6, attributes := #[] }] 32 2 #[] #[{ accessFlags := 18, nameIndex := 14, descriptorIndex := 15, attributes := #[] }, { accessFlags := 18, nameIndex := 18, descriptorIndex := 19, attributes := #[] }, { accessFlags := 2, nameIndex := 39, descriptorIndex := 40, attributes := #[] }, { accessFlags := 2, nameIndex := 22, descriptorIndex := 19, attributes := #[] }])
  fields := #[{ name := "elements", type := (.object "java/util/Map"), accessFlags := 18, slot := 0, constantValue := 0 }, { name := "listsDefaults", type := .boolean, accessFlags := 18, slot := 1, constantValue := 0 }, { name := "walk", type := (.object "java/lang/Object"), accessFlags := 2, slot := 2, constantValue := 0 }, { name := "defaultsLeftOut", type := .boolean, accessFlags := 2, slot := 3, constantValue := 0 }]
  methods := #[k2m0, k2m1, k2m2, k2m3]
  instanceTypes := #[(.object "java/util/Map"), .boolean, (.object "java/lang/Object"), .boolean]
  staticTypes := #[]
  resolved := Array.replicate 190 none
  statics := none }

def pool3 : Array CpInfo := pool [(2, .class_ 4), (1, u "java/util/Map"), (31, .class_ 37), (0, u "java/util/Map$Entry"), (55, .class_ 94), (0, u "java/lang/Object")] 168

/-- java/util/Map -/
def k3 : Class := { plain "java/util/Map" (some 0) with
  accessFlags := 1537
  interfaces := #[]
  cf := some (fileOf pool3 2 #[.nestMembers #[36]] #[] 1537 93 #[] #[])
  fields := #[]
  methods := #[]
  instanceTypes := #[]
  staticTypes := #[]
  resolved := Array.replicate 263 none
  statics := none }

def pool4 : Array CpInfo := pool [(1, .methodref 2 3), (0, .class_ 4), (0, .nameAndType 5 6), (0, u "java/lang/Object"), (0, u "<init>"), (0, u "()V"), (1, .class_ 10), (1, u "java/util/AbstractMap"), (42, .class_ 54), (0, u "java/util/Map"), (9, u "keySet"), (0, u "Ljava/util/Set;"), (0, .class_ 67), (0, u "java/util/AbstractMap$1"), (5, u "values"), (0, u "Ljava/util/Collection;"), (0, .class_ 76), (0, u "java/util/AbstractMap$2"), (104, .class_ 182), (0, u "java/util/AbstractMap$ViewCollection"), (0, .class_ 184), (0, u "java/util/AbstractMap$SimpleImmutableEntry"), (0, .class_ 186), (0, u "java/util/AbstractMap$SimpleEntry"), (0, .class_ 188), (0, u "java/util/AbstractMap$2$1"), (0, .class_ 190), (0, u "java/util/AbstractMap$1$1")] 5

def k4c0 : Code := { maxStack := 1, maxLocals := 1, code := jdk_71_method_1_code, exceptionTable := #[], attributes := #[] }
def k4m0 : Method := { name := "<init>", desc := "()V", sig := { parameters := [], returnType := none }, accessFlags := 4, code := some k4c0 }
/-- java/util/AbstractMap -/
def k4 : Class := { plain "java/util/AbstractMap" (some 0) with
  accessFlags := 1057
  interfaces := #[3]
  cf := some (fileOf pool4 8 #[.nestMembers #[181, 183, 185, 75, 187, 66, 189]] #[{ accessFlags := 4, nameIndex := 5, descriptorIndex := 6, attributes := #[] }] 1057 2 #[53] #[{ accessFlags := 128, nameIndex := 64, descriptorIndex := 65, attributes := #[] }, { accessFlags := 128, nameIndex := 73, descriptorIndex := 74, attributes := #[] }])
  fields := #[{ name := "keySet", type := (.object "java/util/Set"), accessFlags := 128, slot := 0, constantValue := 0 }, { name := "values", type := (.object "java/util/Collection"), accessFlags := 128, slot := 1, constantValue := 0 }]
  methods := #[k4m0]
  instanceTypes := #[(.object "java/util/Set"), (.object "java/util/Collection")]
  staticTypes := #[]
  resolved := Array.replicate 196 none
  statics := none }

def pool5 : Array CpInfo := pool [(1, .class_ 2), (0, u "java/lang/Cloneable"), (0, .class_ 4), (0, u "java/lang/Object")] 2

/-- java/lang/Cloneable -/
def k5 : Class := { plain "java/lang/Cloneable" (some 0) with
  accessFlags := 1537
  interfaces := #[]
  cf := some (fileOf pool5 1 #[] #[] 1537 3 #[] #[])
  fields := #[]
  methods := #[]
  instanceTypes := #[]
  staticTypes := #[]
  resolved := Array.replicate 7 none
  statics := none }

def pool6 : Array CpInfo := pool [(1, .class_ 2), (0, u "java/io/Serializable"), (0, .class_ 4), (0, u "java/lang/Object")] 2

/-- java/io/Serializable -/
def k6 : Class := { plain "java/io/Serializable" (some 0) with
  accessFlags := 1537
  interfaces := #[]
  cf := some (fileOf pool6 1 #[] #[] 1537 3 #[] #[])
  fields := #[]
  methods := #[]
  instanceTypes := #[]
  staticTypes := #[]
  resolved := Array.replicate 7 none
  statics := none }

def pool7 : Array CpInfo := pool [(40, .class_ 41), (0, u "java/util/HashMap"), (1, .methodref 44 45), (0, .class_ 46), (0, .nameAndType 47 48), (0, u "java/util/AbstractMap"), (0, u "<init>"), (0, u "()V"), (32, .fieldref 40 82), (0, .nameAndType 83 84), (0, u "loadFactor"), (0, u "F"), (5, u "threshold"), (0, u "I"), (0, .float 1061158912), (8, .class_ 103), (1, u "java/util/Map"), (0, u "size"), (2, u "table"), (0, u "[Ljava/util/HashMap$Node;"), (14, u "entrySet"), (39, .class_ 165), (1, u "java/util/HashMap$Node"), (14, .class_ 181), (0, u "java/util/HashMap$TreeNode"), (22, u "modCount"), (37, u "Ljava/util/Set;"), (0, .class_ 244), (0, u "java/util/HashMap$KeySet"), (18, .class_ 264), (0, u "java/util/HashMap$Values"), (3, .class_ 269), (0, u "java/util/HashMap$EntrySet"), (76, .class_ 348), (1, u "java/util/HashMap$UnsafeHolder"), (43, .class_ 393), (0, u "java/lang/Cloneable"), (0, .class_ 395), (0, u "java/io/Serializable"), (0, u "serialVersionUID"), (0, u "J"), (3, u "DEFAULT_INITIAL_CAPACITY"), (1, u "MAXIMUM_CAPACITY"), (0, u "DEFAULT_LOAD_FACTOR"), (0, u "TREEIFY_THRESHOLD"), (1, u "UNTREEIFY_THRESHOLD"), (1, u "MIN_TREEIFY_CAPACITY"), (186, .class_ 597), (0, u "java/util/HashMap$EntrySpliterator"), (0, .class_ 599), (0, u "java/util/HashMap$ValueSpliterator"), (0, .class_ 601), (0, u "java/util/HashMap$KeySpliterator"), (0, .class_ 603), (0, u "java/util/HashMap$HashMapSpliterator"), (0, .class_ 605), (0, u "java/util/HashMap$EntryIterator"), (0, .class_ 607), (0, u "java/util/HashMap$ValueIterator"), (0, .class_ 609), (0, u "java/util/HashMap$KeyIterator"), (0, .class_ 611), (0, u "java/util/HashMap$HashIterator")] 17

def k7c0 : Code := { maxStack := 2, maxLocals := 1, code := jdk_69_method_7_code, exceptionTable := #[], attributes := #[] }
def k7m0 : Method := { name := "<init>", desc := "()V", sig := { parameters := [], returnType := none }, accessFlags := 1, code := some k7c0 }
/-- java/util/HashMap -/
def k7 : Class := { plain "java/util/HashMap" (some 4) with
  accessFlags := 33
  interfaces := #[3, 5, 6]
  cf := some (fileOf pool7 40 #[.nestMembers #[180, 596, 598, 600, 602, 604, 606, 608, 610, 346, 268, 263, 243, 163]] #[{ accessFlags := 1, nameIndex := 47, descriptorIndex := 48, attributes := #[] }] 33 44 #[101, 392, 394] #[{ accessFlags := 26, nameIndex := 396, descriptorIndex := 397, attributes := #[] }, { accessFlags := 24, nameIndex := 401, descriptorIndex := 91, attributes := #[] }, { accessFlags := 24, nameIndex := 403, descriptorIndex := 91, attributes := #[] }, { accessFlags := 24, nameIndex := 404, descriptorIndex := 84, attributes := #[] }, { accessFlags := 24, nameIndex := 405, descriptorIndex := 91, attributes := #[] }, { accessFlags := 24, nameIndex := 407, descriptorIndex := 91, attributes := #[] }, { accessFlags := 24, nameIndex := 409, descriptorIndex := 91, attributes := #[] }, { accessFlags := 128, nameIndex := 107, descriptorIndex := 108, attributes := #[] }, { accessFlags := 128, nameIndex := 123, descriptorIndex := 242, attributes := #[] }, { accessFlags := 128, nameIndex := 104, descriptorIndex := 91, attributes := #[] }, { accessFlags := 128, nameIndex := 204, descriptorIndex := 91, attributes := #[] }, { accessFlags := 0, nameIndex := 90, descriptorIndex := 91, attributes := #[] }, { accessFlags := 16, nameIndex := 83, descriptorIndex := 84, attributes := #[] }])
  fields := #[{ name := "serialVersionUID", type := .long, accessFlags := 26, slot := 0, constantValue := 0 }, { name := "DEFAULT_INITIAL_CAPACITY", type := .int, accessFlags := 24, slot := 1, constantValue := 0 }, { name := "MAXIMUM_CAPACITY", type := .int, accessFlags := 24, slot := 2, constantValue := 0 }, { name := "DEFAULT_LOAD_FACTOR", type := .float, accessFlags := 24, slot := 3, constantValue := 0 }, { name := "TREEIFY_THRESHOLD", type := .int, accessFlags := 24, slot := 4, constantValue := 0 }, { name := "UNTREEIFY_THRESHOLD", type := .int, accessFlags := 24, slot := 5, constantValue := 0 }, { name := "MIN_TREEIFY_CAPACITY", type := .int, accessFlags := 24, slot := 6, constantValue := 0 }, { name := "table", type := (.array (.object "java/util/HashMap$Node")), accessFlags := 128, slot := 2, constantValue := 0 }, { name := "entrySet", type := (.object "java/util/Set"), accessFlags := 128, slot := 3, constantValue := 0 }, { name := "size", type := .int, accessFlags := 128, slot := 4, constantValue := 0 }, { name := "modCount", type := .int, accessFlags := 128, slot := 5, constantValue := 0 }, { name := "threshold", type := .int, accessFlags := 0, slot := 6, constantValue := 0 }, { name := "loadFactor", type := .float, accessFlags := 16, slot := 7, constantValue := 0 }]
  methods := #[k7m0]
  instanceTypes := #[(.object "java/util/Set"), (.object "java/util/Collection"), (.array (.object "java/util/HashMap$Node")), (.object "java/util/Set"), .int, .int, .int, .float]
  staticTypes := #[.long, .int, .int, .float, .int, .int, .int]
  resolved := Array.replicate 629 none
  statics := none }

/-- the primitive byte -/
def k8 : Class := { plain "byte" none with kind := .primitive 'B', accessFlags := 0x411 }
/-- [B -/
def k9 : Class := { plain "[B" (some 0) with kind := .array 8 .byte, interfaces := #[5, 6], accessFlags := 1041 }

/-- the primitive int -/
def k10 : Class := { plain "int" none with kind := .primitive 'I', accessFlags := 0x411 }
/-- [I -/
def k11 : Class := { plain "[I" (some 0) with kind := .array 10 .int, interfaces := #[5, 6], accessFlags := 1041 }

def heap : Heap := #[]
def classes : Array Class := #[k0, k1, k2, k3, k4, k5, k6, k7, k8, k9, k10, k11]
def interned : List (Array UInt16 × Addr) := []
def slotsUsed : Nat := 0
def theMethod : MethodId := ⟨1, 1⟩
def args0 : Array Value := #[.int 5]
def aboutOver (below : List Frame) : State where
  vm := { classes := classes, interned := interned.toArray }
  heap := heap
  slotsUsed := slotsUsed
  threads := #[{ frames := .invoking theMethod args0 :: below }]
def below0 : List Frame := [.native { method := ⟨0, 0⟩, args := #[] }]
def about1 : State := aboutOver below0
def p0 : Program := .bare "" "" ""
def e0 : Env := launch0.env 0 0 0
theorem w_frames : about1.frames = Frame.invoking theMethod args0 :: below0 := rfl
set_option maxRecDepth 65536 in
theorem w_args : argsFit about1.vm theMethod args0 = true := by decide +kernel
set_option maxRecDepth 65536 in
theorem w_heap : heapFits about1 = true := by decide +kernel
set_option maxRecDepth 65536 in
theorem w_runnable : about1.curStatus? = some .runnable := by decide +kernel
set_option maxRecDepth 65536 in
theorem w_alone : about1.alone = true := by decide +kernel
set_option maxRecDepth 65536 in
theorem w_named : about1.methodNamed? x = some theMethod := by decide +kernel
set_option maxRecDepth 65536 in
theorem w_hears : about1.hears theMethod below0 = true := by decide +kernel
set_option maxRecDepth 65536 in
theorem w_ripe : about1.ripe theMethod args0 below0 = true := by decide +kernel
theorem w_running : about1.status = .running := rfl
set_option maxRecDepth 65536 in
theorem w_room : about1.hasRoom e0.platform room_1 = true :=
  launch0.hasRoom_least _ room_1 (by decide +kernel) (by decide +kernel) (by decide +kernel) (by decide +kernel) (by decide +kernel) (by decide +kernel)
theorem allAtoms_all (ts : List Jvm.Cond) (a : Array Jvm.Value) (st : Jvm.State) : (allAtoms ts).before a st = ts.all (fun c => c.before a st) := by
  induction ts with
  | nil => rfl
  | cons c t ih =>
    show (Jvm.Cond.and c (allAtoms t)).before a st = _
    rw [Jvm.Cond.before_and, ih, List.all_cons]
def words1 : List Jvm.Cond := Jvm.Cond.code x code maxLocals ret :: tables_1
/-- a 'code' word, met by the world's own term for the bytes: nothing is compared byte by byte -/
theorem code_word {y : MethodName} {bytes : ByteArray} {mx : Nat} {rt : Option FieldType} {a : Array Value} {s : State} {m : MethodId} {meth : Method} {c : Code} (h1 : s.methodNamed? y = some m) (h2 : s.vm.method? m = some meth) (h3 : meth.code = some c) (h4 : c.code = bytes)
    (h5 : (c.maxLocals == mx && c.exceptionTable.isEmpty && decide (c.maxStack ≤ mostOperands) && decide (meth.sig.returnType = rt) && !meth.locks && decide (parseMethodDescriptor y.desc = some meth.sig)) = true) : (Jvm.Cond.code y bytes mx rt).before a s = true := by
  simp only [Bool.and_eq_true, beq_iff_eq, Bool.not_eq_true', decide_eq_true_eq] at h5
  obtain ⟨⟨⟨⟨⟨g1, g2⟩, g3⟩, g4⟩, g5⟩, g6⟩ := h5
  simp [Cond.before, Cond.holds, Cond.value, h1, h2, h3, h4, g1, g2, g3, g4, g5, g6]
def isCode : Jvm.Cond → Bool
  | .code _ _ _ _ => true
  | _ => false
theorem all_split {L : List Jvm.Cond} {P : Jvm.Cond → Bool} (h1 : L.all (fun c => isCode c || P c) = true) (h2 : ∀ c ∈ L.filter isCode, P c = true) : L.all P = true := by
  refine List.all_eq_true.mpr fun c hc => ?_
  have h := List.all_eq_true.mp h1 c hc
  rcases Bool.eq_false_or_eq_true (isCode c) with hi | hi
  · exact h2 c (List.mem_filter.mpr ⟨hc, hi⟩)
  · simpa [hi] using h
set_option maxRecDepth 65536 in
theorem w_c0 : (Jvm.Cond.code x code maxLocals ret).before args0 about1 = true := code_word (m := ⟨1, 1⟩) (meth := k1m1) (c := k1c1) (by decide +kernel) rfl rfl rfl (by decide +kernel)
set_option maxRecDepth 65536 in
theorem w_c1 : (Jvm.Cond.code ({ cls := "com/example/noddle/noddle/dom/IdIndex", name := "<init>", desc := "(Z)V" } : Jvm.MethodName) prog_39_method_1_code (2 : Nat) (Option.none : Option Jvm.ClassFile.FieldType)).before args0 about1 = true := code_word (m := ⟨2, 0⟩) (meth := k2m0) (c := k2c0) (by decide +kernel) rfl rfl rfl (by decide +kernel)
set_option maxRecDepth 65536 in
theorem w_c2 : (Jvm.Cond.code ({ cls := "java/lang/Object", name := "<init>", desc := "()V" } : Jvm.MethodName) object_method_1_code (1 : Nat) (Option.none : Option Jvm.ClassFile.FieldType)).before args0 about1 = true := code_word (m := ⟨0, 0⟩) (meth := k0m0) (c := k0c0) (by decide +kernel) rfl rfl rfl (by decide +kernel)
set_option maxRecDepth 65536 in
theorem w_c3 : (Jvm.Cond.code ({ cls := "java/util/HashMap", name := "<init>", desc := "()V" } : Jvm.MethodName) jdk_69_method_7_code (1 : Nat) (Option.none : Option Jvm.ClassFile.FieldType)).before args0 about1 = true := code_word (m := ⟨7, 0⟩) (meth := k7m0) (c := k7c0) (by decide +kernel) rfl rfl rfl (by decide +kernel)
set_option maxRecDepth 65536 in
theorem w_c4 : (Jvm.Cond.code ({ cls := "java/util/AbstractMap", name := "<init>", desc := "()V" } : Jvm.MethodName) jdk_71_method_1_code (1 : Nat) (Option.none : Option Jvm.ClassFile.FieldType)).before args0 about1 = true := code_word (m := ⟨4, 0⟩) (meth := k4m0) (c := k4c0) (by decide +kernel) rfl rfl rfl (by decide +kernel)
set_option maxRecDepth 65536 in
theorem w_c5 : (Jvm.Cond.code ({ cls := "com/example/noddle/noddle/dom/IdIndex", name := "complete", desc := "()Z" } : Jvm.MethodName) prog_39_method_3_code (1 : Nat) (Option.some Jvm.ClassFile.FieldType.boolean)).before args0 about1 = true := code_word (m := ⟨2, 2⟩) (meth := k2m2) (c := k2c2) (by decide +kernel) rfl rfl rfl (by decide +kernel)
set_option maxRecDepth 65536 in
theorem w_c6 : (Jvm.Cond.code ({ cls := "com/example/noddle/noddle/dom/IdIndex", name := "listsDefaults", desc := "()Z" } : Jvm.MethodName) prog_39_method_2_code (1 : Nat) (Option.some Jvm.ClassFile.FieldType.boolean)).before args0 about1 = true := code_word (m := ⟨2, 1⟩) (meth := k2m1) (c := k2c1) (by decide +kernel) rfl rfl rfl (by decide +kernel)
set_option maxRecDepth 65536 in
theorem w_c7 : (Jvm.Cond.code ({ cls := "com/example/noddle/noddle/dom/IdIndex", name := "defaultLeftOut", desc := "()V" } : Jvm.MethodName) prog_39_method_4_code (1 : Nat) (Option.none : Option Jvm.ClassFile.FieldType)).before args0 about1 = true := code_word (m := ⟨2, 3⟩) (meth := k2m3) (c := k2c3) (by decide +kernel) rfl rfl rfl (by decide +kernel)
def codes1 : List Jvm.Cond := [Jvm.Cond.code x code maxLocals ret, Jvm.Cond.code ({ cls := "com/example/noddle/noddle/dom/IdIndex", name := "<init>", desc := "(Z)V" } : Jvm.MethodName) prog_39_method_1_code (2 : Nat) (Option.none : Option Jvm.ClassFile.FieldType), Jvm.Cond.code ({ cls := "java/lang/Object", name := "<init>", desc := "()V" } : Jvm.MethodName) object_method_1_code (1 : Nat) (Option.none : Option Jvm.ClassFile.FieldType), Jvm.Cond.code ({ cls := "java/util/HashMap", name := "<init>", desc := "()V" } : Jvm.MethodName) jdk_69_method_7_code (1 : Nat) (Option.none : Option Jvm.ClassFile.FieldType), Jvm.Cond.code ({ cls := "java/util/AbstractMap", name := "<init>", desc := "()V" } : Jvm.MethodName) jdk_71_method_1_code (1 : Nat) (Option.none : Option Jvm.ClassFile.FieldType), Jvm.Cond.code ({ cls := "com/example/noddle/noddle/dom/IdIndex", name := "complete", desc := "()Z" } : Jvm.MethodName) prog_39_method_3_code (1 : Nat) (Option.some Jvm.ClassFile.FieldType.boolean), Jvm.Cond.code ({ cls := "com/example/noddle/noddle/dom/IdIndex", name := "listsDefaults", desc := "()Z" } : Jvm.MethodName) prog_39_method_2_code (1 : Nat) (Option.some Jvm.ClassFile.FieldType.boolean), Jvm.Cond.code ({ cls := "com/example/noddle/noddle/dom/IdIndex", name := "defaultLeftOut", desc := "()V" } : Jvm.MethodName) prog_39_method_4_code (1 : Nat) (Option.none : Option Jvm.ClassFile.FieldType)]
set_option maxRecDepth 65536 in
theorem codes_eq : words1.filter isCode = codes1 := rfl
theorem w_codes : ∀ c ∈ words1.filter isCode, c.before args0 about1 = true := by
  rw [codes_eq]
  intro c hc
  simp only [codes1, List.mem_cons, List.not_mem_nil, or_false] at hc
  rcases hc with rfl | rfl | rfl | rfl | rfl | rfl | rfl | rfl
  · exact w_c0
  · exact w_c1
  · exact w_c2
  · exact w_c3
  · exact w_c4
  · exact w_c5
  · exact w_c6
  · exact w_c7
set_option maxRecDepth 65536 in
theorem w_t1 : (words1.take 24).all (fun c => isCode c || c.before args0 about1) = true := by decide +kernel
set_option maxRecDepth 65536 in
theorem w_t2 : (words1.drop 24).all (fun c => isCode c || c.before args0 about1) = true := by decide +kernel
theorem w_tables : (allAtoms (Jvm.Cond.code x code maxLocals ret :: tables_1)).before args0 about1 = true := by
  rw [allAtoms_all]
  show words1.all (fun c => c.before args0 about1) = true
  refine all_split ?_ w_codes
  rw [← List.take_append_drop 24 words1, List.all_append, w_t1, w_t2]
  rfl
set_option maxRecDepth 65536 in
theorem w_case : (Jvm.Cond.and given_1 narrow_1).before args0 about1 = true := by decide +kernel
theorem w_applies : (headSpec (Jvm.Cond.code x code maxLocals ret :: tables_1) room_1).applies x e0.platform about1 = true :=
  (Spec.applies_iff w_frames).mpr ⟨w_running, w_runnable, w_alone, w_named, w_hears, w_ripe, w_room, w_tables⟩
theorem atStart : AtStart classFile x code maxLocals ret World_1 tables_1 room_1 Calls_1 rest_1 Pre_1 launch0 p0 e0 about1 theMethod args0 below0 :=
  ⟨lists_1, trivial, launch0.admits_env _ _ _, launch0.least_env, fairChoices_fair.cas, fairChoices_fair.clock, w_frames, w_args, w_heap, w_applies, trivial, trivial, w_case⟩
end start1
theorem witness_1 : WitnessClaimed_1 := ⟨start1.p0, start1.e0, start1.about1, start1.theMethod, start1.args0, start1.below0, start1.atStart⟩
end Jvm.Pilot.@@N@@
