import JvmDerived
import JvmDerived.Pilot.@@N@@Statement
import JvmDerived.Pilot.@@N@@Code
set_option linter.unusedVariables false
set_option linter.unusedSimpArgs false
@@BLOCK:NumsL.lean.txt@@
namespace Jvm.Pilot.@@N@@
open Jvm Jvm.ClassFile Sem Op Lib Jvm.Free Jvm.Stand Jvm.LawKit Jvm.RoadKit Bundle Jvm.Pilot.@@N@@.Jvm.D
section Own
variable {p : Program} {l : Launch} {e : Env} {R : Room} {s : State} {m : MethodId} {args : Array Value} {below : List Frame} {meth : Method} {c : Code} {T T' : State} {locs : List Loc} {cells slots : Nat} {QQ : Option Value → Heap → List Loc → Prop} {RC RS : Nat} {g g' : JFrame}
/-- from this frame the run comes to the method's end, and what it leaves is as QQ says -/
def own_Run (p : Program) (e : Env) (below : List Frame) (s : State) (QQ : Option Value → Heap → List Loc → Prop) (RC RS : Nat) (T : State) (g : JFrame) : Prop :=
  ∃ s₂ o, Steps p.tables e below (T.setTop g) s₂ ∧ s₂.status = .running ∧ Ended s₂ below o ∧ ∃ v L, o = .returned v ∧ QQ v s₂.heap L ∧ FrameEnd s o s₂ L RC RS
theorem own_go (h : ∀ t, Steps p.tables e below (T'.setTop g') t → Steps p.tables e below (T.setTop g) t) (r : own_Run p e below s QQ RC RS T' g') : own_Run p e below s QQ RC RS T g := by
  obtain ⟨s₂, o, k, r⟩ := r
  exact ⟨s₂, o, h _ k, r⟩
theorem own_enter {g0 : JFrame} (q : g0 = g) (r : own_Run p e below s QQ RC RS T g) : ∃ s₂ o, Steps p.tables e below (T.setTop g0) s₂ ∧ s₂.status = .running ∧ Ended s₂ below o ∧ ∃ v L, o = .returned v ∧ QQ v s₂.heap L ∧ FrameEnd s o s₂ L RC RS := by
  subst q; exact r
theorem own_retZ (X : Stand p l e R s m args below meth c T locs cells slots) (hx : p.tables.exec = Jvm.exec) (hlk : meth.locks = false) (hret : meth.sig.returnType = some .boolean) {pc : Nat} {Ls : Array Slot} {z : Int32} {rest : List Value} (hd : decode c.code pc = .ok (.ireturn, 1)) (hz : nar .boolean z = z)
    (hQ : QQ (some (.int z)) T.heap locs) (hc : cells ≤ RC) (hs : slots ≤ RS) : own_Run p e below s QQ RC RS T (mkF m pc Ls (.int z :: rest)) := by
  obtain ⟨fs, hr, hrun, hended, hW, hsame⟩ := X.leave (v := some (.int z)) (fun h => by rw [hret] at h; cases h) hlk
  refine ⟨_, _, retN X hx (t := .boolean) hret (by simp) hd (by rw [hz]; exact hr), hrun, hended, _, _, rfl, hQ, ⟨_, rfl⟩, hW, hsame.mono hc hs⟩
theorem own_retI (X : Stand p l e R s m args below meth c T locs cells slots) (hx : p.tables.exec = Jvm.exec) (hlk : meth.locks = false) (hret : meth.sig.returnType = some .int) {pc : Nat} {Ls : Array Slot} {z : Int32} {rest : List Value} (hd : decode c.code pc = .ok (.ireturn, 1))
    (hQ : QQ (some (.int z)) T.heap locs) (hc : cells ≤ RC) (hs : slots ≤ RS) : own_Run p e below s QQ RC RS T (mkF m pc Ls (.int z :: rest)) := by
  obtain ⟨fs, hr, hrun, hended, hW, hsame⟩ := X.leave (v := some (.int z)) (fun h => by rw [hret] at h; cases h) hlk
  refine ⟨_, _, ?_, hrun, hended, _, _, rfl, hQ, ⟨_, rfl⟩, hW, hsame.mono hc hs⟩
  have hm' : T.vm.method? m = some meth := X.method'
  have hn : narrow .int (.int z) = .int z := rfl
  show Steps p.tables e below (T.setTop { method := m, pc := pc, locals := Ls, stack := _ :: rest, locked := none }) _
  jvm_step X.here [X.here.top, hx, hd, hm', hret, hn]
  first | (intro acts; rw [hr _ acts rfl rfl rfl]) | rw [hr _ _ rfl rfl rfl]
  exact Steps.refl _
theorem own_retJ (X : Stand p l e R s m args below meth c T locs cells slots) (hx : p.tables.exec = Jvm.exec) (hlk : meth.locks = false) (hret : meth.sig.returnType = some .long) {pc : Nat} {Ls : Array Slot} {z : Int64} (hd : decode c.code pc = .ok (.lreturn, 1))
    (hQ : QQ (some (.long z)) T.heap locs) (hc : cells ≤ RC) (hs : slots ≤ RS) : own_Run p e below s QQ RC RS T (mkF m pc Ls [.long z]) := by
  obtain ⟨fs, hr, hrun, hended, hW, hsame⟩ := X.leave (v := some (.long z)) (fun h => by rw [hret] at h; cases h) hlk
  exact ⟨_, _, X.lreturnOut hx hret hd hr, hrun, hended, _, _, rfl, hQ, ⟨_, rfl⟩, hW, hsame.mono hc hs⟩
theorem own_retV (X : Stand p l e R s m args below meth c T locs cells slots) (hx : p.tables.exec = Jvm.exec) (hlk : meth.locks = false) (hret : meth.sig.returnType = none) {pc : Nat} {Ls : Array Slot} (hd : decode c.code pc = .ok (.return_, 1))
    (hQ : QQ none T.heap locs) (hc : cells ≤ RC) (hs : slots ≤ RS) : own_Run p e below s QQ RC RS T (mkF m pc Ls []) := by
  obtain ⟨fs, hr, hrun, hended, hW, hsame⟩ := X.leave (v := none) (fun _ => rfl) hlk
  exact ⟨_, _, X.returnOut hx hret hd hr, hrun, hended, _, _, rfl, hQ, ⟨_, rfl⟩, hW, hsame.mono hc hs⟩
theorem own_retA (X : Stand p l e R s m args below meth c T locs cells slots) (hx : p.tables.exec = Jvm.exec) (hlk : meth.locks = false) {ty : FieldType} (hty : ty.isReference = true) (hret : meth.sig.returnType = some ty) {pc : Nat} {Ls : Array Slot} {a : Addr} {rest : List Value} (hd : decode c.code pc = .ok (.areturn, 1))
    (hQ : QQ (some (.ref a)) T.heap locs) (hc : cells ≤ RC) (hs : slots ≤ RS) : own_Run p e below s QQ RC RS T (mkF m pc Ls (.ref a :: rest)) := by
  obtain ⟨fs, hr, hrun, hended, hW, hsame⟩ := X.leave (v := some (.ref a)) (fun h => by rw [hret] at h; cases h) hlk
  refine ⟨_, _, ?_, hrun, hended, _, _, rfl, hQ, ⟨_, rfl⟩, hW, hsame.mono hc hs⟩
  have hm' : T.vm.method? m = some meth := X.method'
  show Steps p.tables e below (T.setTop { method := m, pc := pc, locals := Ls, stack := _ :: rest, locked := none }) _
  jvm_step X.here [X.here.top, hx, hd, hm', hret, hty, Value.isRef]
  first | (intro acts; rw [hr _ acts rfl rfl rfl]) | rw [hr _ _ rfl rfl rfl]
  exact Steps.refl _
end Own
theorem d2_0 : decode jdk_30_method_1_code 0 = .ok (.aload_n 0, 1) := by decide +kernel
theorem d2_1 : decode jdk_30_method_1_code 1 = .ok (.invokespecial 1, 3) := by decide +kernel
theorem d2_4 : decode jdk_30_method_1_code 4 = .ok (.return_, 1) := by decide +kernel
theorem pn_2 : plainName "java/lang/Record" = true := by first | (simp [plainName, overriddenIn]; done) | decide +kernel
theorem own_pd0 : parseMethodDescriptor "()V" = some ⟨[], none⟩ := by decide +kernel
theorem ef_2 (m : MethodId) (x0 : Addr) : entryFrame m #[(.ref x0)] 1 = mkF m 0 #[.val (.ref x0)] [] := by first | (simp [entryFrame, mkF, argsToLocals, Value.category]; done) | rfl
def Q2 (Z : State) (a : Addr) (h0 : Heap) (n0 : Nat) (v : Option Value) (h : Heap) (L : List Loc) : Prop := v = none ∧ Fr n0 L ∧ h = h0
set_option maxRecDepth 65536 in
set_option maxHeartbeats 40000000 in
theorem rm2 (l : Launch) (Z : State) (a0 : Array Value) (hw : ∀ d ∈ tables_1, d.before a0 Z = true) (ws : List Jvm.Cond) (a : Addr) (h0 : Heap) (n0 : Nat) (Z0 : n0 ≤ h0.size) :
    MetFree l (⟨"java/lang/Record", "<init>", "()V"⟩ : MethodName) (head1 (Jvm.Cond.code (⟨"java/lang/Record", "<init>", "()V"⟩ : MethodName) jdk_30_method_1_code 1 none :: ws) ({ frames := 1, cells := 0, slots := 0, locals := 12 } : Room)) (fun aa U => aa = #[(.ref a)] ∧ Z.Warmed39 U.vm ∧ U.heap = h0) (fun _ _ _ _ _ => True) (fun _ U o U' => ∃ v L, o = .returned v ∧ Q2 Z a h0 n0 v U'.heap L ∧ FrameEnd U o U' L ({ frames := 1, cells := 0, slots := 0, locals := 12 } : Room).cells ({ frames := 1, cells := 0, slots := 0, locals := 12 } : Room).slots) := by
  refine MetFree.of_bodySF (plainFor_of_name pn_2) hisR ?_
  intro p e s m args below meth c s₁ Bd hml0 hP hK
  obtain ⟨rfl, hZ, hh⟩ := hP
  have hx := Bd.exec
  have hby := Bd.bytes
  have hml : c.maxLocals = 1 := hml0
  have hown : s.vm.findClass "java/lang/Record" = some m.cls := findClass_of_methodNamed Bd.named
  have hnm := (name_of_methodNamed Bd.named Bd.method).1
  have X0 : Stand p l e ({ frames := 1, cells := 0, slots := 0, locals := 12 } : Room) s m #[(.ref a)] below meth c s₁ [] 0 0 := Stand.of_body Bd
  have e0 : s₁.heap = h0 := by rw [← hh, Bd.state]; rfl
  have N0 := Fr.nil n0
  refine own_enter (QQ := Q2 Z a h0 n0) (ef_2 m a) ?_
  refine own_go (T' := s₁) (g' := (mkF m 1 #[.val (.ref a)] [(.ref a)])) (fun t k => XS.aloadN X0.here hx rfl (hb hby d2_0) rfl rfl k) ?_
  obtain ⟨T1, X1, e1, st1⟩ := initO X0 hx hZ hown (hw _ (List.mem_of_getElem? (i := 11) rfl)) (hw _ (List.mem_of_getElem? (i := 12) rfl)) (hw _ (List.mem_of_getElem? (i := 13) rfl)) e0 (g := (mkF m 1 #[.val (.ref a)] [(.ref a)])) rfl (by rw [hml]; rfl) rfl (hb hby d2_1) (by decide) (W := 0) (by show 2 * 0 + _ ≤ _; exact Nat.le_of_eq rfl) (by decide)
  refine own_go (T' := T1) (g' := (mkF m 4 #[.val (.ref a)] [])) (st1) ?_
  exact own_retV X1 hx Bd.notSynchronized Bd.returns (hb hby d2_4) ⟨rfl, N0, e1⟩ (by decide) (by decide)
theorem d1_0 : decode prog_143_method_1_code 0 = .ok (.aload_n 0, 1) := by decide +kernel
theorem d1_1 : decode prog_143_method_1_code 1 = .ok (.invokespecial 1, 3) := by decide +kernel
theorem d1_4 : decode prog_143_method_1_code 4 = .ok (.aload_n 0, 1) := by decide +kernel
theorem d1_5 : decode prog_143_method_1_code 5 = .ok (.iload_n 1, 1) := by decide +kernel
theorem d1_6 : decode prog_143_method_1_code 6 = .ok (.putfield 7, 3) := by decide +kernel
theorem d1_9 : decode prog_143_method_1_code 9 = .ok (.aload_n 0, 1) := by decide +kernel
theorem d1_10 : decode prog_143_method_1_code 10 = .ok (.iload_n 2, 1) := by decide +kernel
theorem d1_11 : decode prog_143_method_1_code 11 = .ok (.putfield 13, 3) := by decide +kernel
theorem d1_14 : decode prog_143_method_1_code 14 = .ok (.aload_n 0, 1) := by decide +kernel
theorem d1_15 : decode prog_143_method_1_code 15 = .ok (.iload_n 3, 1) := by decide +kernel
theorem d1_16 : decode prog_143_method_1_code 16 = .ok (.putfield 16, 3) := by decide +kernel
theorem d1_19 : decode prog_143_method_1_code 19 = .ok (.aload_n 0, 1) := by decide +kernel
theorem d1_20 : decode prog_143_method_1_code 20 = .ok (.iload 4, 2) := by decide +kernel
theorem d1_22 : decode prog_143_method_1_code 22 = .ok (.putfield 19, 3) := by decide +kernel
theorem d1_25 : decode prog_143_method_1_code 25 = .ok (.return_, 1) := by decide +kernel
theorem pn_1 : plainName "com/example/paths_to_documents/pathstodocuments/query/StretchBox" = true := by first | (simp [plainName, overriddenIn]; done) | decide +kernel
theorem ef_1 (m : MethodId) (x0 : Addr) (x1 : Int32) (x2 : Int32) (x3 : Int32) (x4 : Int32) : entryFrame m #[(.ref x0), (.int x1), (.int x2), (.int x3), (.int x4)] 5 = mkF m 0 #[.val (.ref x0), .val (.int x1), .val (.int x2), .val (.int x3), .val (.int x4)] [] := by first | (simp [entryFrame, mkF, argsToLocals, Value.category]; done) | rfl
def Q1 (Z : State) (a : Addr) (p1 : Int32) (p2 : Int32) (p3 : Int32) (p4 : Int32) (h0 : Heap) (n0 : Nat) (v : Option Value) (h : Heap) (L : List Loc) : Prop := v = none ∧ Fr n0 L ∧ Keep h0 h [a] ∧ Fld Z h a "com/example/paths_to_documents/pathstodocuments/query/StretchBox" "startFrom" "I" (.int p1) ∧ Fld Z h a "com/example/paths_to_documents/pathstodocuments/query/StretchBox" "startTo" "I" (.int p2) ∧ Fld Z h a "com/example/paths_to_documents/pathstodocuments/query/StretchBox" "endFrom" "I" (.int p3) ∧ Fld Z h a "com/example/paths_to_documents/pathstodocuments/query/StretchBox" "endTo" "I" (.int p4)
set_option maxRecDepth 65536 in
set_option maxHeartbeats 40000000 in
theorem rm1 (l : Launch) (Z : State) (a0 : Array Value) (hw : ∀ d ∈ tables_1, d.before a0 Z = true) (ws : List Jvm.Cond) (a : Addr) (p1 : Int32) (p2 : Int32) (p3 : Int32) (p4 : Int32) (h0 : Heap) (n0 : Nat) (Z0 : n0 ≤ h0.size) (F_startFrom_a : Fld Z h0 a "com/example/paths_to_documents/pathstodocuments/query/StretchBox" "startFrom" "I" (.int (0 : Int32))) (F_startTo_a : Fld Z h0 a "com/example/paths_to_documents/pathstodocuments/query/StretchBox" "startTo" "I" (.int (0 : Int32))) (F_endFrom_a : Fld Z h0 a "com/example/paths_to_documents/pathstodocuments/query/StretchBox" "endFrom" "I" (.int (0 : Int32))) (F_endTo_a : Fld Z h0 a "com/example/paths_to_documents/pathstodocuments/query/StretchBox" "endTo" "I" (.int (0 : Int32))) (E_a : Exa Z h0 a "com/example/paths_to_documents/pathstodocuments/query/StretchBox") (gn_a : n0 ≤ a) :
    MetFree l (⟨"com/example/paths_to_documents/pathstodocuments/query/StretchBox", "<init>", "(IIII)V"⟩ : MethodName) (head1 (Jvm.Cond.code (⟨"com/example/paths_to_documents/pathstodocuments/query/StretchBox", "<init>", "(IIII)V"⟩ : MethodName) prog_143_method_1_code 5 none :: ws) ({ frames := 2, cells := 0, slots := 0, locals := 24 } : Room)) (fun aa U => aa = #[(.ref a), (.int p1), (.int p2), (.int p3), (.int p4)] ∧ Z.Warmed39 U.vm ∧ U.heap = h0) (fun _ _ _ _ _ => True) (fun _ U o U' => ∃ v L, o = .returned v ∧ Q1 Z a p1 p2 p3 p4 h0 n0 v U'.heap L ∧ FrameEnd U o U' L ({ frames := 2, cells := 0, slots := 0, locals := 24 } : Room).cells ({ frames := 2, cells := 0, slots := 0, locals := 24 } : Room).slots) := by
  refine MetFree.of_bodySF (plainFor_of_name pn_1) hisR ?_
  intro p e s m args below meth c s₁ Bd hml0 hP hK
  obtain ⟨rfl, hZ, hh⟩ := hP
  have hx := Bd.exec
  have hby := Bd.bytes
  have hml : c.maxLocals = 5 := hml0
  have hown : s.vm.findClass "com/example/paths_to_documents/pathstodocuments/query/StretchBox" = some m.cls := findClass_of_methodNamed Bd.named
  have hnm := (name_of_methodNamed Bd.named Bd.method).1
  have X0 : Stand p l e ({ frames := 2, cells := 0, slots := 0, locals := 24 } : Room) s m #[(.ref a), (.int p1), (.int p2), (.int p3), (.int p4)] below meth c s₁ [] 0 0 := Stand.of_body Bd
  have e0 : s₁.heap = h0 := by rw [← hh, Bd.state]; rfl
  have N0 := Fr.nil n0
  refine own_enter (QQ := Q1 Z a p1 p2 p3 p4 h0 n0) (ef_1 m a p1 p2 p3 p4) ?_
  refine own_go (T' := s₁) (g' := (mkF m 1 #[.val (.ref a), .val (.int p1), .val (.int p2), .val (.int p3), .val (.int p4)] [(.ref a)])) (fun t k => XS.aloadN X0.here hx rfl (hb hby d1_0) rfl rfl k) ?_
  obtain ⟨_, _, ⟨T2, L2, k2, n2⟩, -, X2, ⟨Lc2, hQ2, l2, y2, z2⟩, st2⟩ := X0.specialBack hx (y := (⟨"java/lang/Record", "<init>", "()V"⟩ : MethodName)) rfl hown (mvT hZ (hw _ (List.mem_of_getElem? (i := 6) rfl))) (mvT hZ (hw _ (List.mem_of_getElem? (i := 7) rfl))) (mvT hZ (hw _ (List.mem_of_getElem? (i := 10) rfl))) (by decide) (backOf (W := 0) (rm2 l Z a0 hw [] a h0 n0 Z0) hZ (hw _ (List.mem_of_getElem? (i := 10) rfl)) (hw _ (List.mem_of_getElem? (i := 9) rfl)) (by decide) (by decide)) (g := (mkF m 1 #[.val (.ref a), .val (.int p1), .val (.int p2), .val (.int p3), .val (.int p4)] [(.ref a)])) rfl (by rw [hml]; rfl) (Steps.refl _) (a := a) (argsL := []) (rest := []) (lenOf own_pd0 rfl) rfl (by show 2 * 0 + _ ≤ _; exact Nat.le_of_eq rfl) (hb hby d1_1) (fun _ _ => ⟨rfl, e0, (by decide : 0 + 0 ≤ _), (by decide : 0 + 0 ≤ _)⟩)
  dsimp only [Pt.U, Pt.locs, Pt.cells, Pt.slots] at X2 l2 y2 z2 st2 hQ2
  subst l2 y2 z2
  obtain ⟨rfl, M2, K2⟩ := hQ2
  have N2 := Fr.app N0 M2
  refine own_go (T' := T2) (g' := (mkF m 4 #[.val (.ref a), .val (.int p1), .val (.int p2), .val (.int p3), .val (.int p4)] [])) (fun _ k => st2.trans k) ?_
  refine own_go (T' := T2) (g' := (mkF m 5 #[.val (.ref a), .val (.int p1), .val (.int p2), .val (.int p3), .val (.int p4)] [(.ref a)])) (fun t k => XS.aloadN X2.here hx rfl (hb hby d1_4) rfl rfl k) ?_
  refine own_go (T' := T2) (g' := (mkF m 6 #[.val (.ref a), .val (.int p1), .val (.int p2), .val (.int p3), .val (.int p4)] [(.int p1), (.ref a)])) (fun t k => XS.iloadN X2.here hx rfl (hb hby d1_5) rfl k) ?_
  obtain ⟨T3, h3, X3, e3, W3, st3⟩ := putF X2 hx hZ hown (host := "") (Or.inl (hw _ (List.mem_of_getElem? (i := 14) rfl))) Via.refl K2 F_startFrom_a E_a (Or.inr ⟨(hw _ (List.mem_of_getElem? (i := 15) rfl)), rfl, hnm⟩) (hw _ (List.mem_of_getElem? (i := 1) rfl)) (ty := .int) (by decide) rfl rfl (g := (mkF m 6 #[.val (.ref a), .val (.int p1), .val (.int p2), .val (.int p3), .val (.int p4)] [(.int p1), (.ref a)])) rfl rfl (hb hby d1_6)
  have N3 := Fr.snoc X3 N2 gn_a
  have E_a := E_a.wr W3
  have F_startTo_a := F_startTo_a.other W3 (Or.inr (slot_ne (Or.inr (hw _ (List.mem_of_getElem? (i := 17) rfl))) (Or.inr (hw _ (List.mem_of_getElem? (i := 15) rfl))) (by decide) (t := .int) (t' := .int) (by decide) (by decide)))
  have F_endFrom_a := F_endFrom_a.other W3 (Or.inr (slot_ne (Or.inr (hw _ (List.mem_of_getElem? (i := 19) rfl))) (Or.inr (hw _ (List.mem_of_getElem? (i := 15) rfl))) (by decide) (t := .int) (t' := .int) (by decide) (by decide)))
  have F_endTo_a := F_endTo_a.other W3 (Or.inr (slot_ne (Or.inr (hw _ (List.mem_of_getElem? (i := 21) rfl))) (Or.inr (hw _ (List.mem_of_getElem? (i := 15) rfl))) (by decide) (t := .int) (t' := .int) (by decide) (by decide)))
  have F_startFrom_a := F_startFrom_a.same W3
  have Z4 : n0 ≤ h3.size := Nat.le_trans Z0 (Keep.of_wr W3).1
  have K5 : Keep h0 h3 [a] := (Keep.refl h0 [a]).wr W3 (Or.inl (List.mem_of_getElem? (i := 0) rfl))
  refine own_go (T' := T3) (g' := (mkF m 9 #[.val (.ref a), .val (.int p1), .val (.int p2), .val (.int p3), .val (.int p4)] [])) (st3) ?_
  refine own_go (T' := T3) (g' := (mkF m 10 #[.val (.ref a), .val (.int p1), .val (.int p2), .val (.int p3), .val (.int p4)] [(.ref a)])) (fun t k => XS.aloadN X3.here hx rfl (hb hby d1_9) rfl rfl k) ?_
  refine own_go (T' := T3) (g' := (mkF m 11 #[.val (.ref a), .val (.int p1), .val (.int p2), .val (.int p3), .val (.int p4)] [(.int p2), (.ref a)])) (fun t k => XS.iloadN X3.here hx rfl (hb hby d1_10) rfl k) ?_
  obtain ⟨T6, h6, X6, e6, W6, st6⟩ := putF X3 hx hZ hown (host := "") (Or.inl (hw _ (List.mem_of_getElem? (i := 16) rfl))) Via.refl e3 F_startTo_a E_a (Or.inr ⟨(hw _ (List.mem_of_getElem? (i := 17) rfl)), rfl, hnm⟩) (hw _ (List.mem_of_getElem? (i := 1) rfl)) (ty := .int) (by decide) rfl rfl (g := (mkF m 11 #[.val (.ref a), .val (.int p1), .val (.int p2), .val (.int p3), .val (.int p4)] [(.int p2), (.ref a)])) rfl rfl (hb hby d1_11)
  have N6 := Fr.snoc X6 N3 gn_a
  have E_a := E_a.wr W6
  have F_startFrom_a := F_startFrom_a.other W6 (Or.inr (slot_ne (Or.inr (hw _ (List.mem_of_getElem? (i := 15) rfl))) (Or.inr (hw _ (List.mem_of_getElem? (i := 17) rfl))) (by decide) (t := .int) (t' := .int) (by decide) (by decide)))
  have F_endFrom_a := F_endFrom_a.other W6 (Or.inr (slot_ne (Or.inr (hw _ (List.mem_of_getElem? (i := 19) rfl))) (Or.inr (hw _ (List.mem_of_getElem? (i := 17) rfl))) (by decide) (t := .int) (t' := .int) (by decide) (by decide)))
  have F_endTo_a := F_endTo_a.other W6 (Or.inr (slot_ne (Or.inr (hw _ (List.mem_of_getElem? (i := 21) rfl))) (Or.inr (hw _ (List.mem_of_getElem? (i := 17) rfl))) (by decide) (t := .int) (t' := .int) (by decide) (by decide)))
  have F_startTo_a := F_startTo_a.same W6
  have Z7 : n0 ≤ h6.size := Nat.le_trans Z4 (Keep.of_wr W6).1
  have K8 : Keep h0 h6 [a] := K5.wr W6 (Or.inl (List.mem_of_getElem? (i := 0) rfl))
  refine own_go (T' := T6) (g' := (mkF m 14 #[.val (.ref a), .val (.int p1), .val (.int p2), .val (.int p3), .val (.int p4)] [])) (st6) ?_
  refine own_go (T' := T6) (g' := (mkF m 15 #[.val (.ref a), .val (.int p1), .val (.int p2), .val (.int p3), .val (.int p4)] [(.ref a)])) (fun t k => XS.aloadN X6.here hx rfl (hb hby d1_14) rfl rfl k) ?_
  refine own_go (T' := T6) (g' := (mkF m 16 #[.val (.ref a), .val (.int p1), .val (.int p2), .val (.int p3), .val (.int p4)] [(.int p3), (.ref a)])) (fun t k => XS.iloadN X6.here hx rfl (hb hby d1_15) rfl k) ?_
  obtain ⟨T9, h9, X9, e9, W9, st9⟩ := putF X6 hx hZ hown (host := "") (Or.inl (hw _ (List.mem_of_getElem? (i := 18) rfl))) Via.refl e6 F_endFrom_a E_a (Or.inr ⟨(hw _ (List.mem_of_getElem? (i := 19) rfl)), rfl, hnm⟩) (hw _ (List.mem_of_getElem? (i := 1) rfl)) (ty := .int) (by decide) rfl rfl (g := (mkF m 16 #[.val (.ref a), .val (.int p1), .val (.int p2), .val (.int p3), .val (.int p4)] [(.int p3), (.ref a)])) rfl rfl (hb hby d1_16)
  have N9 := Fr.snoc X9 N6 gn_a
  have E_a := E_a.wr W9
  have F_startFrom_a := F_startFrom_a.other W9 (Or.inr (slot_ne (Or.inr (hw _ (List.mem_of_getElem? (i := 15) rfl))) (Or.inr (hw _ (List.mem_of_getElem? (i := 19) rfl))) (by decide) (t := .int) (t' := .int) (by decide) (by decide)))
  have F_startTo_a := F_startTo_a.other W9 (Or.inr (slot_ne (Or.inr (hw _ (List.mem_of_getElem? (i := 17) rfl))) (Or.inr (hw _ (List.mem_of_getElem? (i := 19) rfl))) (by decide) (t := .int) (t' := .int) (by decide) (by decide)))
  have F_endTo_a := F_endTo_a.other W9 (Or.inr (slot_ne (Or.inr (hw _ (List.mem_of_getElem? (i := 21) rfl))) (Or.inr (hw _ (List.mem_of_getElem? (i := 19) rfl))) (by decide) (t := .int) (t' := .int) (by decide) (by decide)))
  have F_endFrom_a := F_endFrom_a.same W9
  have Z10 : n0 ≤ h9.size := Nat.le_trans Z7 (Keep.of_wr W9).1
  have K11 : Keep h0 h9 [a] := K8.wr W9 (Or.inl (List.mem_of_getElem? (i := 0) rfl))
  refine own_go (T' := T9) (g' := (mkF m 19 #[.val (.ref a), .val (.int p1), .val (.int p2), .val (.int p3), .val (.int p4)] [])) (st9) ?_
  refine own_go (T' := T9) (g' := (mkF m 20 #[.val (.ref a), .val (.int p1), .val (.int p2), .val (.int p3), .val (.int p4)] [(.ref a)])) (fun t k => XS.aloadN X9.here hx rfl (hb hby d1_19) rfl rfl k) ?_
  refine own_go (T' := T9) (g' := (mkF m 22 #[.val (.ref a), .val (.int p1), .val (.int p2), .val (.int p3), .val (.int p4)] [(.int p4), (.ref a)])) (fun t k => XS.iload X9.here hx rfl (hb hby d1_20) rfl k) ?_
  obtain ⟨T12, h12, X12, e12, W12, st12⟩ := putF X9 hx hZ hown (host := "") (Or.inl (hw _ (List.mem_of_getElem? (i := 20) rfl))) Via.refl e9 F_endTo_a E_a (Or.inr ⟨(hw _ (List.mem_of_getElem? (i := 21) rfl)), rfl, hnm⟩) (hw _ (List.mem_of_getElem? (i := 1) rfl)) (ty := .int) (by decide) rfl rfl (g := (mkF m 22 #[.val (.ref a), .val (.int p1), .val (.int p2), .val (.int p3), .val (.int p4)] [(.int p4), (.ref a)])) rfl rfl (hb hby d1_22)
  have N12 := Fr.snoc X12 N9 gn_a
  have E_a := E_a.wr W12
  have F_startFrom_a := F_startFrom_a.other W12 (Or.inr (slot_ne (Or.inr (hw _ (List.mem_of_getElem? (i := 15) rfl))) (Or.inr (hw _ (List.mem_of_getElem? (i := 21) rfl))) (by decide) (t := .int) (t' := .int) (by decide) (by decide)))
  have F_startTo_a := F_startTo_a.other W12 (Or.inr (slot_ne (Or.inr (hw _ (List.mem_of_getElem? (i := 17) rfl))) (Or.inr (hw _ (List.mem_of_getElem? (i := 21) rfl))) (by decide) (t := .int) (t' := .int) (by decide) (by decide)))
  have F_endFrom_a := F_endFrom_a.other W12 (Or.inr (slot_ne (Or.inr (hw _ (List.mem_of_getElem? (i := 19) rfl))) (Or.inr (hw _ (List.mem_of_getElem? (i := 21) rfl))) (by decide) (t := .int) (t' := .int) (by decide) (by decide)))
  have F_endTo_a := F_endTo_a.same W12
  have Z13 : n0 ≤ h12.size := Nat.le_trans Z10 (Keep.of_wr W12).1
  have K14 : Keep h0 h12 [a] := K11.wr W12 (Or.inl (List.mem_of_getElem? (i := 0) rfl))
  refine own_go (T' := T12) (g' := (mkF m 25 #[.val (.ref a), .val (.int p1), .val (.int p2), .val (.int p3), .val (.int p4)] [])) (st12) ?_
  exact own_retV X12 hx Bd.notSynchronized Bd.returns (hb hby d1_25) ⟨rfl, N12, by rw [e12]; exact K14, by rw [e12]; exact F_startFrom_a, by rw [e12]; exact F_startTo_a, by rw [e12]; exact F_endFrom_a, by rw [e12]; exact F_endTo_a⟩ (by decide) (by decide)
theorem d4_0 : decode prog_143_method_4_code 0 = .ok (.iload_n 1, 1) := by decide +kernel
theorem d4_1 : decode prog_143_method_4_code 1 = .ok (.aload_n 0, 1) := by decide +kernel
theorem d4_2 : decode prog_143_method_4_code 2 = .ok (.getfield 7, 3) := by decide +kernel
theorem d4_5 : decode prog_143_method_4_code 5 = .ok (.if_icmp .lt 31, 3) := by decide +kernel
theorem d4_8 : decode prog_143_method_4_code 8 = .ok (.iload_n 1, 1) := by decide +kernel
theorem d4_9 : decode prog_143_method_4_code 9 = .ok (.aload_n 0, 1) := by decide +kernel
theorem d4_10 : decode prog_143_method_4_code 10 = .ok (.getfield 13, 3) := by decide +kernel
theorem d4_13 : decode prog_143_method_4_code 13 = .ok (.if_icmp .ge 23, 3) := by decide +kernel
theorem d4_16 : decode prog_143_method_4_code 16 = .ok (.iload_n 2, 1) := by decide +kernel
theorem d4_17 : decode prog_143_method_4_code 17 = .ok (.aload_n 0, 1) := by decide +kernel
theorem d4_18 : decode prog_143_method_4_code 18 = .ok (.getfield 16, 3) := by decide +kernel
theorem d4_21 : decode prog_143_method_4_code 21 = .ok (.if_icmp .lt 15, 3) := by decide +kernel
theorem d4_24 : decode prog_143_method_4_code 24 = .ok (.iload_n 2, 1) := by decide +kernel
theorem d4_25 : decode prog_143_method_4_code 25 = .ok (.aload_n 0, 1) := by decide +kernel
theorem d4_26 : decode prog_143_method_4_code 26 = .ok (.getfield 19, 3) := by decide +kernel
theorem d4_29 : decode prog_143_method_4_code 29 = .ok (.if_icmp .ge 7, 3) := by decide +kernel
theorem d4_32 : decode prog_143_method_4_code 32 = .ok (.iconst 1, 1) := by decide +kernel
theorem d4_33 : decode prog_143_method_4_code 33 = .ok (.goto 4, 3) := by decide +kernel
theorem d4_36 : decode prog_143_method_4_code 36 = .ok (.iconst 0, 1) := by decide +kernel
theorem d4_37 : decode prog_143_method_4_code 37 = .ok (.ireturn, 1) := by decide +kernel
theorem pn_4 : plainName "com/example/paths_to_documents/pathstodocuments/query/StretchBox" = true := by first | (simp [plainName, overriddenIn]; done) | decide +kernel
theorem ef_4 (m : MethodId) (x0 : Addr) (x1 : Int32) (x2 : Int32) : entryFrame m #[(.ref x0), (.int x1), (.int x2)] 3 = mkF m 0 #[.val (.ref x0), .val (.int x1), .val (.int x2)] [] := by first | (simp [entryFrame, mkF, argsToLocals, Value.category]; done) | rfl
def own_holds (q1 : Int32) (q2 : Int32) (q3 : Int32) (q4 : Int32) (p1 : Int32) (p2 : Int32) : Int32 :=
  if p1 < q1 then (0 : Int32) else
  if p1 < q2 then (if p2 < q3 then (0 : Int32) else
    if p2 < q4 then (1 : Int32) else
    (0 : Int32)) else
  (0 : Int32)
def Q4 (Z : State) (a : Addr) (q1 : Int32) (q2 : Int32) (q3 : Int32) (q4 : Int32) (p1 : Int32) (p2 : Int32) (h0 : Heap) (n0 : Nat) (v : Option Value) (h : Heap) (L : List Loc) : Prop := v = some (.int (own_holds q1 q2 q3 q4 p1 p2)) ∧ Fr n0 L ∧ h = h0
set_option maxRecDepth 65536 in
set_option maxHeartbeats 40000000 in
theorem rm4 (l : Launch) (Z : State) (a0 : Array Value) (hw : ∀ d ∈ tables_1, d.before a0 Z = true) (ws : List Jvm.Cond) (a : Addr) (q1 : Int32) (q2 : Int32) (q3 : Int32) (q4 : Int32) (p1 : Int32) (p2 : Int32) (h0 : Heap) (n0 : Nat) (Z0 : n0 ≤ h0.size) (F_startFrom_a : Fld Z h0 a "com/example/paths_to_documents/pathstodocuments/query/StretchBox" "startFrom" "I" (.int q1)) (F_startTo_a : Fld Z h0 a "com/example/paths_to_documents/pathstodocuments/query/StretchBox" "startTo" "I" (.int q2)) (F_endFrom_a : Fld Z h0 a "com/example/paths_to_documents/pathstodocuments/query/StretchBox" "endFrom" "I" (.int q3)) (F_endTo_a : Fld Z h0 a "com/example/paths_to_documents/pathstodocuments/query/StretchBox" "endTo" "I" (.int q4)) :
    MetFree l (⟨"com/example/paths_to_documents/pathstodocuments/query/StretchBox", "holds", "(II)Z"⟩ : MethodName) (head1 (Jvm.Cond.code (⟨"com/example/paths_to_documents/pathstodocuments/query/StretchBox", "holds", "(II)Z"⟩ : MethodName) prog_143_method_4_code 3 (some .boolean) :: ws) ({ frames := 0, cells := 0, slots := 0, locals := 0 } : Room)) (fun aa U => aa = #[(.ref a), (.int p1), (.int p2)] ∧ Z.Warmed39 U.vm ∧ U.heap = h0) (fun _ _ _ _ _ => True) (fun _ U o U' => ∃ v L, o = .returned v ∧ Q4 Z a q1 q2 q3 q4 p1 p2 h0 n0 v U'.heap L ∧ FrameEnd U o U' L ({ frames := 0, cells := 0, slots := 0, locals := 0 } : Room).cells ({ frames := 0, cells := 0, slots := 0, locals := 0 } : Room).slots) := by
  refine MetFree.of_bodySF (plainFor_of_name pn_4) hisR ?_
  intro p e s m args below meth c s₁ Bd hml0 hP hK
  obtain ⟨rfl, hZ, hh⟩ := hP
  have hx := Bd.exec
  have hby := Bd.bytes
  have hml : c.maxLocals = 3 := hml0
  have hown : s.vm.findClass "com/example/paths_to_documents/pathstodocuments/query/StretchBox" = some m.cls := findClass_of_methodNamed Bd.named
  have hnm := (name_of_methodNamed Bd.named Bd.method).1
  have X0 : Stand p l e ({ frames := 0, cells := 0, slots := 0, locals := 0 } : Room) s m #[(.ref a), (.int p1), (.int p2)] below meth c s₁ [] 0 0 := Stand.of_body Bd
  have e0 : s₁.heap = h0 := by rw [← hh, Bd.state]; rfl
  have N0 := Fr.nil n0
  refine own_enter (QQ := Q4 Z a q1 q2 q3 q4 p1 p2 h0 n0) (ef_4 m a p1 p2) ?_
  refine own_go (T' := s₁) (g' := (mkF m 1 #[.val (.ref a), .val (.int p1), .val (.int p2)] [(.int p1)])) (fun t k => XS.iloadN X0.here hx rfl (hb hby d4_0) rfl k) ?_
  refine own_go (T' := s₁) (g' := (mkF m 2 #[.val (.ref a), .val (.int p1), .val (.int p2)] [(.ref a), (.int p1)])) (fun t k => XS.aloadN X0.here hx rfl (hb hby d4_1) rfl rfl k) ?_
  obtain ⟨T15, X15, e15, st15⟩ := getF X0 hx hZ hown (host := "") (Or.inl (hw _ (List.mem_of_getElem? (i := 14) rfl))) Via.refl e0 F_startFrom_a (g := (mkF m 2 #[.val (.ref a), .val (.int p1), .val (.int p2)] [(.ref a), (.int p1)])) rfl rfl (hb hby d4_2)
  refine own_go (T' := T15) (g' := (mkF m 5 #[.val (.ref a), .val (.int p1), .val (.int p2)] [(.int q1), (.int p1)])) (st15) ?_
  by_cases c5_1 : p1 < q1
  · refine own_go (T' := T15) (g' := (mkF m 36 #[.val (.ref a), .val (.int p1), .val (.int p2)] [])) (fun t k => XS.icmpYes X15.here hx rfl (pc0 := 5) (pc' := 36) rfl (hb hby d4_5) rfl (tlt c5_1).1 (by decide) (by decide) k) ?_
    refine own_go (T' := T15) (g' := (mkF m 37 #[.val (.ref a), .val (.int p1), .val (.int p2)] [(.int (0 : Int32))])) (fun t k => XS.iconst X15.here hx rfl (hb hby d4_36) k) ?_
    exact own_retZ X15 hx Bd.notSynchronized Bd.returns (hb hby d4_37) rfl ⟨by unfold own_holds; rw [if_pos c5_1], N0, e15⟩ (by decide) (by decide)
  · refine own_go (T' := T15) (g' := (mkF m 8 #[.val (.ref a), .val (.int p1), .val (.int p2)] [])) (fun t k => XS.icmpNo X15.here hx rfl (hb hby d4_5) rfl (flt c5_1).1 k) ?_
    refine own_go (T' := T15) (g' := (mkF m 9 #[.val (.ref a), .val (.int p1), .val (.int p2)] [(.int p1)])) (fun t k => XS.iloadN X15.here hx rfl (hb hby d4_8) rfl k) ?_
    refine own_go (T' := T15) (g' := (mkF m 10 #[.val (.ref a), .val (.int p1), .val (.int p2)] [(.ref a), (.int p1)])) (fun t k => XS.aloadN X15.here hx rfl (hb hby d4_9) rfl rfl k) ?_
    obtain ⟨T16, X16, e16, st16⟩ := getF X15 hx hZ hown (host := "") (Or.inl (hw _ (List.mem_of_getElem? (i := 16) rfl))) Via.refl e15 F_startTo_a (g := (mkF m 10 #[.val (.ref a), .val (.int p1), .val (.int p2)] [(.ref a), (.int p1)])) rfl rfl (hb hby d4_10)
    refine own_go (T' := T16) (g' := (mkF m 13 #[.val (.ref a), .val (.int p1), .val (.int p2)] [(.int q2), (.int p1)])) (st16) ?_
    by_cases c13_2 : p1 < q2
    · refine own_go (T' := T16) (g' := (mkF m 16 #[.val (.ref a), .val (.int p1), .val (.int p2)] [])) (fun t k => XS.icmpNo X16.here hx rfl (hb hby d4_13) rfl (tlt c13_2).2.1 k) ?_
      refine own_go (T' := T16) (g' := (mkF m 17 #[.val (.ref a), .val (.int p1), .val (.int p2)] [(.int p2)])) (fun t k => XS.iloadN X16.here hx rfl (hb hby d4_16) rfl k) ?_
      refine own_go (T' := T16) (g' := (mkF m 18 #[.val (.ref a), .val (.int p1), .val (.int p2)] [(.ref a), (.int p2)])) (fun t k => XS.aloadN X16.here hx rfl (hb hby d4_17) rfl rfl k) ?_
      obtain ⟨T17, X17, e17, st17⟩ := getF X16 hx hZ hown (host := "") (Or.inl (hw _ (List.mem_of_getElem? (i := 18) rfl))) Via.refl e16 F_endFrom_a (g := (mkF m 18 #[.val (.ref a), .val (.int p1), .val (.int p2)] [(.ref a), (.int p2)])) rfl rfl (hb hby d4_18)
      refine own_go (T' := T17) (g' := (mkF m 21 #[.val (.ref a), .val (.int p1), .val (.int p2)] [(.int q3), (.int p2)])) (st17) ?_
      by_cases c21_3 : p2 < q3
      · refine own_go (T' := T17) (g' := (mkF m 36 #[.val (.ref a), .val (.int p1), .val (.int p2)] [])) (fun t k => XS.icmpYes X17.here hx rfl (pc0 := 21) (pc' := 36) rfl (hb hby d4_21) rfl (tlt c21_3).1 (by decide) (by decide) k) ?_
        refine own_go (T' := T17) (g' := (mkF m 37 #[.val (.ref a), .val (.int p1), .val (.int p2)] [(.int (0 : Int32))])) (fun t k => XS.iconst X17.here hx rfl (hb hby d4_36) k) ?_
        exact own_retZ X17 hx Bd.notSynchronized Bd.returns (hb hby d4_37) rfl ⟨by unfold own_holds; rw [if_neg c5_1, if_pos c13_2, if_pos c21_3], N0, e17⟩ (by decide) (by decide)
      · refine own_go (T' := T17) (g' := (mkF m 24 #[.val (.ref a), .val (.int p1), .val (.int p2)] [])) (fun t k => XS.icmpNo X17.here hx rfl (hb hby d4_21) rfl (flt c21_3).1 k) ?_
        refine own_go (T' := T17) (g' := (mkF m 25 #[.val (.ref a), .val (.int p1), .val (.int p2)] [(.int p2)])) (fun t k => XS.iloadN X17.here hx rfl (hb hby d4_24) rfl k) ?_
        refine own_go (T' := T17) (g' := (mkF m 26 #[.val (.ref a), .val (.int p1), .val (.int p2)] [(.ref a), (.int p2)])) (fun t k => XS.aloadN X17.here hx rfl (hb hby d4_25) rfl rfl k) ?_
        obtain ⟨T18, X18, e18, st18⟩ := getF X17 hx hZ hown (host := "") (Or.inl (hw _ (List.mem_of_getElem? (i := 20) rfl))) Via.refl e17 F_endTo_a (g := (mkF m 26 #[.val (.ref a), .val (.int p1), .val (.int p2)] [(.ref a), (.int p2)])) rfl rfl (hb hby d4_26)
        refine own_go (T' := T18) (g' := (mkF m 29 #[.val (.ref a), .val (.int p1), .val (.int p2)] [(.int q4), (.int p2)])) (st18) ?_
        by_cases c29_4 : p2 < q4
        · refine own_go (T' := T18) (g' := (mkF m 32 #[.val (.ref a), .val (.int p1), .val (.int p2)] [])) (fun t k => XS.icmpNo X18.here hx rfl (hb hby d4_29) rfl (tlt c29_4).2.1 k) ?_
          refine own_go (T' := T18) (g' := (mkF m 33 #[.val (.ref a), .val (.int p1), .val (.int p2)] [(.int (1 : Int32))])) (fun t k => XS.iconst X18.here hx rfl (hb hby d4_32) k) ?_
          refine own_go (T' := T18) (g' := (mkF m 37 #[.val (.ref a), .val (.int p1), .val (.int p2)] [(.int (1 : Int32))])) (fun t k => XS.goto X18.here hx rfl (pc0 := 33) (pc' := 37) rfl (hb hby d4_33) (by decide) (by decide) k) ?_
          exact own_retZ X18 hx Bd.notSynchronized Bd.returns (hb hby d4_37) rfl ⟨by unfold own_holds; rw [if_neg c5_1, if_pos c13_2, if_neg c21_3, if_pos c29_4], N0, e18⟩ (by decide) (by decide)
        · refine own_go (T' := T18) (g' := (mkF m 36 #[.val (.ref a), .val (.int p1), .val (.int p2)] [])) (fun t k => XS.icmpYes X18.here hx rfl (pc0 := 29) (pc' := 36) rfl (hb hby d4_29) rfl (flt c29_4).2.1 (by decide) (by decide) k) ?_
          refine own_go (T' := T18) (g' := (mkF m 37 #[.val (.ref a), .val (.int p1), .val (.int p2)] [(.int (0 : Int32))])) (fun t k => XS.iconst X18.here hx rfl (hb hby d4_36) k) ?_
          exact own_retZ X18 hx Bd.notSynchronized Bd.returns (hb hby d4_37) rfl ⟨by unfold own_holds; rw [if_neg c5_1, if_pos c13_2, if_neg c21_3, if_neg c29_4], N0, e18⟩ (by decide) (by decide)
    · refine own_go (T' := T16) (g' := (mkF m 36 #[.val (.ref a), .val (.int p1), .val (.int p2)] [])) (fun t k => XS.icmpYes X16.here hx rfl (pc0 := 13) (pc' := 36) rfl (hb hby d4_13) rfl (flt c13_2).2.1 (by decide) (by decide) k) ?_
      refine own_go (T' := T16) (g' := (mkF m 37 #[.val (.ref a), .val (.int p1), .val (.int p2)] [(.int (0 : Int32))])) (fun t k => XS.iconst X16.here hx rfl (hb hby d4_36) k) ?_
      exact own_retZ X16 hx Bd.notSynchronized Bd.returns (hb hby d4_37) rfl ⟨by unfold own_holds; rw [if_neg c5_1, if_neg c13_2], N0, e16⟩ (by decide) (by decide)
theorem d5_0 : decode method_2_code 0 = .ok (.iload_n 0, 1) := by decide +kernel
theorem d5_1 : decode method_2_code 1 = .ok (.i2l, 1) := by decide +kernel
theorem d5_2 : decode method_2_code 2 = .ok (.iload_n 1, 1) := by decide +kernel
theorem d5_3 : decode method_2_code 3 = .ok (.i2l, 1) := by decide +kernel
theorem d5_4 : decode method_2_code 4 = .ok (.lsub, 1) := by decide +kernel
theorem d5_5 : decode method_2_code 5 = .ok (.lstore_n 3, 1) := by decide +kernel
theorem d5_6 : decode method_2_code 6 = .ok (.iload_n 2, 1) := by decide +kernel
theorem d5_7 : decode method_2_code 7 = .ok (.i2l, 1) := by decide +kernel
theorem d5_8 : decode method_2_code 8 = .ok (.iload_n 0, 1) := by decide +kernel
theorem d5_9 : decode method_2_code 9 = .ok (.i2l, 1) := by decide +kernel
theorem d5_10 : decode method_2_code 10 = .ok (.lsub, 1) := by decide +kernel
theorem d5_11 : decode method_2_code 11 = .ok (.lstore 5, 2) := by decide +kernel
theorem d5_13 : decode method_2_code 13 = .ok (.lload_n 3, 1) := by decide +kernel
theorem d5_14 : decode method_2_code 14 = .ok (.lconst 0, 1) := by decide +kernel
theorem d5_15 : decode method_2_code 15 = .ok (.lcmp, 1) := by decide +kernel
theorem d5_16 : decode method_2_code 16 = .ok (.ifCond .lt 14, 3) := by decide +kernel
theorem d5_19 : decode method_2_code 19 = .ok (.lload 5, 2) := by decide +kernel
theorem d5_21 : decode method_2_code 21 = .ok (.lconst 1, 1) := by decide +kernel
theorem d5_22 : decode method_2_code 22 = .ok (.lcmp, 1) := by decide +kernel
theorem d5_23 : decode method_2_code 23 = .ok (.ifCond .lt 7, 3) := by decide +kernel
theorem d5_26 : decode method_2_code 26 = .ok (.iconst 1, 1) := by decide +kernel
theorem d5_27 : decode method_2_code 27 = .ok (.goto 4, 3) := by decide +kernel
theorem d5_30 : decode method_2_code 30 = .ok (.iconst 0, 1) := by decide +kernel
theorem d5_31 : decode method_2_code 31 = .ok (.ireturn, 1) := by decide +kernel
theorem pn_5 : plainName "com/example/paths_to_documents/pathstodocuments/query/StretchBoxHoldsPinLaw" = true := by first | (simp [plainName, overriddenIn]; done) | decide +kernel
theorem ef_5 (m : MethodId) (x0 : Int32) (x1 : Int32) (x2 : Int32) : entryFrame m #[(.int x0), (.int x1), (.int x2)] 7 = mkF m 0 #[.val (.int x0), .val (.int x1), .val (.int x2), .unset, .unset, .unset, .unset] [] := by first | (simp [entryFrame, mkF, argsToLocals, Value.category]; done) | rfl
def own_half (p1 : Int32) (p2 : Int32) (p3 : Int32) : Int32 :=
  if ((p1.toInt64) - (p2.toInt64)) < (0 : Int64) then (0 : Int32) else
  if ((p3.toInt64) - (p1.toInt64)) < (1 : Int64) then (0 : Int32) else
  (1 : Int32)
def Q5 (Z : State) (p1 : Int32) (p2 : Int32) (p3 : Int32) (h0 : Heap) (n0 : Nat) (v : Option Value) (h : Heap) (L : List Loc) : Prop := v = some (.int (own_half p1 p2 p3)) ∧ Fr n0 L ∧ h = h0
set_option maxRecDepth 65536 in
set_option maxHeartbeats 40000000 in
theorem rm5 (l : Launch) (Z : State) (a0 : Array Value) (hw : ∀ d ∈ tables_1, d.before a0 Z = true) (ws : List Jvm.Cond) (p1 : Int32) (p2 : Int32) (p3 : Int32) (h0 : Heap) (n0 : Nat) (Z0 : n0 ≤ h0.size) :
    MetFree l (⟨"com/example/paths_to_documents/pathstodocuments/query/StretchBoxHoldsPinLaw", "inHalfOpen", "(III)Z"⟩ : MethodName) (head1 (Jvm.Cond.code (⟨"com/example/paths_to_documents/pathstodocuments/query/StretchBoxHoldsPinLaw", "inHalfOpen", "(III)Z"⟩ : MethodName) method_2_code 7 (some .boolean) :: ws) ({ frames := 0, cells := 0, slots := 0, locals := 0 } : Room)) (fun aa U => aa = #[(.int p1), (.int p2), (.int p3)] ∧ Z.Warmed39 U.vm ∧ U.heap = h0) (fun _ _ _ _ _ => True) (fun _ U o U' => ∃ v L, o = .returned v ∧ Q5 Z p1 p2 p3 h0 n0 v U'.heap L ∧ FrameEnd U o U' L ({ frames := 0, cells := 0, slots := 0, locals := 0 } : Room).cells ({ frames := 0, cells := 0, slots := 0, locals := 0 } : Room).slots) := by
  refine MetFree.of_bodySF (plainFor_of_name pn_5) hisR ?_
  intro p e s m args below meth c s₁ Bd hml0 hP hK
  obtain ⟨rfl, hZ, hh⟩ := hP
  have hx := Bd.exec
  have hby := Bd.bytes
  have hml : c.maxLocals = 7 := hml0
  have hown : s.vm.findClass "com/example/paths_to_documents/pathstodocuments/query/StretchBoxHoldsPinLaw" = some m.cls := findClass_of_methodNamed Bd.named
  have hnm := (name_of_methodNamed Bd.named Bd.method).1
  have X0 : Stand p l e ({ frames := 0, cells := 0, slots := 0, locals := 0 } : Room) s m #[(.int p1), (.int p2), (.int p3)] below meth c s₁ [] 0 0 := Stand.of_body Bd
  have e0 : s₁.heap = h0 := by rw [← hh, Bd.state]; rfl
  have N0 := Fr.nil n0
  refine own_enter (QQ := Q5 Z p1 p2 p3 h0 n0) (ef_5 m p1 p2 p3) ?_
  refine own_go (T' := s₁) (g' := (mkF m 1 #[.val (.int p1), .val (.int p2), .val (.int p3), .unset, .unset, .unset, .unset] [(.int p1)])) (fun t k => XS.iloadN X0.here hx rfl (hb hby d5_0) rfl k) ?_
  refine own_go (T' := s₁) (g' := (mkF m 2 #[.val (.int p1), .val (.int p2), .val (.int p3), .unset, .unset, .unset, .unset] [(.long (p1.toInt64))])) (fun t k => XS.i2l X0.here hx rfl (hb hby d5_1) rfl k) ?_
  refine own_go (T' := s₁) (g' := (mkF m 3 #[.val (.int p1), .val (.int p2), .val (.int p3), .unset, .unset, .unset, .unset] [(.int p2), (.long (p1.toInt64))])) (fun t k => XS.iloadN X0.here hx rfl (hb hby d5_2) rfl k) ?_
  refine own_go (T' := s₁) (g' := (mkF m 4 #[.val (.int p1), .val (.int p2), .val (.int p3), .unset, .unset, .unset, .unset] [(.long (p2.toInt64)), (.long (p1.toInt64))])) (fun t k => XS.i2l X0.here hx rfl (hb hby d5_3) rfl k) ?_
  refine own_go (T' := s₁) (g' := (mkF m 5 #[.val (.int p1), .val (.int p2), .val (.int p3), .unset, .unset, .unset, .unset] [(.long ((p1.toInt64) - (p2.toInt64)))])) (fun t k => XS.lsub X0.here hx rfl (hb hby d5_4) rfl k) ?_
  refine own_go (T' := s₁) (g' := (mkF m 6 #[.val (.int p1), .val (.int p2), .val (.int p3), .val (.long ((p1.toInt64) - (p2.toInt64))), .second, .unset, .unset] [])) (fun t k => XS.lstoreN X0.here hx rfl (hb hby d5_5) rfl (l' := #[.val (.int p1), .val (.int p2), .val (.int p3), .val (.long ((p1.toInt64) - (p2.toInt64))), .second, .unset, .unset]) rfl k) ?_
  refine own_go (T' := s₁) (g' := (mkF m 7 #[.val (.int p1), .val (.int p2), .val (.int p3), .val (.long ((p1.toInt64) - (p2.toInt64))), .second, .unset, .unset] [(.int p3)])) (fun t k => XS.iloadN X0.here hx rfl (hb hby d5_6) rfl k) ?_
  refine own_go (T' := s₁) (g' := (mkF m 8 #[.val (.int p1), .val (.int p2), .val (.int p3), .val (.long ((p1.toInt64) - (p2.toInt64))), .second, .unset, .unset] [(.long (p3.toInt64))])) (fun t k => XS.i2l X0.here hx rfl (hb hby d5_7) rfl k) ?_
  refine own_go (T' := s₁) (g' := (mkF m 9 #[.val (.int p1), .val (.int p2), .val (.int p3), .val (.long ((p1.toInt64) - (p2.toInt64))), .second, .unset, .unset] [(.int p1), (.long (p3.toInt64))])) (fun t k => XS.iloadN X0.here hx rfl (hb hby d5_8) rfl k) ?_
  refine own_go (T' := s₁) (g' := (mkF m 10 #[.val (.int p1), .val (.int p2), .val (.int p3), .val (.long ((p1.toInt64) - (p2.toInt64))), .second, .unset, .unset] [(.long (p1.toInt64)), (.long (p3.toInt64))])) (fun t k => XS.i2l X0.here hx rfl (hb hby d5_9) rfl k) ?_
  refine own_go (T' := s₁) (g' := (mkF m 11 #[.val (.int p1), .val (.int p2), .val (.int p3), .val (.long ((p1.toInt64) - (p2.toInt64))), .second, .unset, .unset] [(.long ((p3.toInt64) - (p1.toInt64)))])) (fun t k => XS.lsub X0.here hx rfl (hb hby d5_10) rfl k) ?_
  refine own_go (T' := s₁) (g' := (mkF m 13 #[.val (.int p1), .val (.int p2), .val (.int p3), .val (.long ((p1.toInt64) - (p2.toInt64))), .second, .val (.long ((p3.toInt64) - (p1.toInt64))), .second] [])) (fun t k => XS.lstore X0.here hx rfl (hb hby d5_11) rfl (l' := #[.val (.int p1), .val (.int p2), .val (.int p3), .val (.long ((p1.toInt64) - (p2.toInt64))), .second, .val (.long ((p3.toInt64) - (p1.toInt64))), .second]) rfl k) ?_
  refine own_go (T' := s₁) (g' := (mkF m 14 #[.val (.int p1), .val (.int p2), .val (.int p3), .val (.long ((p1.toInt64) - (p2.toInt64))), .second, .val (.long ((p3.toInt64) - (p1.toInt64))), .second] [(.long ((p1.toInt64) - (p2.toInt64)))])) (fun t k => XS.lloadN X0.here hx rfl (hb hby d5_13) rfl k) ?_
  refine own_go (T' := s₁) (g' := (mkF m 15 #[.val (.int p1), .val (.int p2), .val (.int p3), .val (.long ((p1.toInt64) - (p2.toInt64))), .second, .val (.long ((p3.toInt64) - (p1.toInt64))), .second] [(.long (0 : Int64)), (.long ((p1.toInt64) - (p2.toInt64)))])) (fun t k => XS.lconst X0.here hx rfl (hb hby d5_14) k) ?_
  refine own_go (T' := s₁) (g' := (mkF m 16 #[.val (.int p1), .val (.int p2), .val (.int p3), .val (.long ((p1.toInt64) - (p2.toInt64))), .second, .val (.long ((p3.toInt64) - (p1.toInt64))), .second] [(.int (lcmpW ((p1.toInt64) - (p2.toInt64)) (0 : Int64)))])) (fun t k => XS.lcmp X0.here hx rfl (hb hby d5_15) rfl k) ?_
  by_cases c16_1 : ((p1.toInt64) - (p2.toInt64)) < (0 : Int64)
  · refine own_go (T' := s₁) (g' := (mkF m 30 #[.val (.int p1), .val (.int p2), .val (.int p3), .val (.long ((p1.toInt64) - (p2.toInt64))), .second, .val (.long ((p3.toInt64) - (p1.toInt64))), .second] [])) (fun t k => XS.ifYes X0.here hx rfl (pc0 := 16) (pc' := 30) rfl (hb hby d5_16) rfl ((if0 _ _).trans (tlt ((lw_lt _ _).mpr c16_1)).1) (by decide) (by decide) k) ?_
    refine own_go (T' := s₁) (g' := (mkF m 31 #[.val (.int p1), .val (.int p2), .val (.int p3), .val (.long ((p1.toInt64) - (p2.toInt64))), .second, .val (.long ((p3.toInt64) - (p1.toInt64))), .second] [(.int (0 : Int32))])) (fun t k => XS.iconst X0.here hx rfl (hb hby d5_30) k) ?_
    exact own_retZ X0 hx Bd.notSynchronized Bd.returns (hb hby d5_31) rfl ⟨by unfold own_half; rw [if_pos c16_1], N0, e0⟩ (by decide) (by decide)
  · refine own_go (T' := s₁) (g' := (mkF m 19 #[.val (.int p1), .val (.int p2), .val (.int p3), .val (.long ((p1.toInt64) - (p2.toInt64))), .second, .val (.long ((p3.toInt64) - (p1.toInt64))), .second] [])) (fun t k => XS.ifNo X0.here hx rfl (hb hby d5_16) rfl ((if0 _ _).trans (flt (mt (lw_lt _ _).mp c16_1)).1) k) ?_
    refine own_go (T' := s₁) (g' := (mkF m 21 #[.val (.int p1), .val (.int p2), .val (.int p3), .val (.long ((p1.toInt64) - (p2.toInt64))), .second, .val (.long ((p3.toInt64) - (p1.toInt64))), .second] [(.long ((p3.toInt64) - (p1.toInt64)))])) (fun t k => XS.lload X0.here hx rfl (hb hby d5_19) rfl k) ?_
    refine own_go (T' := s₁) (g' := (mkF m 22 #[.val (.int p1), .val (.int p2), .val (.int p3), .val (.long ((p1.toInt64) - (p2.toInt64))), .second, .val (.long ((p3.toInt64) - (p1.toInt64))), .second] [(.long (1 : Int64)), (.long ((p3.toInt64) - (p1.toInt64)))])) (fun t k => XS.lconst X0.here hx rfl (hb hby d5_21) k) ?_
    refine own_go (T' := s₁) (g' := (mkF m 23 #[.val (.int p1), .val (.int p2), .val (.int p3), .val (.long ((p1.toInt64) - (p2.toInt64))), .second, .val (.long ((p3.toInt64) - (p1.toInt64))), .second] [(.int (lcmpW ((p3.toInt64) - (p1.toInt64)) (1 : Int64)))])) (fun t k => XS.lcmp X0.here hx rfl (hb hby d5_22) rfl k) ?_
    by_cases c23_2 : ((p3.toInt64) - (p1.toInt64)) < (1 : Int64)
    · refine own_go (T' := s₁) (g' := (mkF m 30 #[.val (.int p1), .val (.int p2), .val (.int p3), .val (.long ((p1.toInt64) - (p2.toInt64))), .second, .val (.long ((p3.toInt64) - (p1.toInt64))), .second] [])) (fun t k => XS.ifYes X0.here hx rfl (pc0 := 23) (pc' := 30) rfl (hb hby d5_23) rfl ((if0 _ _).trans (tlt ((lw_lt _ _).mpr c23_2)).1) (by decide) (by decide) k) ?_
      refine own_go (T' := s₁) (g' := (mkF m 31 #[.val (.int p1), .val (.int p2), .val (.int p3), .val (.long ((p1.toInt64) - (p2.toInt64))), .second, .val (.long ((p3.toInt64) - (p1.toInt64))), .second] [(.int (0 : Int32))])) (fun t k => XS.iconst X0.here hx rfl (hb hby d5_30) k) ?_
      exact own_retZ X0 hx Bd.notSynchronized Bd.returns (hb hby d5_31) rfl ⟨by unfold own_half; rw [if_neg c16_1, if_pos c23_2], N0, e0⟩ (by decide) (by decide)
    · refine own_go (T' := s₁) (g' := (mkF m 26 #[.val (.int p1), .val (.int p2), .val (.int p3), .val (.long ((p1.toInt64) - (p2.toInt64))), .second, .val (.long ((p3.toInt64) - (p1.toInt64))), .second] [])) (fun t k => XS.ifNo X0.here hx rfl (hb hby d5_23) rfl ((if0 _ _).trans (flt (mt (lw_lt _ _).mp c23_2)).1) k) ?_
      refine own_go (T' := s₁) (g' := (mkF m 27 #[.val (.int p1), .val (.int p2), .val (.int p3), .val (.long ((p1.toInt64) - (p2.toInt64))), .second, .val (.long ((p3.toInt64) - (p1.toInt64))), .second] [(.int (1 : Int32))])) (fun t k => XS.iconst X0.here hx rfl (hb hby d5_26) k) ?_
      refine own_go (T' := s₁) (g' := (mkF m 31 #[.val (.int p1), .val (.int p2), .val (.int p3), .val (.long ((p1.toInt64) - (p2.toInt64))), .second, .val (.long ((p3.toInt64) - (p1.toInt64))), .second] [(.int (1 : Int32))])) (fun t k => XS.goto X0.here hx rfl (pc0 := 27) (pc' := 31) rfl (hb hby d5_27) (by decide) (by decide) k) ?_
      exact own_retZ X0 hx Bd.notSynchronized Bd.returns (hb hby d5_31) rfl ⟨by unfold own_half; rw [if_neg c16_1, if_neg c23_2], N0, e0⟩ (by decide) (by decide)
theorem own_half_eq (x f t : Int32) : own_half x f t = if x < f then 0 else if x < t then 1 else 0 := by
  have b1 := Int32.toInt_lt x
  have b2 := Int32.le_toInt x
  have b3 := Int32.toInt_lt f
  have b4 := Int32.le_toInt f
  have b5 := Int32.toInt_lt t
  have b6 := Int32.le_toInt t
  have a1 : (x.toInt64 - f.toInt64).toInt = x.toInt - f.toInt := by
    rw [Jvm.Kit.i64_sub (by simp only [Jvm.Kit.i64_of_i32]; omega) (by simp only [Jvm.Kit.i64_of_i32]; omega), Jvm.Kit.i64_of_i32, Jvm.Kit.i64_of_i32]
  have a2 : (t.toInt64 - x.toInt64).toInt = t.toInt - x.toInt := by
    rw [Jvm.Kit.i64_sub (by simp only [Jvm.Kit.i64_of_i32]; omega) (by simp only [Jvm.Kit.i64_of_i32]; omega), Jvm.Kit.i64_of_i32, Jvm.Kit.i64_of_i32]
  have t0 : (0 : Int64).toInt = 0 := by decide
  have t1 : (1 : Int64).toInt = 1 := by decide
  unfold own_half
  simp only [Int64.lt_iff_toInt_lt, Int32.lt_iff_toInt_lt, a1, a2, t0, t1]
  repeat' split
  all_goals first | rfl | (exfalso; omega)
theorem own_pinA {a b c d s e : Int32} (h1 : own_half s a b = 0) : own_holds a b c d s e = 0 := by
  rw [own_half_eq] at h1
  unfold own_holds
  (repeat' split at h1) <;> (repeat' split) <;> first | rfl | (exact absurd h1 (by decide)) | (exfalso; simp only [Int32.lt_iff_toInt_lt] at *; omega)
theorem own_pinB {a b c d s e : Int32} (h1 : own_half e c d = 0) : own_holds a b c d s e = 0 := by
  rw [own_half_eq] at h1
  unfold own_holds
  (repeat' split at h1) <;> (repeat' split) <;> first | rfl | (exact absurd h1 (by decide)) | (exfalso; simp only [Int32.lt_iff_toInt_lt] at *; omega)
theorem own_pinC {a b c d s e : Int32} (h1 : ¬ own_half s a b = 0) (h2 : ¬ own_half e c d = 0) : own_holds a b c d s e = 1 := by
  rw [own_half_eq] at h1 h2
  unfold own_holds
  (repeat' split at h1) <;> (repeat' split at h2) <;> (repeat' split) <;> first | rfl | (exact absurd rfl h1) | (exact absurd rfl h2) | (exfalso; simp only [Int32.lt_iff_toInt_lt] at *; omega)
theorem pn_0 : plainName "com/example/paths_to_documents/pathstodocuments/query/StretchBoxHoldsPinLaw" = true := by first | (simp [plainName, overriddenIn]; done) | decide +kernel
theorem own_pd1 : parseMethodDescriptor "(IIII)V" = some ⟨[.int, .int, .int, .int], none⟩ := by decide +kernel
theorem own_pd2 : parseMethodDescriptor "(II)Z" = some ⟨[.int, .int], some .boolean⟩ := by decide +kernel
theorem own_pd3 : parseMethodDescriptor "(III)Z" = some ⟨[.int, .int, .int], some .boolean⟩ := by decide +kernel
theorem ef_0 (m : MethodId) (x0 : Int32) (x1 : Int32) (x2 : Int32) (x3 : Int32) (x4 : Int32) (x5 : Int32) : entryFrame m #[(.int x0), (.int x1), (.int x2), (.int x3), (.int x4), (.int x5)] maxLocals = mkF m 0 #[.val (.int x0), .val (.int x1), .val (.int x2), .val (.int x3), .val (.int x4), .val (.int x5), .unset, .unset, .unset] [] := by first | (simp [entryFrame, mkF, argsToLocals, Value.category, maxLocals]; done) | rfl
def Q0 (Z : State) (p1 p2 p3 p4 p5 p6 : Int32) (h0 : Heap) (n0 : Nat) (v : Option Value) (h : Heap) (L : List Loc) : Prop := v = some (.int 1) ∧ Fr n0 L
set_option maxRecDepth 65536 in
set_option maxHeartbeats 40000000 in
theorem rm0 (l : Launch) (Z : State) (a0 : Array Value) (hw : ∀ d ∈ tables_1, d.before a0 Z = true) (ws : List Jvm.Cond) (p1 : Int32) (p2 : Int32) (p3 : Int32) (p4 : Int32) (p5 : Int32) (p6 : Int32) (h0 : Heap) (n0 : Nat) (Z0 : n0 ≤ h0.size) :
    MetFree l x (head1 (Jvm.Cond.code x code maxLocals ret :: ws) room_1) (fun aa U => aa = #[(.int p1), (.int p2), (.int p3), (.int p4), (.int p5), (.int p6)] ∧ Z.Warmed39 U.vm ∧ U.heap = h0) (fun _ _ _ _ _ => True) (fun _ U o U' => ∃ v L, o = .returned v ∧ Q0 Z p1 p2 p3 p4 p5 p6 h0 n0 v U'.heap L ∧ FrameEnd U o U' L room_1.cells room_1.slots) := by
  refine MetFree.of_bodySF (plainFor_of_name pn_0) hisR ?_
  intro p e s m args below meth c s₁ Bd hml0 hP hK
  obtain ⟨rfl, hZ, hh⟩ := hP
  have hx := Bd.exec
  have hby := Bd.bytes
  have hml : c.maxLocals = 9 := hml0
  have hown : s.vm.findClass "com/example/paths_to_documents/pathstodocuments/query/StretchBoxHoldsPinLaw" = some m.cls := findClass_of_methodNamed Bd.named
  have hnm := (name_of_methodNamed Bd.named Bd.method).1
  have X0 : Stand p l e room_1 s m #[(.int p1), (.int p2), (.int p3), (.int p4), (.int p5), (.int p6)] below meth c s₁ [] 0 0 := Stand.of_body Bd
  have e0 : s₁.heap = h0 := by rw [← hh, Bd.state]; rfl
  have N0 := Fr.nil n0
  refine own_enter (QQ := Q0 Z p1 p2 p3 p4 p5 p6 h0 n0) (ef_0 m p1 p2 p3 p4 p5 p6) ?_
  obtain ⟨T19, h19, X19, e19, E19, A19, D19, -, st19⟩ := newO X0 hx hZ hown (hw _ (List.mem_of_getElem? (i := 0) rfl)) (hw _ (List.mem_of_getElem? (i := 1) rfl)) (hw _ (List.mem_of_getElem? (i := 2) rfl)) e0 (g := (mkF m 0 #[.val (.int p1), .val (.int p2), .val (.int p3), .val (.int p4), .val (.int p5), .val (.int p6), .unset, .unset, .unset] [])) rfl (hb hby at_0) (by decide) (by decide)
  obtain ⟨b19, g19⟩ : ∃ z, z = h0.size := ⟨_, rfl⟩
  rw [← g19] at A19 D19 st19
  have gn_b19 : n0 ≤ b19 := Nat.le_trans Z0 (Nat.le_of_eq g19.symm)
  have Z20 : n0 ≤ h19.size := Nat.le_trans Z0 E19.1
  have E_b19 := A19
  have F_startFrom_b19 : Fld Z h19 b19 "com/example/paths_to_documents/pathstodocuments/query/StretchBox" "startFrom" "I" (.int (0 : Int32)) := D19 (Or.inr (hw _ (List.mem_of_getElem? (i := 15) rfl))) (ty := .int) (by decide)
  have F_startTo_b19 : Fld Z h19 b19 "com/example/paths_to_documents/pathstodocuments/query/StretchBox" "startTo" "I" (.int (0 : Int32)) := D19 (Or.inr (hw _ (List.mem_of_getElem? (i := 17) rfl))) (ty := .int) (by decide)
  have F_endFrom_b19 : Fld Z h19 b19 "com/example/paths_to_documents/pathstodocuments/query/StretchBox" "endFrom" "I" (.int (0 : Int32)) := D19 (Or.inr (hw _ (List.mem_of_getElem? (i := 19) rfl))) (ty := .int) (by decide)
  have F_endTo_b19 : Fld Z h19 b19 "com/example/paths_to_documents/pathstodocuments/query/StretchBox" "endTo" "I" (.int (0 : Int32)) := D19 (Or.inr (hw _ (List.mem_of_getElem? (i := 21) rfl))) (ty := .int) (by decide)
  refine own_go (T' := T19) (g' := (mkF m 3 #[.val (.int p1), .val (.int p2), .val (.int p3), .val (.int p4), .val (.int p5), .val (.int p6), .unset, .unset, .unset] [(.ref b19)])) (st19) ?_
  refine own_go (T' := T19) (g' := (mkF m 4 #[.val (.int p1), .val (.int p2), .val (.int p3), .val (.int p4), .val (.int p5), .val (.int p6), .unset, .unset, .unset] [(.ref b19), (.ref b19)])) (fun t k => XS.dup X19.here hx rfl (hb hby at_3) rfl rfl k) ?_
  refine own_go (T' := T19) (g' := (mkF m 5 #[.val (.int p1), .val (.int p2), .val (.int p3), .val (.int p4), .val (.int p5), .val (.int p6), .unset, .unset, .unset] [(.int p1), (.ref b19), (.ref b19)])) (fun t k => XS.iloadN X19.here hx rfl (hb hby at_4) rfl k) ?_
  refine own_go (T' := T19) (g' := (mkF m 6 #[.val (.int p1), .val (.int p2), .val (.int p3), .val (.int p4), .val (.int p5), .val (.int p6), .unset, .unset, .unset] [(.int p2), (.int p1), (.ref b19), (.ref b19)])) (fun t k => XS.iloadN X19.here hx rfl (hb hby at_5) rfl k) ?_
  refine own_go (T' := T19) (g' := (mkF m 7 #[.val (.int p1), .val (.int p2), .val (.int p3), .val (.int p4), .val (.int p5), .val (.int p6), .unset, .unset, .unset] [(.int p3), (.int p2), (.int p1), (.ref b19), (.ref b19)])) (fun t k => XS.iloadN X19.here hx rfl (hb hby at_6) rfl k) ?_
  refine own_go (T' := T19) (g' := (mkF m 8 #[.val (.int p1), .val (.int p2), .val (.int p3), .val (.int p4), .val (.int p5), .val (.int p6), .unset, .unset, .unset] [(.int p4), (.int p3), (.int p2), (.int p1), (.ref b19), (.ref b19)])) (fun t k => XS.iloadN X19.here hx rfl (hb hby at_7) rfl k) ?_
  obtain ⟨_, _, ⟨T21, L21, k21, n21⟩, -, X21, ⟨Lc21, hQ21, l21, y21, z21⟩, st21⟩ := X19.specialBack hx (y := (⟨"com/example/paths_to_documents/pathstodocuments/query/StretchBox", "<init>", "(IIII)V"⟩ : MethodName)) rfl hown (mvT hZ (hw _ (List.mem_of_getElem? (i := 3) rfl))) (mvT hZ (hw _ (List.mem_of_getElem? (i := 4) rfl))) (mvT hZ (hw _ (List.mem_of_getElem? (i := 5) rfl))) (by decide) (backOf (W := 1) (rm1 l Z a0 hw [] b19 p1 p2 p3 p4 h19 n0 Z20 F_startFrom_b19 F_startTo_b19 F_endFrom_b19 F_endTo_b19 E_b19 gn_b19) hZ (hw _ (List.mem_of_getElem? (i := 5) rfl)) (hw _ (List.mem_of_getElem? (i := 2) rfl)) (by decide) (by decide)) (g := (mkF m 8 #[.val (.int p1), .val (.int p2), .val (.int p3), .val (.int p4), .val (.int p5), .val (.int p6), .unset, .unset, .unset] [(.int p4), (.int p3), (.int p2), (.int p1), (.ref b19), (.ref b19)])) rfl (by rw [hml]; rfl) (Steps.refl _) (a := b19) (argsL := [(.int p1), (.int p2), (.int p3), (.int p4)]) (rest := [(.ref b19)]) (lenOf own_pd1 rfl) rfl (by show 2 * 0 + _ ≤ _; exact Nat.le_of_eq rfl) (hb hby at_8) (fun _ _ => ⟨rfl, e19, (by decide : 1 + 0 ≤ _), (by decide : 4 + 0 ≤ _)⟩)
  dsimp only [Pt.U, Pt.locs, Pt.cells, Pt.slots] at X21 l21 y21 z21 st21 hQ21
  subst l21 y21 z21
  obtain ⟨rfl, M21, K21, G0_21, G1_21, G2_21, G3_21⟩ := hQ21
  have N21 := Fr.app N0 M21
  refine own_go (T' := T21) (g' := (mkF m 11 #[.val (.int p1), .val (.int p2), .val (.int p3), .val (.int p4), .val (.int p5), .val (.int p6), .unset, .unset, .unset] [(.ref b19)])) (fun _ k => st21.trans k) ?_
  have E_b19 := E_b19.keep K21
  have Z22 : n0 ≤ T21.heap.size := Nat.le_trans Z20 K21.1
  have F_startFrom_b19 := G0_21
  have F_startTo_b19 := G1_21
  have F_endFrom_b19 := G2_21
  have F_endTo_b19 := G3_21
  refine own_go (T' := T21) (g' := (mkF m 13 #[.val (.int p1), .val (.int p2), .val (.int p3), .val (.int p4), .val (.int p5), .val (.int p6), .val (.ref b19), .unset, .unset] [])) (fun t k => XS.astore X21.here hx rfl (hb hby at_11) rfl rfl (l' := #[.val (.int p1), .val (.int p2), .val (.int p3), .val (.int p4), .val (.int p5), .val (.int p6), .val (.ref b19), .unset, .unset]) rfl k) ?_
  refine own_go (T' := T21) (g' := (mkF m 15 #[.val (.int p1), .val (.int p2), .val (.int p3), .val (.int p4), .val (.int p5), .val (.int p6), .val (.ref b19), .unset, .unset] [(.ref b19)])) (fun t k => XS.aload X21.here hx rfl (hb hby at_13) rfl rfl k) ?_
  refine own_go (T' := T21) (g' := (mkF m 17 #[.val (.int p1), .val (.int p2), .val (.int p3), .val (.int p4), .val (.int p5), .val (.int p6), .val (.ref b19), .unset, .unset] [(.int p5), (.ref b19)])) (fun t k => XS.iload X21.here hx rfl (hb hby at_15) rfl k) ?_
  refine own_go (T' := T21) (g' := (mkF m 19 #[.val (.int p1), .val (.int p2), .val (.int p3), .val (.int p4), .val (.int p5), .val (.int p6), .val (.ref b19), .unset, .unset] [(.int p6), (.int p5), (.ref b19)])) (fun t k => XS.iload X21.here hx rfl (hb hby at_17) rfl k) ?_
  obtain ⟨cq23, kq23, q23a, q23b, q23c⟩ := isOf hZ rfl E_b19
  obtain ⟨_, _, ⟨T23, L23, k23, n23⟩, -, X23, ⟨Lc23, hQ23, l23, y23, z23⟩, st23⟩ := X21.virtualBack hx (y := (⟨"com/example/paths_to_documents/pathstodocuments/query/StretchBox", "holds", "(II)Z"⟩ : MethodName)) (z := (⟨"com/example/paths_to_documents/pathstodocuments/query/StretchBox", "holds", "(II)Z"⟩ : MethodName)) hown (mvT hZ (hw _ (List.mem_of_getElem? (i := 22) rfl))) (mvT hZ (hw _ (List.mem_of_getElem? (i := 23) rfl))) (notFace_of_selects (args := #[]) (mvT hZ (hw _ (List.mem_of_getElem? (i := 25) rfl)))) (mvT hZ (hw _ (List.mem_of_getElem? (i := 25) rfl))) (mvT hZ (hw _ (List.mem_of_getElem? (i := 24) rfl))) (by decide) (backOf (W := 0) (rm4 l Z a0 hw [] b19 p1 p2 p3 p4 p5 p6 T21.heap n0 Z22 F_startFrom_b19 F_startTo_b19 F_endFrom_b19 F_endTo_b19) hZ (hw _ (List.mem_of_getElem? (i := 26) rfl)) (hw _ (List.mem_of_getElem? (i := 2) rfl)) (by decide) (by decide)) q23a q23c (g := (mkF m 19 #[.val (.int p1), .val (.int p2), .val (.int p3), .val (.int p4), .val (.int p5), .val (.int p6), .val (.ref b19), .unset, .unset] [(.int p6), (.int p5), (.ref b19)])) rfl (by rw [hml]; rfl) (Steps.refl _) (argsL := [(.int p5), (.int p6)]) (rest := []) (lenOf own_pd2 rfl) rfl (by show 2 * 0 + _ ≤ _; exact Nat.le_of_eq rfl) (hb hby at_19) (fun _ _ => ⟨rfl, rfl, (by decide : 1 + 0 ≤ _), (by decide : 4 + 0 ≤ _)⟩)
  dsimp only [Pt.U, Pt.locs, Pt.cells, Pt.slots] at X23 l23 y23 z23 st23 hQ23
  subst l23 y23 z23
  obtain ⟨rfl, M23, K23⟩ := hQ23
  have N23 := Fr.app N21 M23
  refine own_go (T' := T23) (g' := (mkF m 22 #[.val (.int p1), .val (.int p2), .val (.int p3), .val (.int p4), .val (.int p5), .val (.int p6), .val (.ref b19), .unset, .unset] [(.int (own_holds p1 p2 p3 p4 p5 p6))])) (fun _ k => st23.trans k) ?_
  refine own_go (T' := T23) (g' := (mkF m 24 #[.val (.int p1), .val (.int p2), .val (.int p3), .val (.int p4), .val (.int p5), .val (.int p6), .val (.ref b19), .val (.int (own_holds p1 p2 p3 p4 p5 p6)), .unset] [])) (fun t k => XS.istore X23.here hx rfl (hb hby at_22) rfl (l' := #[.val (.int p1), .val (.int p2), .val (.int p3), .val (.int p4), .val (.int p5), .val (.int p6), .val (.ref b19), .val (.int (own_holds p1 p2 p3 p4 p5 p6)), .unset]) rfl k) ?_
  refine own_go (T' := T23) (g' := (mkF m 26 #[.val (.int p1), .val (.int p2), .val (.int p3), .val (.int p4), .val (.int p5), .val (.int p6), .val (.ref b19), .val (.int (own_holds p1 p2 p3 p4 p5 p6)), .unset] [(.int p5)])) (fun t k => XS.iload X23.here hx rfl (hb hby at_24) rfl k) ?_
  refine own_go (T' := T23) (g' := (mkF m 27 #[.val (.int p1), .val (.int p2), .val (.int p3), .val (.int p4), .val (.int p5), .val (.int p6), .val (.ref b19), .val (.int (own_holds p1 p2 p3 p4 p5 p6)), .unset] [(.int p1), (.int p5)])) (fun t k => XS.iloadN X23.here hx rfl (hb hby at_26) rfl k) ?_
  refine own_go (T' := T23) (g' := (mkF m 28 #[.val (.int p1), .val (.int p2), .val (.int p3), .val (.int p4), .val (.int p5), .val (.int p6), .val (.ref b19), .val (.int (own_holds p1 p2 p3 p4 p5 p6)), .unset] [(.int p2), (.int p1), (.int p5)])) (fun t k => XS.iloadN X23.here hx rfl (hb hby at_27) rfl k) ?_
  obtain ⟨_, _, ⟨T24, L24, k24, n24⟩, -, X24, ⟨Lc24, hQ24, l24, y24, z24⟩, st24⟩ := Jvm.LawKit.callS X23 hx (y := (⟨"com/example/paths_to_documents/pathstodocuments/query/StretchBoxHoldsPinLaw", "inHalfOpen", "(III)Z"⟩ : MethodName)) hown (mvT hZ (hw _ (List.mem_of_getElem? (i := 27) rfl))) (mvT hZ (hw _ (List.mem_of_getElem? (i := 28) rfl))) (mvT hZ (hw _ (List.mem_of_getElem? (i := 29) rfl))) (mvT hZ (hw _ (List.mem_of_getElem? (i := 30) rfl))) (by decide) (backOf (W := 0) (rm5 l Z a0 hw [] p5 p1 p2 T21.heap n0 Z22) hZ (hw _ (List.mem_of_getElem? (i := 30) rfl)) (hw _ (List.mem_of_getElem? (i := 29) rfl)) (by decide) (by decide)) (g := (mkF m 28 #[.val (.int p1), .val (.int p2), .val (.int p3), .val (.int p4), .val (.int p5), .val (.int p6), .val (.ref b19), .val (.int (own_holds p1 p2 p3 p4 p5 p6)), .unset] [(.int p2), (.int p1), (.int p5)])) rfl (by rw [hml]; rfl) (argsL := [(.int p5), (.int p1), (.int p2)]) (rest := []) (lenOf own_pd3 rfl) rfl (by show 2 * 0 + _ ≤ _; exact Nat.le_of_eq rfl) (hb hby at_28) (fun _ _ => ⟨rfl, K23, (by decide : 1 + 0 ≤ _), (by decide : 4 + 0 ≤ _)⟩)
  dsimp only [Pt.U, Pt.locs, Pt.cells, Pt.slots] at X24 l24 y24 z24 st24 hQ24
  subst l24 y24 z24
  obtain ⟨rfl, M24, K24⟩ := hQ24
  have N24 := Fr.app N23 M24
  refine own_go (T' := T24) (g' := (mkF m 31 #[.val (.int p1), .val (.int p2), .val (.int p3), .val (.int p4), .val (.int p5), .val (.int p6), .val (.ref b19), .val (.int (own_holds p1 p2 p3 p4 p5 p6)), .unset] [(.int (own_half p5 p1 p2))])) (st24) ?_
  by_cases c31_1 : (own_half p5 p1 p2) = (0 : Int32)
  · refine own_go (T' := T24) (g' := (mkF m 48 #[.val (.int p1), .val (.int p2), .val (.int p3), .val (.int p4), .val (.int p5), .val (.int p6), .val (.ref b19), .val (.int (own_holds p1 p2 p3 p4 p5 p6)), .unset] [])) (fun t k => XS.ifYes X24.here hx rfl (pc0 := 31) (pc' := 48) rfl (hb hby at_31) rfl ((if0 _ _).trans (teq c31_1).1) (by decide) (by decide) k) ?_
    refine own_go (T' := T24) (g' := (mkF m 49 #[.val (.int p1), .val (.int p2), .val (.int p3), .val (.int p4), .val (.int p5), .val (.int p6), .val (.ref b19), .val (.int (own_holds p1 p2 p3 p4 p5 p6)), .unset] [(.int (0 : Int32))])) (fun t k => XS.iconst X24.here hx rfl (hb hby at_48) k) ?_
    refine own_go (T' := T24) (g' := (mkF m 51 #[.val (.int p1), .val (.int p2), .val (.int p3), .val (.int p4), .val (.int p5), .val (.int p6), .val (.ref b19), .val (.int (own_holds p1 p2 p3 p4 p5 p6)), .val (.int (0 : Int32))] [])) (fun t k => XS.istore X24.here hx rfl (hb hby at_49) rfl (l' := #[.val (.int p1), .val (.int p2), .val (.int p3), .val (.int p4), .val (.int p5), .val (.int p6), .val (.ref b19), .val (.int (own_holds p1 p2 p3 p4 p5 p6)), .val (.int (0 : Int32))]) rfl k) ?_
    refine own_go (T' := T24) (g' := (mkF m 53 #[.val (.int p1), .val (.int p2), .val (.int p3), .val (.int p4), .val (.int p5), .val (.int p6), .val (.ref b19), .val (.int (own_holds p1 p2 p3 p4 p5 p6)), .val (.int (0 : Int32))] [(.int (own_holds p1 p2 p3 p4 p5 p6))])) (fun t k => XS.iload X24.here hx rfl (hb hby at_51) rfl k) ?_
    refine own_go (T' := T24) (g' := (mkF m 55 #[.val (.int p1), .val (.int p2), .val (.int p3), .val (.int p4), .val (.int p5), .val (.int p6), .val (.ref b19), .val (.int (own_holds p1 p2 p3 p4 p5 p6)), .val (.int (0 : Int32))] [(.int (0 : Int32)), (.int (own_holds p1 p2 p3 p4 p5 p6))])) (fun t k => XS.iload X24.here hx rfl (hb hby at_53) rfl k) ?_
    refine own_go (T' := T24) (g' := (mkF m 58 #[.val (.int p1), .val (.int p2), .val (.int p3), .val (.int p4), .val (.int p5), .val (.int p6), .val (.ref b19), .val (.int (own_holds p1 p2 p3 p4 p5 p6)), .val (.int (0 : Int32))] [])) (fun t k => XS.icmpNo X24.here hx rfl (hb hby at_55) rfl (teq (own_pinA c31_1)).2 k) ?_
    refine own_go (T' := T24) (g' := (mkF m 59 #[.val (.int p1), .val (.int p2), .val (.int p3), .val (.int p4), .val (.int p5), .val (.int p6), .val (.ref b19), .val (.int (own_holds p1 p2 p3 p4 p5 p6)), .val (.int (0 : Int32))] [(.int (1 : Int32))])) (fun t k => XS.iconst X24.here hx rfl (hb hby at_58) k) ?_
    refine own_go (T' := T24) (g' := (mkF m 63 #[.val (.int p1), .val (.int p2), .val (.int p3), .val (.int p4), .val (.int p5), .val (.int p6), .val (.ref b19), .val (.int (own_holds p1 p2 p3 p4 p5 p6)), .val (.int (0 : Int32))] [(.int (1 : Int32))])) (fun t k => XS.goto X24.here hx rfl (pc0 := 59) (pc' := 63) rfl (hb hby at_59) (by decide) (by decide) k) ?_
    exact own_retZ X24 hx Bd.notSynchronized Bd.returns (hb hby at_63) rfl ⟨rfl, N24⟩ (by decide) (by decide)
  · refine own_go (T' := T24) (g' := (mkF m 34 #[.val (.int p1), .val (.int p2), .val (.int p3), .val (.int p4), .val (.int p5), .val (.int p6), .val (.ref b19), .val (.int (own_holds p1 p2 p3 p4 p5 p6)), .unset] [])) (fun t k => XS.ifNo X24.here hx rfl (hb hby at_31) rfl ((if0 _ _).trans (feq c31_1).1) k) ?_
    refine own_go (T' := T24) (g' := (mkF m 36 #[.val (.int p1), .val (.int p2), .val (.int p3), .val (.int p4), .val (.int p5), .val (.int p6), .val (.ref b19), .val (.int (own_holds p1 p2 p3 p4 p5 p6)), .unset] [(.int p6)])) (fun t k => XS.iload X24.here hx rfl (hb hby at_34) rfl k) ?_
    refine own_go (T' := T24) (g' := (mkF m 37 #[.val (.int p1), .val (.int p2), .val (.int p3), .val (.int p4), .val (.int p5), .val (.int p6), .val (.ref b19), .val (.int (own_holds p1 p2 p3 p4 p5 p6)), .unset] [(.int p3), (.int p6)])) (fun t k => XS.iloadN X24.here hx rfl (hb hby at_36) rfl k) ?_
    refine own_go (T' := T24) (g' := (mkF m 38 #[.val (.int p1), .val (.int p2), .val (.int p3), .val (.int p4), .val (.int p5), .val (.int p6), .val (.ref b19), .val (.int (own_holds p1 p2 p3 p4 p5 p6)), .unset] [(.int p4), (.int p3), (.int p6)])) (fun t k => XS.iloadN X24.here hx rfl (hb hby at_37) rfl k) ?_
    obtain ⟨_, _, ⟨T25, L25, k25, n25⟩, -, X25, ⟨Lc25, hQ25, l25, y25, z25⟩, st25⟩ := Jvm.LawKit.callS X24 hx (y := (⟨"com/example/paths_to_documents/pathstodocuments/query/StretchBoxHoldsPinLaw", "inHalfOpen", "(III)Z"⟩ : MethodName)) hown (mvT hZ (hw _ (List.mem_of_getElem? (i := 27) rfl))) (mvT hZ (hw _ (List.mem_of_getElem? (i := 28) rfl))) (mvT hZ (hw _ (List.mem_of_getElem? (i := 29) rfl))) (mvT hZ (hw _ (List.mem_of_getElem? (i := 30) rfl))) (by decide) (backOf (W := 0) (rm5 l Z a0 hw [] p6 p3 p4 T21.heap n0 Z22) hZ (hw _ (List.mem_of_getElem? (i := 30) rfl)) (hw _ (List.mem_of_getElem? (i := 29) rfl)) (by decide) (by decide)) (g := (mkF m 38 #[.val (.int p1), .val (.int p2), .val (.int p3), .val (.int p4), .val (.int p5), .val (.int p6), .val (.ref b19), .val (.int (own_holds p1 p2 p3 p4 p5 p6)), .unset] [(.int p4), (.int p3), (.int p6)])) rfl (by rw [hml]; rfl) (argsL := [(.int p6), (.int p3), (.int p4)]) (rest := []) (lenOf own_pd3 rfl) rfl (by show 2 * 0 + _ ≤ _; exact Nat.le_of_eq rfl) (hb hby at_38) (fun _ _ => ⟨rfl, K24, (by decide : 1 + 0 ≤ _), (by decide : 4 + 0 ≤ _)⟩)
    dsimp only [Pt.U, Pt.locs, Pt.cells, Pt.slots] at X25 l25 y25 z25 st25 hQ25
    subst l25 y25 z25
    obtain ⟨rfl, M25, K25⟩ := hQ25
    have N25 := Fr.app N24 M25
    refine own_go (T' := T25) (g' := (mkF m 41 #[.val (.int p1), .val (.int p2), .val (.int p3), .val (.int p4), .val (.int p5), .val (.int p6), .val (.ref b19), .val (.int (own_holds p1 p2 p3 p4 p5 p6)), .unset] [(.int (own_half p6 p3 p4))])) (st25) ?_
    by_cases c41_2 : (own_half p6 p3 p4) = (0 : Int32)
    · refine own_go (T' := T25) (g' := (mkF m 48 #[.val (.int p1), .val (.int p2), .val (.int p3), .val (.int p4), .val (.int p5), .val (.int p6), .val (.ref b19), .val (.int (own_holds p1 p2 p3 p4 p5 p6)), .unset] [])) (fun t k => XS.ifYes X25.here hx rfl (pc0 := 41) (pc' := 48) rfl (hb hby at_41) rfl ((if0 _ _).trans (teq c41_2).1) (by decide) (by decide) k) ?_
      refine own_go (T' := T25) (g' := (mkF m 49 #[.val (.int p1), .val (.int p2), .val (.int p3), .val (.int p4), .val (.int p5), .val (.int p6), .val (.ref b19), .val (.int (own_holds p1 p2 p3 p4 p5 p6)), .unset] [(.int (0 : Int32))])) (fun t k => XS.iconst X25.here hx rfl (hb hby at_48) k) ?_
      refine own_go (T' := T25) (g' := (mkF m 51 #[.val (.int p1), .val (.int p2), .val (.int p3), .val (.int p4), .val (.int p5), .val (.int p6), .val (.ref b19), .val (.int (own_holds p1 p2 p3 p4 p5 p6)), .val (.int (0 : Int32))] [])) (fun t k => XS.istore X25.here hx rfl (hb hby at_49) rfl (l' := #[.val (.int p1), .val (.int p2), .val (.int p3), .val (.int p4), .val (.int p5), .val (.int p6), .val (.ref b19), .val (.int (own_holds p1 p2 p3 p4 p5 p6)), .val (.int (0 : Int32))]) rfl k) ?_
      refine own_go (T' := T25) (g' := (mkF m 53 #[.val (.int p1), .val (.int p2), .val (.int p3), .val (.int p4), .val (.int p5), .val (.int p6), .val (.ref b19), .val (.int (own_holds p1 p2 p3 p4 p5 p6)), .val (.int (0 : Int32))] [(.int (own_holds p1 p2 p3 p4 p5 p6))])) (fun t k => XS.iload X25.here hx rfl (hb hby at_51) rfl k) ?_
      refine own_go (T' := T25) (g' := (mkF m 55 #[.val (.int p1), .val (.int p2), .val (.int p3), .val (.int p4), .val (.int p5), .val (.int p6), .val (.ref b19), .val (.int (own_holds p1 p2 p3 p4 p5 p6)), .val (.int (0 : Int32))] [(.int (0 : Int32)), (.int (own_holds p1 p2 p3 p4 p5 p6))])) (fun t k => XS.iload X25.here hx rfl (hb hby at_53) rfl k) ?_
      refine own_go (T' := T25) (g' := (mkF m 58 #[.val (.int p1), .val (.int p2), .val (.int p3), .val (.int p4), .val (.int p5), .val (.int p6), .val (.ref b19), .val (.int (own_holds p1 p2 p3 p4 p5 p6)), .val (.int (0 : Int32))] [])) (fun t k => XS.icmpNo X25.here hx rfl (hb hby at_55) rfl (teq (own_pinB c41_2)).2 k) ?_
      refine own_go (T' := T25) (g' := (mkF m 59 #[.val (.int p1), .val (.int p2), .val (.int p3), .val (.int p4), .val (.int p5), .val (.int p6), .val (.ref b19), .val (.int (own_holds p1 p2 p3 p4 p5 p6)), .val (.int (0 : Int32))] [(.int (1 : Int32))])) (fun t k => XS.iconst X25.here hx rfl (hb hby at_58) k) ?_
      refine own_go (T' := T25) (g' := (mkF m 63 #[.val (.int p1), .val (.int p2), .val (.int p3), .val (.int p4), .val (.int p5), .val (.int p6), .val (.ref b19), .val (.int (own_holds p1 p2 p3 p4 p5 p6)), .val (.int (0 : Int32))] [(.int (1 : Int32))])) (fun t k => XS.goto X25.here hx rfl (pc0 := 59) (pc' := 63) rfl (hb hby at_59) (by decide) (by decide) k) ?_
      exact own_retZ X25 hx Bd.notSynchronized Bd.returns (hb hby at_63) rfl ⟨rfl, N25⟩ (by decide) (by decide)
    · refine own_go (T' := T25) (g' := (mkF m 44 #[.val (.int p1), .val (.int p2), .val (.int p3), .val (.int p4), .val (.int p5), .val (.int p6), .val (.ref b19), .val (.int (own_holds p1 p2 p3 p4 p5 p6)), .unset] [])) (fun t k => XS.ifNo X25.here hx rfl (hb hby at_41) rfl ((if0 _ _).trans (feq c41_2).1) k) ?_
      refine own_go (T' := T25) (g' := (mkF m 45 #[.val (.int p1), .val (.int p2), .val (.int p3), .val (.int p4), .val (.int p5), .val (.int p6), .val (.ref b19), .val (.int (own_holds p1 p2 p3 p4 p5 p6)), .unset] [(.int (1 : Int32))])) (fun t k => XS.iconst X25.here hx rfl (hb hby at_44) k) ?_
      refine own_go (T' := T25) (g' := (mkF m 49 #[.val (.int p1), .val (.int p2), .val (.int p3), .val (.int p4), .val (.int p5), .val (.int p6), .val (.ref b19), .val (.int (own_holds p1 p2 p3 p4 p5 p6)), .unset] [(.int (1 : Int32))])) (fun t k => XS.goto X25.here hx rfl (pc0 := 45) (pc' := 49) rfl (hb hby at_45) (by decide) (by decide) k) ?_
      refine own_go (T' := T25) (g' := (mkF m 51 #[.val (.int p1), .val (.int p2), .val (.int p3), .val (.int p4), .val (.int p5), .val (.int p6), .val (.ref b19), .val (.int (own_holds p1 p2 p3 p4 p5 p6)), .val (.int (1 : Int32))] [])) (fun t k => XS.istore X25.here hx rfl (hb hby at_49) rfl (l' := #[.val (.int p1), .val (.int p2), .val (.int p3), .val (.int p4), .val (.int p5), .val (.int p6), .val (.ref b19), .val (.int (own_holds p1 p2 p3 p4 p5 p6)), .val (.int (1 : Int32))]) rfl k) ?_
      refine own_go (T' := T25) (g' := (mkF m 53 #[.val (.int p1), .val (.int p2), .val (.int p3), .val (.int p4), .val (.int p5), .val (.int p6), .val (.ref b19), .val (.int (own_holds p1 p2 p3 p4 p5 p6)), .val (.int (1 : Int32))] [(.int (own_holds p1 p2 p3 p4 p5 p6))])) (fun t k => XS.iload X25.here hx rfl (hb hby at_51) rfl k) ?_
      refine own_go (T' := T25) (g' := (mkF m 55 #[.val (.int p1), .val (.int p2), .val (.int p3), .val (.int p4), .val (.int p5), .val (.int p6), .val (.ref b19), .val (.int (own_holds p1 p2 p3 p4 p5 p6)), .val (.int (1 : Int32))] [(.int (1 : Int32)), (.int (own_holds p1 p2 p3 p4 p5 p6))])) (fun t k => XS.iload X25.here hx rfl (hb hby at_53) rfl k) ?_
      refine own_go (T' := T25) (g' := (mkF m 58 #[.val (.int p1), .val (.int p2), .val (.int p3), .val (.int p4), .val (.int p5), .val (.int p6), .val (.ref b19), .val (.int (own_holds p1 p2 p3 p4 p5 p6)), .val (.int (1 : Int32))] [])) (fun t k => XS.icmpNo X25.here hx rfl (hb hby at_55) rfl (teq (own_pinC c31_1 c41_2)).2 k) ?_
      refine own_go (T' := T25) (g' := (mkF m 59 #[.val (.int p1), .val (.int p2), .val (.int p3), .val (.int p4), .val (.int p5), .val (.int p6), .val (.ref b19), .val (.int (own_holds p1 p2 p3 p4 p5 p6)), .val (.int (1 : Int32))] [(.int (1 : Int32))])) (fun t k => XS.iconst X25.here hx rfl (hb hby at_58) k) ?_
      refine own_go (T' := T25) (g' := (mkF m 63 #[.val (.int p1), .val (.int p2), .val (.int p3), .val (.int p4), .val (.int p5), .val (.int p6), .val (.ref b19), .val (.int (own_holds p1 p2 p3 p4 p5 p6)), .val (.int (1 : Int32))] [(.int (1 : Int32))])) (fun t k => XS.goto X25.here hx rfl (pc0 := 59) (pc' := 63) rfl (hb hby at_59) (by decide) (by decide) k) ?_
      exact own_retZ X25 hx Bd.notSynchronized Bd.returns (hb hby at_63) rfl ⟨rfl, N25⟩ (by decide) (by decide)
set_option maxRecDepth 65536 in
set_option maxHeartbeats 40000000 in
theorem comes_1 {Post : Tables → Env → Array Value → State → Outcome → State → Prop} (hpost : ∀ tb e args s v u, (limb_1_1.after args s (.returned v) u = true ∧ limb_1_2.after args s (.returned v) u = true ∧ True) → FrameEnd s (.returned v) u (Jvm.fieldLocs frame_1_writes args s ++ Jvm.arrayLocs frame_1_arrays args s ++ Jvm.staticLocs frame_1_statics s) 16 128 → Post tb e args s (.returned v) u) :
    ArmFor flags0 classFile x code maxLocals ret World_1 tables_1 room_1 Calls_1 rest_1 Pre_1 Post := by
  intro l hfl _ _ p e ha hc hk s m args below hf hA hF happ hP
  obtain ⟨hcalls, hrest, hpre⟩ := hP
  obtain ⟨-, -, -, hnamed, -, -, -, hat⟩ := (Spec.applies_iff hf).mp happ
  obtain ⟨hg, hn⟩ := and_e (Cond.before_iff.mp (show (Jvm.Cond.and given_1 narrow_1).before args s = true from hpre))
  obtain ⟨g0, q0⟩ := and_e hg
  obtain ⟨ga0, q1⟩ := and_e q0
  obtain ⟨ga1, q2⟩ := and_e q1
  obtain ⟨ga2, q3⟩ := and_e q2
  obtain ⟨ga3, q4⟩ := and_e q3
  obtain ⟨ga4, q5⟩ := and_e q4
  have ga5 := q5
  obtain ⟨w0, w1, w2, w3, w4, w5, rfl⟩ : ∃ w0 w1 w2 w3 w4 w5 : Value, args = #[w0, w1, w2, w3, w4, w5] := by
    have hs : args.size = 6 := by simpa [Cond.value, given_1] using g0
    obtain ⟨L⟩ := args
    match L, hs with
    | [w0, w1, w2, w3, w4, w5], _ => exact ⟨w0, w1, w2, w3, w4, w5, rfl⟩
  have hw := fun d (hd : d ∈ tables_1) => atoms_spec (ws := Jvm.Cond.code x code maxLocals ret :: tables_1) hat d (List.mem_cons_of_mem _ hd)
  obtain ⟨i0, ei0⟩ := is_v ga0
  obtain rfl : w0 = (.int i0) := Option.some.inj ei0
  obtain ⟨i1, ei1⟩ := is_v ga1
  obtain rfl : w1 = (.int i1) := Option.some.inj ei1
  obtain ⟨i2, ei2⟩ := is_v ga2
  obtain rfl : w2 = (.int i2) := Option.some.inj ei2
  obtain ⟨i3, ei3⟩ := is_v ga3
  obtain rfl : w3 = (.int i3) := Option.some.inj ei3
  obtain ⟨i4, ei4⟩ := is_v ga4
  obtain rfl : w4 = (.int i4) := Option.some.inj ei4
  obtain ⟨i5, ei5⟩ := is_v ga5
  obtain rfl : w5 = (.int i5) := Option.some.inj ei5
  obtain ⟨n, o, h1, h2, h3, _, L, rfl, ⟨rfl, N⟩, hq⟩ := rm0 l s _ hw tables_1 i0 i1 i2 i3 i4 i5 s.heap s.heap.size (Nat.le_refl _) p e ha hc hk s m _ below hf ((Spec.applies_iff_loose hf).mp happ).1 ⟨rfl, State.Warmed39.refl s, rfl⟩ trivial
  refine ⟨n, _, h1, h2, h3, hpost _ _ _ _ _ _ ⟨Cond.after_iff.mpr rfl, Cond.after_iff.mpr (eq_i res_at (Term.int_eval (1)) rfl), trivial⟩ ⟨hq.1, hq.2.1, (hq.2.2.sift fun y hy => Or.inr (N y hy)).mono (by decide) (by decide)⟩⟩
theorem main_1_1 : Claimed_1_1 := comes_1 fun _ _ _ _ _ _ h hF => ⟨h.1, hF⟩
theorem main_1_2 : Claimed_1_2 := comes_1 fun _ _ _ _ _ _ h hF => ⟨h.2.1, hF⟩
end Jvm.Pilot.@@N@@
namespace Jvm.Pilot.@@N@@
open Jvm Jvm.ClassFile Sem Op Lib Jvm.Free Jvm.Stand Jvm.Pilot.@@N@@.Jvm.D
/-! MADE BY PROGRAM (witnessworld.py) out of the Statement's table words and the real class files: 10 classes; the members and pool entries that the words name. The judged class is class 1, her method 2. -/
namespace start1
open Jvm.ClassFile
def u (s : String) : CpInfo := .utf8 (stringToUtf16 s)
/-- a pool by its gaps: so many unusable entries, then the entry; so many at the end -/
def gap : Nat → List CpInfo → List CpInfo
  | 0, r => r
  | n + 1, r => .unusable :: gap n r
def poolList (es : List (Nat × CpInfo)) (last : Nat) : List CpInfo := es.foldr (fun e r => gap e.1 (e.2 :: r)) (gap last [])
def pool (es : List (Nat × CpInfo)) (last : Nat) : Array CpInfo := ⟨poolList es last⟩
def fileOf (pool : Array CpInfo) (this : Nat) (attrs : Array Attribute := #[]) (ms : Array MethodInfo := #[]) (fl : Nat := 33) (sup : Nat := 0) (ifs : Array Nat := #[]) (fds : Array FieldInfo := #[]) : ClassFile where
  minorVersion := 0
  majorVersion := 65
  constantPool := pool
  accessFlags := fl
  thisClass := this
  superClass := sup
  interfaces := ifs
  fields := fds
  methods := ms
  attributes := attrs
def plain (name : String) (sup : Option ClassId) : Class where
  name := name
  kind := .ordinary
  loader := none
  accessFlags := 33
  super := sup
  interfaces := #[]
  cf := none
  fields := #[]
  methods := #[]
  instanceTypes := #[]
  staticTypes := #[]
  resolved := #[]
  callSites := []
  init := .initialized
  statics := none
  mirror := none

def pool0 : Array CpInfo := pool [(5, u "<init>"), (0, u "()V"), (1, .class_ 10), (1, u "java/lang/Object")] 113

def k0c0 : Code := { maxStack := 0, maxLocals := 1, code := object_method_1_code, exceptionTable := #[], attributes := #[] }
def k0m0 : Method := { name := "<init>", desc := "()V", sig := { parameters := [], returnType := none }, accessFlags := 1, code := some k0c0 }
/-- java/lang/Object -/
def k0 : Class := { plain "java/lang/Object" none with
  accessFlags := 33
  interfaces := #[]
  cf := some (fileOf pool0 8 #[] #[{ accessFlags := 1, nameIndex := 5, descriptorIndex := 6, attributes := #[] }] 33 0 #[] #[])
  fields := #[]
  methods := #[k0m0]
  instanceTypes := #[]
  staticTypes := #[]
  resolved := Array.replicate 124 none
  statics := none }

def pool1 : Array CpInfo := pool [(2, .class_ 4), (1, u "java/lang/Object"), (0, u "<init>"), (0, u "()V"), (0, .class_ 8), (0, u "com/example/paths_to_documents/pathstodocuments/query/StretchBox"), (0, .methodref 7 10), (0, .nameAndType 5 11), (0, u "(IIII)V"), (0, .methodref 7 13), (0, .nameAndType 14 15), (0, u "holds"), (0, u "(II)Z"), (0, .methodref 17 18), (0, .class_ 19), (0, .nameAndType 20 21), (0, u "com/example/paths_to_documents/pathstodocuments/query/StretchBoxHoldsPinLaw"), (0, u "inHalfOpen"), (0, u "(III)Z"), (3, u "law"), (0, u "(IIIIII)Z")] 2

def k1m0 : Method := { name := "<init>", desc := "()V", sig := { parameters := [], returnType := none }, accessFlags := 1, code := none }
def k1c1 : Code := { maxStack := 4, maxLocals := 7, code := method_2_code, exceptionTable := #[], attributes := #[] }
def k1m1 : Method := { name := "inHalfOpen", desc := "(III)Z", sig := { parameters := [.int, .int, .int], returnType := some .boolean }, accessFlags := 10, code := some k1c1 }
def k1c2 : Code := { maxStack := 6, maxLocals := 9, code := code, exceptionTable := #[], attributes := #[] }
def k1m2 : Method := { name := "law", desc := "(IIIIII)Z", sig := { parameters := [.int, .int, .int, .int, .int, .int], returnType := some .boolean }, accessFlags := 9, code := some k1c2 }
/-- com/example/paths_to_documents/pathstodocuments/query/StretchBoxHoldsPinLaw -/
def k1 : Class := { plain "com/example/paths_to_documents/pathstodocuments/query/StretchBoxHoldsPinLaw" (some 0) with
  accessFlags := 49
  interfaces := #[]
  cf := some (fileOf pool1 17 #[] #[{ accessFlags := 1, nameIndex := 5, descriptorIndex := 6, attributes := #[] }, { accessFlags := 10, nameIndex := 20, descriptorIndex := 21, attributes := #[] }, { accessFlags := 9, nameIndex := 25, descriptorIndex := 26, attributes := #[] }] 49 2 #[] #[])
  fields := #[]
  methods := #[k1m0, k1m1, k1m2]
  instanceTypes := #[]
  staticTypes := #[]
  resolved := Array.replicate 29 none
  statics := none }

def pool2 : Array CpInfo := pool [(1, .methodref 2 3), (0, .class_ 4), (0, .nameAndType 5 6), (0, u "java/lang/Object"), (0, u "<init>"), (0, u "()V"), (0, .class_ 8), (0, u "java/lang/Record")] 13

def k2c0 : Code := { maxStack := 1, maxLocals := 1, code := jdk_30_method_1_code, exceptionTable := #[], attributes := #[] }
def k2m0 : Method := { name := "<init>", desc := "()V", sig := { parameters := [], returnType := none }, accessFlags := 4, code := some k2c0 }
/-- java/lang/Record -/
def k2 : Class := { plain "java/lang/Record" (some 0) with
  accessFlags := 1057
  interfaces := #[]
  cf := some (fileOf pool2 7 #[] #[{ accessFlags := 4, nameIndex := 5, descriptorIndex := 6, attributes := #[] }] 1057 2 #[] #[])
  fields := #[]
  methods := #[k2m0]
  instanceTypes := #[]
  staticTypes := #[]
  resolved := Array.replicate 22 none
  statics := none }

def pool3 : Array CpInfo := pool [(1, .methodref 2 3), (0, .class_ 4), (0, .nameAndType 5 6), (0, u "java/lang/Record"), (0, u "<init>"), (0, u "()V"), (0, .fieldref 8 9), (0, .class_ 10), (0, .nameAndType 11 12), (0, u "com/example/paths_to_documents/pathstodocuments/query/StretchBox"), (0, u "startFrom"), (0, u "I"), (0, .fieldref 8 14), (0, .nameAndType 15 12), (0, u "startTo"), (0, .fieldref 8 17), (0, .nameAndType 18 12), (0, u "endFrom"), (0, .fieldref 8 20), (0, .nameAndType 21 12), (0, u "endTo"), (5, u "(IIII)V"), (27, u "ALL"), (0, u "Lcom/example/paths_to_documents/pathstodocuments/query/StretchBox;"), (2, u "NONE"), (6, u "holds"), (0, u "(II)Z")] 33

def k3c0 : Code := { maxStack := 2, maxLocals := 5, code := prog_143_method_1_code, exceptionTable := #[], attributes := #[] }
def k3m0 : Method := { name := "<init>", desc := "(IIII)V", sig := { parameters := [.int, .int, .int, .int], returnType := none }, accessFlags := 0, code := some k3c0 }
def k3c1 : Code := { maxStack := 2, maxLocals := 3, code := prog_143_method_4_code, exceptionTable := #[], attributes := #[] }
def k3m1 : Method := { name := "holds", desc := "(II)Z", sig := { parameters := [.int, .int], returnType := some .boolean }, accessFlags := 0, code := some k3c1 }
/-- com/example/paths_to_documents/pathstodocuments/query/StretchBox -/
def k3 : Class := { plain "com/example/paths_to_documents/pathstodocuments/query/StretchBox" (some 2) with
  accessFlags := 48
  interfaces := #[]
  cf := some (fileOf pool3 8 #[] #[{ accessFlags := 0, nameIndex := 5, descriptorIndex := 27, attributes := #[] }, { accessFlags := 0, nameIndex := 66, descriptorIndex := 67, attributes := #[] }] 48 2 #[] #[{ accessFlags := 18, nameIndex := 11, descriptorIndex := 12, attributes := #[] }, { accessFlags := 18, nameIndex := 15, descriptorIndex := 12, attributes := #[] }, { accessFlags := 18, nameIndex := 18, descriptorIndex := 12, attributes := #[] }, { accessFlags := 18, nameIndex := 21, descriptorIndex := 12, attributes := #[] }, { accessFlags := 24, nameIndex := 55, descriptorIndex := 56, attributes := #[] }, { accessFlags := 24, nameIndex := 59, descriptorIndex := 56, attributes := #[] }])
  fields := #[{ name := "startFrom", type := .int, accessFlags := 18, slot := 0, constantValue := 0 }, { name := "startTo", type := .int, accessFlags := 18, slot := 1, constantValue := 0 }, { name := "endFrom", type := .int, accessFlags := 18, slot := 2, constantValue := 0 }, { name := "endTo", type := .int, accessFlags := 18, slot := 3, constantValue := 0 }, { name := "ALL", type := (.object "com/example/paths_to_documents/pathstodocuments/query/StretchBox"), accessFlags := 24, slot := 0, constantValue := 0 }, { name := "NONE", type := (.object "com/example/paths_to_documents/pathstodocuments/query/StretchBox"), accessFlags := 24, slot := 1, constantValue := 0 }]
  methods := #[k3m0, k3m1]
  instanceTypes := #[.int, .int, .int, .int]
  staticTypes := #[(.object "com/example/paths_to_documents/pathstodocuments/query/StretchBox"), (.object "com/example/paths_to_documents/pathstodocuments/query/StretchBox")]
  resolved := Array.replicate 101 none
  statics := none }

def pool4 : Array CpInfo := pool [(1, u "java/lang/Cloneable"), (0, .class_ 1), (0, u "java/lang/Object"), (0, .class_ 3)] 3

/-- java/lang/Cloneable -/
def k4 : Class := { plain "java/lang/Cloneable" (some 0) with
  accessFlags := 1537
  interfaces := #[]
  cf := some (fileOf pool4 2 #[] #[] 1537 4 #[] #[])
  fields := #[]
  methods := #[]
  instanceTypes := #[]
  staticTypes := #[]
  resolved := Array.replicate 8 none
  statics := none }

def pool5 : Array CpInfo := pool [(1, u "java/io/Serializable"), (0, .class_ 1), (0, u "java/lang/Object"), (0, .class_ 3)] 3

/-- java/io/Serializable -/
def k5 : Class := { plain "java/io/Serializable" (some 0) with
  accessFlags := 1537
  interfaces := #[]
  cf := some (fileOf pool5 2 #[] #[] 1537 4 #[] #[])
  fields := #[]
  methods := #[]
  instanceTypes := #[]
  staticTypes := #[]
  resolved := Array.replicate 8 none
  statics := none }

/-- the primitive byte -/
def k6 : Class := { plain "byte" none with kind := .primitive 'B', accessFlags := 0x411 }
/-- [B -/
def k7 : Class := { plain "[B" (some 0) with kind := .array 6 .byte, interfaces := #[4, 5], accessFlags := 1041 }

/-- the primitive int -/
def k8 : Class := { plain "int" none with kind := .primitive 'I', accessFlags := 0x411 }
/-- [I -/
def k9 : Class := { plain "[I" (some 0) with kind := .array 8 .int, interfaces := #[4, 5], accessFlags := 1041 }

def heap : Heap := #[]
def classes : Array Class := #[k0, k1, k2, k3, k4, k5, k6, k7, k8, k9]
def interned : List (Array UInt16 × Addr) := []
def slotsUsed : Nat := 0
def theMethod : MethodId := ⟨1, 2⟩
def args0 : Array Value := #[.int 5, .int 300, .int 7, .int 8, .int 6, .int 7]
def aboutOver (below : List Frame) : State where
  vm := { classes := classes, interned := interned.toArray }
  heap := heap
  slotsUsed := slotsUsed
  threads := #[{ frames := .invoking theMethod args0 :: below }]
def below0 : List Frame := [.native { method := ⟨0, 0⟩, args := #[] }]
def about1 : State := aboutOver below0
def p0 : Program := .bare "" "" ""
def e0 : Env := launch0.env 0 0 0
theorem w_frames : about1.frames = Frame.invoking theMethod args0 :: below0 := rfl
set_option maxRecDepth 65536 in
theorem w_args : argsFit about1.vm theMethod args0 = true := by decide +kernel
set_option maxRecDepth 65536 in
theorem w_heap : heapFits about1 = true := by decide +kernel
set_option maxRecDepth 65536 in
theorem w_runnable : about1.curStatus? = some .runnable := by decide +kernel
set_option maxRecDepth 65536 in
theorem w_alone : about1.alone = true := by decide +kernel
set_option maxRecDepth 65536 in
theorem w_named : about1.methodNamed? x = some theMethod := by decide +kernel
set_option maxRecDepth 65536 in
theorem w_hears : about1.hears theMethod below0 = true := by decide +kernel
set_option maxRecDepth 65536 in
theorem w_ripe : about1.ripe theMethod args0 below0 = true := by decide +kernel
theorem w_running : about1.status = .running := rfl
set_option maxRecDepth 65536 in
theorem w_room : about1.hasRoom e0.platform room_1 = true :=
  launch0.hasRoom_least _ room_1 (by decide +kernel) (by decide +kernel) (by decide +kernel) (by decide +kernel) (by decide +kernel) (by decide +kernel)
theorem allAtoms_all (ts : List Jvm.Cond) (a : Array Jvm.Value) (st : Jvm.State) : (allAtoms ts).before a st = ts.all (fun c => c.before a st) := by
  induction ts with
  | nil => rfl
  | cons c t ih =>
    show (Jvm.Cond.and c (allAtoms t)).before a st = _
    rw [Jvm.Cond.before_and, ih, List.all_cons]
def words1 : List Jvm.Cond := Jvm.Cond.code x code maxLocals ret :: tables_1
/-- a 'code' word, met by the world's own term for the bytes: nothing is compared byte by byte -/
theorem code_word {y : MethodName} {bytes : ByteArray} {mx : Nat} {rt : Option FieldType} {a : Array Value} {s : State} {m : MethodId} {meth : Method} {c : Code} (h1 : s.methodNamed? y = some m) (h2 : s.vm.method? m = some meth) (h3 : meth.code = some c) (h4 : c.code = bytes)
    (h5 : (c.maxLocals == mx && c.exceptionTable.isEmpty && decide (c.maxStack ≤ mostOperands) && decide (meth.sig.returnType = rt) && !meth.locks && decide (parseMethodDescriptor y.desc = some meth.sig)) = true) : (Jvm.Cond.code y bytes mx rt).before a s = true := by
  simp only [Bool.and_eq_true, beq_iff_eq, Bool.not_eq_true', decide_eq_true_eq] at h5
  obtain ⟨⟨⟨⟨⟨g1, g2⟩, g3⟩, g4⟩, g5⟩, g6⟩ := h5
  simp [Cond.before, Cond.holds, Cond.value, h1, h2, h3, h4, g1, g2, g3, g4, g5, g6]
def isCode : Jvm.Cond → Bool
  | .code _ _ _ _ => true
  | _ => false
theorem all_split {L : List Jvm.Cond} {P : Jvm.Cond → Bool} (h1 : L.all (fun c => isCode c || P c) = true) (h2 : ∀ c ∈ L.filter isCode, P c = true) : L.all P = true := by
  refine List.all_eq_true.mpr fun c hc => ?_
  have h := List.all_eq_true.mp h1 c hc
  rcases Bool.eq_false_or_eq_true (isCode c) with hi | hi
  · exact h2 c (List.mem_filter.mpr ⟨hc, hi⟩)
  · simpa [hi] using h
set_option maxRecDepth 65536 in
theorem w_c0 : (Jvm.Cond.code x code maxLocals ret).before args0 about1 = true := code_word (m := ⟨1, 2⟩) (meth := k1m2) (c := k1c2) (by decide +kernel) rfl rfl rfl (by decide +kernel)
set_option maxRecDepth 65536 in
theorem w_c1 : (Jvm.Cond.code ({ cls := "com/example/paths_to_documents/pathstodocuments/query/StretchBox", name := "<init>", desc := "(IIII)V" } : Jvm.MethodName) prog_143_method_1_code (5 : Nat) (Option.none : Option Jvm.ClassFile.FieldType)).before args0 about1 = true := code_word (m := ⟨3, 0⟩) (meth := k3m0) (c := k3c0) (by decide +kernel) rfl rfl rfl (by decide +kernel)
set_option maxRecDepth 65536 in
theorem w_c2 : (Jvm.Cond.code ({ cls := "java/lang/Record", name := "<init>", desc := "()V" } : Jvm.MethodName) jdk_30_method_1_code (1 : Nat) (Option.none : Option Jvm.ClassFile.FieldType)).before args0 about1 = true := code_word (m := ⟨2, 0⟩) (meth := k2m0) (c := k2c0) (by decide +kernel) rfl rfl rfl (by decide +kernel)
set_option maxRecDepth 65536 in
theorem w_c3 : (Jvm.Cond.code ({ cls := "java/lang/Object", name := "<init>", desc := "()V" } : Jvm.MethodName) object_method_1_code (1 : Nat) (Option.none : Option Jvm.ClassFile.FieldType)).before args0 about1 = true := code_word (m := ⟨0, 0⟩) (meth := k0m0) (c := k0c0) (by decide +kernel) rfl rfl rfl (by decide +kernel)
set_option maxRecDepth 65536 in
theorem w_c4 : (Jvm.Cond.code ({ cls := "com/example/paths_to_documents/pathstodocuments/query/StretchBox", name := "holds", desc := "(II)Z" } : Jvm.MethodName) prog_143_method_4_code (3 : Nat) (Option.some Jvm.ClassFile.FieldType.boolean)).before args0 about1 = true := code_word (m := ⟨3, 1⟩) (meth := k3m1) (c := k3c1) (by decide +kernel) rfl rfl rfl (by decide +kernel)
set_option maxRecDepth 65536 in
theorem w_c5 : (Jvm.Cond.code ({ cls := "com/example/paths_to_documents/pathstodocuments/query/StretchBoxHoldsPinLaw", name := "inHalfOpen", desc := "(III)Z" } : Jvm.MethodName) method_2_code (7 : Nat) (Option.some Jvm.ClassFile.FieldType.boolean)).before args0 about1 = true := code_word (m := ⟨1, 1⟩) (meth := k1m1) (c := k1c1) (by decide +kernel) rfl rfl rfl (by decide +kernel)
def codes1 : List Jvm.Cond := [Jvm.Cond.code x code maxLocals ret, Jvm.Cond.code ({ cls := "com/example/paths_to_documents/pathstodocuments/query/StretchBox", name := "<init>", desc := "(IIII)V" } : Jvm.MethodName) prog_143_method_1_code (5 : Nat) (Option.none : Option Jvm.ClassFile.FieldType), Jvm.Cond.code ({ cls := "java/lang/Record", name := "<init>", desc := "()V" } : Jvm.MethodName) jdk_30_method_1_code (1 : Nat) (Option.none : Option Jvm.ClassFile.FieldType), Jvm.Cond.code ({ cls := "java/lang/Object", name := "<init>", desc := "()V" } : Jvm.MethodName) object_method_1_code (1 : Nat) (Option.none : Option Jvm.ClassFile.FieldType), Jvm.Cond.code ({ cls := "com/example/paths_to_documents/pathstodocuments/query/StretchBox", name := "holds", desc := "(II)Z" } : Jvm.MethodName) prog_143_method_4_code (3 : Nat) (Option.some Jvm.ClassFile.FieldType.boolean), Jvm.Cond.code ({ cls := "com/example/paths_to_documents/pathstodocuments/query/StretchBoxHoldsPinLaw", name := "inHalfOpen", desc := "(III)Z" } : Jvm.MethodName) method_2_code (7 : Nat) (Option.some Jvm.ClassFile.FieldType.boolean)]
set_option maxRecDepth 65536 in
theorem codes_eq : words1.filter isCode = codes1 := rfl
theorem w_codes : ∀ c ∈ words1.filter isCode, c.before args0 about1 = true := by
  rw [codes_eq]
  intro c hc
  simp only [codes1, List.mem_cons, List.not_mem_nil, or_false] at hc
  rcases hc with rfl | rfl | rfl | rfl | rfl | rfl
  · exact w_c0
  · exact w_c1
  · exact w_c2
  · exact w_c3
  · exact w_c4
  · exact w_c5
set_option maxRecDepth 65536 in
theorem w_t1 : (words1.take 24).all (fun c => isCode c || c.before args0 about1) = true := by decide +kernel
set_option maxRecDepth 65536 in
theorem w_t2 : (words1.drop 24).all (fun c => isCode c || c.before args0 about1) = true := by decide +kernel
theorem w_tables : (allAtoms (Jvm.Cond.code x code maxLocals ret :: tables_1)).before args0 about1 = true := by
  rw [allAtoms_all]
  show words1.all (fun c => c.before args0 about1) = true
  refine all_split ?_ w_codes
  rw [← List.take_append_drop 24 words1, List.all_append, w_t1, w_t2]
  rfl
set_option maxRecDepth 65536 in
theorem w_case : (Jvm.Cond.and given_1 narrow_1).before args0 about1 = true := by decide +kernel
theorem w_applies : (headSpec (Jvm.Cond.code x code maxLocals ret :: tables_1) room_1).applies x e0.platform about1 = true :=
  (Spec.applies_iff w_frames).mpr ⟨w_running, w_runnable, w_alone, w_named, w_hears, w_ripe, w_room, w_tables⟩
theorem atStart : AtStart classFile x code maxLocals ret World_1 tables_1 room_1 Calls_1 rest_1 Pre_1 launch0 p0 e0 about1 theMethod args0 below0 :=
  ⟨lists_1, trivial, launch0.admits_env _ _ _, launch0.least_env, fairChoices_fair.cas, fairChoices_fair.clock, w_frames, w_args, w_heap, w_applies, trivial, trivial, w_case⟩
end start1
theorem witness_1 : WitnessClaimed_1 := ⟨start1.p0, start1.e0, start1.about1, start1.theMethod, start1.args0, start1.below0, start1.atStart⟩
end Jvm.Pilot.@@N@@
