import JvmDerived
import JvmDerived.Pilot.@@N@@Statement
import JvmDerived.Pilot.@@N@@Code
set_option linter.unusedVariables false
set_option linter.unusedSimpArgs false
namespace Jvm.Pilot.@@N@@
open Jvm Jvm.ClassFile Sem Op Lib Jvm.Free Jvm.Stand Jvm.LawKit Jvm.RoadKit Bundle Jvm.Pilot.@@N@@.Jvm.D
section Own
variable {p : Program} {l : Launch} {e : Env} {R : Room} {s : State} {m : MethodId} {args : Array Value} {below : List Frame} {meth : Method} {c : Code} {T T' : State} {locs : List Loc} {cells slots : Nat} {QQ : Option Value → Heap → List Loc → Prop} {RC RS : Nat} {g g' : JFrame}
/-- from this frame the run comes to the method's end, and what it leaves is as QQ says -/
def own_Run (p : Program) (e : Env) (below : List Frame) (s : State) (QQ : Option Value → Heap → List Loc → Prop) (RC RS : Nat) (T : State) (g : JFrame) : Prop :=
  ∃ s₂ o, Steps p.tables e below (T.setTop g) s₂ ∧ s₂.status = .running ∧ Ended s₂ below o ∧ ∃ v L, o = .returned v ∧ QQ v s₂.heap L ∧ FrameEnd s o s₂ L RC RS
theorem own_go (h : ∀ t, Steps p.tables e below (T'.setTop g') t → Steps p.tables e below (T.setTop g) t) (r : own_Run p e below s QQ RC RS T' g') : own_Run p e below s QQ RC RS T g := by
  obtain ⟨s₂, o, k, r⟩ := r
  exact ⟨s₂, o, h _ k, r⟩
theorem own_enter {g0 : JFrame} (q : g0 = g) (r : own_Run p e below s QQ RC RS T g) : ∃ s₂ o, Steps p.tables e below (T.setTop g0) s₂ ∧ s₂.status = .running ∧ Ended s₂ below o ∧ ∃ v L, o = .returned v ∧ QQ v s₂.heap L ∧ FrameEnd s o s₂ L RC RS := by
  subst q; exact r
theorem own_retZ (X : Stand p l e R s m args below meth c T locs cells slots) (hx : p.tables.exec = Jvm.exec) (hlk : meth.locks = false) (hret : meth.sig.returnType = some .boolean) {pc : Nat} {Ls : Array Slot} {z : Int32} {rest : List Value} (hd : decode c.code pc = .ok (.ireturn, 1)) (hz : nar .boolean z = z)
    (hQ : QQ (some (.int z)) T.heap locs) (hc : cells ≤ RC) (hs : slots ≤ RS) : own_Run p e below s QQ RC RS T (mkF m pc Ls (.int z :: rest)) := by
  obtain ⟨fs, hr, hrun, hended, hW, hsame⟩ := X.leave (v := some (.int z)) (fun h => by rw [hret] at h; cases h) hlk
  refine ⟨_, _, retN X hx (t := .boolean) hret (by simp) hd (by rw [hz]; exact hr), hrun, hended, _, _, rfl, hQ, ⟨_, rfl⟩, hW, hsame.mono hc hs⟩
theorem own_retI (X : Stand p l e R s m args below meth c T locs cells slots) (hx : p.tables.exec = Jvm.exec) (hlk : meth.locks = false) (hret : meth.sig.returnType = some .int) {pc : Nat} {Ls : Array Slot} {z : Int32} {rest : List Value} (hd : decode c.code pc = .ok (.ireturn, 1))
    (hQ : QQ (some (.int z)) T.heap locs) (hc : cells ≤ RC) (hs : slots ≤ RS) : own_Run p e below s QQ RC RS T (mkF m pc Ls (.int z :: rest)) := by
  obtain ⟨fs, hr, hrun, hended, hW, hsame⟩ := X.leave (v := some (.int z)) (fun h => by rw [hret] at h; cases h) hlk
  refine ⟨_, _, ?_, hrun, hended, _, _, rfl, hQ, ⟨_, rfl⟩, hW, hsame.mono hc hs⟩
  have hm' : T.vm.method? m = some meth := X.method'
  have hn : narrow .int (.int z) = .int z := rfl
  show Steps p.tables e below (T.setTop { method := m, pc := pc, locals := Ls, stack := _ :: rest, locked := none }) _
  jvm_step X.here [X.here.top, hx, hd, hm', hret, hn]
  first | (intro acts; rw [hr _ acts rfl rfl rfl]) | rw [hr _ _ rfl rfl rfl]
  exact Steps.refl _
theorem own_retJ (X : Stand p l e R s m args below meth c T locs cells slots) (hx : p.tables.exec = Jvm.exec) (hlk : meth.locks = false) (hret : meth.sig.returnType = some .long) {pc : Nat} {Ls : Array Slot} {z : Int64} (hd : decode c.code pc = .ok (.lreturn, 1))
    (hQ : QQ (some (.long z)) T.heap locs) (hc : cells ≤ RC) (hs : slots ≤ RS) : own_Run p e below s QQ RC RS T (mkF m pc Ls [.long z]) := by
  obtain ⟨fs, hr, hrun, hended, hW, hsame⟩ := X.leave (v := some (.long z)) (fun h => by rw [hret] at h; cases h) hlk
  exact ⟨_, _, X.lreturnOut hx hret hd hr, hrun, hended, _, _, rfl, hQ, ⟨_, rfl⟩, hW, hsame.mono hc hs⟩
theorem own_retV (X : Stand p l e R s m args below meth c T locs cells slots) (hx : p.tables.exec = Jvm.exec) (hlk : meth.locks = false) (hret : meth.sig.returnType = none) {pc : Nat} {Ls : Array Slot} (hd : decode c.code pc = .ok (.return_, 1))
    (hQ : QQ none T.heap locs) (hc : cells ≤ RC) (hs : slots ≤ RS) : own_Run p e below s QQ RC RS T (mkF m pc Ls []) := by
  obtain ⟨fs, hr, hrun, hended, hW, hsame⟩ := X.leave (v := none) (fun _ => rfl) hlk
  exact ⟨_, _, X.returnOut hx hret hd hr, hrun, hended, _, _, rfl, hQ, ⟨_, rfl⟩, hW, hsame.mono hc hs⟩
theorem own_retA (X : Stand p l e R s m args below meth c T locs cells slots) (hx : p.tables.exec = Jvm.exec) (hlk : meth.locks = false) {ty : FieldType} (hty : ty.isReference = true) (hret : meth.sig.returnType = some ty) {pc : Nat} {Ls : Array Slot} {a : Addr} {rest : List Value} (hd : decode c.code pc = .ok (.areturn, 1))
    (hQ : QQ (some (.ref a)) T.heap locs) (hc : cells ≤ RC) (hs : slots ≤ RS) : own_Run p e below s QQ RC RS T (mkF m pc Ls (.ref a :: rest)) := by
  obtain ⟨fs, hr, hrun, hended, hW, hsame⟩ := X.leave (v := some (.ref a)) (fun h => by rw [hret] at h; cases h) hlk
  refine ⟨_, _, ?_, hrun, hended, _, _, rfl, hQ, ⟨_, rfl⟩, hW, hsame.mono hc hs⟩
  have hm' : T.vm.method? m = some meth := X.method'
  show Steps p.tables e below (T.setTop { method := m, pc := pc, locals := Ls, stack := _ :: rest, locked := none }) _
  jvm_step X.here [X.here.top, hx, hd, hm', hret, hty, Value.isRef]
  first | (intro acts; rw [hr _ acts rfl rfl rfl]) | rw [hr _ _ rfl rfl rfl]
  exact Steps.refl _
end Own
theorem d2_0 : decode jdk_30_method_1_code 0 = .ok (.aload_n 0, 1) := by decide +kernel
theorem d2_1 : decode jdk_30_method_1_code 1 = .ok (.invokespecial 1, 3) := by decide +kernel
theorem d2_4 : decode jdk_30_method_1_code 4 = .ok (.return_, 1) := by decide +kernel
theorem pn_2 : plainName "java/lang/Record" = true := by first | (simp [plainName, overriddenIn]; done) | decide +kernel
theorem own_pd0 : parseMethodDescriptor "()V" = some ⟨[], none⟩ := by decide +kernel
theorem ef_2 (m : MethodId) (x0 : Addr) : entryFrame m #[(.ref x0)] 1 = mkF m 0 #[.val (.ref x0)] [] := by first | (simp [entryFrame, mkF, argsToLocals, Value.category]; done) | rfl
def Q2 (Z : State) (a : Addr) (h0 : Heap) (n0 : Nat) (v : Option Value) (h : Heap) (L : List Loc) : Prop := v = none ∧ Fr n0 L ∧ h = h0
set_option maxRecDepth 65536 in
set_option maxHeartbeats 40000000 in
theorem rm2 (l : Launch) (Z : State) (a0 : Array Value) (hw : ∀ d ∈ tables_1, d.before a0 Z = true) (ws : List Jvm.Cond) (a : Addr) (h0 : Heap) (n0 : Nat) (Z0 : n0 ≤ h0.size) :
    MetFree l (⟨"java/lang/Record", "<init>", "()V"⟩ : MethodName) (head1 (Jvm.Cond.code (⟨"java/lang/Record", "<init>", "()V"⟩ : MethodName) jdk_30_method_1_code 1 none :: ws) ({ frames := 1, cells := 0, slots := 0, locals := 12 } : Room)) (fun aa U => aa = #[(.ref a)] ∧ Z.Warmed39 U.vm ∧ U.heap = h0) (fun _ _ _ _ _ => True) (fun _ U o U' => ∃ v L, o = .returned v ∧ Q2 Z a h0 n0 v U'.heap L ∧ FrameEnd U o U' L ({ frames := 1, cells := 0, slots := 0, locals := 12 } : Room).cells ({ frames := 1, cells := 0, slots := 0, locals := 12 } : Room).slots) := by
  refine MetFree.of_bodySF (plainFor_of_name pn_2) hisR ?_
  intro p e s m args below meth c s₁ Bd hml0 hP hK
  obtain ⟨rfl, hZ, hh⟩ := hP
  have hx := Bd.exec
  have hby := Bd.bytes
  have hml : c.maxLocals = 1 := hml0
  have hown : s.vm.findClass "java/lang/Record" = some m.cls := findClass_of_methodNamed Bd.named
  have hnm := (name_of_methodNamed Bd.named Bd.method).1
  have X0 : Stand p l e ({ frames := 1, cells := 0, slots := 0, locals := 12 } : Room) s m #[(.ref a)] below meth c s₁ [] 0 0 := Stand.of_body Bd
  have e0 : s₁.heap = h0 := by rw [← hh, Bd.state]; rfl
  have N0 := Fr.nil n0
  refine own_enter (QQ := Q2 Z a h0 n0) (ef_2 m a) ?_
  refine own_go (T' := s₁) (g' := (mkF m 1 #[.val (.ref a)] [(.ref a)])) (fun t k => XS.aloadN X0.here hx rfl (hb hby d2_0) rfl rfl k) ?_
  obtain ⟨T1, X1, e1, st1⟩ := initO X0 hx hZ hown (hw _ (List.mem_of_getElem? (i := 12) rfl)) (hw _ (List.mem_of_getElem? (i := 13) rfl)) (hw _ (List.mem_of_getElem? (i := 14) rfl)) e0 (g := (mkF m 1 #[.val (.ref a)] [(.ref a)])) rfl (by rw [hml]; rfl) rfl (hb hby d2_1) (by decide) (W := 0) (by show 2 * 0 + _ ≤ _; exact Nat.le_of_eq rfl) (by decide)
  refine own_go (T' := T1) (g' := (mkF m 4 #[.val (.ref a)] [])) (st1) ?_
  exact own_retV X1 hx Bd.notSynchronized Bd.returns (hb hby d2_4) ⟨rfl, N0, e1⟩ (by decide) (by decide)
theorem d1_0 : decode prog_143_method_1_code 0 = .ok (.aload_n 0, 1) := by decide +kernel
theorem d1_1 : decode prog_143_method_1_code 1 = .ok (.invokespecial 1, 3) := by decide +kernel
theorem d1_4 : decode prog_143_method_1_code 4 = .ok (.aload_n 0, 1) := by decide +kernel
theorem d1_5 : decode prog_143_method_1_code 5 = .ok (.iload_n 1, 1) := by decide +kernel
theorem d1_6 : decode prog_143_method_1_code 6 = .ok (.putfield 7, 3) := by decide +kernel
theorem d1_9 : decode prog_143_method_1_code 9 = .ok (.aload_n 0, 1) := by decide +kernel
theorem d1_10 : decode prog_143_method_1_code 10 = .ok (.iload_n 2, 1) := by decide +kernel
theorem d1_11 : decode prog_143_method_1_code 11 = .ok (.putfield 13, 3) := by decide +kernel
theorem d1_14 : decode prog_143_method_1_code 14 = .ok (.aload_n 0, 1) := by decide +kernel
theorem d1_15 : decode prog_143_method_1_code 15 = .ok (.iload_n 3, 1) := by decide +kernel
theorem d1_16 : decode prog_143_method_1_code 16 = .ok (.putfield 16, 3) := by decide +kernel
theorem d1_19 : decode prog_143_method_1_code 19 = .ok (.aload_n 0, 1) := by decide +kernel
theorem d1_20 : decode prog_143_method_1_code 20 = .ok (.iload 4, 2) := by decide +kernel
theorem d1_22 : decode prog_143_method_1_code 22 = .ok (.putfield 19, 3) := by decide +kernel
theorem d1_25 : decode prog_143_method_1_code 25 = .ok (.return_, 1) := by decide +kernel
theorem pn_1 : plainName "com/example/paths_to_documents/pathstodocuments/query/StretchBox" = true := by first | (simp [plainName, overriddenIn]; done) | decide +kernel
theorem ef_1 (m : MethodId) (x0 : Addr) (x1 : Int32) (x2 : Int32) (x3 : Int32) (x4 : Int32) : entryFrame m #[(.ref x0), (.int x1), (.int x2), (.int x3), (.int x4)] 5 = mkF m 0 #[.val (.ref x0), .val (.int x1), .val (.int x2), .val (.int x3), .val (.int x4)] [] := by first | (simp [entryFrame, mkF, argsToLocals, Value.category]; done) | rfl
def Q1 (Z : State) (a : Addr) (p1 : Int32) (p2 : Int32) (p3 : Int32) (p4 : Int32) (h0 : Heap) (n0 : Nat) (v : Option Value) (h : Heap) (L : List Loc) : Prop := v = none ∧ Fr n0 L ∧ Keep h0 h [a] ∧ Fld Z h a "com/example/paths_to_documents/pathstodocuments/query/StretchBox" "startFrom" "I" (.int p1) ∧ Fld Z h a "com/example/paths_to_documents/pathstodocuments/query/StretchBox" "startTo" "I" (.int p2) ∧ Fld Z h a "com/example/paths_to_documents/pathstodocuments/query/StretchBox" "endFrom" "I" (.int p3) ∧ Fld Z h a "com/example/paths_to_documents/pathstodocuments/query/StretchBox" "endTo" "I" (.int p4)
set_option maxRecDepth 65536 in
set_option maxHeartbeats 40000000 in
theorem rm1 (l : Launch) (Z : State) (a0 : Array Value) (hw : ∀ d ∈ tables_1, d.before a0 Z = true) (ws : List Jvm.Cond) (a : Addr) (p1 : Int32) (p2 : Int32) (p3 : Int32) (p4 : Int32) (h0 : Heap) (n0 : Nat) (Z0 : n0 ≤ h0.size) (F_startFrom_a : Fld Z h0 a "com/example/paths_to_documents/pathstodocuments/query/StretchBox" "startFrom" "I" (.int (0 : Int32))) (F_startTo_a : Fld Z h0 a "com/example/paths_to_documents/pathstodocuments/query/StretchBox" "startTo" "I" (.int (0 : Int32))) (F_endFrom_a : Fld Z h0 a "com/example/paths_to_documents/pathstodocuments/query/StretchBox" "endFrom" "I" (.int (0 : Int32))) (F_endTo_a : Fld Z h0 a "com/example/paths_to_documents/pathstodocuments/query/StretchBox" "endTo" "I" (.int (0 : Int32))) (E_a : Exa Z h0 a "com/example/paths_to_documents/pathstodocuments/query/StretchBox") (gn_a : n0 ≤ a) :
    MetFree l (⟨"com/example/paths_to_documents/pathstodocuments/query/StretchBox", "<init>", "(IIII)V"⟩ : MethodName) (head1 (Jvm.Cond.code (⟨"com/example/paths_to_documents/pathstodocuments/query/StretchBox", "<init>", "(IIII)V"⟩ : MethodName) prog_143_method_1_code 5 none :: ws) ({ frames := 2, cells := 0, slots := 0, locals := 24 } : Room)) (fun aa U => aa = #[(.ref a), (.int p1), (.int p2), (.int p3), (.int p4)] ∧ Z.Warmed39 U.vm ∧ U.heap = h0) (fun _ _ _ _ _ => True) (fun _ U o U' => ∃ v L, o = .returned v ∧ Q1 Z a p1 p2 p3 p4 h0 n0 v U'.heap L ∧ FrameEnd U o U' L ({ frames := 2, cells := 0, slots := 0, locals := 24 } : Room).cells ({ frames := 2, cells := 0, slots := 0, locals := 24 } : Room).slots) := by
  refine MetFree.of_bodySF (plainFor_of_name pn_1) hisR ?_
  intro p e s m args below meth c s₁ Bd hml0 hP hK
  obtain ⟨rfl, hZ, hh⟩ := hP
  have hx := Bd.exec
  have hby := Bd.bytes
  have hml : c.maxLocals = 5 := hml0
  have hown : s.vm.findClass "com/example/paths_to_documents/pathstodocuments/query/StretchBox" = some m.cls := findClass_of_methodNamed Bd.named
  have hnm := (name_of_methodNamed Bd.named Bd.method).1
  have X0 : Stand p l e ({ frames := 2, cells := 0, slots := 0, locals := 24 } : Room) s m #[(.ref a), (.int p1), (.int p2), (.int p3), (.int p4)] below meth c s₁ [] 0 0 := Stand.of_body Bd
  have e0 : s₁.heap = h0 := by rw [← hh, Bd.state]; rfl
  have N0 := Fr.nil n0
  refine own_enter (QQ := Q1 Z a p1 p2 p3 p4 h0 n0) (ef_1 m a p1 p2 p3 p4) ?_
  refine own_go (T' := s₁) (g' := (mkF m 1 #[.val (.ref a), .val (.int p1), .val (.int p2), .val (.int p3), .val (.int p4)] [(.ref a)])) (fun t k => XS.aloadN X0.here hx rfl (hb hby d1_0) rfl rfl k) ?_
  obtain ⟨_, _, ⟨T2, L2, k2, n2⟩, -, X2, ⟨Lc2, hQ2, l2, y2, z2⟩, st2⟩ := X0.specialBack hx (y := (⟨"java/lang/Record", "<init>", "()V"⟩ : MethodName)) rfl hown (mvT hZ (hw _ (List.mem_of_getElem? (i := 7) rfl))) (mvT hZ (hw _ (List.mem_of_getElem? (i := 8) rfl))) (mvT hZ (hw _ (List.mem_of_getElem? (i := 11) rfl))) (by decide) (backOf (W := 0) (rm2 l Z a0 hw [] a h0 n0 Z0) hZ (hw _ (List.mem_of_getElem? (i := 11) rfl)) (hw _ (List.mem_of_getElem? (i := 10) rfl)) (by decide) (by decide)) (g := (mkF m 1 #[.val (.ref a), .val (.int p1), .val (.int p2), .val (.int p3), .val (.int p4)] [(.ref a)])) rfl (by rw [hml]; rfl) (Steps.refl _) (a := a) (argsL := []) (rest := []) (lenOf own_pd0 rfl) rfl (by show 2 * 0 + _ ≤ _; exact Nat.le_of_eq rfl) (hb hby d1_1) (fun _ _ => ⟨rfl, e0, (by decide : 0 + 0 ≤ _), (by decide : 0 + 0 ≤ _)⟩)
  dsimp only [Pt.U, Pt.locs, Pt.cells, Pt.slots] at X2 l2 y2 z2 st2 hQ2
  subst l2 y2 z2
  obtain ⟨rfl, M2, K2⟩ := hQ2
  have N2 := Fr.app N0 M2
  refine own_go (T' := T2) (g' := (mkF m 4 #[.val (.ref a), .val (.int p1), .val (.int p2), .val (.int p3), .val (.int p4)] [])) (fun _ k => st2.trans k) ?_
  refine own_go (T' := T2) (g' := (mkF m 5 #[.val (.ref a), .val (.int p1), .val (.int p2), .val (.int p3), .val (.int p4)] [(.ref a)])) (fun t k => XS.aloadN X2.here hx rfl (hb hby d1_4) rfl rfl k) ?_
  refine own_go (T' := T2) (g' := (mkF m 6 #[.val (.ref a), .val (.int p1), .val (.int p2), .val (.int p3), .val (.int p4)] [(.int p1), (.ref a)])) (fun t k => XS.iloadN X2.here hx rfl (hb hby d1_5) rfl k) ?_
  obtain ⟨T3, h3, X3, e3, W3, st3⟩ := putF X2 hx hZ hown (host := "") (Or.inl (hw _ (List.mem_of_getElem? (i := 15) rfl))) Via.refl K2 F_startFrom_a E_a (Or.inr ⟨(hw _ (List.mem_of_getElem? (i := 16) rfl)), rfl, hnm⟩) (hw _ (List.mem_of_getElem? (i := 1) rfl)) (ty := .int) (by decide) rfl rfl (g := (mkF m 6 #[.val (.ref a), .val (.int p1), .val (.int p2), .val (.int p3), .val (.int p4)] [(.int p1), (.ref a)])) rfl rfl (hb hby d1_6)
  have N3 := Fr.snoc X3 N2 gn_a
  have E_a := E_a.wr W3
  have F_startTo_a := F_startTo_a.other W3 (Or.inr (slot_ne (Or.inr (hw _ (List.mem_of_getElem? (i := 18) rfl))) (Or.inr (hw _ (List.mem_of_getElem? (i := 16) rfl))) (by decide) (t := .int) (t' := .int) (by decide) (by decide)))
  have F_endFrom_a := F_endFrom_a.other W3 (Or.inr (slot_ne (Or.inr (hw _ (List.mem_of_getElem? (i := 20) rfl))) (Or.inr (hw _ (List.mem_of_getElem? (i := 16) rfl))) (by decide) (t := .int) (t' := .int) (by decide) (by decide)))
  have F_endTo_a := F_endTo_a.other W3 (Or.inr (slot_ne (Or.inr (hw _ (List.mem_of_getElem? (i := 22) rfl))) (Or.inr (hw _ (List.mem_of_getElem? (i := 16) rfl))) (by decide) (t := .int) (t' := .int) (by decide) (by decide)))
  have F_startFrom_a := F_startFrom_a.same W3
  have Z4 : n0 ≤ h3.size := Nat.le_trans Z0 (Keep.of_wr W3).1
  have K5 : Keep h0 h3 [a] := (Keep.refl h0 [a]).wr W3 (Or.inl (List.mem_of_getElem? (i := 0) rfl))
  refine own_go (T' := T3) (g' := (mkF m 9 #[.val (.ref a), .val (.int p1), .val (.int p2), .val (.int p3), .val (.int p4)] [])) (st3) ?_
  refine own_go (T' := T3) (g' := (mkF m 10 #[.val (.ref a), .val (.int p1), .val (.int p2), .val (.int p3), .val (.int p4)] [(.ref a)])) (fun t k => XS.aloadN X3.here hx rfl (hb hby d1_9) rfl rfl k) ?_
  refine own_go (T' := T3) (g' := (mkF m 11 #[.val (.ref a), .val (.int p1), .val (.int p2), .val (.int p3), .val (.int p4)] [(.int p2), (.ref a)])) (fun t k => XS.iloadN X3.here hx rfl (hb hby d1_10) rfl k) ?_
  obtain ⟨T6, h6, X6, e6, W6, st6⟩ := putF X3 hx hZ hown (host := "") (Or.inl (hw _ (List.mem_of_getElem? (i := 17) rfl))) Via.refl e3 F_startTo_a E_a (Or.inr ⟨(hw _ (List.mem_of_getElem? (i := 18) rfl)), rfl, hnm⟩) (hw _ (List.mem_of_getElem? (i := 1) rfl)) (ty := .int) (by decide) rfl rfl (g := (mkF m 11 #[.val (.ref a), .val (.int p1), .val (.int p2), .val (.int p3), .val (.int p4)] [(.int p2), (.ref a)])) rfl rfl (hb hby d1_11)
  have N6 := Fr.snoc X6 N3 gn_a
  have E_a := E_a.wr W6
  have F_startFrom_a := F_startFrom_a.other W6 (Or.inr (slot_ne (Or.inr (hw _ (List.mem_of_getElem? (i := 16) rfl))) (Or.inr (hw _ (List.mem_of_getElem? (i := 18) rfl))) (by decide) (t := .int) (t' := .int) (by decide) (by decide)))
  have F_endFrom_a := F_endFrom_a.other W6 (Or.inr (slot_ne (Or.inr (hw _ (List.mem_of_getElem? (i := 20) rfl))) (Or.inr (hw _ (List.mem_of_getElem? (i := 18) rfl))) (by decide) (t := .int) (t' := .int) (by decide) (by decide)))
  have F_endTo_a := F_endTo_a.other W6 (Or.inr (slot_ne (Or.inr (hw _ (List.mem_of_getElem? (i := 22) rfl))) (Or.inr (hw _ (List.mem_of_getElem? (i := 18) rfl))) (by decide) (t := .int) (t' := .int) (by decide) (by decide)))
  have F_startTo_a := F_startTo_a.same W6
  have Z7 : n0 ≤ h6.size := Nat.le_trans Z4 (Keep.of_wr W6).1
  have K8 : Keep h0 h6 [a] := K5.wr W6 (Or.inl (List.mem_of_getElem? (i := 0) rfl))
  refine own_go (T' := T6) (g' := (mkF m 14 #[.val (.ref a), .val (.int p1), .val (.int p2), .val (.int p3), .val (.int p4)] [])) (st6) ?_
  refine own_go (T' := T6) (g' := (mkF m 15 #[.val (.ref a), .val (.int p1), .val (.int p2), .val (.int p3), .val (.int p4)] [(.ref a)])) (fun t k => XS.aloadN X6.here hx rfl (hb hby d1_14) rfl rfl k) ?_
  refine own_go (T' := T6) (g' := (mkF m 16 #[.val (.ref a), .val (.int p1), .val (.int p2), .val (.int p3), .val (.int p4)] [(.int p3), (.ref a)])) (fun t k => XS.iloadN X6.here hx rfl (hb hby d1_15) rfl k) ?_
  obtain ⟨T9, h9, X9, e9, W9, st9⟩ := putF X6 hx hZ hown (host := "") (Or.inl (hw _ (List.mem_of_getElem? (i := 19) rfl))) Via.refl e6 F_endFrom_a E_a (Or.inr ⟨(hw _ (List.mem_of_getElem? (i := 20) rfl)), rfl, hnm⟩) (hw _ (List.mem_of_getElem? (i := 1) rfl)) (ty := .int) (by decide) rfl rfl (g := (mkF m 16 #[.val (.ref a), .val (.int p1), .val (.int p2), .val (.int p3), .val (.int p4)] [(.int p3), (.ref a)])) rfl rfl (hb hby d1_16)
  have N9 := Fr.snoc X9 N6 gn_a
  have E_a := E_a.wr W9
  have F_startFrom_a := F_startFrom_a.other W9 (Or.inr (slot_ne (Or.inr (hw _ (List.mem_of_getElem? (i := 16) rfl))) (Or.inr (hw _ (List.mem_of_getElem? (i := 20) rfl))) (by decide) (t := .int) (t' := .int) (by decide) (by decide)))
  have F_startTo_a := F_startTo_a.other W9 (Or.inr (slot_ne (Or.inr (hw _ (List.mem_of_getElem? (i := 18) rfl))) (Or.inr (hw _ (List.mem_of_getElem? (i := 20) rfl))) (by decide) (t := .int) (t' := .int) (by decide) (by decide)))
  have F_endTo_a := F_endTo_a.other W9 (Or.inr (slot_ne (Or.inr (hw _ (List.mem_of_getElem? (i := 22) rfl))) (Or.inr (hw _ (List.mem_of_getElem? (i := 20) rfl))) (by decide) (t := .int) (t' := .int) (by decide) (by decide)))
  have F_endFrom_a := F_endFrom_a.same W9
  have Z10 : n0 ≤ h9.size := Nat.le_trans Z7 (Keep.of_wr W9).1
  have K11 : Keep h0 h9 [a] := K8.wr W9 (Or.inl (List.mem_of_getElem? (i := 0) rfl))
  refine own_go (T' := T9) (g' := (mkF m 19 #[.val (.ref a), .val (.int p1), .val (.int p2), .val (.int p3), .val (.int p4)] [])) (st9) ?_
  refine own_go (T' := T9) (g' := (mkF m 20 #[.val (.ref a), .val (.int p1), .val (.int p2), .val (.int p3), .val (.int p4)] [(.ref a)])) (fun t k => XS.aloadN X9.here hx rfl (hb hby d1_19) rfl rfl k) ?_
  refine own_go (T' := T9) (g' := (mkF m 22 #[.val (.ref a), .val (.int p1), .val (.int p2), .val (.int p3), .val (.int p4)] [(.int p4), (.ref a)])) (fun t k => XS.iload X9.here hx rfl (hb hby d1_20) rfl k) ?_
  obtain ⟨T12, h12, X12, e12, W12, st12⟩ := putF X9 hx hZ hown (host := "") (Or.inl (hw _ (List.mem_of_getElem? (i := 21) rfl))) Via.refl e9 F_endTo_a E_a (Or.inr ⟨(hw _ (List.mem_of_getElem? (i := 22) rfl)), rfl, hnm⟩) (hw _ (List.mem_of_getElem? (i := 1) rfl)) (ty := .int) (by decide) rfl rfl (g := (mkF m 22 #[.val (.ref a), .val (.int p1), .val (.int p2), .val (.int p3), .val (.int p4)] [(.int p4), (.ref a)])) rfl rfl (hb hby d1_22)
  have N12 := Fr.snoc X12 N9 gn_a
  have E_a := E_a.wr W12
  have F_startFrom_a := F_startFrom_a.other W12 (Or.inr (slot_ne (Or.inr (hw _ (List.mem_of_getElem? (i := 16) rfl))) (Or.inr (hw _ (List.mem_of_getElem? (i := 22) rfl))) (by decide) (t := .int) (t' := .int) (by decide) (by decide)))
  have F_startTo_a := F_startTo_a.other W12 (Or.inr (slot_ne (Or.inr (hw _ (List.mem_of_getElem? (i := 18) rfl))) (Or.inr (hw _ (List.mem_of_getElem? (i := 22) rfl))) (by decide) (t := .int) (t' := .int) (by decide) (by decide)))
  have F_endFrom_a := F_endFrom_a.other W12 (Or.inr (slot_ne (Or.inr (hw _ (List.mem_of_getElem? (i := 20) rfl))) (Or.inr (hw _ (List.mem_of_getElem? (i := 22) rfl))) (by decide) (t := .int) (t' := .int) (by decide) (by decide)))
  have F_endTo_a := F_endTo_a.same W12
  have Z13 : n0 ≤ h12.size := Nat.le_trans Z10 (Keep.of_wr W12).1
  have K14 : Keep h0 h12 [a] := K11.wr W12 (Or.inl (List.mem_of_getElem? (i := 0) rfl))
  refine own_go (T' := T12) (g' := (mkF m 25 #[.val (.ref a), .val (.int p1), .val (.int p2), .val (.int p3), .val (.int p4)] [])) (st12) ?_
  exact own_retV X12 hx Bd.notSynchronized Bd.returns (hb hby d1_25) ⟨rfl, N12, by rw [e12]; exact K14, by rw [e12]; exact F_startFrom_a, by rw [e12]; exact F_startTo_a, by rw [e12]; exact F_endFrom_a, by rw [e12]; exact F_endTo_a⟩ (by decide) (by decide)
theorem d4_0 : decode prog_143_method_5_code 0 = .ok (.aload_n 0, 1) := by decide +kernel
theorem d4_1 : decode prog_143_method_5_code 1 = .ok (.getfield 7, 3) := by decide +kernel
theorem d4_4 : decode prog_143_method_5_code 4 = .ok (.ifCond .ne 32, 3) := by decide +kernel
theorem d4_7 : decode prog_143_method_5_code 7 = .ok (.aload_n 0, 1) := by decide +kernel
theorem d4_8 : decode prog_143_method_5_code 8 = .ok (.getfield 13, 3) := by decide +kernel
theorem d4_11 : decode prog_143_method_5_code 11 = .ok (.ldc 24, 2) := by decide +kernel
theorem d4_13 : decode prog_143_method_5_code 13 = .ok (.if_icmp .ne 23, 3) := by decide +kernel
theorem d4_16 : decode prog_143_method_5_code 16 = .ok (.aload_n 0, 1) := by decide +kernel
theorem d4_17 : decode prog_143_method_5_code 17 = .ok (.getfield 16, 3) := by decide +kernel
theorem d4_20 : decode prog_143_method_5_code 20 = .ok (.ifCond .ne 16, 3) := by decide +kernel
theorem d4_23 : decode prog_143_method_5_code 23 = .ok (.aload_n 0, 1) := by decide +kernel
theorem d4_24 : decode prog_143_method_5_code 24 = .ok (.getfield 19, 3) := by decide +kernel
theorem d4_27 : decode prog_143_method_5_code 27 = .ok (.ldc 24, 2) := by decide +kernel
theorem d4_29 : decode prog_143_method_5_code 29 = .ok (.if_icmp .ne 7, 3) := by decide +kernel
theorem d4_32 : decode prog_143_method_5_code 32 = .ok (.iconst 1, 1) := by decide +kernel
theorem d4_33 : decode prog_143_method_5_code 33 = .ok (.goto 4, 3) := by decide +kernel
theorem d4_36 : decode prog_143_method_5_code 36 = .ok (.iconst 0, 1) := by decide +kernel
theorem d4_37 : decode prog_143_method_5_code 37 = .ok (.ireturn, 1) := by decide +kernel
theorem pn_4 : plainName "com/example/paths_to_documents/pathstodocuments/query/StretchBox" = true := by first | (simp [plainName, overriddenIn]; done) | decide +kernel
theorem ef_4 (m : MethodId) (x0 : Addr) : entryFrame m #[(.ref x0)] 1 = mkF m 0 #[.val (.ref x0)] [] := by first | (simp [entryFrame, mkF, argsToLocals, Value.category]; done) | rfl
def own_all (q1 : Int32) (q2 : Int32) (q3 : Int32) (q4 : Int32) : Int32 :=
  if q1 = (0 : Int32) then (if q2 = (2147483647 : Int32) then (if q3 = (0 : Int32) then (if q4 = (2147483647 : Int32) then (1 : Int32) else
        (0 : Int32)) else
      (0 : Int32)) else
    (0 : Int32)) else
  (0 : Int32)
def Q4 (Z : State) (a : Addr) (q1 : Int32) (q2 : Int32) (q3 : Int32) (q4 : Int32) (h0 : Heap) (n0 : Nat) (v : Option Value) (h : Heap) (L : List Loc) : Prop := v = some (.int (own_all q1 q2 q3 q4)) ∧ Fr n0 L ∧ h = h0
set_option maxRecDepth 65536 in
set_option maxHeartbeats 40000000 in
theorem rm4 (l : Launch) (Z : State) (a0 : Array Value) (hw : ∀ d ∈ tables_1, d.before a0 Z = true) (ws : List Jvm.Cond) (a : Addr) (q1 : Int32) (q2 : Int32) (q3 : Int32) (q4 : Int32) (h0 : Heap) (n0 : Nat) (Z0 : n0 ≤ h0.size) (F_startFrom_a : Fld Z h0 a "com/example/paths_to_documents/pathstodocuments/query/StretchBox" "startFrom" "I" (.int q1)) (F_startTo_a : Fld Z h0 a "com/example/paths_to_documents/pathstodocuments/query/StretchBox" "startTo" "I" (.int q2)) (F_endFrom_a : Fld Z h0 a "com/example/paths_to_documents/pathstodocuments/query/StretchBox" "endFrom" "I" (.int q3)) (F_endTo_a : Fld Z h0 a "com/example/paths_to_documents/pathstodocuments/query/StretchBox" "endTo" "I" (.int q4)) :
    MetFree l (⟨"com/example/paths_to_documents/pathstodocuments/query/StretchBox", "holdsAll", "()Z"⟩ : MethodName) (head1 (Jvm.Cond.code (⟨"com/example/paths_to_documents/pathstodocuments/query/StretchBox", "holdsAll", "()Z"⟩ : MethodName) prog_143_method_5_code 1 (some .boolean) :: ws) ({ frames := 0, cells := 0, slots := 0, locals := 0 } : Room)) (fun aa U => aa = #[(.ref a)] ∧ Z.Warmed39 U.vm ∧ U.heap = h0) (fun _ _ _ _ _ => True) (fun _ U o U' => ∃ v L, o = .returned v ∧ Q4 Z a q1 q2 q3 q4 h0 n0 v U'.heap L ∧ FrameEnd U o U' L ({ frames := 0, cells := 0, slots := 0, locals := 0 } : Room).cells ({ frames := 0, cells := 0, slots := 0, locals := 0 } : Room).slots) := by
  refine MetFree.of_bodySF (plainFor_of_name pn_4) hisR ?_
  intro p e s m args below meth c s₁ Bd hml0 hP hK
  obtain ⟨rfl, hZ, hh⟩ := hP
  have hx := Bd.exec
  have hby := Bd.bytes
  have hml : c.maxLocals = 1 := hml0
  have hown : s.vm.findClass "com/example/paths_to_documents/pathstodocuments/query/StretchBox" = some m.cls := findClass_of_methodNamed Bd.named
  have hnm := (name_of_methodNamed Bd.named Bd.method).1
  have X0 : Stand p l e ({ frames := 0, cells := 0, slots := 0, locals := 0 } : Room) s m #[(.ref a)] below meth c s₁ [] 0 0 := Stand.of_body Bd
  have e0 : s₁.heap = h0 := by rw [← hh, Bd.state]; rfl
  have N0 := Fr.nil n0
  refine own_enter (QQ := Q4 Z a q1 q2 q3 q4 h0 n0) (ef_4 m a) ?_
  refine own_go (T' := s₁) (g' := (mkF m 1 #[.val (.ref a)] [(.ref a)])) (fun t k => XS.aloadN X0.here hx rfl (hb hby d4_0) rfl rfl k) ?_
  obtain ⟨T15, X15, e15, st15⟩ := getF X0 hx hZ hown (host := "") (Or.inl (hw _ (List.mem_of_getElem? (i := 15) rfl))) Via.refl e0 F_startFrom_a (g := (mkF m 1 #[.val (.ref a)] [(.ref a)])) rfl rfl (hb hby d4_1)
  refine own_go (T' := T15) (g' := (mkF m 4 #[.val (.ref a)] [(.int q1)])) (st15) ?_
  by_cases c4_1 : q1 = (0 : Int32)
  · refine own_go (T' := T15) (g' := (mkF m 7 #[.val (.ref a)] [])) (fun t k => XS.ifNo X15.here hx rfl (hb hby d4_4) rfl ((if0 _ _).trans (teq c4_1).2) k) ?_
    refine own_go (T' := T15) (g' := (mkF m 8 #[.val (.ref a)] [(.ref a)])) (fun t k => XS.aloadN X15.here hx rfl (hb hby d4_7) rfl rfl k) ?_
    obtain ⟨T16, X16, e16, st16⟩ := getF X15 hx hZ hown (host := "") (Or.inl (hw _ (List.mem_of_getElem? (i := 17) rfl))) Via.refl e15 F_startTo_a (g := (mkF m 8 #[.val (.ref a)] [(.ref a)])) rfl rfl (hb hby d4_8)
    refine own_go (T' := T16) (g' := (mkF m 11 #[.val (.ref a)] [(.int q2)])) (st16) ?_
    refine own_go (T' := T16) (g' := (mkF m 13 #[.val (.ref a)] [(.int (2147483647 : Int32)), (.int q2)])) (X16.ldcInt hx hown (mvT hZ (hw _ (List.mem_of_getElem? (i := 28) rfl))) (g := (mkF m 11 #[.val (.ref a)] [(.int q2)])) rfl (hb hby d4_11)) ?_
    by_cases c13_2 : q2 = (2147483647 : Int32)
    · refine own_go (T' := T16) (g' := (mkF m 16 #[.val (.ref a)] [])) (fun t k => XS.icmpNo X16.here hx rfl (hb hby d4_13) rfl (teq c13_2).2 k) ?_
      refine own_go (T' := T16) (g' := (mkF m 17 #[.val (.ref a)] [(.ref a)])) (fun t k => XS.aloadN X16.here hx rfl (hb hby d4_16) rfl rfl k) ?_
      obtain ⟨T17, X17, e17, st17⟩ := getF X16 hx hZ hown (host := "") (Or.inl (hw _ (List.mem_of_getElem? (i := 19) rfl))) Via.refl e16 F_endFrom_a (g := (mkF m 17 #[.val (.ref a)] [(.ref a)])) rfl rfl (hb hby d4_17)
      refine own_go (T' := T17) (g' := (mkF m 20 #[.val (.ref a)] [(.int q3)])) (st17) ?_
      by_cases c20_3 : q3 = (0 : Int32)
      · refine own_go (T' := T17) (g' := (mkF m 23 #[.val (.ref a)] [])) (fun t k => XS.ifNo X17.here hx rfl (hb hby d4_20) rfl ((if0 _ _).trans (teq c20_3).2) k) ?_
        refine own_go (T' := T17) (g' := (mkF m 24 #[.val (.ref a)] [(.ref a)])) (fun t k => XS.aloadN X17.here hx rfl (hb hby d4_23) rfl rfl k) ?_
        obtain ⟨T18, X18, e18, st18⟩ := getF X17 hx hZ hown (host := "") (Or.inl (hw _ (List.mem_of_getElem? (i := 21) rfl))) Via.refl e17 F_endTo_a (g := (mkF m 24 #[.val (.ref a)] [(.ref a)])) rfl rfl (hb hby d4_24)
        refine own_go (T' := T18) (g' := (mkF m 27 #[.val (.ref a)] [(.int q4)])) (st18) ?_
        refine own_go (T' := T18) (g' := (mkF m 29 #[.val (.ref a)] [(.int (2147483647 : Int32)), (.int q4)])) (X18.ldcInt hx hown (mvT hZ (hw _ (List.mem_of_getElem? (i := 28) rfl))) (g := (mkF m 27 #[.val (.ref a)] [(.int q4)])) rfl (hb hby d4_27)) ?_
        by_cases c29_4 : q4 = (2147483647 : Int32)
        · refine own_go (T' := T18) (g' := (mkF m 32 #[.val (.ref a)] [])) (fun t k => XS.icmpNo X18.here hx rfl (hb hby d4_29) rfl (teq c29_4).2 k) ?_
          refine own_go (T' := T18) (g' := (mkF m 33 #[.val (.ref a)] [(.int (1 : Int32))])) (fun t k => XS.iconst X18.here hx rfl (hb hby d4_32) k) ?_
          refine own_go (T' := T18) (g' := (mkF m 37 #[.val (.ref a)] [(.int (1 : Int32))])) (fun t k => XS.goto X18.here hx rfl (pc0 := 33) (pc' := 37) rfl (hb hby d4_33) (by decide) (by decide) k) ?_
          exact own_retZ X18 hx Bd.notSynchronized Bd.returns (hb hby d4_37) rfl ⟨by unfold own_all; rw [if_pos c4_1, if_pos c13_2, if_pos c20_3, if_pos c29_4], N0, e18⟩ (by decide) (by decide)
        · refine own_go (T' := T18) (g' := (mkF m 36 #[.val (.ref a)] [])) (fun t k => XS.icmpYes X18.here hx rfl (pc0 := 29) (pc' := 36) rfl (hb hby d4_29) rfl (feq c29_4).2 (by decide) (by decide) k) ?_
          refine own_go (T' := T18) (g' := (mkF m 37 #[.val (.ref a)] [(.int (0 : Int32))])) (fun t k => XS.iconst X18.here hx rfl (hb hby d4_36) k) ?_
          exact own_retZ X18 hx Bd.notSynchronized Bd.returns (hb hby d4_37) rfl ⟨by unfold own_all; rw [if_pos c4_1, if_pos c13_2, if_pos c20_3, if_neg c29_4], N0, e18⟩ (by decide) (by decide)
      · refine own_go (T' := T17) (g' := (mkF m 36 #[.val (.ref a)] [])) (fun t k => XS.ifYes X17.here hx rfl (pc0 := 20) (pc' := 36) rfl (hb hby d4_20) rfl ((if0 _ _).trans (feq c20_3).2) (by decide) (by decide) k) ?_
        refine own_go (T' := T17) (g' := (mkF m 37 #[.val (.ref a)] [(.int (0 : Int32))])) (fun t k => XS.iconst X17.here hx rfl (hb hby d4_36) k) ?_
        exact own_retZ X17 hx Bd.notSynchronized Bd.returns (hb hby d4_37) rfl ⟨by unfold own_all; rw [if_pos c4_1, if_pos c13_2, if_neg c20_3], N0, e17⟩ (by decide) (by decide)
    · refine own_go (T' := T16) (g' := (mkF m 36 #[.val (.ref a)] [])) (fun t k => XS.icmpYes X16.here hx rfl (pc0 := 13) (pc' := 36) rfl (hb hby d4_13) rfl (feq c13_2).2 (by decide) (by decide) k) ?_
      refine own_go (T' := T16) (g' := (mkF m 37 #[.val (.ref a)] [(.int (0 : Int32))])) (fun t k => XS.iconst X16.here hx rfl (hb hby d4_36) k) ?_
      exact own_retZ X16 hx Bd.notSynchronized Bd.returns (hb hby d4_37) rfl ⟨by unfold own_all; rw [if_pos c4_1, if_neg c13_2], N0, e16⟩ (by decide) (by decide)
  · refine own_go (T' := T15) (g' := (mkF m 36 #[.val (.ref a)] [])) (fun t k => XS.ifYes X15.here hx rfl (pc0 := 4) (pc' := 36) rfl (hb hby d4_4) rfl ((if0 _ _).trans (feq c4_1).2) (by decide) (by decide) k) ?_
    refine own_go (T' := T15) (g' := (mkF m 37 #[.val (.ref a)] [(.int (0 : Int32))])) (fun t k => XS.iconst X15.here hx rfl (hb hby d4_36) k) ?_
    exact own_retZ X15 hx Bd.notSynchronized Bd.returns (hb hby d4_37) rfl ⟨by unfold own_all; rw [if_neg c4_1], N0, e15⟩ (by decide) (by decide)
theorem d6_0 : decode prog_143_method_6_code 0 = .ok (.aload_n 0, 1) := by decide +kernel
theorem d6_1 : decode prog_143_method_6_code 1 = .ok (.getfield 7, 3) := by decide +kernel
theorem d6_4 : decode prog_143_method_6_code 4 = .ok (.aload_n 0, 1) := by decide +kernel
theorem d6_5 : decode prog_143_method_6_code 5 = .ok (.getfield 13, 3) := by decide +kernel
theorem d6_8 : decode prog_143_method_6_code 8 = .ok (.if_icmp .ge 14, 3) := by decide +kernel
theorem d6_11 : decode prog_143_method_6_code 11 = .ok (.aload_n 0, 1) := by decide +kernel
theorem d6_12 : decode prog_143_method_6_code 12 = .ok (.getfield 16, 3) := by decide +kernel
theorem d6_15 : decode prog_143_method_6_code 15 = .ok (.aload_n 0, 1) := by decide +kernel
theorem d6_16 : decode prog_143_method_6_code 16 = .ok (.getfield 19, 3) := by decide +kernel
theorem d6_19 : decode prog_143_method_6_code 19 = .ok (.if_icmp .lt 7, 3) := by decide +kernel
theorem d6_22 : decode prog_143_method_6_code 22 = .ok (.iconst 1, 1) := by decide +kernel
theorem d6_23 : decode prog_143_method_6_code 23 = .ok (.goto 4, 3) := by decide +kernel
theorem d6_26 : decode prog_143_method_6_code 26 = .ok (.iconst 0, 1) := by decide +kernel
theorem d6_27 : decode prog_143_method_6_code 27 = .ok (.ireturn, 1) := by decide +kernel
theorem pn_6 : plainName "com/example/paths_to_documents/pathstodocuments/query/StretchBox" = true := by first | (simp [plainName, overriddenIn]; done) | decide +kernel
theorem ef_6 (m : MethodId) (x0 : Addr) : entryFrame m #[(.ref x0)] 1 = mkF m 0 #[.val (.ref x0)] [] := by first | (simp [entryFrame, mkF, argsToLocals, Value.category]; done) | rfl
def own_empty (q1 : Int32) (q2 : Int32) (q3 : Int32) (q4 : Int32) : Int32 :=
  if q1 < q2 then (if q3 < q4 then (0 : Int32) else
    (1 : Int32)) else
  (1 : Int32)
def Q6 (Z : State) (a : Addr) (q1 : Int32) (q2 : Int32) (q3 : Int32) (q4 : Int32) (h0 : Heap) (n0 : Nat) (v : Option Value) (h : Heap) (L : List Loc) : Prop := v = some (.int (own_empty q1 q2 q3 q4)) ∧ Fr n0 L ∧ h = h0
set_option maxRecDepth 65536 in
set_option maxHeartbeats 40000000 in
theorem rm6 (l : Launch) (Z : State) (a0 : Array Value) (hw : ∀ d ∈ tables_1, d.before a0 Z = true) (ws : List Jvm.Cond) (a : Addr) (q1 : Int32) (q2 : Int32) (q3 : Int32) (q4 : Int32) (h0 : Heap) (n0 : Nat) (Z0 : n0 ≤ h0.size) (F_startFrom_a : Fld Z h0 a "com/example/paths_to_documents/pathstodocuments/query/StretchBox" "startFrom" "I" (.int q1)) (F_startTo_a : Fld Z h0 a "com/example/paths_to_documents/pathstodocuments/query/StretchBox" "startTo" "I" (.int q2)) (F_endFrom_a : Fld Z h0 a "com/example/paths_to_documents/pathstodocuments/query/StretchBox" "endFrom" "I" (.int q3)) (F_endTo_a : Fld Z h0 a "com/example/paths_to_documents/pathstodocuments/query/StretchBox" "endTo" "I" (.int q4)) :
    MetFree l (⟨"com/example/paths_to_documents/pathstodocuments/query/StretchBox", "isEmpty", "()Z"⟩ : MethodName) (head1 (Jvm.Cond.code (⟨"com/example/paths_to_documents/pathstodocuments/query/StretchBox", "isEmpty", "()Z"⟩ : MethodName) prog_143_method_6_code 1 (some .boolean) :: ws) ({ frames := 0, cells := 0, slots := 0, locals := 0 } : Room)) (fun aa U => aa = #[(.ref a)] ∧ Z.Warmed39 U.vm ∧ U.heap = h0) (fun _ _ _ _ _ => True) (fun _ U o U' => ∃ v L, o = .returned v ∧ Q6 Z a q1 q2 q3 q4 h0 n0 v U'.heap L ∧ FrameEnd U o U' L ({ frames := 0, cells := 0, slots := 0, locals := 0 } : Room).cells ({ frames := 0, cells := 0, slots := 0, locals := 0 } : Room).slots) := by
  refine MetFree.of_bodySF (plainFor_of_name pn_6) hisR ?_
  intro p e s m args below meth c s₁ Bd hml0 hP hK
  obtain ⟨rfl, hZ, hh⟩ := hP
  have hx := Bd.exec
  have hby := Bd.bytes
  have hml : c.maxLocals = 1 := hml0
  have hown : s.vm.findClass "com/example/paths_to_documents/pathstodocuments/query/StretchBox" = some m.cls := findClass_of_methodNamed Bd.named
  have hnm := (name_of_methodNamed Bd.named Bd.method).1
  have X0 : Stand p l e ({ frames := 0, cells := 0, slots := 0, locals := 0 } : Room) s m #[(.ref a)] below meth c s₁ [] 0 0 := Stand.of_body Bd
  have e0 : s₁.heap = h0 := by rw [← hh, Bd.state]; rfl
  have N0 := Fr.nil n0
  refine own_enter (QQ := Q6 Z a q1 q2 q3 q4 h0 n0) (ef_6 m a) ?_
  refine own_go (T' := s₁) (g' := (mkF m 1 #[.val (.ref a)] [(.ref a)])) (fun t k => XS.aloadN X0.here hx rfl (hb hby d6_0) rfl rfl k) ?_
  obtain ⟨T19, X19, e19, st19⟩ := getF X0 hx hZ hown (host := "") (Or.inl (hw _ (List.mem_of_getElem? (i := 15) rfl))) Via.refl e0 F_startFrom_a (g := (mkF m 1 #[.val (.ref a)] [(.ref a)])) rfl rfl (hb hby d6_1)
  refine own_go (T' := T19) (g' := (mkF m 4 #[.val (.ref a)] [(.int q1)])) (st19) ?_
  refine own_go (T' := T19) (g' := (mkF m 5 #[.val (.ref a)] [(.ref a), (.int q1)])) (fun t k => XS.aloadN X19.here hx rfl (hb hby d6_4) rfl rfl k) ?_
  obtain ⟨T20, X20, e20, st20⟩ := getF X19 hx hZ hown (host := "") (Or.inl (hw _ (List.mem_of_getElem? (i := 17) rfl))) Via.refl e19 F_startTo_a (g := (mkF m 5 #[.val (.ref a)] [(.ref a), (.int q1)])) rfl rfl (hb hby d6_5)
  refine own_go (T' := T20) (g' := (mkF m 8 #[.val (.ref a)] [(.int q2), (.int q1)])) (st20) ?_
  by_cases c8_1 : q1 < q2
  · refine own_go (T' := T20) (g' := (mkF m 11 #[.val (.ref a)] [])) (fun t k => XS.icmpNo X20.here hx rfl (hb hby d6_8) rfl (tlt c8_1).2.1 k) ?_
    refine own_go (T' := T20) (g' := (mkF m 12 #[.val (.ref a)] [(.ref a)])) (fun t k => XS.aloadN X20.here hx rfl (hb hby d6_11) rfl rfl k) ?_
    obtain ⟨T21, X21, e21, st21⟩ := getF X20 hx hZ hown (host := "") (Or.inl (hw _ (List.mem_of_getElem? (i := 19) rfl))) Via.refl e20 F_endFrom_a (g := (mkF m 12 #[.val (.ref a)] [(.ref a)])) rfl rfl (hb hby d6_12)
    refine own_go (T' := T21) (g' := (mkF m 15 #[.val (.ref a)] [(.int q3)])) (st21) ?_
    refine own_go (T' := T21) (g' := (mkF m 16 #[.val (.ref a)] [(.ref a), (.int q3)])) (fun t k => XS.aloadN X21.here hx rfl (hb hby d6_15) rfl rfl k) ?_
    obtain ⟨T22, X22, e22, st22⟩ := getF X21 hx hZ hown (host := "") (Or.inl (hw _ (List.mem_of_getElem? (i := 21) rfl))) Via.refl e21 F_endTo_a (g := (mkF m 16 #[.val (.ref a)] [(.ref a), (.int q3)])) rfl rfl (hb hby d6_16)
    refine own_go (T' := T22) (g' := (mkF m 19 #[.val (.ref a)] [(.int q4), (.int q3)])) (st22) ?_
    by_cases c19_2 : q3 < q4
    · refine own_go (T' := T22) (g' := (mkF m 26 #[.val (.ref a)] [])) (fun t k => XS.icmpYes X22.here hx rfl (pc0 := 19) (pc' := 26) rfl (hb hby d6_19) rfl (tlt c19_2).1 (by decide) (by decide) k) ?_
      refine own_go (T' := T22) (g' := (mkF m 27 #[.val (.ref a)] [(.int (0 : Int32))])) (fun t k => XS.iconst X22.here hx rfl (hb hby d6_26) k) ?_
      exact own_retZ X22 hx Bd.notSynchronized Bd.returns (hb hby d6_27) rfl ⟨by unfold own_empty; rw [if_pos c8_1, if_pos c19_2], N0, e22⟩ (by decide) (by decide)
    · refine own_go (T' := T22) (g' := (mkF m 22 #[.val (.ref a)] [])) (fun t k => XS.icmpNo X22.here hx rfl (hb hby d6_19) rfl (flt c19_2).1 k) ?_
      refine own_go (T' := T22) (g' := (mkF m 23 #[.val (.ref a)] [(.int (1 : Int32))])) (fun t k => XS.iconst X22.here hx rfl (hb hby d6_22) k) ?_
      refine own_go (T' := T22) (g' := (mkF m 27 #[.val (.ref a)] [(.int (1 : Int32))])) (fun t k => XS.goto X22.here hx rfl (pc0 := 23) (pc' := 27) rfl (hb hby d6_23) (by decide) (by decide) k) ?_
      exact own_retZ X22 hx Bd.notSynchronized Bd.returns (hb hby d6_27) rfl ⟨by unfold own_empty; rw [if_pos c8_1, if_neg c19_2], N0, e22⟩ (by decide) (by decide)
  · refine own_go (T' := T20) (g' := (mkF m 22 #[.val (.ref a)] [])) (fun t k => XS.icmpYes X20.here hx rfl (pc0 := 8) (pc' := 22) rfl (hb hby d6_8) rfl (flt c8_1).2.1 (by decide) (by decide) k) ?_
    refine own_go (T' := T20) (g' := (mkF m 23 #[.val (.ref a)] [(.int (1 : Int32))])) (fun t k => XS.iconst X20.here hx rfl (hb hby d6_22) k) ?_
    refine own_go (T' := T20) (g' := (mkF m 27 #[.val (.ref a)] [(.int (1 : Int32))])) (fun t k => XS.goto X20.here hx rfl (pc0 := 23) (pc' := 27) rfl (hb hby d6_23) (by decide) (by decide) k) ?_
    exact own_retZ X20 hx Bd.notSynchronized Bd.returns (hb hby d6_27) rfl ⟨by unfold own_empty; rw [if_neg c8_1], N0, e20⟩ (by decide) (by decide)
theorem d5_0 : decode prog_143_method_7_code 0 = .ok (.aload_n 1, 1) := by decide +kernel
theorem d5_1 : decode prog_143_method_7_code 1 = .ok (.invokevirtual 28, 3) := by decide +kernel
theorem d5_4 : decode prog_143_method_7_code 4 = .ok (.ifCond .ne 47, 3) := by decide +kernel
theorem d5_7 : decode prog_143_method_7_code 7 = .ok (.aload_n 0, 1) := by decide +kernel
theorem d5_8 : decode prog_143_method_7_code 8 = .ok (.getfield 7, 3) := by decide +kernel
theorem d5_11 : decode prog_143_method_7_code 11 = .ok (.aload_n 1, 1) := by decide +kernel
theorem d5_12 : decode prog_143_method_7_code 12 = .ok (.getfield 7, 3) := by decide +kernel
theorem d5_15 : decode prog_143_method_7_code 15 = .ok (.if_icmp .gt 40, 3) := by decide +kernel
theorem d5_18 : decode prog_143_method_7_code 18 = .ok (.aload_n 1, 1) := by decide +kernel
theorem d5_19 : decode prog_143_method_7_code 19 = .ok (.getfield 13, 3) := by decide +kernel
theorem d5_22 : decode prog_143_method_7_code 22 = .ok (.aload_n 0, 1) := by decide +kernel
theorem d5_23 : decode prog_143_method_7_code 23 = .ok (.getfield 13, 3) := by decide +kernel
theorem d5_26 : decode prog_143_method_7_code 26 = .ok (.if_icmp .gt 29, 3) := by decide +kernel
theorem d5_29 : decode prog_143_method_7_code 29 = .ok (.aload_n 0, 1) := by decide +kernel
theorem d5_30 : decode prog_143_method_7_code 30 = .ok (.getfield 16, 3) := by decide +kernel
theorem d5_33 : decode prog_143_method_7_code 33 = .ok (.aload_n 1, 1) := by decide +kernel
theorem d5_34 : decode prog_143_method_7_code 34 = .ok (.getfield 16, 3) := by decide +kernel
theorem d5_37 : decode prog_143_method_7_code 37 = .ok (.if_icmp .gt 18, 3) := by decide +kernel
theorem d5_40 : decode prog_143_method_7_code 40 = .ok (.aload_n 1, 1) := by decide +kernel
theorem d5_41 : decode prog_143_method_7_code 41 = .ok (.getfield 19, 3) := by decide +kernel
theorem d5_44 : decode prog_143_method_7_code 44 = .ok (.aload_n 0, 1) := by decide +kernel
theorem d5_45 : decode prog_143_method_7_code 45 = .ok (.getfield 19, 3) := by decide +kernel
theorem d5_48 : decode prog_143_method_7_code 48 = .ok (.if_icmp .gt 7, 3) := by decide +kernel
theorem d5_51 : decode prog_143_method_7_code 51 = .ok (.iconst 1, 1) := by decide +kernel
theorem d5_52 : decode prog_143_method_7_code 52 = .ok (.goto 4, 3) := by decide +kernel
theorem d5_55 : decode prog_143_method_7_code 55 = .ok (.iconst 0, 1) := by decide +kernel
theorem d5_56 : decode prog_143_method_7_code 56 = .ok (.ireturn, 1) := by decide +kernel
theorem pn_5 : plainName "com/example/paths_to_documents/pathstodocuments/query/StretchBox" = true := by first | (simp [plainName, overriddenIn]; done) | decide +kernel
theorem own_pd1 : parseMethodDescriptor "()Z" = some ⟨[], some .boolean⟩ := by decide +kernel
theorem ef_5 (m : MethodId) (x0 : Addr) (x1 : Addr) : entryFrame m #[(.ref x0), (.ref x1)] 2 = mkF m 0 #[.val (.ref x0), .val (.ref x1)] [] := by first | (simp [entryFrame, mkF, argsToLocals, Value.category]; done) | rfl
def own_cont (q1 : Int32) (q2 : Int32) (q3 : Int32) (q4 : Int32) (r1 : Int32) (r2 : Int32) (r3 : Int32) (r4 : Int32) : Int32 :=
  if (own_empty r1 r2 r3 r4) = (0 : Int32) then (if r1 < q1 then (0 : Int32) else
    if q2 < r2 then (0 : Int32) else
    if r3 < q3 then (0 : Int32) else
    if q4 < r4 then (0 : Int32) else
    (1 : Int32)) else
  (1 : Int32)
def Q5 (Z : State) (a : Addr) (b : Addr) (q1 : Int32) (q2 : Int32) (q3 : Int32) (q4 : Int32) (r1 : Int32) (r2 : Int32) (r3 : Int32) (r4 : Int32) (h0 : Heap) (n0 : Nat) (v : Option Value) (h : Heap) (L : List Loc) : Prop := v = some (.int (own_cont q1 q2 q3 q4 r1 r2 r3 r4)) ∧ Fr n0 L ∧ h = h0
set_option maxRecDepth 65536 in
set_option maxHeartbeats 40000000 in
theorem rm5 (l : Launch) (Z : State) (a0 : Array Value) (hw : ∀ d ∈ tables_1, d.before a0 Z = true) (ws : List Jvm.Cond) (a : Addr) (b : Addr) (q1 : Int32) (q2 : Int32) (q3 : Int32) (q4 : Int32) (r1 : Int32) (r2 : Int32) (r3 : Int32) (r4 : Int32) (h0 : Heap) (n0 : Nat) (Z0 : n0 ≤ h0.size) (F_startFrom_a : Fld Z h0 a "com/example/paths_to_documents/pathstodocuments/query/StretchBox" "startFrom" "I" (.int q1)) (F_startTo_a : Fld Z h0 a "com/example/paths_to_documents/pathstodocuments/query/StretchBox" "startTo" "I" (.int q2)) (F_endFrom_a : Fld Z h0 a "com/example/paths_to_documents/pathstodocuments/query/StretchBox" "endFrom" "I" (.int q3)) (F_endTo_a : Fld Z h0 a "com/example/paths_to_documents/pathstodocuments/query/StretchBox" "endTo" "I" (.int q4)) (F_startFrom_b : Fld Z h0 b "com/example/paths_to_documents/pathstodocuments/query/StretchBox" "startFrom" "I" (.int r1)) (F_startTo_b : Fld Z h0 b "com/example/paths_to_documents/pathstodocuments/query/StretchBox" "startTo" "I" (.int r2)) (F_endFrom_b : Fld Z h0 b "com/example/paths_to_documents/pathstodocuments/query/StretchBox" "endFrom" "I" (.int r3)) (F_endTo_b : Fld Z h0 b "com/example/paths_to_documents/pathstodocuments/query/StretchBox" "endTo" "I" (.int r4)) (E_b : Exa Z h0 b "com/example/paths_to_documents/pathstodocuments/query/StretchBox") :
    MetFree l (⟨"com/example/paths_to_documents/pathstodocuments/query/StretchBox", "contains", "(Lcom/example/paths_to_documents/pathstodocuments/query/StretchBox;)Z"⟩ : MethodName) (head1 (Jvm.Cond.code (⟨"com/example/paths_to_documents/pathstodocuments/query/StretchBox", "contains", "(Lcom/example/paths_to_documents/pathstodocuments/query/StretchBox;)Z"⟩ : MethodName) prog_143_method_7_code 2 (some .boolean) :: ws) ({ frames := 1, cells := 0, slots := 0, locals := 12 } : Room)) (fun aa U => aa = #[(.ref a), (.ref b)] ∧ Z.Warmed39 U.vm ∧ U.heap = h0) (fun _ _ _ _ _ => True) (fun _ U o U' => ∃ v L, o = .returned v ∧ Q5 Z a b q1 q2 q3 q4 r1 r2 r3 r4 h0 n0 v U'.heap L ∧ FrameEnd U o U' L ({ frames := 1, cells := 0, slots := 0, locals := 12 } : Room).cells ({ frames := 1, cells := 0, slots := 0, locals := 12 } : Room).slots) := by
  refine MetFree.of_bodySF (plainFor_of_name pn_5) hisR ?_
  intro p e s m args below meth c s₁ Bd hml0 hP hK
  obtain ⟨rfl, hZ, hh⟩ := hP
  have hx := Bd.exec
  have hby := Bd.bytes
  have hml : c.maxLocals = 2 := hml0
  have hown : s.vm.findClass "com/example/paths_to_documents/pathstodocuments/query/StretchBox" = some m.cls := findClass_of_methodNamed Bd.named
  have hnm := (name_of_methodNamed Bd.named Bd.method).1
  have X0 : Stand p l e ({ frames := 1, cells := 0, slots := 0, locals := 12 } : Room) s m #[(.ref a), (.ref b)] below meth c s₁ [] 0 0 := Stand.of_body Bd
  have e0 : s₁.heap = h0 := by rw [← hh, Bd.state]; rfl
  have N0 := Fr.nil n0
  refine own_enter (QQ := Q5 Z a b q1 q2 q3 q4 r1 r2 r3 r4 h0 n0) (ef_5 m a b) ?_
  refine own_go (T' := s₁) (g' := (mkF m 1 #[.val (.ref a), .val (.ref b)] [(.ref b)])) (fun t k => XS.aloadN X0.here hx rfl (hb hby d5_0) rfl rfl k) ?_
  obtain ⟨cq23, kq23, q23a, q23b, q23c⟩ := isOf hZ e0 E_b
  obtain ⟨_, _, ⟨T23, L23, k23, n23⟩, -, X23, ⟨Lc23, hQ23, l23, y23, z23⟩, st23⟩ := X0.virtualBack hx (y := (⟨"com/example/paths_to_documents/pathstodocuments/query/StretchBox", "isEmpty", "()Z"⟩ : MethodName)) (z := (⟨"com/example/paths_to_documents/pathstodocuments/query/StretchBox", "isEmpty", "()Z"⟩ : MethodName)) hown (mvT hZ (hw _ (List.mem_of_getElem? (i := 34) rfl))) (mvT hZ (hw _ (List.mem_of_getElem? (i := 35) rfl))) (notFace_of_selects (args := #[]) (mvT hZ (hw _ (List.mem_of_getElem? (i := 37) rfl)))) (mvT hZ (hw _ (List.mem_of_getElem? (i := 37) rfl))) (mvT hZ (hw _ (List.mem_of_getElem? (i := 36) rfl))) (by decide) (backOf (W := 0) (rm6 l Z a0 hw [] b r1 r2 r3 r4 h0 n0 Z0 F_startFrom_b F_startTo_b F_endFrom_b F_endTo_b) hZ (hw _ (List.mem_of_getElem? (i := 38) rfl)) (hw _ (List.mem_of_getElem? (i := 2) rfl)) (by decide) (by decide)) q23a q23c (g := (mkF m 1 #[.val (.ref a), .val (.ref b)] [(.ref b)])) rfl (by rw [hml]; rfl) (Steps.refl _) (argsL := []) (rest := []) (lenOf own_pd1 rfl) rfl (by show 2 * 0 + _ ≤ _; exact Nat.le_of_eq rfl) (hb hby d5_1) (fun _ _ => ⟨rfl, e0, (by decide : 0 + 0 ≤ _), (by decide : 0 + 0 ≤ _)⟩)
  dsimp only [Pt.U, Pt.locs, Pt.cells, Pt.slots] at X23 l23 y23 z23 st23 hQ23
  subst l23 y23 z23
  obtain ⟨rfl, M23, K23⟩ := hQ23
  have N23 := Fr.app N0 M23
  refine own_go (T' := T23) (g' := (mkF m 4 #[.val (.ref a), .val (.ref b)] [(.int (own_empty r1 r2 r3 r4))])) (fun _ k => st23.trans k) ?_
  by_cases c4_1 : (own_empty r1 r2 r3 r4) = (0 : Int32)
  · refine own_go (T' := T23) (g' := (mkF m 7 #[.val (.ref a), .val (.ref b)] [])) (fun t k => XS.ifNo X23.here hx rfl (hb hby d5_4) rfl ((if0 _ _).trans (teq c4_1).2) k) ?_
    refine own_go (T' := T23) (g' := (mkF m 8 #[.val (.ref a), .val (.ref b)] [(.ref a)])) (fun t k => XS.aloadN X23.here hx rfl (hb hby d5_7) rfl rfl k) ?_
    obtain ⟨T24, X24, e24, st24⟩ := getF X23 hx hZ hown (host := "") (Or.inl (hw _ (List.mem_of_getElem? (i := 15) rfl))) Via.refl K23 F_startFrom_a (g := (mkF m 8 #[.val (.ref a), .val (.ref b)] [(.ref a)])) rfl rfl (hb hby d5_8)
    refine own_go (T' := T24) (g' := (mkF m 11 #[.val (.ref a), .val (.ref b)] [(.int q1)])) (st24) ?_
    refine own_go (T' := T24) (g' := (mkF m 12 #[.val (.ref a), .val (.ref b)] [(.ref b), (.int q1)])) (fun t k => XS.aloadN X24.here hx rfl (hb hby d5_11) rfl rfl k) ?_
    obtain ⟨T25, X25, e25, st25⟩ := getF X24 hx hZ hown (host := "") (Or.inl (hw _ (List.mem_of_getElem? (i := 15) rfl))) Via.refl e24 F_startFrom_b (g := (mkF m 12 #[.val (.ref a), .val (.ref b)] [(.ref b), (.int q1)])) rfl rfl (hb hby d5_12)
    refine own_go (T' := T25) (g' := (mkF m 15 #[.val (.ref a), .val (.ref b)] [(.int r1), (.int q1)])) (st25) ?_
    by_cases c15_2 : r1 < q1
    · refine own_go (T' := T25) (g' := (mkF m 55 #[.val (.ref a), .val (.ref b)] [])) (fun t k => XS.icmpYes X25.here hx rfl (pc0 := 15) (pc' := 55) rfl (hb hby d5_15) rfl (tlt c15_2).2.2.1 (by decide) (by decide) k) ?_
      refine own_go (T' := T25) (g' := (mkF m 56 #[.val (.ref a), .val (.ref b)] [(.int (0 : Int32))])) (fun t k => XS.iconst X25.here hx rfl (hb hby d5_55) k) ?_
      exact own_retZ X25 hx Bd.notSynchronized Bd.returns (hb hby d5_56) rfl ⟨by unfold own_cont; rw [if_pos c4_1, if_pos c15_2], N23, e25⟩ (by decide) (by decide)
    · refine own_go (T' := T25) (g' := (mkF m 18 #[.val (.ref a), .val (.ref b)] [])) (fun t k => XS.icmpNo X25.here hx rfl (hb hby d5_15) rfl (flt c15_2).2.2.1 k) ?_
      refine own_go (T' := T25) (g' := (mkF m 19 #[.val (.ref a), .val (.ref b)] [(.ref b)])) (fun t k => XS.aloadN X25.here hx rfl (hb hby d5_18) rfl rfl k) ?_
      obtain ⟨T26, X26, e26, st26⟩ := getF X25 hx hZ hown (host := "") (Or.inl (hw _ (List.mem_of_getElem? (i := 17) rfl))) Via.refl e25 F_startTo_b (g := (mkF m 19 #[.val (.ref a), .val (.ref b)] [(.ref b)])) rfl rfl (hb hby d5_19)
      refine own_go (T' := T26) (g' := (mkF m 22 #[.val (.ref a), .val (.ref b)] [(.int r2)])) (st26) ?_
      refine own_go (T' := T26) (g' := (mkF m 23 #[.val (.ref a), .val (.ref b)] [(.ref a), (.int r2)])) (fun t k => XS.aloadN X26.here hx rfl (hb hby d5_22) rfl rfl k) ?_
      obtain ⟨T27, X27, e27, st27⟩ := getF X26 hx hZ hown (host := "") (Or.inl (hw _ (List.mem_of_getElem? (i := 17) rfl))) Via.refl e26 F_startTo_a (g := (mkF m 23 #[.val (.ref a), .val (.ref b)] [(.ref a), (.int r2)])) rfl rfl (hb hby d5_23)
      refine own_go (T' := T27) (g' := (mkF m 26 #[.val (.ref a), .val (.ref b)] [(.int q2), (.int r2)])) (st27) ?_
      by_cases c26_3 : q2 < r2
      · refine own_go (T' := T27) (g' := (mkF m 55 #[.val (.ref a), .val (.ref b)] [])) (fun t k => XS.icmpYes X27.here hx rfl (pc0 := 26) (pc' := 55) rfl (hb hby d5_26) rfl (tlt c26_3).2.2.1 (by decide) (by decide) k) ?_
        refine own_go (T' := T27) (g' := (mkF m 56 #[.val (.ref a), .val (.ref b)] [(.int (0 : Int32))])) (fun t k => XS.iconst X27.here hx rfl (hb hby d5_55) k) ?_
        exact own_retZ X27 hx Bd.notSynchronized Bd.returns (hb hby d5_56) rfl ⟨by unfold own_cont; rw [if_pos c4_1, if_neg c15_2, if_pos c26_3], N23, e27⟩ (by decide) (by decide)
      · refine own_go (T' := T27) (g' := (mkF m 29 #[.val (.ref a), .val (.ref b)] [])) (fun t k => XS.icmpNo X27.here hx rfl (hb hby d5_26) rfl (flt c26_3).2.2.1 k) ?_
        refine own_go (T' := T27) (g' := (mkF m 30 #[.val (.ref a), .val (.ref b)] [(.ref a)])) (fun t k => XS.aloadN X27.here hx rfl (hb hby d5_29) rfl rfl k) ?_
        obtain ⟨T28, X28, e28, st28⟩ := getF X27 hx hZ hown (host := "") (Or.inl (hw _ (List.mem_of_getElem? (i := 19) rfl))) Via.refl e27 F_endFrom_a (g := (mkF m 30 #[.val (.ref a), .val (.ref b)] [(.ref a)])) rfl rfl (hb hby d5_30)
        refine own_go (T' := T28) (g' := (mkF m 33 #[.val (.ref a), .val (.ref b)] [(.int q3)])) (st28) ?_
        refine own_go (T' := T28) (g' := (mkF m 34 #[.val (.ref a), .val (.ref b)] [(.ref b), (.int q3)])) (fun t k => XS.aloadN X28.here hx rfl (hb hby d5_33) rfl rfl k) ?_
        obtain ⟨T29, X29, e29, st29⟩ := getF X28 hx hZ hown (host := "") (Or.inl (hw _ (List.mem_of_getElem? (i := 19) rfl))) Via.refl e28 F_endFrom_b (g := (mkF m 34 #[.val (.ref a), .val (.ref b)] [(.ref b), (.int q3)])) rfl rfl (hb hby d5_34)
        refine own_go (T' := T29) (g' := (mkF m 37 #[.val (.ref a), .val (.ref b)] [(.int r3), (.int q3)])) (st29) ?_
        by_cases c37_4 : r3 < q3
        · refine own_go (T' := T29) (g' := (mkF m 55 #[.val (.ref a), .val (.ref b)] [])) (fun t k => XS.icmpYes X29.here hx rfl (pc0 := 37) (pc' := 55) rfl (hb hby d5_37) rfl (tlt c37_4).2.2.1 (by decide) (by decide) k) ?_
          refine own_go (T' := T29) (g' := (mkF m 56 #[.val (.ref a), .val (.ref b)] [(.int (0 : Int32))])) (fun t k => XS.iconst X29.here hx rfl (hb hby d5_55) k) ?_
          exact own_retZ X29 hx Bd.notSynchronized Bd.returns (hb hby d5_56) rfl ⟨by unfold own_cont; rw [if_pos c4_1, if_neg c15_2, if_neg c26_3, if_pos c37_4], N23, e29⟩ (by decide) (by decide)
        · refine own_go (T' := T29) (g' := (mkF m 40 #[.val (.ref a), .val (.ref b)] [])) (fun t k => XS.icmpNo X29.here hx rfl (hb hby d5_37) rfl (flt c37_4).2.2.1 k) ?_
          refine own_go (T' := T29) (g' := (mkF m 41 #[.val (.ref a), .val (.ref b)] [(.ref b)])) (fun t k => XS.aloadN X29.here hx rfl (hb hby d5_40) rfl rfl k) ?_
          obtain ⟨T30, X30, e30, st30⟩ := getF X29 hx hZ hown (host := "") (Or.inl (hw _ (List.mem_of_getElem? (i := 21) rfl))) Via.refl e29 F_endTo_b (g := (mkF m 41 #[.val (.ref a), .val (.ref b)] [(.ref b)])) rfl rfl (hb hby d5_41)
          refine own_go (T' := T30) (g' := (mkF m 44 #[.val (.ref a), .val (.ref b)] [(.int r4)])) (st30) ?_
          refine own_go (T' := T30) (g' := (mkF m 45 #[.val (.ref a), .val (.ref b)] [(.ref a), (.int r4)])) (fun t k => XS.aloadN X30.here hx rfl (hb hby d5_44) rfl rfl k) ?_
          obtain ⟨T31, X31, e31, st31⟩ := getF X30 hx hZ hown (host := "") (Or.inl (hw _ (List.mem_of_getElem? (i := 21) rfl))) Via.refl e30 F_endTo_a (g := (mkF m 45 #[.val (.ref a), .val (.ref b)] [(.ref a), (.int r4)])) rfl rfl (hb hby d5_45)
          refine own_go (T' := T31) (g' := (mkF m 48 #[.val (.ref a), .val (.ref b)] [(.int q4), (.int r4)])) (st31) ?_
          by_cases c48_5 : q4 < r4
          · refine own_go (T' := T31) (g' := (mkF m 55 #[.val (.ref a), .val (.ref b)] [])) (fun t k => XS.icmpYes X31.here hx rfl (pc0 := 48) (pc' := 55) rfl (hb hby d5_48) rfl (tlt c48_5).2.2.1 (by decide) (by decide) k) ?_
            refine own_go (T' := T31) (g' := (mkF m 56 #[.val (.ref a), .val (.ref b)] [(.int (0 : Int32))])) (fun t k => XS.iconst X31.here hx rfl (hb hby d5_55) k) ?_
            exact own_retZ X31 hx Bd.notSynchronized Bd.returns (hb hby d5_56) rfl ⟨by unfold own_cont; rw [if_pos c4_1, if_neg c15_2, if_neg c26_3, if_neg c37_4, if_pos c48_5], N23, e31⟩ (by decide) (by decide)
          · refine own_go (T' := T31) (g' := (mkF m 51 #[.val (.ref a), .val (.ref b)] [])) (fun t k => XS.icmpNo X31.here hx rfl (hb hby d5_48) rfl (flt c48_5).2.2.1 k) ?_
            refine own_go (T' := T31) (g' := (mkF m 52 #[.val (.ref a), .val (.ref b)] [(.int (1 : Int32))])) (fun t k => XS.iconst X31.here hx rfl (hb hby d5_51) k) ?_
            refine own_go (T' := T31) (g' := (mkF m 56 #[.val (.ref a), .val (.ref b)] [(.int (1 : Int32))])) (fun t k => XS.goto X31.here hx rfl (pc0 := 52) (pc' := 56) rfl (hb hby d5_52) (by decide) (by decide) k) ?_
            exact own_retZ X31 hx Bd.notSynchronized Bd.returns (hb hby d5_56) rfl ⟨by unfold own_cont; rw [if_pos c4_1, if_neg c15_2, if_neg c26_3, if_neg c37_4, if_neg c48_5], N23, e31⟩ (by decide) (by decide)
  · refine own_go (T' := T23) (g' := (mkF m 51 #[.val (.ref a), .val (.ref b)] [])) (fun t k => XS.ifYes X23.here hx rfl (pc0 := 4) (pc' := 51) rfl (hb hby d5_4) rfl ((if0 _ _).trans (feq c4_1).2) (by decide) (by decide) k) ?_
    refine own_go (T' := T23) (g' := (mkF m 52 #[.val (.ref a), .val (.ref b)] [(.int (1 : Int32))])) (fun t k => XS.iconst X23.here hx rfl (hb hby d5_51) k) ?_
    refine own_go (T' := T23) (g' := (mkF m 56 #[.val (.ref a), .val (.ref b)] [(.int (1 : Int32))])) (fun t k => XS.goto X23.here hx rfl (pc0 := 52) (pc' := 56) rfl (hb hby d5_52) (by decide) (by decide) k) ?_
    exact own_retZ X23 hx Bd.notSynchronized Bd.returns (hb hby d5_56) rfl ⟨by unfold own_cont; rw [if_neg c4_1], N23, K23⟩ (by decide) (by decide)
theorem own_empty_eq (a b c d : Int32) : own_empty a b c d = if a < b then (if c < d then 0 else 1) else 1 := by
  unfold own_empty
  (repeat' split) <;> first | rfl | (exfalso; simp only [Int32.lt_iff_toInt_lt] at *; omega)
theorem own_not_empty : own_empty 0 2147483647 0 2147483647 = 0 := by decide
theorem own_pinA {a b c d : Int32} (h1 : own_cont a b c d 0 2147483647 0 2147483647 = 0) : own_all a b c d = 0 := by
  unfold own_all
  repeat' split
  all_goals first | rfl | skip
  subst_vars
  exact absurd h1 (by decide)
theorem own_pinB {a b c d : Int32} (h1 : own_cont 0 2147483647 0 2147483647 a b c d = 0) : own_all a b c d = 0 := by
  unfold own_all
  repeat' split
  all_goals first | rfl | skip
  subst_vars
  exact absurd h1 (by decide)
theorem own_ca {a b c d : Int32} (h1 : ¬ own_cont a b c d 0 2147483647 0 2147483647 = 0) : ¬ (0 : Int32) < a ∧ ¬ b < (2147483647 : Int32) ∧ ¬ (0 : Int32) < c ∧ ¬ d < (2147483647 : Int32) := by
  unfold own_cont at h1
  rw [if_pos own_not_empty] at h1
  by_cases q1 : (0 : Int32) < a
  · rw [if_pos q1] at h1; exact absurd rfl h1
  rw [if_neg q1] at h1
  by_cases q2 : b < (2147483647 : Int32)
  · rw [if_pos q2] at h1; exact absurd rfl h1
  rw [if_neg q2] at h1
  by_cases q3 : (0 : Int32) < c
  · rw [if_pos q3] at h1; exact absurd rfl h1
  rw [if_neg q3] at h1
  by_cases q4 : d < (2147483647 : Int32)
  · rw [if_pos q4] at h1; exact absurd rfl h1
  exact ⟨q1, q2, q3, q4⟩
theorem own_cb {a b c d : Int32} (e : own_empty a b c d = 0) (h1 : ¬ own_cont 0 2147483647 0 2147483647 a b c d = 0) : ¬ a < (0 : Int32) ∧ ¬ c < (0 : Int32) := by
  unfold own_cont at h1
  rw [if_pos e] at h1
  by_cases q1 : a < (0 : Int32)
  · rw [if_pos q1] at h1; exact absurd rfl h1
  rw [if_neg q1] at h1
  by_cases q2 : (2147483647 : Int32) < b
  · rw [if_pos q2] at h1; exact absurd rfl h1
  rw [if_neg q2] at h1
  by_cases q3 : c < (0 : Int32)
  · rw [if_pos q3] at h1; exact absurd rfl h1
  exact ⟨q1, q3⟩
theorem own_pinC {a b c d : Int32} (h1 : ¬ own_cont a b c d 0 2147483647 0 2147483647 = 0) (h2 : ¬ own_cont 0 2147483647 0 2147483647 a b c d = 0) : own_all a b c d = 1 := by
  have b1 := Int32.toInt_lt b
  have b2 := Int32.toInt_lt d
  have t0 : (0 : Int32).toInt = 0 := by decide
  have tm : (2147483647 : Int32).toInt = 2147483647 := by decide
  obtain ⟨u1, u2, u3, u4⟩ := own_ca h1
  rw [Int32.lt_iff_toInt_lt, t0] at u1 u3
  rw [Int32.lt_iff_toInt_lt, tm] at u2 u4
  have e : own_empty a b c d = 0 := by
    rw [own_empty_eq, if_pos (Int32.lt_iff_toInt_lt.mpr (by omega)), if_pos (Int32.lt_iff_toInt_lt.mpr (by omega))]
  obtain ⟨v1, v3⟩ := own_cb e h2
  rw [Int32.lt_iff_toInt_lt, t0] at v1 v3
  have ea : a = 0 := Int32.toInt_inj.mp (by omega)
  have ec : c = 0 := Int32.toInt_inj.mp (by omega)
  have eb : b = 2147483647 := Int32.toInt_inj.mp (by omega)
  have ed : d = 2147483647 := Int32.toInt_inj.mp (by omega)
  subst ea eb ec ed
  decide
theorem pn_0 : plainName "com/example/paths_to_documents/pathstodocuments/query/StretchBoxHoldsAllPinLaw" = true := by first | (simp [plainName, overriddenIn]; done) | decide +kernel
theorem own_pd2 : parseMethodDescriptor "(IIII)V" = some ⟨[.int, .int, .int, .int], none⟩ := by decide +kernel
theorem own_pd3 : parseMethodDescriptor "(Lcom/example/paths_to_documents/pathstodocuments/query/StretchBox;)Z" = some ⟨[(.object "com/example/paths_to_documents/pathstodocuments/query/StretchBox")], some .boolean⟩ := by decide +kernel
theorem ef_0 (m : MethodId) (x0 : Int32) (x1 : Int32) (x2 : Int32) (x3 : Int32) (x4 : Int32) : entryFrame m #[(.int x0), (.int x1), (.int x2), (.int x3), (.int x4)] maxLocals = mkF m 0 #[.val (.int x0), .val (.int x1), .val (.int x2), .val (.int x3), .val (.int x4), .unset, .unset, .unset, .unset, .unset, .unset, .unset, .unset] [] := by first | (simp [entryFrame, mkF, argsToLocals, Value.category, maxLocals]; done) | rfl
def Q0 (Z : State) (p1 p2 p3 p4 p5 : Int32) (h0 : Heap) (n0 : Nat) (v : Option Value) (h : Heap) (L : List Loc) : Prop := v = some (.int 1) ∧ Fr n0 L
set_option maxRecDepth 65536 in
set_option maxHeartbeats 40000000 in
theorem rm0 (l : Launch) (Z : State) (a0 : Array Value) (hw : ∀ d ∈ tables_1, d.before a0 Z = true) (ws : List Jvm.Cond) (p1 : Int32) (p2 : Int32) (p3 : Int32) (p4 : Int32) (p5 : Int32) (h0 : Heap) (n0 : Nat) (Z0 : n0 ≤ h0.size) :
    MetFree l x (head1 (Jvm.Cond.code x code maxLocals ret :: ws) room_1) (fun aa U => aa = #[(.int p1), (.int p2), (.int p3), (.int p4), (.int p5)] ∧ Z.Warmed39 U.vm ∧ U.heap = h0) (fun _ _ _ _ _ => True) (fun _ U o U' => ∃ v L, o = .returned v ∧ Q0 Z p1 p2 p3 p4 p5 h0 n0 v U'.heap L ∧ FrameEnd U o U' L room_1.cells room_1.slots) := by
  refine MetFree.of_bodySF (plainFor_of_name pn_0) hisR ?_
  intro p e s m args below meth c s₁ Bd hml0 hP hK
  obtain ⟨rfl, hZ, hh⟩ := hP
  have hx := Bd.exec
  have hby := Bd.bytes
  have hml : c.maxLocals = 13 := hml0
  have hown : s.vm.findClass "com/example/paths_to_documents/pathstodocuments/query/StretchBoxHoldsAllPinLaw" = some m.cls := findClass_of_methodNamed Bd.named
  have hnm := (name_of_methodNamed Bd.named Bd.method).1
  have X0 : Stand p l e room_1 s m #[(.int p1), (.int p2), (.int p3), (.int p4), (.int p5)] below meth c s₁ [] 0 0 := Stand.of_body Bd
  have e0 : s₁.heap = h0 := by rw [← hh, Bd.state]; rfl
  have N0 := Fr.nil n0
  refine own_enter (QQ := Q0 Z p1 p2 p3 p4 p5 h0 n0) (ef_0 m p1 p2 p3 p4 p5) ?_
  have J59 : ∀ s1 s2 s3 s4 : Int32, own_Run p e below s (Q0 Z p1 p2 p3 p4 p5 h0 n0) room_1.cells room_1.slots s₁ (mkF m 59 #[.val (.int p1), .val (.int p2), .val (.int p3), .val (.int p4), .val (.int p5), .val (.int s1), .val (.int s2), .val (.int s3), .val (.int s4), .unset, .unset, .unset, .unset] []) := by
    intro s1 s2 s3 s4
    obtain ⟨T32, h32, X32, e32, E32, A32, D32, -, st32⟩ := newO X0 hx hZ hown (hw _ (List.mem_of_getElem? (i := 0) rfl)) (hw _ (List.mem_of_getElem? (i := 1) rfl)) (hw _ (List.mem_of_getElem? (i := 2) rfl)) e0 (g := (mkF m 59 #[.val (.int p1), .val (.int p2), .val (.int p3), .val (.int p4), .val (.int p5), .val (.int s1), .val (.int s2), .val (.int s3), .val (.int s4), .unset, .unset, .unset, .unset] [])) rfl (hb hby at_59) (by decide) (by decide)
    obtain ⟨b32, g32⟩ : ∃ z, z = h0.size := ⟨_, rfl⟩
    rw [← g32] at A32 D32 st32
    have gn_b32 : n0 ≤ b32 := Nat.le_trans Z0 (Nat.le_of_eq g32.symm)
    have Z33 : n0 ≤ h32.size := Nat.le_trans Z0 E32.1
    have E_b32 := A32
    have F_startFrom_b32 : Fld Z h32 b32 "com/example/paths_to_documents/pathstodocuments/query/StretchBox" "startFrom" "I" (.int (0 : Int32)) := D32 (Or.inr (hw _ (List.mem_of_getElem? (i := 16) rfl))) (ty := .int) (by decide)
    have F_startTo_b32 : Fld Z h32 b32 "com/example/paths_to_documents/pathstodocuments/query/StretchBox" "startTo" "I" (.int (0 : Int32)) := D32 (Or.inr (hw _ (List.mem_of_getElem? (i := 18) rfl))) (ty := .int) (by decide)
    have F_endFrom_b32 : Fld Z h32 b32 "com/example/paths_to_documents/pathstodocuments/query/StretchBox" "endFrom" "I" (.int (0 : Int32)) := D32 (Or.inr (hw _ (List.mem_of_getElem? (i := 20) rfl))) (ty := .int) (by decide)
    have F_endTo_b32 : Fld Z h32 b32 "com/example/paths_to_documents/pathstodocuments/query/StretchBox" "endTo" "I" (.int (0 : Int32)) := D32 (Or.inr (hw _ (List.mem_of_getElem? (i := 22) rfl))) (ty := .int) (by decide)
    refine own_go (T' := T32) (g' := (mkF m 62 #[.val (.int p1), .val (.int p2), .val (.int p3), .val (.int p4), .val (.int p5), .val (.int s1), .val (.int s2), .val (.int s3), .val (.int s4), .unset, .unset, .unset, .unset] [(.ref b32)])) (st32) ?_
    refine own_go (T' := T32) (g' := (mkF m 63 #[.val (.int p1), .val (.int p2), .val (.int p3), .val (.int p4), .val (.int p5), .val (.int s1), .val (.int s2), .val (.int s3), .val (.int s4), .unset, .unset, .unset, .unset] [(.ref b32), (.ref b32)])) (fun t k => XS.dup X32.here hx rfl (hb hby at_62) rfl rfl k) ?_
    refine own_go (T' := T32) (g' := (mkF m 64 #[.val (.int p1), .val (.int p2), .val (.int p3), .val (.int p4), .val (.int p5), .val (.int s1), .val (.int s2), .val (.int s3), .val (.int s4), .unset, .unset, .unset, .unset] [(.int (0 : Int32)), (.ref b32), (.ref b32)])) (fun t k => XS.iconst X32.here hx rfl (hb hby at_63) k) ?_
    refine own_go (T' := T32) (g' := (mkF m 66 #[.val (.int p1), .val (.int p2), .val (.int p3), .val (.int p4), .val (.int p5), .val (.int s1), .val (.int s2), .val (.int s3), .val (.int s4), .unset, .unset, .unset, .unset] [(.int (2147483647 : Int32)), (.int (0 : Int32)), (.ref b32), (.ref b32)])) (X32.ldcInt hx hown (mvT hZ (hw _ (List.mem_of_getElem? (i := 3) rfl))) (g := (mkF m 64 #[.val (.int p1), .val (.int p2), .val (.int p3), .val (.int p4), .val (.int p5), .val (.int s1), .val (.int s2), .val (.int s3), .val (.int s4), .unset, .unset, .unset, .unset] [(.int (0 : Int32)), (.ref b32), (.ref b32)])) rfl (hb hby at_64)) ?_
    refine own_go (T' := T32) (g' := (mkF m 67 #[.val (.int p1), .val (.int p2), .val (.int p3), .val (.int p4), .val (.int p5), .val (.int s1), .val (.int s2), .val (.int s3), .val (.int s4), .unset, .unset, .unset, .unset] [(.int (0 : Int32)), (.int (2147483647 : Int32)), (.int (0 : Int32)), (.ref b32), (.ref b32)])) (fun t k => XS.iconst X32.here hx rfl (hb hby at_66) k) ?_
    refine own_go (T' := T32) (g' := (mkF m 69 #[.val (.int p1), .val (.int p2), .val (.int p3), .val (.int p4), .val (.int p5), .val (.int s1), .val (.int s2), .val (.int s3), .val (.int s4), .unset, .unset, .unset, .unset] [(.int (2147483647 : Int32)), (.int (0 : Int32)), (.int (2147483647 : Int32)), (.int (0 : Int32)), (.ref b32), (.ref b32)])) (X32.ldcInt hx hown (mvT hZ (hw _ (List.mem_of_getElem? (i := 3) rfl))) (g := (mkF m 67 #[.val (.int p1), .val (.int p2), .val (.int p3), .val (.int p4), .val (.int p5), .val (.int s1), .val (.int s2), .val (.int s3), .val (.int s4), .unset, .unset, .unset, .unset] [(.int (0 : Int32)), (.int (2147483647 : Int32)), (.int (0 : Int32)), (.ref b32), (.ref b32)])) rfl (hb hby at_67)) ?_
    obtain ⟨_, _, ⟨T34, L34, k34, n34⟩, -, X34, ⟨Lc34, hQ34, l34, y34, z34⟩, st34⟩ := X32.specialBack hx (y := (⟨"com/example/paths_to_documents/pathstodocuments/query/StretchBox", "<init>", "(IIII)V"⟩ : MethodName)) rfl hown (mvT hZ (hw _ (List.mem_of_getElem? (i := 4) rfl))) (mvT hZ (hw _ (List.mem_of_getElem? (i := 5) rfl))) (mvT hZ (hw _ (List.mem_of_getElem? (i := 6) rfl))) (by decide) (backOf (W := 1) (rm1 l Z a0 hw [] b32 (0 : Int32) (2147483647 : Int32) (0 : Int32) (2147483647 : Int32) h32 n0 Z33 F_startFrom_b32 F_startTo_b32 F_endFrom_b32 F_endTo_b32 E_b32 gn_b32) hZ (hw _ (List.mem_of_getElem? (i := 6) rfl)) (hw _ (List.mem_of_getElem? (i := 2) rfl)) (by decide) (by decide)) (g := (mkF m 69 #[.val (.int p1), .val (.int p2), .val (.int p3), .val (.int p4), .val (.int p5), .val (.int s1), .val (.int s2), .val (.int s3), .val (.int s4), .unset, .unset, .unset, .unset] [(.int (2147483647 : Int32)), (.int (0 : Int32)), (.int (2147483647 : Int32)), (.int (0 : Int32)), (.ref b32), (.ref b32)])) rfl (by rw [hml]; rfl) (Steps.refl _) (a := b32) (argsL := [(.int (0 : Int32)), (.int (2147483647 : Int32)), (.int (0 : Int32)), (.int (2147483647 : Int32))]) (rest := [(.ref b32)]) (lenOf own_pd2 rfl) rfl (by show 2 * 0 + _ ≤ _; exact Nat.le_of_eq rfl) (hb hby at_69) (fun _ _ => ⟨rfl, e32, (by decide : 1 + 0 ≤ _), (by decide : 4 + 0 ≤ _)⟩)
    dsimp only [Pt.U, Pt.locs, Pt.cells, Pt.slots] at X34 l34 y34 z34 st34 hQ34
    subst l34 y34 z34
    obtain ⟨rfl, M34, K34, G0_34, G1_34, G2_34, G3_34⟩ := hQ34
    have N34 := Fr.app N0 M34
    refine own_go (T' := T34) (g' := (mkF m 72 #[.val (.int p1), .val (.int p2), .val (.int p3), .val (.int p4), .val (.int p5), .val (.int s1), .val (.int s2), .val (.int s3), .val (.int s4), .unset, .unset, .unset, .unset] [(.ref b32)])) (fun _ k => st34.trans k) ?_
    have E_b32 := E_b32.keep K34
    have Z35 : n0 ≤ T34.heap.size := Nat.le_trans Z33 K34.1
    have F_startFrom_b32 := G0_34
    have F_startTo_b32 := G1_34
    have F_endFrom_b32 := G2_34
    have F_endTo_b32 := G3_34
    refine own_go (T' := T34) (g' := (mkF m 74 #[.val (.int p1), .val (.int p2), .val (.int p3), .val (.int p4), .val (.int p5), .val (.int s1), .val (.int s2), .val (.int s3), .val (.int s4), .val (.ref b32), .unset, .unset, .unset] [])) (fun t k => XS.astore X34.here hx rfl (hb hby at_72) rfl rfl (l' := #[.val (.int p1), .val (.int p2), .val (.int p3), .val (.int p4), .val (.int p5), .val (.int s1), .val (.int s2), .val (.int s3), .val (.int s4), .val (.ref b32), .unset, .unset, .unset]) rfl k) ?_
    obtain ⟨T36, h36, X36, e36, E36, A36, D36, -, st36⟩ := newO X34 hx hZ hown (hw _ (List.mem_of_getElem? (i := 0) rfl)) (hw _ (List.mem_of_getElem? (i := 1) rfl)) (hw _ (List.mem_of_getElem? (i := 2) rfl)) rfl (g := (mkF m 74 #[.val (.int p1), .val (.int p2), .val (.int p3), .val (.int p4), .val (.int p5), .val (.int s1), .val (.int s2), .val (.int s3), .val (.int s4), .val (.ref b32), .unset, .unset, .unset] [])) rfl (hb hby at_74) (by decide) (by decide)
    obtain ⟨b36, g36⟩ : ∃ z, z = T34.heap.size := ⟨_, rfl⟩
    rw [← g36] at A36 D36 st36
    have ne_b32_b36 : b32 ≠ b36 := Nat.ne_of_lt (Nat.lt_of_lt_of_le E_b32.lt (Nat.le_of_eq g36.symm))
    have ne_b36_b32 := Ne.symm ne_b32_b36
    have gn_b36 : n0 ≤ b36 := Nat.le_trans Z35 (Nat.le_of_eq g36.symm)
    have E_b32 := E_b32.ext E36
    have F_startFrom_b32 := F_startFrom_b32.ext E36
    have F_startTo_b32 := F_startTo_b32.ext E36
    have F_endFrom_b32 := F_endFrom_b32.ext E36
    have F_endTo_b32 := F_endTo_b32.ext E36
    have Z37 : n0 ≤ h36.size := Nat.le_trans Z35 E36.1
    have E_b36 := A36
    have F_startFrom_b36 : Fld Z h36 b36 "com/example/paths_to_documents/pathstodocuments/query/StretchBox" "startFrom" "I" (.int (0 : Int32)) := D36 (Or.inr (hw _ (List.mem_of_getElem? (i := 16) rfl))) (ty := .int) (by decide)
    have F_startTo_b36 : Fld Z h36 b36 "com/example/paths_to_documents/pathstodocuments/query/StretchBox" "startTo" "I" (.int (0 : Int32)) := D36 (Or.inr (hw _ (List.mem_of_getElem? (i := 18) rfl))) (ty := .int) (by decide)
    have F_endFrom_b36 : Fld Z h36 b36 "com/example/paths_to_documents/pathstodocuments/query/StretchBox" "endFrom" "I" (.int (0 : Int32)) := D36 (Or.inr (hw _ (List.mem_of_getElem? (i := 20) rfl))) (ty := .int) (by decide)
    have F_endTo_b36 : Fld Z h36 b36 "com/example/paths_to_documents/pathstodocuments/query/StretchBox" "endTo" "I" (.int (0 : Int32)) := D36 (Or.inr (hw _ (List.mem_of_getElem? (i := 22) rfl))) (ty := .int) (by decide)
    refine own_go (T' := T36) (g' := (mkF m 77 #[.val (.int p1), .val (.int p2), .val (.int p3), .val (.int p4), .val (.int p5), .val (.int s1), .val (.int s2), .val (.int s3), .val (.int s4), .val (.ref b32), .unset, .unset, .unset] [(.ref b36)])) (st36) ?_
    refine own_go (T' := T36) (g' := (mkF m 78 #[.val (.int p1), .val (.int p2), .val (.int p3), .val (.int p4), .val (.int p5), .val (.int s1), .val (.int s2), .val (.int s3), .val (.int s4), .val (.ref b32), .unset, .unset, .unset] [(.ref b36), (.ref b36)])) (fun t k => XS.dup X36.here hx rfl (hb hby at_77) rfl rfl k) ?_
    refine own_go (T' := T36) (g' := (mkF m 80 #[.val (.int p1), .val (.int p2), .val (.int p3), .val (.int p4), .val (.int p5), .val (.int s1), .val (.int s2), .val (.int s3), .val (.int s4), .val (.ref b32), .unset, .unset, .unset] [(.int s1), (.ref b36), (.ref b36)])) (fun t k => XS.iload X36.here hx rfl (hb hby at_78) rfl k) ?_
    refine own_go (T' := T36) (g' := (mkF m 82 #[.val (.int p1), .val (.int p2), .val (.int p3), .val (.int p4), .val (.int p5), .val (.int s1), .val (.int s2), .val (.int s3), .val (.int s4), .val (.ref b32), .unset, .unset, .unset] [(.int s2), (.int s1), (.ref b36), (.ref b36)])) (fun t k => XS.iload X36.here hx rfl (hb hby at_80) rfl k) ?_
    refine own_go (T' := T36) (g' := (mkF m 84 #[.val (.int p1), .val (.int p2), .val (.int p3), .val (.int p4), .val (.int p5), .val (.int s1), .val (.int s2), .val (.int s3), .val (.int s4), .val (.ref b32), .unset, .unset, .unset] [(.int s3), (.int s2), (.int s1), (.ref b36), (.ref b36)])) (fun t k => XS.iload X36.here hx rfl (hb hby at_82) rfl k) ?_
    refine own_go (T' := T36) (g' := (mkF m 86 #[.val (.int p1), .val (.int p2), .val (.int p3), .val (.int p4), .val (.int p5), .val (.int s1), .val (.int s2), .val (.int s3), .val (.int s4), .val (.ref b32), .unset, .unset, .unset] [(.int s4), (.int s3), (.int s2), (.int s1), (.ref b36), (.ref b36)])) (fun t k => XS.iload X36.here hx rfl (hb hby at_84) rfl k) ?_
    obtain ⟨_, _, ⟨T38, L38, k38, n38⟩, -, X38, ⟨Lc38, hQ38, l38, y38, z38⟩, st38⟩ := X36.specialBack hx (y := (⟨"com/example/paths_to_documents/pathstodocuments/query/StretchBox", "<init>", "(IIII)V"⟩ : MethodName)) rfl hown (mvT hZ (hw _ (List.mem_of_getElem? (i := 4) rfl))) (mvT hZ (hw _ (List.mem_of_getElem? (i := 5) rfl))) (mvT hZ (hw _ (List.mem_of_getElem? (i := 6) rfl))) (by decide) (backOf (W := 1) (rm1 l Z a0 hw [] b36 s1 s2 s3 s4 h36 n0 Z37 F_startFrom_b36 F_startTo_b36 F_endFrom_b36 F_endTo_b36 E_b36 gn_b36) hZ (hw _ (List.mem_of_getElem? (i := 6) rfl)) (hw _ (List.mem_of_getElem? (i := 2) rfl)) (by decide) (by decide)) (g := (mkF m 86 #[.val (.int p1), .val (.int p2), .val (.int p3), .val (.int p4), .val (.int p5), .val (.int s1), .val (.int s2), .val (.int s3), .val (.int s4), .val (.ref b32), .unset, .unset, .unset] [(.int s4), (.int s3), (.int s2), (.int s1), (.ref b36), (.ref b36)])) rfl (by rw [hml]; rfl) (Steps.refl _) (a := b36) (argsL := [(.int s1), (.int s2), (.int s3), (.int s4)]) (rest := [(.ref b36)]) (lenOf own_pd2 rfl) rfl (by show 2 * 0 + _ ≤ _; exact Nat.le_of_eq rfl) (hb hby at_86) (fun _ _ => ⟨rfl, e36, (by decide : 2 + 0 ≤ _), (by decide : 8 + 0 ≤ _)⟩)
    dsimp only [Pt.U, Pt.locs, Pt.cells, Pt.slots] at X38 l38 y38 z38 st38 hQ38
    subst l38 y38 z38
    obtain ⟨rfl, M38, K38, G0_38, G1_38, G2_38, G3_38⟩ := hQ38
    have N38 := Fr.app N34 M38
    refine own_go (T' := T38) (g' := (mkF m 89 #[.val (.int p1), .val (.int p2), .val (.int p3), .val (.int p4), .val (.int p5), .val (.int s1), .val (.int s2), .val (.int s3), .val (.int s4), .val (.ref b32), .unset, .unset, .unset] [(.ref b36)])) (fun _ k => st38.trans k) ?_
    have E_b32 := E_b32.keep K38
    have F_startFrom_b32 := F_startFrom_b32.keep K38 (ninS ne_b32_b36 nin0)
    have F_startTo_b32 := F_startTo_b32.keep K38 (ninS ne_b32_b36 nin0)
    have F_endFrom_b32 := F_endFrom_b32.keep K38 (ninS ne_b32_b36 nin0)
    have F_endTo_b32 := F_endTo_b32.keep K38 (ninS ne_b32_b36 nin0)
    have E_b36 := E_b36.keep K38
    have Z39 : n0 ≤ T38.heap.size := Nat.le_trans Z37 K38.1
    have F_startFrom_b36 := G0_38
    have F_startTo_b36 := G1_38
    have F_endFrom_b36 := G2_38
    have F_endTo_b36 := G3_38
    refine own_go (T' := T38) (g' := (mkF m 91 #[.val (.int p1), .val (.int p2), .val (.int p3), .val (.int p4), .val (.int p5), .val (.int s1), .val (.int s2), .val (.int s3), .val (.int s4), .val (.ref b32), .val (.ref b36), .unset, .unset] [])) (fun t k => XS.astore X38.here hx rfl (hb hby at_89) rfl rfl (l' := #[.val (.int p1), .val (.int p2), .val (.int p3), .val (.int p4), .val (.int p5), .val (.int s1), .val (.int s2), .val (.int s3), .val (.int s4), .val (.ref b32), .val (.ref b36), .unset, .unset]) rfl k) ?_
    refine own_go (T' := T38) (g' := (mkF m 93 #[.val (.int p1), .val (.int p2), .val (.int p3), .val (.int p4), .val (.int p5), .val (.int s1), .val (.int s2), .val (.int s3), .val (.int s4), .val (.ref b32), .val (.ref b36), .unset, .unset] [(.ref b36)])) (fun t k => XS.aload X38.here hx rfl (hb hby at_91) rfl rfl k) ?_
    obtain ⟨cq40, kq40, q40a, q40b, q40c⟩ := isOf hZ rfl E_b36
    obtain ⟨_, _, ⟨T40, L40, k40, n40⟩, -, X40, ⟨Lc40, hQ40, l40, y40, z40⟩, st40⟩ := X38.virtualBack hx (y := (⟨"com/example/paths_to_documents/pathstodocuments/query/StretchBox", "holdsAll", "()Z"⟩ : MethodName)) (z := (⟨"com/example/paths_to_documents/pathstodocuments/query/StretchBox", "holdsAll", "()Z"⟩ : MethodName)) hown (mvT hZ (hw _ (List.mem_of_getElem? (i := 23) rfl))) (mvT hZ (hw _ (List.mem_of_getElem? (i := 24) rfl))) (notFace_of_selects (args := #[]) (mvT hZ (hw _ (List.mem_of_getElem? (i := 26) rfl)))) (mvT hZ (hw _ (List.mem_of_getElem? (i := 26) rfl))) (mvT hZ (hw _ (List.mem_of_getElem? (i := 25) rfl))) (by decide) (backOf (W := 0) (rm4 l Z a0 hw [] b36 s1 s2 s3 s4 T38.heap n0 Z39 F_startFrom_b36 F_startTo_b36 F_endFrom_b36 F_endTo_b36) hZ (hw _ (List.mem_of_getElem? (i := 27) rfl)) (hw _ (List.mem_of_getElem? (i := 2) rfl)) (by decide) (by decide)) q40a q40c (g := (mkF m 93 #[.val (.int p1), .val (.int p2), .val (.int p3), .val (.int p4), .val (.int p5), .val (.int s1), .val (.int s2), .val (.int s3), .val (.int s4), .val (.ref b32), .val (.ref b36), .unset, .unset] [(.ref b36)])) rfl (by rw [hml]; rfl) (Steps.refl _) (argsL := []) (rest := []) (lenOf own_pd1 rfl) rfl (by show 2 * 0 + _ ≤ _; exact Nat.le_of_eq rfl) (hb hby at_93) (fun _ _ => ⟨rfl, rfl, (by decide : 2 + 0 ≤ _), (by decide : 8 + 0 ≤ _)⟩)
    dsimp only [Pt.U, Pt.locs, Pt.cells, Pt.slots] at X40 l40 y40 z40 st40 hQ40
    subst l40 y40 z40
    obtain ⟨rfl, M40, K40⟩ := hQ40
    have N40 := Fr.app N38 M40
    refine own_go (T' := T40) (g' := (mkF m 96 #[.val (.int p1), .val (.int p2), .val (.int p3), .val (.int p4), .val (.int p5), .val (.int s1), .val (.int s2), .val (.int s3), .val (.int s4), .val (.ref b32), .val (.ref b36), .unset, .unset] [(.int (own_all s1 s2 s3 s4))])) (fun _ k => st40.trans k) ?_
    refine own_go (T' := T40) (g' := (mkF m 98 #[.val (.int p1), .val (.int p2), .val (.int p3), .val (.int p4), .val (.int p5), .val (.int s1), .val (.int s2), .val (.int s3), .val (.int s4), .val (.ref b32), .val (.ref b36), .val (.int (own_all s1 s2 s3 s4)), .unset] [])) (fun t k => XS.istore X40.here hx rfl (hb hby at_96) rfl (l' := #[.val (.int p1), .val (.int p2), .val (.int p3), .val (.int p4), .val (.int p5), .val (.int s1), .val (.int s2), .val (.int s3), .val (.int s4), .val (.ref b32), .val (.ref b36), .val (.int (own_all s1 s2 s3 s4)), .unset]) rfl k) ?_
    refine own_go (T' := T40) (g' := (mkF m 100 #[.val (.int p1), .val (.int p2), .val (.int p3), .val (.int p4), .val (.int p5), .val (.int s1), .val (.int s2), .val (.int s3), .val (.int s4), .val (.ref b32), .val (.ref b36), .val (.int (own_all s1 s2 s3 s4)), .unset] [(.ref b36)])) (fun t k => XS.aload X40.here hx rfl (hb hby at_98) rfl rfl k) ?_
    refine own_go (T' := T40) (g' := (mkF m 102 #[.val (.int p1), .val (.int p2), .val (.int p3), .val (.int p4), .val (.int p5), .val (.int s1), .val (.int s2), .val (.int s3), .val (.int s4), .val (.ref b32), .val (.ref b36), .val (.int (own_all s1 s2 s3 s4)), .unset] [(.ref b32), (.ref b36)])) (fun t k => XS.aload X40.here hx rfl (hb hby at_100) rfl rfl k) ?_
    obtain ⟨cq41, kq41, q41a, q41b, q41c⟩ := isOf hZ K40 E_b36
    obtain ⟨_, _, ⟨T41, L41, k41, n41⟩, -, X41, ⟨Lc41, hQ41, l41, y41, z41⟩, st41⟩ := X40.virtualBack hx (y := (⟨"com/example/paths_to_documents/pathstodocuments/query/StretchBox", "contains", "(Lcom/example/paths_to_documents/pathstodocuments/query/StretchBox;)Z"⟩ : MethodName)) (z := (⟨"com/example/paths_to_documents/pathstodocuments/query/StretchBox", "contains", "(Lcom/example/paths_to_documents/pathstodocuments/query/StretchBox;)Z"⟩ : MethodName)) hown (mvT hZ (hw _ (List.mem_of_getElem? (i := 29) rfl))) (mvT hZ (hw _ (List.mem_of_getElem? (i := 30) rfl))) (notFace_of_selects (args := #[]) (mvT hZ (hw _ (List.mem_of_getElem? (i := 32) rfl)))) (mvT hZ (hw _ (List.mem_of_getElem? (i := 32) rfl))) (mvT hZ (hw _ (List.mem_of_getElem? (i := 31) rfl))) (by decide) (backOf (W := 0) (rm5 l Z a0 hw [] b36 b32 s1 s2 s3 s4 (0 : Int32) (2147483647 : Int32) (0 : Int32) (2147483647 : Int32) T38.heap n0 Z39 F_startFrom_b36 F_startTo_b36 F_endFrom_b36 F_endTo_b36 F_startFrom_b32 F_startTo_b32 F_endFrom_b32 F_endTo_b32 E_b32) hZ (hw _ (List.mem_of_getElem? (i := 33) rfl)) (hw _ (List.mem_of_getElem? (i := 2) rfl)) (by decide) (by decide)) q41a q41c (g := (mkF m 102 #[.val (.int p1), .val (.int p2), .val (.int p3), .val (.int p4), .val (.int p5), .val (.int s1), .val (.int s2), .val (.int s3), .val (.int s4), .val (.ref b32), .val (.ref b36), .val (.int (own_all s1 s2 s3 s4)), .unset] [(.ref b32), (.ref b36)])) rfl (by rw [hml]; rfl) (Steps.refl _) (argsL := [(.ref b32)]) (rest := []) (lenOf own_pd3 rfl) rfl (by show 2 * 0 + _ ≤ _; exact Nat.le_of_eq rfl) (hb hby at_102) (fun _ _ => ⟨rfl, K40, (by decide : 2 + 0 ≤ _), (by decide : 8 + 0 ≤ _)⟩)
    dsimp only [Pt.U, Pt.locs, Pt.cells, Pt.slots] at X41 l41 y41 z41 st41 hQ41
    subst l41 y41 z41
    obtain ⟨rfl, M41, K41⟩ := hQ41
    have N41 := Fr.app N40 M41
    refine own_go (T' := T41) (g' := (mkF m 105 #[.val (.int p1), .val (.int p2), .val (.int p3), .val (.int p4), .val (.int p5), .val (.int s1), .val (.int s2), .val (.int s3), .val (.int s4), .val (.ref b32), .val (.ref b36), .val (.int (own_all s1 s2 s3 s4)), .unset] [(.int (own_cont s1 s2 s3 s4 (0 : Int32) (2147483647 : Int32) (0 : Int32) (2147483647 : Int32)))])) (fun _ k => st41.trans k) ?_
    by_cases c105_1 : (own_cont s1 s2 s3 s4 (0 : Int32) (2147483647 : Int32) (0 : Int32) (2147483647 : Int32)) = (0 : Int32)
    · refine own_go (T' := T41) (g' := (mkF m 122 #[.val (.int p1), .val (.int p2), .val (.int p3), .val (.int p4), .val (.int p5), .val (.int s1), .val (.int s2), .val (.int s3), .val (.int s4), .val (.ref b32), .val (.ref b36), .val (.int (own_all s1 s2 s3 s4)), .unset] [])) (fun t k => XS.ifYes X41.here hx rfl (pc0 := 105) (pc' := 122) rfl (hb hby at_105) rfl ((if0 _ _).trans (teq c105_1).1) (by decide) (by decide) k) ?_
      refine own_go (T' := T41) (g' := (mkF m 123 #[.val (.int p1), .val (.int p2), .val (.int p3), .val (.int p4), .val (.int p5), .val (.int s1), .val (.int s2), .val (.int s3), .val (.int s4), .val (.ref b32), .val (.ref b36), .val (.int (own_all s1 s2 s3 s4)), .unset] [(.int (0 : Int32))])) (fun t k => XS.iconst X41.here hx rfl (hb hby at_122) k) ?_
      refine own_go (T' := T41) (g' := (mkF m 125 #[.val (.int p1), .val (.int p2), .val (.int p3), .val (.int p4), .val (.int p5), .val (.int s1), .val (.int s2), .val (.int s3), .val (.int s4), .val (.ref b32), .val (.ref b36), .val (.int (own_all s1 s2 s3 s4)), .val (.int (0 : Int32))] [])) (fun t k => XS.istore X41.here hx rfl (hb hby at_123) rfl (l' := #[.val (.int p1), .val (.int p2), .val (.int p3), .val (.int p4), .val (.int p5), .val (.int s1), .val (.int s2), .val (.int s3), .val (.int s4), .val (.ref b32), .val (.ref b36), .val (.int (own_all s1 s2 s3 s4)), .val (.int (0 : Int32))]) rfl k) ?_
      refine own_go (T' := T41) (g' := (mkF m 127 #[.val (.int p1), .val (.int p2), .val (.int p3), .val (.int p4), .val (.int p5), .val (.int s1), .val (.int s2), .val (.int s3), .val (.int s4), .val (.ref b32), .val (.ref b36), .val (.int (own_all s1 s2 s3 s4)), .val (.int (0 : Int32))] [(.int (own_all s1 s2 s3 s4))])) (fun t k => XS.iload X41.here hx rfl (hb hby at_125) rfl k) ?_
      refine own_go (T' := T41) (g' := (mkF m 129 #[.val (.int p1), .val (.int p2), .val (.int p3), .val (.int p4), .val (.int p5), .val (.int s1), .val (.int s2), .val (.int s3), .val (.int s4), .val (.ref b32), .val (.ref b36), .val (.int (own_all s1 s2 s3 s4)), .val (.int (0 : Int32))] [(.int (0 : Int32)), (.int (own_all s1 s2 s3 s4))])) (fun t k => XS.iload X41.here hx rfl (hb hby at_127) rfl k) ?_
      refine own_go (T' := T41) (g' := (mkF m 132 #[.val (.int p1), .val (.int p2), .val (.int p3), .val (.int p4), .val (.int p5), .val (.int s1), .val (.int s2), .val (.int s3), .val (.int s4), .val (.ref b32), .val (.ref b36), .val (.int (own_all s1 s2 s3 s4)), .val (.int (0 : Int32))] [])) (fun t k => XS.icmpNo X41.here hx rfl (hb hby at_129) rfl (teq (own_pinA c105_1)).2 k) ?_
      refine own_go (T' := T41) (g' := (mkF m 133 #[.val (.int p1), .val (.int p2), .val (.int p3), .val (.int p4), .val (.int p5), .val (.int s1), .val (.int s2), .val (.int s3), .val (.int s4), .val (.ref b32), .val (.ref b36), .val (.int (own_all s1 s2 s3 s4)), .val (.int (0 : Int32))] [(.int (1 : Int32))])) (fun t k => XS.iconst X41.here hx rfl (hb hby at_132) k) ?_
      refine own_go (T' := T41) (g' := (mkF m 137 #[.val (.int p1), .val (.int p2), .val (.int p3), .val (.int p4), .val (.int p5), .val (.int s1), .val (.int s2), .val (.int s3), .val (.int s4), .val (.ref b32), .val (.ref b36), .val (.int (own_all s1 s2 s3 s4)), .val (.int (0 : Int32))] [(.int (1 : Int32))])) (fun t k => XS.goto X41.here hx rfl (pc0 := 133) (pc' := 137) rfl (hb hby at_133) (by decide) (by decide) k) ?_
      exact own_retZ X41 hx Bd.notSynchronized Bd.returns (hb hby at_137) rfl ⟨rfl, N41⟩ (by decide) (by decide)
    · refine own_go (T' := T41) (g' := (mkF m 108 #[.val (.int p1), .val (.int p2), .val (.int p3), .val (.int p4), .val (.int p5), .val (.int s1), .val (.int s2), .val (.int s3), .val (.int s4), .val (.ref b32), .val (.ref b36), .val (.int (own_all s1 s2 s3 s4)), .unset] [])) (fun t k => XS.ifNo X41.here hx rfl (hb hby at_105) rfl ((if0 _ _).trans (feq c105_1).1) k) ?_
      refine own_go (T' := T41) (g' := (mkF m 110 #[.val (.int p1), .val (.int p2), .val (.int p3), .val (.int p4), .val (.int p5), .val (.int s1), .val (.int s2), .val (.int s3), .val (.int s4), .val (.ref b32), .val (.ref b36), .val (.int (own_all s1 s2 s3 s4)), .unset] [(.ref b32)])) (fun t k => XS.aload X41.here hx rfl (hb hby at_108) rfl rfl k) ?_
      refine own_go (T' := T41) (g' := (mkF m 112 #[.val (.int p1), .val (.int p2), .val (.int p3), .val (.int p4), .val (.int p5), .val (.int s1), .val (.int s2), .val (.int s3), .val (.int s4), .val (.ref b32), .val (.ref b36), .val (.int (own_all s1 s2 s3 s4)), .unset] [(.ref b36), (.ref b32)])) (fun t k => XS.aload X41.here hx rfl (hb hby at_110) rfl rfl k) ?_
      obtain ⟨cq42, kq42, q42a, q42b, q42c⟩ := isOf hZ K41 E_b32
      obtain ⟨_, _, ⟨T42, L42, k42, n42⟩, -, X42, ⟨Lc42, hQ42, l42, y42, z42⟩, st42⟩ := X41.virtualBack hx (y := (⟨"com/example/paths_to_documents/pathstodocuments/query/StretchBox", "contains", "(Lcom/example/paths_to_documents/pathstodocuments/query/StretchBox;)Z"⟩ : MethodName)) (z := (⟨"com/example/paths_to_documents/pathstodocuments/query/StretchBox", "contains", "(Lcom/example/paths_to_documents/pathstodocuments/query/StretchBox;)Z"⟩ : MethodName)) hown (mvT hZ (hw _ (List.mem_of_getElem? (i := 29) rfl))) (mvT hZ (hw _ (List.mem_of_getElem? (i := 30) rfl))) (notFace_of_selects (args := #[]) (mvT hZ (hw _ (List.mem_of_getElem? (i := 32) rfl)))) (mvT hZ (hw _ (List.mem_of_getElem? (i := 32) rfl))) (mvT hZ (hw _ (List.mem_of_getElem? (i := 31) rfl))) (by decide) (backOf (W := 0) (rm5 l Z a0 hw [] b32 b36 (0 : Int32) (2147483647 : Int32) (0 : Int32) (2147483647 : Int32) s1 s2 s3 s4 T38.heap n0 Z39 F_startFrom_b32 F_startTo_b32 F_endFrom_b32 F_endTo_b32 F_startFrom_b36 F_startTo_b36 F_endFrom_b36 F_endTo_b36 E_b36) hZ (hw _ (List.mem_of_getElem? (i := 33) rfl)) (hw _ (List.mem_of_getElem? (i := 2) rfl)) (by decide) (by decide)) q42a q42c (g := (mkF m 112 #[.val (.int p1), .val (.int p2), .val (.int p3), .val (.int p4), .val (.int p5), .val (.int s1), .val (.int s2), .val (.int s3), .val (.int s4), .val (.ref b32), .val (.ref b36), .val (.int (own_all s1 s2 s3 s4)), .unset] [(.ref b36), (.ref b32)])) rfl (by rw [hml]; rfl) (Steps.refl _) (argsL := [(.ref b36)]) (rest := []) (lenOf own_pd3 rfl) rfl (by show 2 * 0 + _ ≤ _; exact Nat.le_of_eq rfl) (hb hby at_112) (fun _ _ => ⟨rfl, K41, (by decide : 2 + 0 ≤ _), (by decide : 8 + 0 ≤ _)⟩)
      dsimp only [Pt.U, Pt.locs, Pt.cells, Pt.slots] at X42 l42 y42 z42 st42 hQ42
      subst l42 y42 z42
      obtain ⟨rfl, M42, K42⟩ := hQ42
      have N42 := Fr.app N41 M42
      refine own_go (T' := T42) (g' := (mkF m 115 #[.val (.int p1), .val (.int p2), .val (.int p3), .val (.int p4), .val (.int p5), .val (.int s1), .val (.int s2), .val (.int s3), .val (.int s4), .val (.ref b32), .val (.ref b36), .val (.int (own_all s1 s2 s3 s4)), .unset] [(.int (own_cont (0 : Int32) (2147483647 : Int32) (0 : Int32) (2147483647 : Int32) s1 s2 s3 s4))])) (fun _ k => st42.trans k) ?_
      by_cases c115_2 : (own_cont (0 : Int32) (2147483647 : Int32) (0 : Int32) (2147483647 : Int32) s1 s2 s3 s4) = (0 : Int32)
      · refine own_go (T' := T42) (g' := (mkF m 122 #[.val (.int p1), .val (.int p2), .val (.int p3), .val (.int p4), .val (.int p5), .val (.int s1), .val (.int s2), .val (.int s3), .val (.int s4), .val (.ref b32), .val (.ref b36), .val (.int (own_all s1 s2 s3 s4)), .unset] [])) (fun t k => XS.ifYes X42.here hx rfl (pc0 := 115) (pc' := 122) rfl (hb hby at_115) rfl ((if0 _ _).trans (teq c115_2).1) (by decide) (by decide) k) ?_
        refine own_go (T' := T42) (g' := (mkF m 123 #[.val (.int p1), .val (.int p2), .val (.int p3), .val (.int p4), .val (.int p5), .val (.int s1), .val (.int s2), .val (.int s3), .val (.int s4), .val (.ref b32), .val (.ref b36), .val (.int (own_all s1 s2 s3 s4)), .unset] [(.int (0 : Int32))])) (fun t k => XS.iconst X42.here hx rfl (hb hby at_122) k) ?_
        refine own_go (T' := T42) (g' := (mkF m 125 #[.val (.int p1), .val (.int p2), .val (.int p3), .val (.int p4), .val (.int p5), .val (.int s1), .val (.int s2), .val (.int s3), .val (.int s4), .val (.ref b32), .val (.ref b36), .val (.int (own_all s1 s2 s3 s4)), .val (.int (0 : Int32))] [])) (fun t k => XS.istore X42.here hx rfl (hb hby at_123) rfl (l' := #[.val (.int p1), .val (.int p2), .val (.int p3), .val (.int p4), .val (.int p5), .val (.int s1), .val (.int s2), .val (.int s3), .val (.int s4), .val (.ref b32), .val (.ref b36), .val (.int (own_all s1 s2 s3 s4)), .val (.int (0 : Int32))]) rfl k) ?_
        refine own_go (T' := T42) (g' := (mkF m 127 #[.val (.int p1), .val (.int p2), .val (.int p3), .val (.int p4), .val (.int p5), .val (.int s1), .val (.int s2), .val (.int s3), .val (.int s4), .val (.ref b32), .val (.ref b36), .val (.int (own_all s1 s2 s3 s4)), .val (.int (0 : Int32))] [(.int (own_all s1 s2 s3 s4))])) (fun t k => XS.iload X42.here hx rfl (hb hby at_125) rfl k) ?_
        refine own_go (T' := T42) (g' := (mkF m 129 #[.val (.int p1), .val (.int p2), .val (.int p3), .val (.int p4), .val (.int p5), .val (.int s1), .val (.int s2), .val (.int s3), .val (.int s4), .val (.ref b32), .val (.ref b36), .val (.int (own_all s1 s2 s3 s4)), .val (.int (0 : Int32))] [(.int (0 : Int32)), (.int (own_all s1 s2 s3 s4))])) (fun t k => XS.iload X42.here hx rfl (hb hby at_127) rfl k) ?_
        refine own_go (T' := T42) (g' := (mkF m 132 #[.val (.int p1), .val (.int p2), .val (.int p3), .val (.int p4), .val (.int p5), .val (.int s1), .val (.int s2), .val (.int s3), .val (.int s4), .val (.ref b32), .val (.ref b36), .val (.int (own_all s1 s2 s3 s4)), .val (.int (0 : Int32))] [])) (fun t k => XS.icmpNo X42.here hx rfl (hb hby at_129) rfl (teq (own_pinB c115_2)).2 k) ?_
        refine own_go (T' := T42) (g' := (mkF m 133 #[.val (.int p1), .val (.int p2), .val (.int p3), .val (.int p4), .val (.int p5), .val (.int s1), .val (.int s2), .val (.int s3), .val (.int s4), .val (.ref b32), .val (.ref b36), .val (.int (own_all s1 s2 s3 s4)), .val (.int (0 : Int32))] [(.int (1 : Int32))])) (fun t k => XS.iconst X42.here hx rfl (hb hby at_132) k) ?_
        refine own_go (T' := T42) (g' := (mkF m 137 #[.val (.int p1), .val (.int p2), .val (.int p3), .val (.int p4), .val (.int p5), .val (.int s1), .val (.int s2), .val (.int s3), .val (.int s4), .val (.ref b32), .val (.ref b36), .val (.int (own_all s1 s2 s3 s4)), .val (.int (0 : Int32))] [(.int (1 : Int32))])) (fun t k => XS.goto X42.here hx rfl (pc0 := 133) (pc' := 137) rfl (hb hby at_133) (by decide) (by decide) k) ?_
        exact own_retZ X42 hx Bd.notSynchronized Bd.returns (hb hby at_137) rfl ⟨rfl, N42⟩ (by decide) (by decide)
      · refine own_go (T' := T42) (g' := (mkF m 118 #[.val (.int p1), .val (.int p2), .val (.int p3), .val (.int p4), .val (.int p5), .val (.int s1), .val (.int s2), .val (.int s3), .val (.int s4), .val (.ref b32), .val (.ref b36), .val (.int (own_all s1 s2 s3 s4)), .unset] [])) (fun t k => XS.ifNo X42.here hx rfl (hb hby at_115) rfl ((if0 _ _).trans (feq c115_2).1) k) ?_
        refine own_go (T' := T42) (g' := (mkF m 119 #[.val (.int p1), .val (.int p2), .val (.int p3), .val (.int p4), .val (.int p5), .val (.int s1), .val (.int s2), .val (.int s3), .val (.int s4), .val (.ref b32), .val (.ref b36), .val (.int (own_all s1 s2 s3 s4)), .unset] [(.int (1 : Int32))])) (fun t k => XS.iconst X42.here hx rfl (hb hby at_118) k) ?_
        refine own_go (T' := T42) (g' := (mkF m 123 #[.val (.int p1), .val (.int p2), .val (.int p3), .val (.int p4), .val (.int p5), .val (.int s1), .val (.int s2), .val (.int s3), .val (.int s4), .val (.ref b32), .val (.ref b36), .val (.int (own_all s1 s2 s3 s4)), .unset] [(.int (1 : Int32))])) (fun t k => XS.goto X42.here hx rfl (pc0 := 119) (pc' := 123) rfl (hb hby at_119) (by decide) (by decide) k) ?_
        refine own_go (T' := T42) (g' := (mkF m 125 #[.val (.int p1), .val (.int p2), .val (.int p3), .val (.int p4), .val (.int p5), .val (.int s1), .val (.int s2), .val (.int s3), .val (.int s4), .val (.ref b32), .val (.ref b36), .val (.int (own_all s1 s2 s3 s4)), .val (.int (1 : Int32))] [])) (fun t k => XS.istore X42.here hx rfl (hb hby at_123) rfl (l' := #[.val (.int p1), .val (.int p2), .val (.int p3), .val (.int p4), .val (.int p5), .val (.int s1), .val (.int s2), .val (.int s3), .val (.int s4), .val (.ref b32), .val (.ref b36), .val (.int (own_all s1 s2 s3 s4)), .val (.int (1 : Int32))]) rfl k) ?_
        refine own_go (T' := T42) (g' := (mkF m 127 #[.val (.int p1), .val (.int p2), .val (.int p3), .val (.int p4), .val (.int p5), .val (.int s1), .val (.int s2), .val (.int s3), .val (.int s4), .val (.ref b32), .val (.ref b36), .val (.int (own_all s1 s2 s3 s4)), .val (.int (1 : Int32))] [(.int (own_all s1 s2 s3 s4))])) (fun t k => XS.iload X42.here hx rfl (hb hby at_125) rfl k) ?_
        refine own_go (T' := T42) (g' := (mkF m 129 #[.val (.int p1), .val (.int p2), .val (.int p3), .val (.int p4), .val (.int p5), .val (.int s1), .val (.int s2), .val (.int s3), .val (.int s4), .val (.ref b32), .val (.ref b36), .val (.int (own_all s1 s2 s3 s4)), .val (.int (1 : Int32))] [(.int (1 : Int32)), (.int (own_all s1 s2 s3 s4))])) (fun t k => XS.iload X42.here hx rfl (hb hby at_127) rfl k) ?_
        refine own_go (T' := T42) (g' := (mkF m 132 #[.val (.int p1), .val (.int p2), .val (.int p3), .val (.int p4), .val (.int p5), .val (.int s1), .val (.int s2), .val (.int s3), .val (.int s4), .val (.ref b32), .val (.ref b36), .val (.int (own_all s1 s2 s3 s4)), .val (.int (1 : Int32))] [])) (fun t k => XS.icmpNo X42.here hx rfl (hb hby at_129) rfl (teq (own_pinC c105_1 c115_2)).2 k) ?_
        refine own_go (T' := T42) (g' := (mkF m 133 #[.val (.int p1), .val (.int p2), .val (.int p3), .val (.int p4), .val (.int p5), .val (.int s1), .val (.int s2), .val (.int s3), .val (.int s4), .val (.ref b32), .val (.ref b36), .val (.int (own_all s1 s2 s3 s4)), .val (.int (1 : Int32))] [(.int (1 : Int32))])) (fun t k => XS.iconst X42.here hx rfl (hb hby at_132) k) ?_
        refine own_go (T' := T42) (g' := (mkF m 137 #[.val (.int p1), .val (.int p2), .val (.int p3), .val (.int p4), .val (.int p5), .val (.int s1), .val (.int s2), .val (.int s3), .val (.int s4), .val (.ref b32), .val (.ref b36), .val (.int (own_all s1 s2 s3 s4)), .val (.int (1 : Int32))] [(.int (1 : Int32))])) (fun t k => XS.goto X42.here hx rfl (pc0 := 133) (pc' := 137) rfl (hb hby at_133) (by decide) (by decide) k) ?_
        exact own_retZ X42 hx Bd.notSynchronized Bd.returns (hb hby at_137) rfl ⟨rfl, N42⟩ (by decide) (by decide)
  have J43 : ∀ s1 s2 s3 : Int32, own_Run p e below s (Q0 Z p1 p2 p3 p4 p5 h0 n0) room_1.cells room_1.slots s₁ (mkF m 43 #[.val (.int p1), .val (.int p2), .val (.int p3), .val (.int p4), .val (.int p5), .val (.int s1), .val (.int s2), .val (.int s3), .unset, .unset, .unset, .unset, .unset] []) := by
    intro s1 s2 s3
    refine own_go (T' := s₁) (g' := (mkF m 45 #[.val (.int p1), .val (.int p2), .val (.int p3), .val (.int p4), .val (.int p5), .val (.int s1), .val (.int s2), .val (.int s3), .unset, .unset, .unset, .unset, .unset] [(.int p5)])) (fun t k => XS.iload X0.here hx rfl (hb hby at_43) rfl k) ?_
    refine own_go (T' := s₁) (g' := (mkF m 47 #[.val (.int p1), .val (.int p2), .val (.int p3), .val (.int p4), .val (.int p5), .val (.int s1), .val (.int s2), .val (.int s3), .unset, .unset, .unset, .unset, .unset] [(.int (8 : Int32)), (.int p5)])) (fun t k => XS.bipush X0.here hx rfl (hb hby at_45) k) ?_
    refine own_go (T' := s₁) (g' := (mkF m 48 #[.val (.int p1), .val (.int p2), .val (.int p3), .val (.int p4), .val (.int p5), .val (.int s1), .val (.int s2), .val (.int s3), .unset, .unset, .unset, .unset, .unset] [(.int (p5 &&& (8 : Int32)))])) (fun t k => XS.iand X0.here hx rfl (hb hby at_47) rfl k) ?_
    by_cases c48_1 : (p5 &&& (8 : Int32)) = (0 : Int32)
    · refine own_go (T' := s₁) (g' := (mkF m 56 #[.val (.int p1), .val (.int p2), .val (.int p3), .val (.int p4), .val (.int p5), .val (.int s1), .val (.int s2), .val (.int s3), .unset, .unset, .unset, .unset, .unset] [])) (fun t k => XS.ifYes X0.here hx rfl (pc0 := 48) (pc' := 56) rfl (hb hby at_48) rfl ((if0 _ _).trans (teq c48_1).1) (by decide) (by decide) k) ?_
      refine own_go (T' := s₁) (g' := (mkF m 57 #[.val (.int p1), .val (.int p2), .val (.int p3), .val (.int p4), .val (.int p5), .val (.int s1), .val (.int s2), .val (.int s3), .unset, .unset, .unset, .unset, .unset] [(.int p4)])) (fun t k => XS.iloadN X0.here hx rfl (hb hby at_56) rfl k) ?_
      refine own_go (T' := s₁) (g' := (mkF m 59 #[.val (.int p1), .val (.int p2), .val (.int p3), .val (.int p4), .val (.int p5), .val (.int s1), .val (.int s2), .val (.int s3), .val (.int p4), .unset, .unset, .unset, .unset] [])) (fun t k => XS.istore X0.here hx rfl (hb hby at_57) rfl (l' := #[.val (.int p1), .val (.int p2), .val (.int p3), .val (.int p4), .val (.int p5), .val (.int s1), .val (.int s2), .val (.int s3), .val (.int p4), .unset, .unset, .unset, .unset]) rfl k) ?_
      exact J59 _ _ _ _
    · refine own_go (T' := s₁) (g' := (mkF m 51 #[.val (.int p1), .val (.int p2), .val (.int p3), .val (.int p4), .val (.int p5), .val (.int s1), .val (.int s2), .val (.int s3), .unset, .unset, .unset, .unset, .unset] [])) (fun t k => XS.ifNo X0.here hx rfl (hb hby at_48) rfl ((if0 _ _).trans (feq c48_1).1) k) ?_
      refine own_go (T' := s₁) (g' := (mkF m 53 #[.val (.int p1), .val (.int p2), .val (.int p3), .val (.int p4), .val (.int p5), .val (.int s1), .val (.int s2), .val (.int s3), .unset, .unset, .unset, .unset, .unset] [(.int (2147483647 : Int32))])) (X0.ldcInt hx hown (mvT hZ (hw _ (List.mem_of_getElem? (i := 3) rfl))) (g := (mkF m 51 #[.val (.int p1), .val (.int p2), .val (.int p3), .val (.int p4), .val (.int p5), .val (.int s1), .val (.int s2), .val (.int s3), .unset, .unset, .unset, .unset, .unset] [])) rfl (hb hby at_51)) ?_
      refine own_go (T' := s₁) (g' := (mkF m 57 #[.val (.int p1), .val (.int p2), .val (.int p3), .val (.int p4), .val (.int p5), .val (.int s1), .val (.int s2), .val (.int s3), .unset, .unset, .unset, .unset, .unset] [(.int (2147483647 : Int32))])) (fun t k => XS.goto X0.here hx rfl (pc0 := 53) (pc' := 57) rfl (hb hby at_53) (by decide) (by decide) k) ?_
      refine own_go (T' := s₁) (g' := (mkF m 59 #[.val (.int p1), .val (.int p2), .val (.int p3), .val (.int p4), .val (.int p5), .val (.int s1), .val (.int s2), .val (.int s3), .val (.int (2147483647 : Int32)), .unset, .unset, .unset, .unset] [])) (fun t k => XS.istore X0.here hx rfl (hb hby at_57) rfl (l' := #[.val (.int p1), .val (.int p2), .val (.int p3), .val (.int p4), .val (.int p5), .val (.int s1), .val (.int s2), .val (.int s3), .val (.int (2147483647 : Int32)), .unset, .unset, .unset, .unset]) rfl k) ?_
      exact J59 _ _ _ _
  have J29 : ∀ s1 s2 : Int32, own_Run p e below s (Q0 Z p1 p2 p3 p4 p5 h0 n0) room_1.cells room_1.slots s₁ (mkF m 29 #[.val (.int p1), .val (.int p2), .val (.int p3), .val (.int p4), .val (.int p5), .val (.int s1), .val (.int s2), .unset, .unset, .unset, .unset, .unset, .unset] []) := by
    intro s1 s2
    refine own_go (T' := s₁) (g' := (mkF m 31 #[.val (.int p1), .val (.int p2), .val (.int p3), .val (.int p4), .val (.int p5), .val (.int s1), .val (.int s2), .unset, .unset, .unset, .unset, .unset, .unset] [(.int p5)])) (fun t k => XS.iload X0.here hx rfl (hb hby at_29) rfl k) ?_
    refine own_go (T' := s₁) (g' := (mkF m 32 #[.val (.int p1), .val (.int p2), .val (.int p3), .val (.int p4), .val (.int p5), .val (.int s1), .val (.int s2), .unset, .unset, .unset, .unset, .unset, .unset] [(.int (4 : Int32)), (.int p5)])) (fun t k => XS.iconst X0.here hx rfl (hb hby at_31) k) ?_
    refine own_go (T' := s₁) (g' := (mkF m 33 #[.val (.int p1), .val (.int p2), .val (.int p3), .val (.int p4), .val (.int p5), .val (.int s1), .val (.int s2), .unset, .unset, .unset, .unset, .unset, .unset] [(.int (p5 &&& (4 : Int32)))])) (fun t k => XS.iand X0.here hx rfl (hb hby at_32) rfl k) ?_
    by_cases c33_1 : (p5 &&& (4 : Int32)) = (0 : Int32)
    · refine own_go (T' := s₁) (g' := (mkF m 40 #[.val (.int p1), .val (.int p2), .val (.int p3), .val (.int p4), .val (.int p5), .val (.int s1), .val (.int s2), .unset, .unset, .unset, .unset, .unset, .unset] [])) (fun t k => XS.ifYes X0.here hx rfl (pc0 := 33) (pc' := 40) rfl (hb hby at_33) rfl ((if0 _ _).trans (teq c33_1).1) (by decide) (by decide) k) ?_
      refine own_go (T' := s₁) (g' := (mkF m 41 #[.val (.int p1), .val (.int p2), .val (.int p3), .val (.int p4), .val (.int p5), .val (.int s1), .val (.int s2), .unset, .unset, .unset, .unset, .unset, .unset] [(.int p3)])) (fun t k => XS.iloadN X0.here hx rfl (hb hby at_40) rfl k) ?_
      refine own_go (T' := s₁) (g' := (mkF m 43 #[.val (.int p1), .val (.int p2), .val (.int p3), .val (.int p4), .val (.int p5), .val (.int s1), .val (.int s2), .val (.int p3), .unset, .unset, .unset, .unset, .unset] [])) (fun t k => XS.istore X0.here hx rfl (hb hby at_41) rfl (l' := #[.val (.int p1), .val (.int p2), .val (.int p3), .val (.int p4), .val (.int p5), .val (.int s1), .val (.int s2), .val (.int p3), .unset, .unset, .unset, .unset, .unset]) rfl k) ?_
      exact J43 _ _ _
    · refine own_go (T' := s₁) (g' := (mkF m 36 #[.val (.int p1), .val (.int p2), .val (.int p3), .val (.int p4), .val (.int p5), .val (.int s1), .val (.int s2), .unset, .unset, .unset, .unset, .unset, .unset] [])) (fun t k => XS.ifNo X0.here hx rfl (hb hby at_33) rfl ((if0 _ _).trans (feq c33_1).1) k) ?_
      refine own_go (T' := s₁) (g' := (mkF m 37 #[.val (.int p1), .val (.int p2), .val (.int p3), .val (.int p4), .val (.int p5), .val (.int s1), .val (.int s2), .unset, .unset, .unset, .unset, .unset, .unset] [(.int (0 : Int32))])) (fun t k => XS.iconst X0.here hx rfl (hb hby at_36) k) ?_
      refine own_go (T' := s₁) (g' := (mkF m 41 #[.val (.int p1), .val (.int p2), .val (.int p3), .val (.int p4), .val (.int p5), .val (.int s1), .val (.int s2), .unset, .unset, .unset, .unset, .unset, .unset] [(.int (0 : Int32))])) (fun t k => XS.goto X0.here hx rfl (pc0 := 37) (pc' := 41) rfl (hb hby at_37) (by decide) (by decide) k) ?_
      refine own_go (T' := s₁) (g' := (mkF m 43 #[.val (.int p1), .val (.int p2), .val (.int p3), .val (.int p4), .val (.int p5), .val (.int s1), .val (.int s2), .val (.int (0 : Int32)), .unset, .unset, .unset, .unset, .unset] [])) (fun t k => XS.istore X0.here hx rfl (hb hby at_41) rfl (l' := #[.val (.int p1), .val (.int p2), .val (.int p3), .val (.int p4), .val (.int p5), .val (.int s1), .val (.int s2), .val (.int (0 : Int32)), .unset, .unset, .unset, .unset, .unset]) rfl k) ?_
      exact J43 _ _ _
  have J14 : ∀ s1 : Int32, own_Run p e below s (Q0 Z p1 p2 p3 p4 p5 h0 n0) room_1.cells room_1.slots s₁ (mkF m 14 #[.val (.int p1), .val (.int p2), .val (.int p3), .val (.int p4), .val (.int p5), .val (.int s1), .unset, .unset, .unset, .unset, .unset, .unset, .unset] []) := by
    intro s1
    refine own_go (T' := s₁) (g' := (mkF m 16 #[.val (.int p1), .val (.int p2), .val (.int p3), .val (.int p4), .val (.int p5), .val (.int s1), .unset, .unset, .unset, .unset, .unset, .unset, .unset] [(.int p5)])) (fun t k => XS.iload X0.here hx rfl (hb hby at_14) rfl k) ?_
    refine own_go (T' := s₁) (g' := (mkF m 17 #[.val (.int p1), .val (.int p2), .val (.int p3), .val (.int p4), .val (.int p5), .val (.int s1), .unset, .unset, .unset, .unset, .unset, .unset, .unset] [(.int (2 : Int32)), (.int p5)])) (fun t k => XS.iconst X0.here hx rfl (hb hby at_16) k) ?_
    refine own_go (T' := s₁) (g' := (mkF m 18 #[.val (.int p1), .val (.int p2), .val (.int p3), .val (.int p4), .val (.int p5), .val (.int s1), .unset, .unset, .unset, .unset, .unset, .unset, .unset] [(.int (p5 &&& (2 : Int32)))])) (fun t k => XS.iand X0.here hx rfl (hb hby at_17) rfl k) ?_
    by_cases c18_1 : (p5 &&& (2 : Int32)) = (0 : Int32)
    · refine own_go (T' := s₁) (g' := (mkF m 26 #[.val (.int p1), .val (.int p2), .val (.int p3), .val (.int p4), .val (.int p5), .val (.int s1), .unset, .unset, .unset, .unset, .unset, .unset, .unset] [])) (fun t k => XS.ifYes X0.here hx rfl (pc0 := 18) (pc' := 26) rfl (hb hby at_18) rfl ((if0 _ _).trans (teq c18_1).1) (by decide) (by decide) k) ?_
      refine own_go (T' := s₁) (g' := (mkF m 27 #[.val (.int p1), .val (.int p2), .val (.int p3), .val (.int p4), .val (.int p5), .val (.int s1), .unset, .unset, .unset, .unset, .unset, .unset, .unset] [(.int p2)])) (fun t k => XS.iloadN X0.here hx rfl (hb hby at_26) rfl k) ?_
      refine own_go (T' := s₁) (g' := (mkF m 29 #[.val (.int p1), .val (.int p2), .val (.int p3), .val (.int p4), .val (.int p5), .val (.int s1), .val (.int p2), .unset, .unset, .unset, .unset, .unset, .unset] [])) (fun t k => XS.istore X0.here hx rfl (hb hby at_27) rfl (l' := #[.val (.int p1), .val (.int p2), .val (.int p3), .val (.int p4), .val (.int p5), .val (.int s1), .val (.int p2), .unset, .unset, .unset, .unset, .unset, .unset]) rfl k) ?_
      exact J29 _ _
    · refine own_go (T' := s₁) (g' := (mkF m 21 #[.val (.int p1), .val (.int p2), .val (.int p3), .val (.int p4), .val (.int p5), .val (.int s1), .unset, .unset, .unset, .unset, .unset, .unset, .unset] [])) (fun t k => XS.ifNo X0.here hx rfl (hb hby at_18) rfl ((if0 _ _).trans (feq c18_1).1) k) ?_
      refine own_go (T' := s₁) (g' := (mkF m 23 #[.val (.int p1), .val (.int p2), .val (.int p3), .val (.int p4), .val (.int p5), .val (.int s1), .unset, .unset, .unset, .unset, .unset, .unset, .unset] [(.int (2147483647 : Int32))])) (X0.ldcInt hx hown (mvT hZ (hw _ (List.mem_of_getElem? (i := 3) rfl))) (g := (mkF m 21 #[.val (.int p1), .val (.int p2), .val (.int p3), .val (.int p4), .val (.int p5), .val (.int s1), .unset, .unset, .unset, .unset, .unset, .unset, .unset] [])) rfl (hb hby at_21)) ?_
      refine own_go (T' := s₁) (g' := (mkF m 27 #[.val (.int p1), .val (.int p2), .val (.int p3), .val (.int p4), .val (.int p5), .val (.int s1), .unset, .unset, .unset, .unset, .unset, .unset, .unset] [(.int (2147483647 : Int32))])) (fun t k => XS.goto X0.here hx rfl (pc0 := 23) (pc' := 27) rfl (hb hby at_23) (by decide) (by decide) k) ?_
      refine own_go (T' := s₁) (g' := (mkF m 29 #[.val (.int p1), .val (.int p2), .val (.int p3), .val (.int p4), .val (.int p5), .val (.int s1), .val (.int (2147483647 : Int32)), .unset, .unset, .unset, .unset, .unset, .unset] [])) (fun t k => XS.istore X0.here hx rfl (hb hby at_27) rfl (l' := #[.val (.int p1), .val (.int p2), .val (.int p3), .val (.int p4), .val (.int p5), .val (.int s1), .val (.int (2147483647 : Int32)), .unset, .unset, .unset, .unset, .unset, .unset]) rfl k) ?_
      exact J29 _ _
  refine own_go (T' := s₁) (g' := (mkF m 2 #[.val (.int p1), .val (.int p2), .val (.int p3), .val (.int p4), .val (.int p5), .unset, .unset, .unset, .unset, .unset, .unset, .unset, .unset] [(.int p5)])) (fun t k => XS.iload X0.here hx rfl (hb hby at_0) rfl k) ?_
  refine own_go (T' := s₁) (g' := (mkF m 3 #[.val (.int p1), .val (.int p2), .val (.int p3), .val (.int p4), .val (.int p5), .unset, .unset, .unset, .unset, .unset, .unset, .unset, .unset] [(.int (1 : Int32)), (.int p5)])) (fun t k => XS.iconst X0.here hx rfl (hb hby at_2) k) ?_
  refine own_go (T' := s₁) (g' := (mkF m 4 #[.val (.int p1), .val (.int p2), .val (.int p3), .val (.int p4), .val (.int p5), .unset, .unset, .unset, .unset, .unset, .unset, .unset, .unset] [(.int (p5 &&& (1 : Int32)))])) (fun t k => XS.iand X0.here hx rfl (hb hby at_3) rfl k) ?_
  by_cases c4_1 : (p5 &&& (1 : Int32)) = (0 : Int32)
  · refine own_go (T' := s₁) (g' := (mkF m 11 #[.val (.int p1), .val (.int p2), .val (.int p3), .val (.int p4), .val (.int p5), .unset, .unset, .unset, .unset, .unset, .unset, .unset, .unset] [])) (fun t k => XS.ifYes X0.here hx rfl (pc0 := 4) (pc' := 11) rfl (hb hby at_4) rfl ((if0 _ _).trans (teq c4_1).1) (by decide) (by decide) k) ?_
    refine own_go (T' := s₁) (g' := (mkF m 12 #[.val (.int p1), .val (.int p2), .val (.int p3), .val (.int p4), .val (.int p5), .unset, .unset, .unset, .unset, .unset, .unset, .unset, .unset] [(.int p1)])) (fun t k => XS.iloadN X0.here hx rfl (hb hby at_11) rfl k) ?_
    refine own_go (T' := s₁) (g' := (mkF m 14 #[.val (.int p1), .val (.int p2), .val (.int p3), .val (.int p4), .val (.int p5), .val (.int p1), .unset, .unset, .unset, .unset, .unset, .unset, .unset] [])) (fun t k => XS.istore X0.here hx rfl (hb hby at_12) rfl (l' := #[.val (.int p1), .val (.int p2), .val (.int p3), .val (.int p4), .val (.int p5), .val (.int p1), .unset, .unset, .unset, .unset, .unset, .unset, .unset]) rfl k) ?_
    exact J14 _
  · refine own_go (T' := s₁) (g' := (mkF m 7 #[.val (.int p1), .val (.int p2), .val (.int p3), .val (.int p4), .val (.int p5), .unset, .unset, .unset, .unset, .unset, .unset, .unset, .unset] [])) (fun t k => XS.ifNo X0.here hx rfl (hb hby at_4) rfl ((if0 _ _).trans (feq c4_1).1) k) ?_
    refine own_go (T' := s₁) (g' := (mkF m 8 #[.val (.int p1), .val (.int p2), .val (.int p3), .val (.int p4), .val (.int p5), .unset, .unset, .unset, .unset, .unset, .unset, .unset, .unset] [(.int (0 : Int32))])) (fun t k => XS.iconst X0.here hx rfl (hb hby at_7) k) ?_
    refine own_go (T' := s₁) (g' := (mkF m 12 #[.val (.int p1), .val (.int p2), .val (.int p3), .val (.int p4), .val (.int p5), .unset, .unset, .unset, .unset, .unset, .unset, .unset, .unset] [(.int (0 : Int32))])) (fun t k => XS.goto X0.here hx rfl (pc0 := 8) (pc' := 12) rfl (hb hby at_8) (by decide) (by decide) k) ?_
    refine own_go (T' := s₁) (g' := (mkF m 14 #[.val (.int p1), .val (.int p2), .val (.int p3), .val (.int p4), .val (.int p5), .val (.int (0 : Int32)), .unset, .unset, .unset, .unset, .unset, .unset, .unset] [])) (fun t k => XS.istore X0.here hx rfl (hb hby at_12) rfl (l' := #[.val (.int p1), .val (.int p2), .val (.int p3), .val (.int p4), .val (.int p5), .val (.int (0 : Int32)), .unset, .unset, .unset, .unset, .unset, .unset, .unset]) rfl k) ?_
    exact J14 _
set_option maxRecDepth 65536 in
set_option maxHeartbeats 40000000 in
theorem comes_1 {Post : Tables → Env → Array Value → State → Outcome → State → Prop} (hpost : ∀ tb e args s v u, (limb_1_1.after args s (.returned v) u = true ∧ limb_1_2.after args s (.returned v) u = true ∧ True) → FrameEnd s (.returned v) u (Jvm.fieldLocs frame_1_writes args s ++ Jvm.arrayLocs frame_1_arrays args s ++ Jvm.staticLocs frame_1_statics s) 16 128 → Post tb e args s (.returned v) u) :
    ArmFor flags0 classFile x code maxLocals ret World_1 tables_1 room_1 Calls_1 rest_1 Pre_1 Post := by
  intro l hfl _ _ p e ha hc hk s m args below hf hA hF happ hP
  obtain ⟨hcalls, hrest, hpre⟩ := hP
  obtain ⟨-, -, -, hnamed, -, -, -, hat⟩ := (Spec.applies_iff hf).mp happ
  obtain ⟨hg, hn⟩ := and_e (Cond.before_iff.mp (show (Jvm.Cond.and given_1 narrow_1).before args s = true from hpre))
  obtain ⟨g0, q0⟩ := and_e hg
  obtain ⟨ga0, q1⟩ := and_e q0
  obtain ⟨ga1, q2⟩ := and_e q1
  obtain ⟨ga2, q3⟩ := and_e q2
  obtain ⟨ga3, q4⟩ := and_e q3
  have ga4 := q4
  obtain ⟨w0, w1, w2, w3, w4, rfl⟩ : ∃ w0 w1 w2 w3 w4 : Value, args = #[w0, w1, w2, w3, w4] := by
    have hs : args.size = 5 := by simpa [Cond.value, given_1] using g0
    obtain ⟨L⟩ := args
    match L, hs with
    | [w0, w1, w2, w3, w4], _ => exact ⟨w0, w1, w2, w3, w4, rfl⟩
  have hw := fun d (hd : d ∈ tables_1) => atoms_spec (ws := Jvm.Cond.code x code maxLocals ret :: tables_1) hat d (List.mem_cons_of_mem _ hd)
  obtain ⟨i0, ei0⟩ := is_v ga0
  obtain rfl : w0 = (.int i0) := Option.some.inj ei0
  obtain ⟨i1, ei1⟩ := is_v ga1
  obtain rfl : w1 = (.int i1) := Option.some.inj ei1
  obtain ⟨i2, ei2⟩ := is_v ga2
  obtain rfl : w2 = (.int i2) := Option.some.inj ei2
  obtain ⟨i3, ei3⟩ := is_v ga3
  obtain rfl : w3 = (.int i3) := Option.some.inj ei3
  obtain ⟨i4, ei4⟩ := is_v ga4
  obtain rfl : w4 = (.int i4) := Option.some.inj ei4
  obtain ⟨n, o, h1, h2, h3, _, L, rfl, ⟨rfl, N⟩, hq⟩ := rm0 l s _ hw tables_1 i0 i1 i2 i3 i4 s.heap s.heap.size (Nat.le_refl _) p e ha hc hk s m _ below hf ((Spec.applies_iff_loose hf).mp happ).1 ⟨rfl, State.Warmed39.refl s, rfl⟩ trivial
  refine ⟨n, _, h1, h2, h3, hpost _ _ _ _ _ _ ⟨Cond.after_iff.mpr rfl, Cond.after_iff.mpr (eq_i res_at (Term.int_eval (1)) rfl), trivial⟩ ⟨hq.1, hq.2.1, (hq.2.2.sift fun y hy => Or.inr (N y hy)).mono (by decide) (by decide)⟩⟩
theorem main_1_1 : Claimed_1_1 := comes_1 fun _ _ _ _ _ _ h hF => ⟨h.1, hF⟩
theorem main_1_2 : Claimed_1_2 := comes_1 fun _ _ _ _ _ _ h hF => ⟨h.2.1, hF⟩
end Jvm.Pilot.@@N@@
namespace Jvm.Pilot.@@N@@
open Jvm Jvm.ClassFile Sem Op Lib Jvm.Free Jvm.Stand Jvm.Pilot.@@N@@.Jvm.D
/-! MADE BY PROGRAM (witnessworld.py) out of the Statement's table words and the real class files: 10 classes; the members and pool entries that the words name. The judged class is class 1, her method 1. -/
namespace start1
open Jvm.ClassFile
def u (s : String) : CpInfo := .utf8 (stringToUtf16 s)
/-- a pool by its gaps: so many unusable entries, then the entry; so many at the end -/
def gap : Nat → List CpInfo → List CpInfo
  | 0, r => r
  | n + 1, r => .unusable :: gap n r
def poolList (es : List (Nat × CpInfo)) (last : Nat) : List CpInfo := es.foldr (fun e r => gap e.1 (e.2 :: r)) (gap last [])
def pool (es : List (Nat × CpInfo)) (last : Nat) : Array CpInfo := ⟨poolList es last⟩
def fileOf (pool : Array CpInfo) (this : Nat) (attrs : Array Attribute := #[]) (ms : Array MethodInfo := #[]) (fl : Nat := 33) (sup : Nat := 0) (ifs : Array Nat := #[]) (fds : Array FieldInfo := #[]) : ClassFile where
  minorVersion := 0
  majorVersion := 65
  constantPool := pool
  accessFlags := fl
  thisClass := this
  superClass := sup
  interfaces := ifs
  fields := fds
  methods := ms
  attributes := attrs
def plain (name : String) (sup : Option ClassId) : Class where
  name := name
  kind := .ordinary
  loader := none
  accessFlags := 33
  super := sup
  interfaces := #[]
  cf := none
  fields := #[]
  methods := #[]
  instanceTypes := #[]
  staticTypes := #[]
  resolved := #[]
  callSites := []
  init := .initialized
  statics := none
  mirror := none

def pool0 : Array CpInfo := pool [(5, u "<init>"), (0, u "()V"), (1, .class_ 10), (1, u "java/lang/Object")] 113

def k0c0 : Code := { maxStack := 0, maxLocals := 1, code := object_method_1_code, exceptionTable := #[], attributes := #[] }
def k0m0 : Method := { name := "<init>", desc := "()V", sig := { parameters := [], returnType := none }, accessFlags := 1, code := some k0c0 }
/-- java/lang/Object -/
def k0 : Class := { plain "java/lang/Object" none with
  accessFlags := 33
  interfaces := #[]
  cf := some (fileOf pool0 8 #[] #[{ accessFlags := 1, nameIndex := 5, descriptorIndex := 6, attributes := #[] }] 33 0 #[] #[])
  fields := #[]
  methods := #[k0m0]
  instanceTypes := #[]
  staticTypes := #[]
  resolved := Array.replicate 124 none
  statics := none }

def pool1 : Array CpInfo := pool [(2, .class_ 4), (1, u "java/lang/Object"), (0, u "<init>"), (0, u "()V"), (2, .integer 2147483647), (0, .class_ 11), (0, u "com/example/paths_to_documents/pathstodocuments/query/StretchBox"), (0, .methodref 10 13), (0, .nameAndType 5 14), (0, u "(IIII)V"), (0, .methodref 10 16), (0, .nameAndType 17 18), (0, u "holdsAll"), (0, u "()Z"), (0, .methodref 10 20), (0, .nameAndType 21 22), (0, u "contains"), (0, u "(Lcom/example/paths_to_documents/pathstodocuments/query/StretchBox;)Z"), (0, .class_ 24), (0, u "com/example/paths_to_documents/pathstodocuments/query/StretchBoxHoldsAllPinLaw"), (2, u "law"), (0, u "(IIIII)Z")] 3

def k1m0 : Method := { name := "<init>", desc := "()V", sig := { parameters := [], returnType := none }, accessFlags := 1, code := none }
def k1c1 : Code := { maxStack := 6, maxLocals := 13, code := code, exceptionTable := #[], attributes := #[] }
def k1m1 : Method := { name := "law", desc := "(IIIII)Z", sig := { parameters := [.int, .int, .int, .int, .int], returnType := some .boolean }, accessFlags := 9, code := some k1c1 }
/-- com/example/paths_to_documents/pathstodocuments/query/StretchBoxHoldsAllPinLaw -/
def k1 : Class := { plain "com/example/paths_to_documents/pathstodocuments/query/StretchBoxHoldsAllPinLaw" (some 0) with
  accessFlags := 49
  interfaces := #[]
  cf := some (fileOf pool1 23 #[] #[{ accessFlags := 1, nameIndex := 5, descriptorIndex := 6, attributes := #[] }, { accessFlags := 9, nameIndex := 27, descriptorIndex := 28, attributes := #[] }] 49 2 #[] #[])
  fields := #[]
  methods := #[k1m0, k1m1]
  instanceTypes := #[]
  staticTypes := #[]
  resolved := Array.replicate 32 none
  statics := none }

def pool2 : Array CpInfo := pool [(1, .methodref 2 3), (0, .class_ 4), (0, .nameAndType 5 6), (0, u "java/lang/Object"), (0, u "<init>"), (0, u "()V"), (0, .class_ 8), (0, u "java/lang/Record")] 13

def k2c0 : Code := { maxStack := 1, maxLocals := 1, code := jdk_30_method_1_code, exceptionTable := #[], attributes := #[] }
def k2m0 : Method := { name := "<init>", desc := "()V", sig := { parameters := [], returnType := none }, accessFlags := 4, code := some k2c0 }
/-- java/lang/Record -/
def k2 : Class := { plain "java/lang/Record" (some 0) with
  accessFlags := 1057
  interfaces := #[]
  cf := some (fileOf pool2 7 #[] #[{ accessFlags := 4, nameIndex := 5, descriptorIndex := 6, attributes := #[] }] 1057 2 #[] #[])
  fields := #[]
  methods := #[k2m0]
  instanceTypes := #[]
  staticTypes := #[]
  resolved := Array.replicate 22 none
  statics := none }

def pool3 : Array CpInfo := pool [(1, .methodref 2 3), (0, .class_ 4), (0, .nameAndType 5 6), (0, u "java/lang/Record"), (0, u "<init>"), (0, u "()V"), (0, .fieldref 8 9), (0, .class_ 10), (0, .nameAndType 11 12), (0, u "com/example/paths_to_documents/pathstodocuments/query/StretchBox"), (0, u "startFrom"), (0, u "I"), (0, .fieldref 8 14), (0, .nameAndType 15 12), (0, u "startTo"), (0, .fieldref 8 17), (0, .nameAndType 18 12), (0, u "endFrom"), (0, .fieldref 8 20), (0, .nameAndType 21 12), (0, u "endTo"), (2, .integer 2147483647), (2, u "(IIII)V"), (0, .methodref 8 29), (0, .nameAndType 30 31), (0, u "isEmpty"), (0, u "()Z"), (23, u "ALL"), (0, u "Lcom/example/paths_to_documents/pathstodocuments/query/StretchBox;"), (2, u "NONE"), (9, u "holdsAll"), (0, u "contains"), (0, u "(Lcom/example/paths_to_documents/pathstodocuments/query/StretchBox;)Z")] 29

def k3c0 : Code := { maxStack := 2, maxLocals := 5, code := prog_143_method_1_code, exceptionTable := #[], attributes := #[] }
def k3m0 : Method := { name := "<init>", desc := "(IIII)V", sig := { parameters := [.int, .int, .int, .int], returnType := none }, accessFlags := 0, code := some k3c0 }
def k3c1 : Code := { maxStack := 2, maxLocals := 1, code := prog_143_method_5_code, exceptionTable := #[], attributes := #[] }
def k3m1 : Method := { name := "holdsAll", desc := "()Z", sig := { parameters := [], returnType := some .boolean }, accessFlags := 0, code := some k3c1 }
def k3c2 : Code := { maxStack := 2, maxLocals := 1, code := prog_143_method_6_code, exceptionTable := #[], attributes := #[] }
def k3m2 : Method := { name := "isEmpty", desc := "()Z", sig := { parameters := [], returnType := some .boolean }, accessFlags := 0, code := some k3c2 }
def k3c3 : Code := { maxStack := 2, maxLocals := 2, code := prog_143_method_7_code, exceptionTable := #[], attributes := #[] }
def k3m3 : Method := { name := "contains", desc := "(Lcom/example/paths_to_documents/pathstodocuments/query/StretchBox;)Z", sig := { parameters := [(.object "com/example/paths_to_documents/pathstodocuments/query/StretchBox")], returnType := some .boolean }, accessFlags := 0, code := some k3c3 }
/-- com/example/paths_to_documents/pathstodocuments/query/StretchBox -/
def k3 : Class := { plain "com/example/paths_to_documents/pathstodocuments/query/StretchBox" (some 2) with
  accessFlags := 48
  interfaces := #[]
  cf := some (fileOf pool3 8 #[] #[{ accessFlags := 0, nameIndex := 5, descriptorIndex := 27, attributes := #[] }, { accessFlags := 0, nameIndex := 69, descriptorIndex := 31, attributes := #[] }, { accessFlags := 0, nameIndex := 30, descriptorIndex := 31, attributes := #[] }, { accessFlags := 0, nameIndex := 70, descriptorIndex := 71, attributes := #[] }] 48 2 #[] #[{ accessFlags := 18, nameIndex := 11, descriptorIndex := 12, attributes := #[] }, { accessFlags := 18, nameIndex := 15, descriptorIndex := 12, attributes := #[] }, { accessFlags := 18, nameIndex := 18, descriptorIndex := 12, attributes := #[] }, { accessFlags := 18, nameIndex := 21, descriptorIndex := 12, attributes := #[] }, { accessFlags := 24, nameIndex := 55, descriptorIndex := 56, attributes := #[] }, { accessFlags := 24, nameIndex := 59, descriptorIndex := 56, attributes := #[] }])
  fields := #[{ name := "startFrom", type := .int, accessFlags := 18, slot := 0, constantValue := 0 }, { name := "startTo", type := .int, accessFlags := 18, slot := 1, constantValue := 0 }, { name := "endFrom", type := .int, accessFlags := 18, slot := 2, constantValue := 0 }, { name := "endTo", type := .int, accessFlags := 18, slot := 3, constantValue := 0 }, { name := "ALL", type := (.object "com/example/paths_to_documents/pathstodocuments/query/StretchBox"), accessFlags := 24, slot := 0, constantValue := 0 }, { name := "NONE", type := (.object "com/example/paths_to_documents/pathstodocuments/query/StretchBox"), accessFlags := 24, slot := 1, constantValue := 0 }]
  methods := #[k3m0, k3m1, k3m2, k3m3]
  instanceTypes := #[.int, .int, .int, .int]
  staticTypes := #[(.object "com/example/paths_to_documents/pathstodocuments/query/StretchBox"), (.object "com/example/paths_to_documents/pathstodocuments/query/StretchBox")]
  resolved := Array.replicate 101 none
  statics := none }

def pool4 : Array CpInfo := pool [(1, u "java/lang/Cloneable"), (0, .class_ 1), (0, u "java/lang/Object"), (0, .class_ 3)] 3

/-- java/lang/Cloneable -/
def k4 : Class := { plain "java/lang/Cloneable" (some 0) with
  accessFlags := 1537
  interfaces := #[]
  cf := some (fileOf pool4 2 #[] #[] 1537 4 #[] #[])
  fields := #[]
  methods := #[]
  instanceTypes := #[]
  staticTypes := #[]
  resolved := Array.replicate 8 none
  statics := none }

def pool5 : Array CpInfo := pool [(1, u "java/io/Serializable"), (0, .class_ 1), (0, u "java/lang/Object"), (0, .class_ 3)] 3

/-- java/io/Serializable -/
def k5 : Class := { plain "java/io/Serializable" (some 0) with
  accessFlags := 1537
  interfaces := #[]
  cf := some (fileOf pool5 2 #[] #[] 1537 4 #[] #[])
  fields := #[]
  methods := #[]
  instanceTypes := #[]
  staticTypes := #[]
  resolved := Array.replicate 8 none
  statics := none }

/-- the primitive byte -/
def k6 : Class := { plain "byte" none with kind := .primitive 'B', accessFlags := 0x411 }
/-- [B -/
def k7 : Class := { plain "[B" (some 0) with kind := .array 6 .byte, interfaces := #[4, 5], accessFlags := 1041 }

/-- the primitive int -/
def k8 : Class := { plain "int" none with kind := .primitive 'I', accessFlags := 0x411 }
/-- [I -/
def k9 : Class := { plain "[I" (some 0) with kind := .array 8 .int, interfaces := #[4, 5], accessFlags := 1041 }

def heap : Heap := #[]
def classes : Array Class := #[k0, k1, k2, k3, k4, k5, k6, k7, k8, k9]
def interned : List (Array UInt16 × Addr) := []
def slotsUsed : Nat := 0
def theMethod : MethodId := ⟨1, 1⟩
def args0 : Array Value := #[.int 5, .int 300, .int 7, .int 8, .int 6]
def aboutOver (below : List Frame) : State where
  vm := { classes := classes, interned := interned.toArray }
  heap := heap
  slotsUsed := slotsUsed
  threads := #[{ frames := .invoking theMethod args0 :: below }]
def below0 : List Frame := [.native { method := ⟨0, 0⟩, args := #[] }]
def about1 : State := aboutOver below0
def p0 : Program := .bare "" "" ""
def e0 : Env := launch0.env 0 0 0
theorem w_frames : about1.frames = Frame.invoking theMethod args0 :: below0 := rfl
set_option maxRecDepth 65536 in
theorem w_args : argsFit about1.vm theMethod args0 = true := by decide +kernel
set_option maxRecDepth 65536 in
theorem w_heap : heapFits about1 = true := by decide +kernel
set_option maxRecDepth 65536 in
theorem w_runnable : about1.curStatus? = some .runnable := by decide +kernel
set_option maxRecDepth 65536 in
theorem w_alone : about1.alone = true := by decide +kernel
set_option maxRecDepth 65536 in
theorem w_named : about1.methodNamed? x = some theMethod := by decide +kernel
set_option maxRecDepth 65536 in
theorem w_hears : about1.hears theMethod below0 = true := by decide +kernel
set_option maxRecDepth 65536 in
theorem w_ripe : about1.ripe theMethod args0 below0 = true := by decide +kernel
theorem w_running : about1.status = .running := rfl
set_option maxRecDepth 65536 in
theorem w_room : about1.hasRoom e0.platform room_1 = true :=
  launch0.hasRoom_least _ room_1 (by decide +kernel) (by decide +kernel) (by decide +kernel) (by decide +kernel) (by decide +kernel) (by decide +kernel)
theorem allAtoms_all (ts : List Jvm.Cond) (a : Array Jvm.Value) (st : Jvm.State) : (allAtoms ts).before a st = ts.all (fun c => c.before a st) := by
  induction ts with
  | nil => rfl
  | cons c t ih =>
    show (Jvm.Cond.and c (allAtoms t)).before a st = _
    rw [Jvm.Cond.before_and, ih, List.all_cons]
def words1 : List Jvm.Cond := Jvm.Cond.code x code maxLocals ret :: tables_1
/-- a 'code' word, met by the world's own term for the bytes: nothing is compared byte by byte -/
theorem code_word {y : MethodName} {bytes : ByteArray} {mx : Nat} {rt : Option FieldType} {a : Array Value} {s : State} {m : MethodId} {meth : Method} {c : Code} (h1 : s.methodNamed? y = some m) (h2 : s.vm.method? m = some meth) (h3 : meth.code = some c) (h4 : c.code = bytes)
    (h5 : (c.maxLocals == mx && c.exceptionTable.isEmpty && decide (c.maxStack ≤ mostOperands) && decide (meth.sig.returnType = rt) && !meth.locks && decide (parseMethodDescriptor y.desc = some meth.sig)) = true) : (Jvm.Cond.code y bytes mx rt).before a s = true := by
  simp only [Bool.and_eq_true, beq_iff_eq, Bool.not_eq_true', decide_eq_true_eq] at h5
  obtain ⟨⟨⟨⟨⟨g1, g2⟩, g3⟩, g4⟩, g5⟩, g6⟩ := h5
  simp [Cond.before, Cond.holds, Cond.value, h1, h2, h3, h4, g1, g2, g3, g4, g5, g6]
def isCode : Jvm.Cond → Bool
  | .code _ _ _ _ => true
  | _ => false
theorem all_split {L : List Jvm.Cond} {P : Jvm.Cond → Bool} (h1 : L.all (fun c => isCode c || P c) = true) (h2 : ∀ c ∈ L.filter isCode, P c = true) : L.all P = true := by
  refine List.all_eq_true.mpr fun c hc => ?_
  have h := List.all_eq_true.mp h1 c hc
  rcases Bool.eq_false_or_eq_true (isCode c) with hi | hi
  · exact h2 c (List.mem_filter.mpr ⟨hc, hi⟩)
  · simpa [hi] using h
set_option maxRecDepth 65536 in
theorem w_c0 : (Jvm.Cond.code x code maxLocals ret).before args0 about1 = true := code_word (m := ⟨1, 1⟩) (meth := k1m1) (c := k1c1) (by decide +kernel) rfl rfl rfl (by decide +kernel)
set_option maxRecDepth 65536 in
theorem w_c1 : (Jvm.Cond.code ({ cls := "com/example/paths_to_documents/pathstodocuments/query/StretchBox", name := "<init>", desc := "(IIII)V" } : Jvm.MethodName) prog_143_method_1_code (5 : Nat) (Option.none : Option Jvm.ClassFile.FieldType)).before args0 about1 = true := code_word (m := ⟨3, 0⟩) (meth := k3m0) (c := k3c0) (by decide +kernel) rfl rfl rfl (by decide +kernel)
set_option maxRecDepth 65536 in
theorem w_c2 : (Jvm.Cond.code ({ cls := "java/lang/Record", name := "<init>", desc := "()V" } : Jvm.MethodName) jdk_30_method_1_code (1 : Nat) (Option.none : Option Jvm.ClassFile.FieldType)).before args0 about1 = true := code_word (m := ⟨2, 0⟩) (meth := k2m0) (c := k2c0) (by decide +kernel) rfl rfl rfl (by decide +kernel)
set_option maxRecDepth 65536 in
theorem w_c3 : (Jvm.Cond.code ({ cls := "java/lang/Object", name := "<init>", desc := "()V" } : Jvm.MethodName) object_method_1_code (1 : Nat) (Option.none : Option Jvm.ClassFile.FieldType)).before args0 about1 = true := code_word (m := ⟨0, 0⟩) (meth := k0m0) (c := k0c0) (by decide +kernel) rfl rfl rfl (by decide +kernel)
set_option maxRecDepth 65536 in
theorem w_c4 : (Jvm.Cond.code ({ cls := "com/example/paths_to_documents/pathstodocuments/query/StretchBox", name := "holdsAll", desc := "()Z" } : Jvm.MethodName) prog_143_method_5_code (1 : Nat) (Option.some Jvm.ClassFile.FieldType.boolean)).before args0 about1 = true := code_word (m := ⟨3, 1⟩) (meth := k3m1) (c := k3c1) (by decide +kernel) rfl rfl rfl (by decide +kernel)
set_option maxRecDepth 65536 in
theorem w_c5 : (Jvm.Cond.code ({ cls := "com/example/paths_to_documents/pathstodocuments/query/StretchBox", name := "contains", desc := "(Lcom/example/paths_to_documents/pathstodocuments/query/StretchBox;)Z" } : Jvm.MethodName) prog_143_method_7_code (2 : Nat) (Option.some Jvm.ClassFile.FieldType.boolean)).before args0 about1 = true := code_word (m := ⟨3, 3⟩) (meth := k3m3) (c := k3c3) (by decide +kernel) rfl rfl rfl (by decide +kernel)
set_option maxRecDepth 65536 in
theorem w_c6 : (Jvm.Cond.code ({ cls := "com/example/paths_to_documents/pathstodocuments/query/StretchBox", name := "isEmpty", desc := "()Z" } : Jvm.MethodName) prog_143_method_6_code (1 : Nat) (Option.some Jvm.ClassFile.FieldType.boolean)).before args0 about1 = true := code_word (m := ⟨3, 2⟩) (meth := k3m2) (c := k3c2) (by decide +kernel) rfl rfl rfl (by decide +kernel)
def codes1 : List Jvm.Cond := [Jvm.Cond.code x code maxLocals ret, Jvm.Cond.code ({ cls := "com/example/paths_to_documents/pathstodocuments/query/StretchBox", name := "<init>", desc := "(IIII)V" } : Jvm.MethodName) prog_143_method_1_code (5 : Nat) (Option.none : Option Jvm.ClassFile.FieldType), Jvm.Cond.code ({ cls := "java/lang/Record", name := "<init>", desc := "()V" } : Jvm.MethodName) jdk_30_method_1_code (1 : Nat) (Option.none : Option Jvm.ClassFile.FieldType), Jvm.Cond.code ({ cls := "java/lang/Object", name := "<init>", desc := "()V" } : Jvm.MethodName) object_method_1_code (1 : Nat) (Option.none : Option Jvm.ClassFile.FieldType), Jvm.Cond.code ({ cls := "com/example/paths_to_documents/pathstodocuments/query/StretchBox", name := "holdsAll", desc := "()Z" } : Jvm.MethodName) prog_143_method_5_code (1 : Nat) (Option.some Jvm.ClassFile.FieldType.boolean), Jvm.Cond.code ({ cls := "com/example/paths_to_documents/pathstodocuments/query/StretchBox", name := "contains", desc := "(Lcom/example/paths_to_documents/pathstodocuments/query/StretchBox;)Z" } : Jvm.MethodName) prog_143_method_7_code (2 : Nat) (Option.some Jvm.ClassFile.FieldType.boolean), Jvm.Cond.code ({ cls := "com/example/paths_to_documents/pathstodocuments/query/StretchBox", name := "isEmpty", desc := "()Z" } : Jvm.MethodName) prog_143_method_6_code (1 : Nat) (Option.some Jvm.ClassFile.FieldType.boolean)]
set_option maxRecDepth 65536 in
theorem codes_eq : words1.filter isCode = codes1 := rfl
theorem w_codes : ∀ c ∈ words1.filter isCode, c.before args0 about1 = true := by
  rw [codes_eq]
  intro c hc
  simp only [codes1, List.mem_cons, List.not_mem_nil, or_false] at hc
  rcases hc with rfl | rfl | rfl | rfl | rfl | rfl | rfl
  · exact w_c0
  · exact w_c1
  · exact w_c2
  · exact w_c3
  · exact w_c4
  · exact w_c5
  · exact w_c6
set_option maxRecDepth 65536 in
theorem w_t1 : (words1.take 24).all (fun c => isCode c || c.before args0 about1) = true := by decide +kernel
set_option maxRecDepth 65536 in
theorem w_t2 : (words1.drop 24).all (fun c => isCode c || c.before args0 about1) = true := by decide +kernel
theorem w_tables : (allAtoms (Jvm.Cond.code x code maxLocals ret :: tables_1)).before args0 about1 = true := by
  rw [allAtoms_all]
  show words1.all (fun c => c.before args0 about1) = true
  refine all_split ?_ w_codes
  rw [← List.take_append_drop 24 words1, List.all_append, w_t1, w_t2]
  rfl
set_option maxRecDepth 65536 in
theorem w_case : (Jvm.Cond.and given_1 narrow_1).before args0 about1 = true := by decide +kernel
theorem w_applies : (headSpec (Jvm.Cond.code x code maxLocals ret :: tables_1) room_1).applies x e0.platform about1 = true :=
  (Spec.applies_iff w_frames).mpr ⟨w_running, w_runnable, w_alone, w_named, w_hears, w_ripe, w_room, w_tables⟩
theorem atStart : AtStart classFile x code maxLocals ret World_1 tables_1 room_1 Calls_1 rest_1 Pre_1 launch0 p0 e0 about1 theMethod args0 below0 :=
  ⟨lists_1, trivial, launch0.admits_env _ _ _, launch0.least_env, fairChoices_fair.cas, fairChoices_fair.clock, w_frames, w_args, w_heap, w_applies, trivial, trivial, w_case⟩
end start1
theorem witness_1 : WitnessClaimed_1 := ⟨start1.p0, start1.e0, start1.about1, start1.theMethod, start1.args0, start1.below0, start1.atStart⟩
end Jvm.Pilot.@@N@@
