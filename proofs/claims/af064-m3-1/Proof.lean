import JvmDerived
import JvmDerived.Pilot.@@N@@Statement
import JvmDerived.Pilot.@@N@@Code
set_option linter.unusedVariables false
set_option linter.unusedSimpArgs false
namespace Jvm.Pilot.@@N@@
open Jvm Jvm.ClassFile Sem Op Lib Jvm.Free Jvm.Stand Jvm.LawKit Jvm.RoadKit Bundle Jvm.Pilot.@@N@@.Jvm.D
section Own
variable {p : Program} {l : Launch} {e : Env} {R : Room} {s : State} {m : MethodId} {args : Array Value} {below : List Frame} {meth : Method} {c : Code} {T T' : State} {locs : List Loc} {cells slots : Nat} {QQ : Option Value → Heap → List Loc → Prop} {RC RS : Nat} {g g' : JFrame}
/-- from this frame the run comes to the method's end, and what it leaves is as QQ says -/
def own_Run (p : Program) (e : Env) (below : List Frame) (s : State) (QQ : Option Value → Heap → List Loc → Prop) (RC RS : Nat) (T : State) (g : JFrame) : Prop :=
  ∃ s₂ o, Steps p.tables e below (T.setTop g) s₂ ∧ s₂.status = .running ∧ Ended s₂ below o ∧ ∃ v L, o = .returned v ∧ QQ v s₂.heap L ∧ FrameEnd s o s₂ L RC RS
theorem own_go (h : ∀ t, Steps p.tables e below (T'.setTop g') t → Steps p.tables e below (T.setTop g) t) (r : own_Run p e below s QQ RC RS T' g') : own_Run p e below s QQ RC RS T g := by
  obtain ⟨s₂, o, k, r⟩ := r
  exact ⟨s₂, o, h _ k, r⟩
theorem own_enter {g0 : JFrame} (q : g0 = g) (r : own_Run p e below s QQ RC RS T g) : ∃ s₂ o, Steps p.tables e below (T.setTop g0) s₂ ∧ s₂.status = .running ∧ Ended s₂ below o ∧ ∃ v L, o = .returned v ∧ QQ v s₂.heap L ∧ FrameEnd s o s₂ L RC RS := by
  subst q; exact r
theorem own_retZ (X : Stand p l e R s m args below meth c T locs cells slots) (hx : p.tables.exec = Jvm.exec) (hlk : meth.locks = false) (hret : meth.sig.returnType = some .boolean) {pc : Nat} {Ls : Array Slot} {z : Int32} {rest : List Value} (hd : decode c.code pc = .ok (.ireturn, 1)) (hz : nar .boolean z = z)
    (hQ : QQ (some (.int z)) T.heap locs) (hc : cells ≤ RC) (hs : slots ≤ RS) : own_Run p e below s QQ RC RS T (mkF m pc Ls (.int z :: rest)) := by
  obtain ⟨fs, hr, hrun, hended, hW, hsame⟩ := X.leave (v := some (.int z)) (fun h => by rw [hret] at h; cases h) hlk
  refine ⟨_, _, retN X hx (t := .boolean) hret (by simp) hd (by rw [hz]; exact hr), hrun, hended, _, _, rfl, hQ, ⟨_, rfl⟩, hW, hsame.mono hc hs⟩
theorem own_retI (X : Stand p l e R s m args below meth c T locs cells slots) (hx : p.tables.exec = Jvm.exec) (hlk : meth.locks = false) (hret : meth.sig.returnType = some .int) {pc : Nat} {Ls : Array Slot} {z : Int32} {rest : List Value} (hd : decode c.code pc = .ok (.ireturn, 1))
    (hQ : QQ (some (.int z)) T.heap locs) (hc : cells ≤ RC) (hs : slots ≤ RS) : own_Run p e below s QQ RC RS T (mkF m pc Ls (.int z :: rest)) := by
  obtain ⟨fs, hr, hrun, hended, hW, hsame⟩ := X.leave (v := some (.int z)) (fun h => by rw [hret] at h; cases h) hlk
  refine ⟨_, _, ?_, hrun, hended, _, _, rfl, hQ, ⟨_, rfl⟩, hW, hsame.mono hc hs⟩
  have hm' : T.vm.method? m = some meth := X.method'
  have hn : narrow .int (.int z) = .int z := rfl
  show Steps p.tables e below (T.setTop { method := m, pc := pc, locals := Ls, stack := _ :: rest, locked := none }) _
  jvm_step X.here [X.here.top, hx, hd, hm', hret, hn]
  first | (intro acts; rw [hr _ acts rfl rfl rfl]) | rw [hr _ _ rfl rfl rfl]
  exact Steps.refl _
theorem own_retJ (X : Stand p l e R s m args below meth c T locs cells slots) (hx : p.tables.exec = Jvm.exec) (hlk : meth.locks = false) (hret : meth.sig.returnType = some .long) {pc : Nat} {Ls : Array Slot} {z : Int64} (hd : decode c.code pc = .ok (.lreturn, 1))
    (hQ : QQ (some (.long z)) T.heap locs) (hc : cells ≤ RC) (hs : slots ≤ RS) : own_Run p e below s QQ RC RS T (mkF m pc Ls [.long z]) := by
  obtain ⟨fs, hr, hrun, hended, hW, hsame⟩ := X.leave (v := some (.long z)) (fun h => by rw [hret] at h; cases h) hlk
  exact ⟨_, _, X.lreturnOut hx hret hd hr, hrun, hended, _, _, rfl, hQ, ⟨_, rfl⟩, hW, hsame.mono hc hs⟩
theorem own_retV (X : Stand p l e R s m args below meth c T locs cells slots) (hx : p.tables.exec = Jvm.exec) (hlk : meth.locks = false) (hret : meth.sig.returnType = none) {pc : Nat} {Ls : Array Slot} (hd : decode c.code pc = .ok (.return_, 1))
    (hQ : QQ none T.heap locs) (hc : cells ≤ RC) (hs : slots ≤ RS) : own_Run p e below s QQ RC RS T (mkF m pc Ls []) := by
  obtain ⟨fs, hr, hrun, hended, hW, hsame⟩ := X.leave (v := none) (fun _ => rfl) hlk
  exact ⟨_, _, X.returnOut hx hret hd hr, hrun, hended, _, _, rfl, hQ, ⟨_, rfl⟩, hW, hsame.mono hc hs⟩
theorem own_retA (X : Stand p l e R s m args below meth c T locs cells slots) (hx : p.tables.exec = Jvm.exec) (hlk : meth.locks = false) {ty : FieldType} (hty : ty.isReference = true) (hret : meth.sig.returnType = some ty) {pc : Nat} {Ls : Array Slot} {a : Addr} {rest : List Value} (hd : decode c.code pc = .ok (.areturn, 1))
    (hQ : QQ (some (.ref a)) T.heap locs) (hc : cells ≤ RC) (hs : slots ≤ RS) : own_Run p e below s QQ RC RS T (mkF m pc Ls (.ref a :: rest)) := by
  obtain ⟨fs, hr, hrun, hended, hW, hsame⟩ := X.leave (v := some (.ref a)) (fun h => by rw [hret] at h; cases h) hlk
  refine ⟨_, _, ?_, hrun, hended, _, _, rfl, hQ, ⟨_, rfl⟩, hW, hsame.mono hc hs⟩
  have hm' : T.vm.method? m = some meth := X.method'
  show Steps p.tables e below (T.setTop { method := m, pc := pc, locals := Ls, stack := _ :: rest, locked := none }) _
  jvm_step X.here [X.here.top, hx, hd, hm', hret, hty, Value.isRef]
  first | (intro acts; rw [hr _ acts rfl rfl rfl]) | rw [hr _ _ rfl rfl rfl]
  exact Steps.refl _
end Own
def own_fl (x : Int32) : Int32 := if x = (2147483647 : Int32) then (0 : Int32) else (1 : Int32)
theorem d1_0 : decode prog_71_method_28_code 0 = .ok (.aload_n 0, 1) := by decide +kernel
theorem d1_1 : decode prog_71_method_28_code 1 = .ok (.arraylength, 1) := by decide +kernel
theorem d1_2 : decode prog_71_method_28_code 2 = .ok (.newarray .boolean, 2) := by decide +kernel
theorem d1_4 : decode prog_71_method_28_code 4 = .ok (.astore_n 1, 1) := by decide +kernel
theorem d1_5 : decode prog_71_method_28_code 5 = .ok (.iconst 0, 1) := by decide +kernel
theorem d1_6 : decode prog_71_method_28_code 6 = .ok (.istore_n 2, 1) := by decide +kernel
theorem d1_7 : decode prog_71_method_28_code 7 = .ok (.iload_n 2, 1) := by decide +kernel
theorem d1_8 : decode prog_71_method_28_code 8 = .ok (.aload_n 0, 1) := by decide +kernel
theorem d1_9 : decode prog_71_method_28_code 9 = .ok (.arraylength, 1) := by decide +kernel
theorem d1_10 : decode prog_71_method_28_code 10 = .ok (.if_icmp .ge 25, 3) := by decide +kernel
theorem d1_13 : decode prog_71_method_28_code 13 = .ok (.aload_n 1, 1) := by decide +kernel
theorem d1_14 : decode prog_71_method_28_code 14 = .ok (.iload_n 2, 1) := by decide +kernel
theorem d1_15 : decode prog_71_method_28_code 15 = .ok (.aload_n 0, 1) := by decide +kernel
theorem d1_16 : decode prog_71_method_28_code 16 = .ok (.iload_n 2, 1) := by decide +kernel
theorem d1_17 : decode prog_71_method_28_code 17 = .ok (.iaload, 1) := by decide +kernel
theorem d1_18 : decode prog_71_method_28_code 18 = .ok (.ldc 159, 2) := by decide +kernel
theorem d1_20 : decode prog_71_method_28_code 20 = .ok (.if_icmp .eq 7, 3) := by decide +kernel
theorem d1_23 : decode prog_71_method_28_code 23 = .ok (.iconst 1, 1) := by decide +kernel
theorem d1_24 : decode prog_71_method_28_code 24 = .ok (.goto 4, 3) := by decide +kernel
theorem d1_27 : decode prog_71_method_28_code 27 = .ok (.iconst 0, 1) := by decide +kernel
theorem d1_28 : decode prog_71_method_28_code 28 = .ok (.bastore, 1) := by decide +kernel
theorem d1_29 : decode prog_71_method_28_code 29 = .ok (.iinc 2 1, 3) := by decide +kernel
theorem d1_32 : decode prog_71_method_28_code 32 = .ok (.goto (-25), 3) := by decide +kernel
theorem d1_35 : decode prog_71_method_28_code 35 = .ok (.aload_n 1, 1) := by decide +kernel
theorem d1_36 : decode prog_71_method_28_code 36 = .ok (.areturn, 1) := by decide +kernel
theorem pn_1 : plainName "com/example/paths_to_documents/pathstodocuments/query/Evaluation" = true := by first | (simp [plainName, overriddenIn]; done) | decide +kernel
theorem ef_1 (m : MethodId) (x0 : Addr) : entryFrame m #[(.ref x0)] 3 = mkF m 0 #[.val (.ref x0), .unset, .unset] [] := by first | (simp [entryFrame, mkF, argsToLocals, Value.category]; done) | rfl
def Q1n0 (Z : State) (a : Addr) (ka : ClassId) (h0 : Heap) (n0 : Nat) (v : Option Value) (h : Heap) (L : List Loc) : Prop := ∃ (b : Addr) (k : ClassId), v = some (.ref b) ∧ Fr n0 L ∧ Keep h0 h [] ∧ h0.size ≤ b ∧ Arv Z h b k .boolean (0 : Int32) [] (.int (0 : Int32))
set_option maxRecDepth 65536 in
set_option maxHeartbeats 40000000 in
theorem rm1n0 (l : Launch) (Z : State) (a0 : Array Value) (hw : ∀ d ∈ tables_1, d.before a0 Z = true) (ws : List Jvm.Cond) (a : Addr) (ka : ClassId) (h0 : Heap) (n0 : Nat) (Z0 : n0 ≤ h0.size) (V_a : Arv Z h0 a ka .int (0 : Int32) [] (.int (0 : Int32))) :
    MetFree l (⟨"com/example/paths_to_documents/pathstodocuments/query/Evaluation", "found", "([I)[Z"⟩ : MethodName) (head1 (Jvm.Cond.code (⟨"com/example/paths_to_documents/pathstodocuments/query/Evaluation", "found", "([I)[Z"⟩ : MethodName) prog_71_method_28_code 3 (some (.array .boolean)) :: ws) ({ frames := 0, cells := 1, slots := 0, locals := 0 } : Room)) (fun aa U => aa = #[(.ref a)] ∧ Z.Warmed39 U.vm ∧ U.heap = h0) (fun _ _ _ _ _ => True) (fun _ U o U' => ∃ v L, o = .returned v ∧ Q1n0 Z a ka h0 n0 v U'.heap L ∧ FrameEnd U o U' L ({ frames := 0, cells := 1, slots := 0, locals := 0 } : Room).cells ({ frames := 0, cells := 1, slots := 0, locals := 0 } : Room).slots) := by
  refine MetFree.of_bodySF (plainFor_of_name pn_1) hisR ?_
  intro p e s m args below meth c s₁ Bd hml0 hP hK
  obtain ⟨rfl, hZ, hh⟩ := hP
  have hx := Bd.exec
  have hby := Bd.bytes
  have hml : c.maxLocals = 3 := hml0
  have hown : s.vm.findClass "com/example/paths_to_documents/pathstodocuments/query/Evaluation" = some m.cls := findClass_of_methodNamed Bd.named
  have hnm := (name_of_methodNamed Bd.named Bd.method).1
  have X0 : Stand p l e ({ frames := 0, cells := 1, slots := 0, locals := 0 } : Room) s m #[(.ref a)] below meth c s₁ [] 0 0 := Stand.of_body Bd
  have e0 : s₁.heap = h0 := by rw [← hh, Bd.state]; rfl
  have N0 := Fr.nil n0
  refine own_enter (QQ := Q1n0 Z a ka h0 n0) (ef_1 m a) ?_
  refine own_go (T' := s₁) (g' := (mkF m 1 #[.val (.ref a), .unset, .unset] [(.ref a)])) (fun t k => XS.aloadN X0.here hx rfl (hb hby d1_0) rfl rfl k) ?_
  obtain ⟨cl1, Ar1, q1, S1, P1, H1, G1⟩ := id V_a
  refine own_go (T' := s₁) (g' := (mkF m 2 #[.val (.ref a), .unset, .unset] [(.int (0 : Int32))])) (fun t k => X0.arraylength hx (by rw [e0]; exact Ar1.1) (State.isArrayOf_alike hZ.alike Ar1.2.1) (g := (mkF m 1 #[.val (.ref a), .unset, .unset] [(.ref a)])) rfl rfl (hb hby d1_1) t (by rw [len_of S1 P1]; exact k)) ?_
  obtain ⟨T2, h2, k2, X2, e2, E2, A2, st2⟩ := newP X0 hx hZ (hw _ (List.mem_of_getElem? (i := 6) rfl)) e0 (g := (mkF m 2 #[.val (.ref a), .unset, .unset] [(.int (0 : Int32))])) rfl (hb hby d1_2) rfl (by decide) (cap := 0) (by decide) (by decide) (by decide) (by decide)
  obtain ⟨b2, g2⟩ : ∃ z, z = h0.size := ⟨_, rfl⟩
  rw [← g2] at A2 st2
  have ne_a_b2 : a ≠ b2 := Nat.ne_of_lt (Nat.lt_of_lt_of_le V_a.lt (Nat.le_of_eq g2.symm))
  have ne_b2_a := Ne.symm ne_a_b2
  have gn_b2 : n0 ≤ b2 := Nat.le_trans Z0 (Nat.le_of_eq g2.symm)
  have sz_b2 : h0.size ≤ b2 := Nat.le_trans (Keep.refl h0 []).1 (Nat.le_of_eq g2.symm)
  have V_a := V_a.ext E2
  have Z3 : n0 ≤ h2.size := Nat.le_trans Z0 E2.1
  have K4 : Keep h0 h2 [] := (Keep.refl h0 []).ext E2
  have V_b2 : Arv Z h2 b2 k2 .boolean (0 : Int32) [] (.int (0 : Int32)) := (Arv.new A2 (by decide)).pad (pad_rep [] (.int (0 : Int32)) 0)
  refine own_go (T' := T2) (g' := (mkF m 4 #[.val (.ref a), .unset, .unset] [(.ref b2)])) (st2) ?_
  refine own_go (T' := T2) (g' := (mkF m 5 #[.val (.ref a), .val (.ref b2), .unset] [])) (fun t k => XS.astoreN X2.here hx rfl (hb hby d1_4) rfl rfl (l' := #[.val (.ref a), .val (.ref b2), .unset]) rfl k) ?_
  refine own_go (T' := T2) (g' := (mkF m 6 #[.val (.ref a), .val (.ref b2), .unset] [(.int (0 : Int32))])) (fun t k => XS.iconst X2.here hx rfl (hb hby d1_5) k) ?_
  refine own_go (T' := T2) (g' := (mkF m 7 #[.val (.ref a), .val (.ref b2), .val (.int (0 : Int32))] [])) (fun t k => XS.istoreN X2.here hx rfl (hb hby d1_6) rfl (l' := #[.val (.ref a), .val (.ref b2), .val (.int (0 : Int32))]) rfl k) ?_
  refine own_go (T' := T2) (g' := (mkF m 8 #[.val (.ref a), .val (.ref b2), .val (.int (0 : Int32))] [(.int (0 : Int32))])) (fun t k => XS.iloadN X2.here hx rfl (hb hby d1_7) rfl k) ?_
  refine own_go (T' := T2) (g' := (mkF m 9 #[.val (.ref a), .val (.ref b2), .val (.int (0 : Int32))] [(.ref a), (.int (0 : Int32))])) (fun t k => XS.aloadN X2.here hx rfl (hb hby d1_8) rfl rfl k) ?_
  obtain ⟨cl5, Ar5, q5, S5, P5, H5, G5⟩ := id V_a
  refine own_go (T' := T2) (g' := (mkF m 10 #[.val (.ref a), .val (.ref b2), .val (.int (0 : Int32))] [(.int (0 : Int32)), (.int (0 : Int32))])) (fun t k => X2.arraylength hx (by rw [e2]; exact Ar5.1) (State.isArrayOf_alike hZ.alike Ar5.2.1) (g := (mkF m 9 #[.val (.ref a), .val (.ref b2), .val (.int (0 : Int32))] [(.ref a), (.int (0 : Int32))])) rfl rfl (hb hby d1_9) t (by rw [len_of S5 P5]; exact k)) ?_
  refine own_go (T' := T2) (g' := (mkF m 35 #[.val (.ref a), .val (.ref b2), .val (.int (0 : Int32))] [])) (fun t k => XS.icmpYes X2.here hx rfl (pc0 := 10) (pc' := 35) rfl (hb hby d1_10) rfl (flt (by decide : ¬ (0 : Int32) < (0 : Int32))).2.1 (by decide) (by decide) k) ?_
  refine own_go (T' := T2) (g' := (mkF m 36 #[.val (.ref a), .val (.ref b2), .val (.int (0 : Int32))] [(.ref b2)])) (fun t k => XS.aloadN X2.here hx rfl (hb hby d1_35) rfl rfl k) ?_
  exact own_retA X2 hx Bd.notSynchronized (ty := (.array .boolean)) rfl Bd.returns (hb hby d1_36) ⟨b2, k2, rfl, N0, by rw [e2]; exact K4, sz_b2, by rw [e2]; exact V_b2⟩ (by decide) (by decide)
def Q1n3 (Z : State) (a : Addr) (ka : ClassId) (p1 : Int32) (p2 : Int32) (p3 : Int32) (h0 : Heap) (n0 : Nat) (v : Option Value) (h : Heap) (L : List Loc) : Prop := ∃ (b : Addr) (k : ClassId), v = some (.ref b) ∧ Fr n0 L ∧ Keep h0 h [] ∧ h0.size ≤ b ∧ Arv Z h b k .boolean (3 : Int32) [(.int (own_fl p1)), (.int (own_fl p2)), (.int (own_fl p3))] (.int (0 : Int32))
set_option maxRecDepth 65536 in
set_option maxHeartbeats 40000000 in
theorem rm1n3 (l : Launch) (Z : State) (a0 : Array Value) (hw : ∀ d ∈ tables_1, d.before a0 Z = true) (ws : List Jvm.Cond) (a : Addr) (ka : ClassId) (p1 : Int32) (p2 : Int32) (p3 : Int32) (h0 : Heap) (n0 : Nat) (Z0 : n0 ≤ h0.size) (V_a : Arv Z h0 a ka .int (3 : Int32) [(.int p1), (.int p2), (.int p3)] (.int (0 : Int32))) :
    MetFree l (⟨"com/example/paths_to_documents/pathstodocuments/query/Evaluation", "found", "([I)[Z"⟩ : MethodName) (head1 (Jvm.Cond.code (⟨"com/example/paths_to_documents/pathstodocuments/query/Evaluation", "found", "([I)[Z"⟩ : MethodName) prog_71_method_28_code 3 (some (.array .boolean)) :: ws) ({ frames := 0, cells := 1, slots := 3, locals := 0 } : Room)) (fun aa U => aa = #[(.ref a)] ∧ Z.Warmed39 U.vm ∧ U.heap = h0) (fun _ _ _ _ _ => True) (fun _ U o U' => ∃ v L, o = .returned v ∧ Q1n3 Z a ka p1 p2 p3 h0 n0 v U'.heap L ∧ FrameEnd U o U' L ({ frames := 0, cells := 1, slots := 3, locals := 0 } : Room).cells ({ frames := 0, cells := 1, slots := 3, locals := 0 } : Room).slots) := by
  refine MetFree.of_bodySF (plainFor_of_name pn_1) hisR ?_
  intro p e s m args below meth c s₁ Bd hml0 hP hK
  obtain ⟨rfl, hZ, hh⟩ := hP
  have hx := Bd.exec
  have hby := Bd.bytes
  have hml : c.maxLocals = 3 := hml0
  have hown : s.vm.findClass "com/example/paths_to_documents/pathstodocuments/query/Evaluation" = some m.cls := findClass_of_methodNamed Bd.named
  have hnm := (name_of_methodNamed Bd.named Bd.method).1
  have X0 : Stand p l e ({ frames := 0, cells := 1, slots := 3, locals := 0 } : Room) s m #[(.ref a)] below meth c s₁ [] 0 0 := Stand.of_body Bd
  have e0 : s₁.heap = h0 := by rw [← hh, Bd.state]; rfl
  have N0 := Fr.nil n0
  refine own_enter (QQ := Q1n3 Z a ka p1 p2 p3 h0 n0) (ef_1 m a) ?_
  refine own_go (T' := s₁) (g' := (mkF m 1 #[.val (.ref a), .unset, .unset] [(.ref a)])) (fun t k => XS.aloadN X0.here hx rfl (hb hby d1_0) rfl rfl k) ?_
  obtain ⟨cl6, Ar6, q6, S6, P6, H6, G6⟩ := id V_a
  refine own_go (T' := s₁) (g' := (mkF m 2 #[.val (.ref a), .unset, .unset] [(.int (3 : Int32))])) (fun t k => X0.arraylength hx (by rw [e0]; exact Ar6.1) (State.isArrayOf_alike hZ.alike Ar6.2.1) (g := (mkF m 1 #[.val (.ref a), .unset, .unset] [(.ref a)])) rfl rfl (hb hby d1_1) t (by rw [len_of S6 P6]; exact k)) ?_
  obtain ⟨T7, h7, k7, X7, e7, E7, A7, st7⟩ := newP X0 hx hZ (hw _ (List.mem_of_getElem? (i := 6) rfl)) e0 (g := (mkF m 2 #[.val (.ref a), .unset, .unset] [(.int (3 : Int32))])) rfl (hb hby d1_2) rfl (by decide) (cap := 3) (by decide) (by decide) (by decide) (by decide)
  obtain ⟨b7, g7⟩ : ∃ z, z = h0.size := ⟨_, rfl⟩
  rw [← g7] at A7 st7
  have ne_a_b7 : a ≠ b7 := Nat.ne_of_lt (Nat.lt_of_lt_of_le V_a.lt (Nat.le_of_eq g7.symm))
  have ne_b7_a := Ne.symm ne_a_b7
  have gn_b7 : n0 ≤ b7 := Nat.le_trans Z0 (Nat.le_of_eq g7.symm)
  have sz_b7 : h0.size ≤ b7 := Nat.le_trans (Keep.refl h0 []).1 (Nat.le_of_eq g7.symm)
  have V_a := V_a.ext E7
  have Z8 : n0 ≤ h7.size := Nat.le_trans Z0 E7.1
  have K9 : Keep h0 h7 [] := (Keep.refl h0 []).ext E7
  have V_b7 : Arv Z h7 b7 k7 .boolean (3 : Int32) [(.int (0 : Int32)), (.int (0 : Int32)), (.int (0 : Int32))] (.int (0 : Int32)) := (Arv.new A7 (by decide)).pad (pad_rep [] (.int (0 : Int32)) 3)
  refine own_go (T' := T7) (g' := (mkF m 4 #[.val (.ref a), .unset, .unset] [(.ref b7)])) (st7) ?_
  refine own_go (T' := T7) (g' := (mkF m 5 #[.val (.ref a), .val (.ref b7), .unset] [])) (fun t k => XS.astoreN X7.here hx rfl (hb hby d1_4) rfl rfl (l' := #[.val (.ref a), .val (.ref b7), .unset]) rfl k) ?_
  refine own_go (T' := T7) (g' := (mkF m 6 #[.val (.ref a), .val (.ref b7), .unset] [(.int (0 : Int32))])) (fun t k => XS.iconst X7.here hx rfl (hb hby d1_5) k) ?_
  refine own_go (T' := T7) (g' := (mkF m 7 #[.val (.ref a), .val (.ref b7), .val (.int (0 : Int32))] [])) (fun t k => XS.istoreN X7.here hx rfl (hb hby d1_6) rfl (l' := #[.val (.ref a), .val (.ref b7), .val (.int (0 : Int32))]) rfl k) ?_
  refine own_go (T' := T7) (g' := (mkF m 8 #[.val (.ref a), .val (.ref b7), .val (.int (0 : Int32))] [(.int (0 : Int32))])) (fun t k => XS.iloadN X7.here hx rfl (hb hby d1_7) rfl k) ?_
  refine own_go (T' := T7) (g' := (mkF m 9 #[.val (.ref a), .val (.ref b7), .val (.int (0 : Int32))] [(.ref a), (.int (0 : Int32))])) (fun t k => XS.aloadN X7.here hx rfl (hb hby d1_8) rfl rfl k) ?_
  obtain ⟨cl10, Ar10, q10, S10, P10, H10, G10⟩ := id V_a
  refine own_go (T' := T7) (g' := (mkF m 10 #[.val (.ref a), .val (.ref b7), .val (.int (0 : Int32))] [(.int (3 : Int32)), (.int (0 : Int32))])) (fun t k => X7.arraylength hx (by rw [e7]; exact Ar10.1) (State.isArrayOf_alike hZ.alike Ar10.2.1) (g := (mkF m 9 #[.val (.ref a), .val (.ref b7), .val (.int (0 : Int32))] [(.ref a), (.int (0 : Int32))])) rfl rfl (hb hby d1_9) t (by rw [len_of S10 P10]; exact k)) ?_
  refine own_go (T' := T7) (g' := (mkF m 13 #[.val (.ref a), .val (.ref b7), .val (.int (0 : Int32))] [])) (fun t k => XS.icmpNo X7.here hx rfl (hb hby d1_10) rfl (tlt (by decide : (0 : Int32) < (3 : Int32))).2.1 k) ?_
  refine own_go (T' := T7) (g' := (mkF m 14 #[.val (.ref a), .val (.ref b7), .val (.int (0 : Int32))] [(.ref b7)])) (fun t k => XS.aloadN X7.here hx rfl (hb hby d1_13) rfl rfl k) ?_
  refine own_go (T' := T7) (g' := (mkF m 15 #[.val (.ref a), .val (.ref b7), .val (.int (0 : Int32))] [(.int (0 : Int32)), (.ref b7)])) (fun t k => XS.iloadN X7.here hx rfl (hb hby d1_14) rfl k) ?_
  refine own_go (T' := T7) (g' := (mkF m 16 #[.val (.ref a), .val (.ref b7), .val (.int (0 : Int32))] [(.ref a), (.int (0 : Int32)), (.ref b7)])) (fun t k => XS.aloadN X7.here hx rfl (hb hby d1_15) rfl rfl k) ?_
  refine own_go (T' := T7) (g' := (mkF m 17 #[.val (.ref a), .val (.ref b7), .val (.int (0 : Int32))] [(.int (0 : Int32)), (.ref a), (.int (0 : Int32)), (.ref b7)])) (fun t k => XS.iloadN X7.here hx rfl (hb hby d1_16) rfl k) ?_
  obtain ⟨cl11, Ar11, q11, S11, P11, H11, G11⟩ := id V_a
  have hin11 : ¬ ((0 : Int32) < 0 ∨ cl11.slots.size ≤ ((0 : Int32)).toNatClampNeg) := inb_of S11 ⟨by decide, by decide⟩
  refine own_go (T' := T7) (g' := (mkF m 18 #[.val (.ref a), .val (.ref b7), .val (.int (0 : Int32))] [(.int p1), (.int (0 : Int32)), (.ref b7)])) (X7.iaload hx (j := (0 : Int32)) (v := (.int p1)) (by rw [e7]; exact Ar11.1) (State.isArrayOf_alike hZ.alike Ar11.2.1) Ar11.2.2 hin11 (H11.at hin11 rfl) (g := (mkF m 17 #[.val (.ref a), .val (.ref b7), .val (.int (0 : Int32))] [(.int (0 : Int32)), (.ref a), (.int (0 : Int32)), (.ref b7)])) rfl rfl (hb hby d1_17)) ?_
  refine own_go (T' := T7) (g' := (mkF m 20 #[.val (.ref a), .val (.ref b7), .val (.int (0 : Int32))] [(.int (2147483647 : Int32)), (.int p1), (.int (0 : Int32)), (.ref b7)])) (X7.ldcInt hx hown (mvT hZ (hw _ (List.mem_of_getElem? (i := 7) rfl))) (g := (mkF m 18 #[.val (.ref a), .val (.ref b7), .val (.int (0 : Int32))] [(.int p1), (.int (0 : Int32)), (.ref b7)])) rfl (hb hby d1_18)) ?_
  by_cases c20_1 : p1 = (2147483647 : Int32)
  · refine own_go (T' := T7) (g' := (mkF m 27 #[.val (.ref a), .val (.ref b7), .val (.int (0 : Int32))] [(.int (0 : Int32)), (.ref b7)])) (fun t k => XS.icmpYes X7.here hx rfl (pc0 := 20) (pc' := 27) rfl (hb hby d1_20) rfl (teq c20_1).1 (by decide) (by decide) k) ?_
    refine own_go (T' := T7) (g' := (mkF m 28 #[.val (.ref a), .val (.ref b7), .val (.int (0 : Int32))] [(.int (0 : Int32)), (.int (0 : Int32)), (.ref b7)])) (fun t k => XS.iconst X7.here hx rfl (hb hby d1_27) k) ?_
    obtain ⟨cl12, Ar12, q12, S12, P12, H12, G12⟩ := V_b7
    obtain ⟨T12, h12, X12, e12, W12, st12⟩ := stZ X7 hx hZ e7 Ar12 (j := (0 : Int32)) (inb_of S12 ⟨by decide, by decide⟩) (g := (mkF m 28 #[.val (.ref a), .val (.ref b7), .val (.int (0 : Int32))] [(.int (0 : Int32)), (.int (0 : Int32)), (.ref b7)])) rfl rfl (hb hby d1_28)
    have N12 := Fr.snoc X12 N0 gn_b7
    have V_a := V_a.other W12 ne_a_b7
    have Z13 : n0 ≤ h12.size := Nat.le_trans Z8 (Keep.of_wr W12).1
    have K14 : Keep h0 h12 [] := K9.wr W12 (Or.inr sz_b7)
    have V_b7 : Arv Z h12 b7 k7 .boolean (3 : Int32) [(.int (0 : Int32)), (.int (0 : Int32)), (.int (0 : Int32))] (.int (0 : Int32)) := Arv.set Ar12 q12 S12 P12 H12 G12 (fits_nar_bool _) W12 0 rfl (Nat.le_of_ble_eq_true rfl)
    refine own_go (T' := T12) (g' := (mkF m 29 #[.val (.ref a), .val (.ref b7), .val (.int (0 : Int32))] [])) (st12) ?_
    refine own_go (T' := T12) (g' := (mkF m 32 #[.val (.ref a), .val (.ref b7), .val (.int (1 : Int32))] [])) (fun t k => XS.iinc X12.here hx rfl (hb hby d1_29) rfl (l' := #[.val (.ref a), .val (.ref b7), .val (.int (1 : Int32))]) rfl k) ?_
    refine own_go (T' := T12) (g' := (mkF m 7 #[.val (.ref a), .val (.ref b7), .val (.int (1 : Int32))] [])) (fun t k => XS.goto X12.here hx rfl (pc0 := 32) (pc' := 7) rfl (hb hby d1_32) (by decide) (by decide) k) ?_
    refine own_go (T' := T12) (g' := (mkF m 8 #[.val (.ref a), .val (.ref b7), .val (.int (1 : Int32))] [(.int (1 : Int32))])) (fun t k => XS.iloadN X12.here hx rfl (hb hby d1_7) rfl k) ?_
    refine own_go (T' := T12) (g' := (mkF m 9 #[.val (.ref a), .val (.ref b7), .val (.int (1 : Int32))] [(.ref a), (.int (1 : Int32))])) (fun t k => XS.aloadN X12.here hx rfl (hb hby d1_8) rfl rfl k) ?_
    obtain ⟨cl15, Ar15, q15, S15, P15, H15, G15⟩ := id V_a
    refine own_go (T' := T12) (g' := (mkF m 10 #[.val (.ref a), .val (.ref b7), .val (.int (1 : Int32))] [(.int (3 : Int32)), (.int (1 : Int32))])) (fun t k => X12.arraylength hx (by rw [e12]; exact Ar15.1) (State.isArrayOf_alike hZ.alike Ar15.2.1) (g := (mkF m 9 #[.val (.ref a), .val (.ref b7), .val (.int (1 : Int32))] [(.ref a), (.int (1 : Int32))])) rfl rfl (hb hby d1_9) t (by rw [len_of S15 P15]; exact k)) ?_
    refine own_go (T' := T12) (g' := (mkF m 13 #[.val (.ref a), .val (.ref b7), .val (.int (1 : Int32))] [])) (fun t k => XS.icmpNo X12.here hx rfl (hb hby d1_10) rfl (tlt (by decide : (1 : Int32) < (3 : Int32))).2.1 k) ?_
    refine own_go (T' := T12) (g' := (mkF m 14 #[.val (.ref a), .val (.ref b7), .val (.int (1 : Int32))] [(.ref b7)])) (fun t k => XS.aloadN X12.here hx rfl (hb hby d1_13) rfl rfl k) ?_
    refine own_go (T' := T12) (g' := (mkF m 15 #[.val (.ref a), .val (.ref b7), .val (.int (1 : Int32))] [(.int (1 : Int32)), (.ref b7)])) (fun t k => XS.iloadN X12.here hx rfl (hb hby d1_14) rfl k) ?_
    refine own_go (T' := T12) (g' := (mkF m 16 #[.val (.ref a), .val (.ref b7), .val (.int (1 : Int32))] [(.ref a), (.int (1 : Int32)), (.ref b7)])) (fun t k => XS.aloadN X12.here hx rfl (hb hby d1_15) rfl rfl k) ?_
    refine own_go (T' := T12) (g' := (mkF m 17 #[.val (.ref a), .val (.ref b7), .val (.int (1 : Int32))] [(.int (1 : Int32)), (.ref a), (.int (1 : Int32)), (.ref b7)])) (fun t k => XS.iloadN X12.here hx rfl (hb hby d1_16) rfl k) ?_
    obtain ⟨cl16, Ar16, q16, S16, P16, H16, G16⟩ := id V_a
    have hin16 : ¬ ((1 : Int32) < 0 ∨ cl16.slots.size ≤ ((1 : Int32)).toNatClampNeg) := inb_of S16 ⟨by decide, by decide⟩
    refine own_go (T' := T12) (g' := (mkF m 18 #[.val (.ref a), .val (.ref b7), .val (.int (1 : Int32))] [(.int p2), (.int (1 : Int32)), (.ref b7)])) (X12.iaload hx (j := (1 : Int32)) (v := (.int p2)) (by rw [e12]; exact Ar16.1) (State.isArrayOf_alike hZ.alike Ar16.2.1) Ar16.2.2 hin16 (H16.at hin16 rfl) (g := (mkF m 17 #[.val (.ref a), .val (.ref b7), .val (.int (1 : Int32))] [(.int (1 : Int32)), (.ref a), (.int (1 : Int32)), (.ref b7)])) rfl rfl (hb hby d1_17)) ?_
    refine own_go (T' := T12) (g' := (mkF m 20 #[.val (.ref a), .val (.ref b7), .val (.int (1 : Int32))] [(.int (2147483647 : Int32)), (.int p2), (.int (1 : Int32)), (.ref b7)])) (X12.ldcInt hx hown (mvT hZ (hw _ (List.mem_of_getElem? (i := 7) rfl))) (g := (mkF m 18 #[.val (.ref a), .val (.ref b7), .val (.int (1 : Int32))] [(.int p2), (.int (1 : Int32)), (.ref b7)])) rfl (hb hby d1_18)) ?_
    by_cases c20_2 : p2 = (2147483647 : Int32)
    · refine own_go (T' := T12) (g' := (mkF m 27 #[.val (.ref a), .val (.ref b7), .val (.int (1 : Int32))] [(.int (1 : Int32)), (.ref b7)])) (fun t k => XS.icmpYes X12.here hx rfl (pc0 := 20) (pc' := 27) rfl (hb hby d1_20) rfl (teq c20_2).1 (by decide) (by decide) k) ?_
      refine own_go (T' := T12) (g' := (mkF m 28 #[.val (.ref a), .val (.ref b7), .val (.int (1 : Int32))] [(.int (0 : Int32)), (.int (1 : Int32)), (.ref b7)])) (fun t k => XS.iconst X12.here hx rfl (hb hby d1_27) k) ?_
      obtain ⟨cl17, Ar17, q17, S17, P17, H17, G17⟩ := V_b7
      obtain ⟨T17, h17, X17, e17, W17, st17⟩ := stZ X12 hx hZ e12 Ar17 (j := (1 : Int32)) (inb_of S17 ⟨by decide, by decide⟩) (g := (mkF m 28 #[.val (.ref a), .val (.ref b7), .val (.int (1 : Int32))] [(.int (0 : Int32)), (.int (1 : Int32)), (.ref b7)])) rfl rfl (hb hby d1_28)
      have N17 := Fr.snoc X17 N12 gn_b7
      have V_a := V_a.other W17 ne_a_b7
      have Z18 : n0 ≤ h17.size := Nat.le_trans Z13 (Keep.of_wr W17).1
      have K19 : Keep h0 h17 [] := K14.wr W17 (Or.inr sz_b7)
      have V_b7 : Arv Z h17 b7 k7 .boolean (3 : Int32) [(.int (0 : Int32)), (.int (0 : Int32)), (.int (0 : Int32))] (.int (0 : Int32)) := Arv.set Ar17 q17 S17 P17 H17 G17 (fits_nar_bool _) W17 1 rfl (Nat.le_of_ble_eq_true rfl)
      refine own_go (T' := T17) (g' := (mkF m 29 #[.val (.ref a), .val (.ref b7), .val (.int (1 : Int32))] [])) (st17) ?_
      refine own_go (T' := T17) (g' := (mkF m 32 #[.val (.ref a), .val (.ref b7), .val (.int (2 : Int32))] [])) (fun t k => XS.iinc X17.here hx rfl (hb hby d1_29) rfl (l' := #[.val (.ref a), .val (.ref b7), .val (.int (2 : Int32))]) rfl k) ?_
      refine own_go (T' := T17) (g' := (mkF m 7 #[.val (.ref a), .val (.ref b7), .val (.int (2 : Int32))] [])) (fun t k => XS.goto X17.here hx rfl (pc0 := 32) (pc' := 7) rfl (hb hby d1_32) (by decide) (by decide) k) ?_
      refine own_go (T' := T17) (g' := (mkF m 8 #[.val (.ref a), .val (.ref b7), .val (.int (2 : Int32))] [(.int (2 : Int32))])) (fun t k => XS.iloadN X17.here hx rfl (hb hby d1_7) rfl k) ?_
      refine own_go (T' := T17) (g' := (mkF m 9 #[.val (.ref a), .val (.ref b7), .val (.int (2 : Int32))] [(.ref a), (.int (2 : Int32))])) (fun t k => XS.aloadN X17.here hx rfl (hb hby d1_8) rfl rfl k) ?_
      obtain ⟨cl20, Ar20, q20, S20, P20, H20, G20⟩ := id V_a
      refine own_go (T' := T17) (g' := (mkF m 10 #[.val (.ref a), .val (.ref b7), .val (.int (2 : Int32))] [(.int (3 : Int32)), (.int (2 : Int32))])) (fun t k => X17.arraylength hx (by rw [e17]; exact Ar20.1) (State.isArrayOf_alike hZ.alike Ar20.2.1) (g := (mkF m 9 #[.val (.ref a), .val (.ref b7), .val (.int (2 : Int32))] [(.ref a), (.int (2 : Int32))])) rfl rfl (hb hby d1_9) t (by rw [len_of S20 P20]; exact k)) ?_
      refine own_go (T' := T17) (g' := (mkF m 13 #[.val (.ref a), .val (.ref b7), .val (.int (2 : Int32))] [])) (fun t k => XS.icmpNo X17.here hx rfl (hb hby d1_10) rfl (tlt (by decide : (2 : Int32) < (3 : Int32))).2.1 k) ?_
      refine own_go (T' := T17) (g' := (mkF m 14 #[.val (.ref a), .val (.ref b7), .val (.int (2 : Int32))] [(.ref b7)])) (fun t k => XS.aloadN X17.here hx rfl (hb hby d1_13) rfl rfl k) ?_
      refine own_go (T' := T17) (g' := (mkF m 15 #[.val (.ref a), .val (.ref b7), .val (.int (2 : Int32))] [(.int (2 : Int32)), (.ref b7)])) (fun t k => XS.iloadN X17.here hx rfl (hb hby d1_14) rfl k) ?_
      refine own_go (T' := T17) (g' := (mkF m 16 #[.val (.ref a), .val (.ref b7), .val (.int (2 : Int32))] [(.ref a), (.int (2 : Int32)), (.ref b7)])) (fun t k => XS.aloadN X17.here hx rfl (hb hby d1_15) rfl rfl k) ?_
      refine own_go (T' := T17) (g' := (mkF m 17 #[.val (.ref a), .val (.ref b7), .val (.int (2 : Int32))] [(.int (2 : Int32)), (.ref a), (.int (2 : Int32)), (.ref b7)])) (fun t k => XS.iloadN X17.here hx rfl (hb hby d1_16) rfl k) ?_
      obtain ⟨cl21, Ar21, q21, S21, P21, H21, G21⟩ := id V_a
      have hin21 : ¬ ((2 : Int32) < 0 ∨ cl21.slots.size ≤ ((2 : Int32)).toNatClampNeg) := inb_of S21 ⟨by decide, by decide⟩
      refine own_go (T' := T17) (g' := (mkF m 18 #[.val (.ref a), .val (.ref b7), .val (.int (2 : Int32))] [(.int p3), (.int (2 : Int32)), (.ref b7)])) (X17.iaload hx (j := (2 : Int32)) (v := (.int p3)) (by rw [e17]; exact Ar21.1) (State.isArrayOf_alike hZ.alike Ar21.2.1) Ar21.2.2 hin21 (H21.at hin21 rfl) (g := (mkF m 17 #[.val (.ref a), .val (.ref b7), .val (.int (2 : Int32))] [(.int (2 : Int32)), (.ref a), (.int (2 : Int32)), (.ref b7)])) rfl rfl (hb hby d1_17)) ?_
      refine own_go (T' := T17) (g' := (mkF m 20 #[.val (.ref a), .val (.ref b7), .val (.int (2 : Int32))] [(.int (2147483647 : Int32)), (.int p3), (.int (2 : Int32)), (.ref b7)])) (X17.ldcInt hx hown (mvT hZ (hw _ (List.mem_of_getElem? (i := 7) rfl))) (g := (mkF m 18 #[.val (.ref a), .val (.ref b7), .val (.int (2 : Int32))] [(.int p3), (.int (2 : Int32)), (.ref b7)])) rfl (hb hby d1_18)) ?_
      by_cases c20_3 : p3 = (2147483647 : Int32)
      · refine own_go (T' := T17) (g' := (mkF m 27 #[.val (.ref a), .val (.ref b7), .val (.int (2 : Int32))] [(.int (2 : Int32)), (.ref b7)])) (fun t k => XS.icmpYes X17.here hx rfl (pc0 := 20) (pc' := 27) rfl (hb hby d1_20) rfl (teq c20_3).1 (by decide) (by decide) k) ?_
        refine own_go (T' := T17) (g' := (mkF m 28 #[.val (.ref a), .val (.ref b7), .val (.int (2 : Int32))] [(.int (0 : Int32)), (.int (2 : Int32)), (.ref b7)])) (fun t k => XS.iconst X17.here hx rfl (hb hby d1_27) k) ?_
        obtain ⟨cl22, Ar22, q22, S22, P22, H22, G22⟩ := V_b7
        obtain ⟨T22, h22, X22, e22, W22, st22⟩ := stZ X17 hx hZ e17 Ar22 (j := (2 : Int32)) (inb_of S22 ⟨by decide, by decide⟩) (g := (mkF m 28 #[.val (.ref a), .val (.ref b7), .val (.int (2 : Int32))] [(.int (0 : Int32)), (.int (2 : Int32)), (.ref b7)])) rfl rfl (hb hby d1_28)
        have N22 := Fr.snoc X22 N17 gn_b7
        have V_a := V_a.other W22 ne_a_b7
        have Z23 : n0 ≤ h22.size := Nat.le_trans Z18 (Keep.of_wr W22).1
        have K24 : Keep h0 h22 [] := K19.wr W22 (Or.inr sz_b7)
        have V_b7 : Arv Z h22 b7 k7 .boolean (3 : Int32) [(.int (0 : Int32)), (.int (0 : Int32)), (.int (0 : Int32))] (.int (0 : Int32)) := Arv.set Ar22 q22 S22 P22 H22 G22 (fits_nar_bool _) W22 2 rfl (Nat.le_of_ble_eq_true rfl)
        refine own_go (T' := T22) (g' := (mkF m 29 #[.val (.ref a), .val (.ref b7), .val (.int (2 : Int32))] [])) (st22) ?_
        refine own_go (T' := T22) (g' := (mkF m 32 #[.val (.ref a), .val (.ref b7), .val (.int (3 : Int32))] [])) (fun t k => XS.iinc X22.here hx rfl (hb hby d1_29) rfl (l' := #[.val (.ref a), .val (.ref b7), .val (.int (3 : Int32))]) rfl k) ?_
        refine own_go (T' := T22) (g' := (mkF m 7 #[.val (.ref a), .val (.ref b7), .val (.int (3 : Int32))] [])) (fun t k => XS.goto X22.here hx rfl (pc0 := 32) (pc' := 7) rfl (hb hby d1_32) (by decide) (by decide) k) ?_
        refine own_go (T' := T22) (g' := (mkF m 8 #[.val (.ref a), .val (.ref b7), .val (.int (3 : Int32))] [(.int (3 : Int32))])) (fun t k => XS.iloadN X22.here hx rfl (hb hby d1_7) rfl k) ?_
        refine own_go (T' := T22) (g' := (mkF m 9 #[.val (.ref a), .val (.ref b7), .val (.int (3 : Int32))] [(.ref a), (.int (3 : Int32))])) (fun t k => XS.aloadN X22.here hx rfl (hb hby d1_8) rfl rfl k) ?_
        obtain ⟨cl25, Ar25, q25, S25, P25, H25, G25⟩ := id V_a
        refine own_go (T' := T22) (g' := (mkF m 10 #[.val (.ref a), .val (.ref b7), .val (.int (3 : Int32))] [(.int (3 : Int32)), (.int (3 : Int32))])) (fun t k => X22.arraylength hx (by rw [e22]; exact Ar25.1) (State.isArrayOf_alike hZ.alike Ar25.2.1) (g := (mkF m 9 #[.val (.ref a), .val (.ref b7), .val (.int (3 : Int32))] [(.ref a), (.int (3 : Int32))])) rfl rfl (hb hby d1_9) t (by rw [len_of S25 P25]; exact k)) ?_
        refine own_go (T' := T22) (g' := (mkF m 35 #[.val (.ref a), .val (.ref b7), .val (.int (3 : Int32))] [])) (fun t k => XS.icmpYes X22.here hx rfl (pc0 := 10) (pc' := 35) rfl (hb hby d1_10) rfl (flt (by decide : ¬ (3 : Int32) < (3 : Int32))).2.1 (by decide) (by decide) k) ?_
        refine own_go (T' := T22) (g' := (mkF m 36 #[.val (.ref a), .val (.ref b7), .val (.int (3 : Int32))] [(.ref b7)])) (fun t k => XS.aloadN X22.here hx rfl (hb hby d1_35) rfl rfl k) ?_
        exact own_retA X22 hx Bd.notSynchronized (ty := (.array .boolean)) rfl Bd.returns (hb hby d1_36) ⟨b7, k7, rfl, N22, by rw [e22]; exact K24, sz_b7, by rw [e22]; unfold own_fl; rw [if_pos c20_1, if_pos c20_2, if_pos c20_3]; exact V_b7⟩ (by decide) (by decide)
      · refine own_go (T' := T17) (g' := (mkF m 23 #[.val (.ref a), .val (.ref b7), .val (.int (2 : Int32))] [(.int (2 : Int32)), (.ref b7)])) (fun t k => XS.icmpNo X17.here hx rfl (hb hby d1_20) rfl (feq c20_3).1 k) ?_
        refine own_go (T' := T17) (g' := (mkF m 24 #[.val (.ref a), .val (.ref b7), .val (.int (2 : Int32))] [(.int (1 : Int32)), (.int (2 : Int32)), (.ref b7)])) (fun t k => XS.iconst X17.here hx rfl (hb hby d1_23) k) ?_
        refine own_go (T' := T17) (g' := (mkF m 28 #[.val (.ref a), .val (.ref b7), .val (.int (2 : Int32))] [(.int (1 : Int32)), (.int (2 : Int32)), (.ref b7)])) (fun t k => XS.goto X17.here hx rfl (pc0 := 24) (pc' := 28) rfl (hb hby d1_24) (by decide) (by decide) k) ?_
        obtain ⟨cl26, Ar26, q26, S26, P26, H26, G26⟩ := V_b7
        obtain ⟨T26, h26, X26, e26, W26, st26⟩ := stZ X17 hx hZ e17 Ar26 (j := (2 : Int32)) (inb_of S26 ⟨by decide, by decide⟩) (g := (mkF m 28 #[.val (.ref a), .val (.ref b7), .val (.int (2 : Int32))] [(.int (1 : Int32)), (.int (2 : Int32)), (.ref b7)])) rfl rfl (hb hby d1_28)
        have N26 := Fr.snoc X26 N17 gn_b7
        have V_a := V_a.other W26 ne_a_b7
        have Z27 : n0 ≤ h26.size := Nat.le_trans Z18 (Keep.of_wr W26).1
        have K28 : Keep h0 h26 [] := K19.wr W26 (Or.inr sz_b7)
        have V_b7 : Arv Z h26 b7 k7 .boolean (3 : Int32) [(.int (0 : Int32)), (.int (0 : Int32)), (.int (1 : Int32))] (.int (0 : Int32)) := Arv.set Ar26 q26 S26 P26 H26 G26 (fits_nar_bool _) W26 2 rfl (Nat.le_of_ble_eq_true rfl)
        refine own_go (T' := T26) (g' := (mkF m 29 #[.val (.ref a), .val (.ref b7), .val (.int (2 : Int32))] [])) (st26) ?_
        refine own_go (T' := T26) (g' := (mkF m 32 #[.val (.ref a), .val (.ref b7), .val (.int (3 : Int32))] [])) (fun t k => XS.iinc X26.here hx rfl (hb hby d1_29) rfl (l' := #[.val (.ref a), .val (.ref b7), .val (.int (3 : Int32))]) rfl k) ?_
        refine own_go (T' := T26) (g' := (mkF m 7 #[.val (.ref a), .val (.ref b7), .val (.int (3 : Int32))] [])) (fun t k => XS.goto X26.here hx rfl (pc0 := 32) (pc' := 7) rfl (hb hby d1_32) (by decide) (by decide) k) ?_
        refine own_go (T' := T26) (g' := (mkF m 8 #[.val (.ref a), .val (.ref b7), .val (.int (3 : Int32))] [(.int (3 : Int32))])) (fun t k => XS.iloadN X26.here hx rfl (hb hby d1_7) rfl k) ?_
        refine own_go (T' := T26) (g' := (mkF m 9 #[.val (.ref a), .val (.ref b7), .val (.int (3 : Int32))] [(.ref a), (.int (3 : Int32))])) (fun t k => XS.aloadN X26.here hx rfl (hb hby d1_8) rfl rfl k) ?_
        obtain ⟨cl29, Ar29, q29, S29, P29, H29, G29⟩ := id V_a
        refine own_go (T' := T26) (g' := (mkF m 10 #[.val (.ref a), .val (.ref b7), .val (.int (3 : Int32))] [(.int (3 : Int32)), (.int (3 : Int32))])) (fun t k => X26.arraylength hx (by rw [e26]; exact Ar29.1) (State.isArrayOf_alike hZ.alike Ar29.2.1) (g := (mkF m 9 #[.val (.ref a), .val (.ref b7), .val (.int (3 : Int32))] [(.ref a), (.int (3 : Int32))])) rfl rfl (hb hby d1_9) t (by rw [len_of S29 P29]; exact k)) ?_
        refine own_go (T' := T26) (g' := (mkF m 35 #[.val (.ref a), .val (.ref b7), .val (.int (3 : Int32))] [])) (fun t k => XS.icmpYes X26.here hx rfl (pc0 := 10) (pc' := 35) rfl (hb hby d1_10) rfl (flt (by decide : ¬ (3 : Int32) < (3 : Int32))).2.1 (by decide) (by decide) k) ?_
        refine own_go (T' := T26) (g' := (mkF m 36 #[.val (.ref a), .val (.ref b7), .val (.int (3 : Int32))] [(.ref b7)])) (fun t k => XS.aloadN X26.here hx rfl (hb hby d1_35) rfl rfl k) ?_
        exact own_retA X26 hx Bd.notSynchronized (ty := (.array .boolean)) rfl Bd.returns (hb hby d1_36) ⟨b7, k7, rfl, N26, by rw [e26]; exact K28, sz_b7, by rw [e26]; unfold own_fl; rw [if_pos c20_1, if_pos c20_2, if_neg c20_3]; exact V_b7⟩ (by decide) (by decide)
    · refine own_go (T' := T12) (g' := (mkF m 23 #[.val (.ref a), .val (.ref b7), .val (.int (1 : Int32))] [(.int (1 : Int32)), (.ref b7)])) (fun t k => XS.icmpNo X12.here hx rfl (hb hby d1_20) rfl (feq c20_2).1 k) ?_
      refine own_go (T' := T12) (g' := (mkF m 24 #[.val (.ref a), .val (.ref b7), .val (.int (1 : Int32))] [(.int (1 : Int32)), (.int (1 : Int32)), (.ref b7)])) (fun t k => XS.iconst X12.here hx rfl (hb hby d1_23) k) ?_
      refine own_go (T' := T12) (g' := (mkF m 28 #[.val (.ref a), .val (.ref b7), .val (.int (1 : Int32))] [(.int (1 : Int32)), (.int (1 : Int32)), (.ref b7)])) (fun t k => XS.goto X12.here hx rfl (pc0 := 24) (pc' := 28) rfl (hb hby d1_24) (by decide) (by decide) k) ?_
      obtain ⟨cl30, Ar30, q30, S30, P30, H30, G30⟩ := V_b7
      obtain ⟨T30, h30, X30, e30, W30, st30⟩ := stZ X12 hx hZ e12 Ar30 (j := (1 : Int32)) (inb_of S30 ⟨by decide, by decide⟩) (g := (mkF m 28 #[.val (.ref a), .val (.ref b7), .val (.int (1 : Int32))] [(.int (1 : Int32)), (.int (1 : Int32)), (.ref b7)])) rfl rfl (hb hby d1_28)
      have N30 := Fr.snoc X30 N12 gn_b7
      have V_a := V_a.other W30 ne_a_b7
      have Z31 : n0 ≤ h30.size := Nat.le_trans Z13 (Keep.of_wr W30).1
      have K32 : Keep h0 h30 [] := K14.wr W30 (Or.inr sz_b7)
      have V_b7 : Arv Z h30 b7 k7 .boolean (3 : Int32) [(.int (0 : Int32)), (.int (1 : Int32)), (.int (0 : Int32))] (.int (0 : Int32)) := Arv.set Ar30 q30 S30 P30 H30 G30 (fits_nar_bool _) W30 1 rfl (Nat.le_of_ble_eq_true rfl)
      refine own_go (T' := T30) (g' := (mkF m 29 #[.val (.ref a), .val (.ref b7), .val (.int (1 : Int32))] [])) (st30) ?_
      refine own_go (T' := T30) (g' := (mkF m 32 #[.val (.ref a), .val (.ref b7), .val (.int (2 : Int32))] [])) (fun t k => XS.iinc X30.here hx rfl (hb hby d1_29) rfl (l' := #[.val (.ref a), .val (.ref b7), .val (.int (2 : Int32))]) rfl k) ?_
      refine own_go (T' := T30) (g' := (mkF m 7 #[.val (.ref a), .val (.ref b7), .val (.int (2 : Int32))] [])) (fun t k => XS.goto X30.here hx rfl (pc0 := 32) (pc' := 7) rfl (hb hby d1_32) (by decide) (by decide) k) ?_
      refine own_go (T' := T30) (g' := (mkF m 8 #[.val (.ref a), .val (.ref b7), .val (.int (2 : Int32))] [(.int (2 : Int32))])) (fun t k => XS.iloadN X30.here hx rfl (hb hby d1_7) rfl k) ?_
      refine own_go (T' := T30) (g' := (mkF m 9 #[.val (.ref a), .val (.ref b7), .val (.int (2 : Int32))] [(.ref a), (.int (2 : Int32))])) (fun t k => XS.aloadN X30.here hx rfl (hb hby d1_8) rfl rfl k) ?_
      obtain ⟨cl33, Ar33, q33, S33, P33, H33, G33⟩ := id V_a
      refine own_go (T' := T30) (g' := (mkF m 10 #[.val (.ref a), .val (.ref b7), .val (.int (2 : Int32))] [(.int (3 : Int32)), (.int (2 : Int32))])) (fun t k => X30.arraylength hx (by rw [e30]; exact Ar33.1) (State.isArrayOf_alike hZ.alike Ar33.2.1) (g := (mkF m 9 #[.val (.ref a), .val (.ref b7), .val (.int (2 : Int32))] [(.ref a), (.int (2 : Int32))])) rfl rfl (hb hby d1_9) t (by rw [len_of S33 P33]; exact k)) ?_
      refine own_go (T' := T30) (g' := (mkF m 13 #[.val (.ref a), .val (.ref b7), .val (.int (2 : Int32))] [])) (fun t k => XS.icmpNo X30.here hx rfl (hb hby d1_10) rfl (tlt (by decide : (2 : Int32) < (3 : Int32))).2.1 k) ?_
      refine own_go (T' := T30) (g' := (mkF m 14 #[.val (.ref a), .val (.ref b7), .val (.int (2 : Int32))] [(.ref b7)])) (fun t k => XS.aloadN X30.here hx rfl (hb hby d1_13) rfl rfl k) ?_
      refine own_go (T' := T30) (g' := (mkF m 15 #[.val (.ref a), .val (.ref b7), .val (.int (2 : Int32))] [(.int (2 : Int32)), (.ref b7)])) (fun t k => XS.iloadN X30.here hx rfl (hb hby d1_14) rfl k) ?_
      refine own_go (T' := T30) (g' := (mkF m 16 #[.val (.ref a), .val (.ref b7), .val (.int (2 : Int32))] [(.ref a), (.int (2 : Int32)), (.ref b7)])) (fun t k => XS.aloadN X30.here hx rfl (hb hby d1_15) rfl rfl k) ?_
      refine own_go (T' := T30) (g' := (mkF m 17 #[.val (.ref a), .val (.ref b7), .val (.int (2 : Int32))] [(.int (2 : Int32)), (.ref a), (.int (2 : Int32)), (.ref b7)])) (fun t k => XS.iloadN X30.here hx rfl (hb hby d1_16) rfl k) ?_
      obtain ⟨cl34, Ar34, q34, S34, P34, H34, G34⟩ := id V_a
      have hin34 : ¬ ((2 : Int32) < 0 ∨ cl34.slots.size ≤ ((2 : Int32)).toNatClampNeg) := inb_of S34 ⟨by decide, by decide⟩
      refine own_go (T' := T30) (g' := (mkF m 18 #[.val (.ref a), .val (.ref b7), .val (.int (2 : Int32))] [(.int p3), (.int (2 : Int32)), (.ref b7)])) (X30.iaload hx (j := (2 : Int32)) (v := (.int p3)) (by rw [e30]; exact Ar34.1) (State.isArrayOf_alike hZ.alike Ar34.2.1) Ar34.2.2 hin34 (H34.at hin34 rfl) (g := (mkF m 17 #[.val (.ref a), .val (.ref b7), .val (.int (2 : Int32))] [(.int (2 : Int32)), (.ref a), (.int (2 : Int32)), (.ref b7)])) rfl rfl (hb hby d1_17)) ?_
      refine own_go (T' := T30) (g' := (mkF m 20 #[.val (.ref a), .val (.ref b7), .val (.int (2 : Int32))] [(.int (2147483647 : Int32)), (.int p3), (.int (2 : Int32)), (.ref b7)])) (X30.ldcInt hx hown (mvT hZ (hw _ (List.mem_of_getElem? (i := 7) rfl))) (g := (mkF m 18 #[.val (.ref a), .val (.ref b7), .val (.int (2 : Int32))] [(.int p3), (.int (2 : Int32)), (.ref b7)])) rfl (hb hby d1_18)) ?_
      by_cases c20_4 : p3 = (2147483647 : Int32)
      · refine own_go (T' := T30) (g' := (mkF m 27 #[.val (.ref a), .val (.ref b7), .val (.int (2 : Int32))] [(.int (2 : Int32)), (.ref b7)])) (fun t k => XS.icmpYes X30.here hx rfl (pc0 := 20) (pc' := 27) rfl (hb hby d1_20) rfl (teq c20_4).1 (by decide) (by decide) k) ?_
        refine own_go (T' := T30) (g' := (mkF m 28 #[.val (.ref a), .val (.ref b7), .val (.int (2 : Int32))] [(.int (0 : Int32)), (.int (2 : Int32)), (.ref b7)])) (fun t k => XS.iconst X30.here hx rfl (hb hby d1_27) k) ?_
        obtain ⟨cl35, Ar35, q35, S35, P35, H35, G35⟩ := V_b7
        obtain ⟨T35, h35, X35, e35, W35, st35⟩ := stZ X30 hx hZ e30 Ar35 (j := (2 : Int32)) (inb_of S35 ⟨by decide, by decide⟩) (g := (mkF m 28 #[.val (.ref a), .val (.ref b7), .val (.int (2 : Int32))] [(.int (0 : Int32)), (.int (2 : Int32)), (.ref b7)])) rfl rfl (hb hby d1_28)
        have N35 := Fr.snoc X35 N30 gn_b7
        have V_a := V_a.other W35 ne_a_b7
        have Z36 : n0 ≤ h35.size := Nat.le_trans Z31 (Keep.of_wr W35).1
        have K37 : Keep h0 h35 [] := K32.wr W35 (Or.inr sz_b7)
        have V_b7 : Arv Z h35 b7 k7 .boolean (3 : Int32) [(.int (0 : Int32)), (.int (1 : Int32)), (.int (0 : Int32))] (.int (0 : Int32)) := Arv.set Ar35 q35 S35 P35 H35 G35 (fits_nar_bool _) W35 2 rfl (Nat.le_of_ble_eq_true rfl)
        refine own_go (T' := T35) (g' := (mkF m 29 #[.val (.ref a), .val (.ref b7), .val (.int (2 : Int32))] [])) (st35) ?_
        refine own_go (T' := T35) (g' := (mkF m 32 #[.val (.ref a), .val (.ref b7), .val (.int (3 : Int32))] [])) (fun t k => XS.iinc X35.here hx rfl (hb hby d1_29) rfl (l' := #[.val (.ref a), .val (.ref b7), .val (.int (3 : Int32))]) rfl k) ?_
        refine own_go (T' := T35) (g' := (mkF m 7 #[.val (.ref a), .val (.ref b7), .val (.int (3 : Int32))] [])) (fun t k => XS.goto X35.here hx rfl (pc0 := 32) (pc' := 7) rfl (hb hby d1_32) (by decide) (by decide) k) ?_
        refine own_go (T' := T35) (g' := (mkF m 8 #[.val (.ref a), .val (.ref b7), .val (.int (3 : Int32))] [(.int (3 : Int32))])) (fun t k => XS.iloadN X35.here hx rfl (hb hby d1_7) rfl k) ?_
        refine own_go (T' := T35) (g' := (mkF m 9 #[.val (.ref a), .val (.ref b7), .val (.int (3 : Int32))] [(.ref a), (.int (3 : Int32))])) (fun t k => XS.aloadN X35.here hx rfl (hb hby d1_8) rfl rfl k) ?_
        obtain ⟨cl38, Ar38, q38, S38, P38, H38, G38⟩ := id V_a
        refine own_go (T' := T35) (g' := (mkF m 10 #[.val (.ref a), .val (.ref b7), .val (.int (3 : Int32))] [(.int (3 : Int32)), (.int (3 : Int32))])) (fun t k => X35.arraylength hx (by rw [e35]; exact Ar38.1) (State.isArrayOf_alike hZ.alike Ar38.2.1) (g := (mkF m 9 #[.val (.ref a), .val (.ref b7), .val (.int (3 : Int32))] [(.ref a), (.int (3 : Int32))])) rfl rfl (hb hby d1_9) t (by rw [len_of S38 P38]; exact k)) ?_
        refine own_go (T' := T35) (g' := (mkF m 35 #[.val (.ref a), .val (.ref b7), .val (.int (3 : Int32))] [])) (fun t k => XS.icmpYes X35.here hx rfl (pc0 := 10) (pc' := 35) rfl (hb hby d1_10) rfl (flt (by decide : ¬ (3 : Int32) < (3 : Int32))).2.1 (by decide) (by decide) k) ?_
        refine own_go (T' := T35) (g' := (mkF m 36 #[.val (.ref a), .val (.ref b7), .val (.int (3 : Int32))] [(.ref b7)])) (fun t k => XS.aloadN X35.here hx rfl (hb hby d1_35) rfl rfl k) ?_
        exact own_retA X35 hx Bd.notSynchronized (ty := (.array .boolean)) rfl Bd.returns (hb hby d1_36) ⟨b7, k7, rfl, N35, by rw [e35]; exact K37, sz_b7, by rw [e35]; unfold own_fl; rw [if_pos c20_1, if_neg c20_2, if_pos c20_4]; exact V_b7⟩ (by decide) (by decide)
      · refine own_go (T' := T30) (g' := (mkF m 23 #[.val (.ref a), .val (.ref b7), .val (.int (2 : Int32))] [(.int (2 : Int32)), (.ref b7)])) (fun t k => XS.icmpNo X30.here hx rfl (hb hby d1_20) rfl (feq c20_4).1 k) ?_
        refine own_go (T' := T30) (g' := (mkF m 24 #[.val (.ref a), .val (.ref b7), .val (.int (2 : Int32))] [(.int (1 : Int32)), (.int (2 : Int32)), (.ref b7)])) (fun t k => XS.iconst X30.here hx rfl (hb hby d1_23) k) ?_
        refine own_go (T' := T30) (g' := (mkF m 28 #[.val (.ref a), .val (.ref b7), .val (.int (2 : Int32))] [(.int (1 : Int32)), (.int (2 : Int32)), (.ref b7)])) (fun t k => XS.goto X30.here hx rfl (pc0 := 24) (pc' := 28) rfl (hb hby d1_24) (by decide) (by decide) k) ?_
        obtain ⟨cl39, Ar39, q39, S39, P39, H39, G39⟩ := V_b7
        obtain ⟨T39, h39, X39, e39, W39, st39⟩ := stZ X30 hx hZ e30 Ar39 (j := (2 : Int32)) (inb_of S39 ⟨by decide, by decide⟩) (g := (mkF m 28 #[.val (.ref a), .val (.ref b7), .val (.int (2 : Int32))] [(.int (1 : Int32)), (.int (2 : Int32)), (.ref b7)])) rfl rfl (hb hby d1_28)
        have N39 := Fr.snoc X39 N30 gn_b7
        have V_a := V_a.other W39 ne_a_b7
        have Z40 : n0 ≤ h39.size := Nat.le_trans Z31 (Keep.of_wr W39).1
        have K41 : Keep h0 h39 [] := K32.wr W39 (Or.inr sz_b7)
        have V_b7 : Arv Z h39 b7 k7 .boolean (3 : Int32) [(.int (0 : Int32)), (.int (1 : Int32)), (.int (1 : Int32))] (.int (0 : Int32)) := Arv.set Ar39 q39 S39 P39 H39 G39 (fits_nar_bool _) W39 2 rfl (Nat.le_of_ble_eq_true rfl)
        refine own_go (T' := T39) (g' := (mkF m 29 #[.val (.ref a), .val (.ref b7), .val (.int (2 : Int32))] [])) (st39) ?_
        refine own_go (T' := T39) (g' := (mkF m 32 #[.val (.ref a), .val (.ref b7), .val (.int (3 : Int32))] [])) (fun t k => XS.iinc X39.here hx rfl (hb hby d1_29) rfl (l' := #[.val (.ref a), .val (.ref b7), .val (.int (3 : Int32))]) rfl k) ?_
        refine own_go (T' := T39) (g' := (mkF m 7 #[.val (.ref a), .val (.ref b7), .val (.int (3 : Int32))] [])) (fun t k => XS.goto X39.here hx rfl (pc0 := 32) (pc' := 7) rfl (hb hby d1_32) (by decide) (by decide) k) ?_
        refine own_go (T' := T39) (g' := (mkF m 8 #[.val (.ref a), .val (.ref b7), .val (.int (3 : Int32))] [(.int (3 : Int32))])) (fun t k => XS.iloadN X39.here hx rfl (hb hby d1_7) rfl k) ?_
        refine own_go (T' := T39) (g' := (mkF m 9 #[.val (.ref a), .val (.ref b7), .val (.int (3 : Int32))] [(.ref a), (.int (3 : Int32))])) (fun t k => XS.aloadN X39.here hx rfl (hb hby d1_8) rfl rfl k) ?_
        obtain ⟨cl42, Ar42, q42, S42, P42, H42, G42⟩ := id V_a
        refine own_go (T' := T39) (g' := (mkF m 10 #[.val (.ref a), .val (.ref b7), .val (.int (3 : Int32))] [(.int (3 : Int32)), (.int (3 : Int32))])) (fun t k => X39.arraylength hx (by rw [e39]; exact Ar42.1) (State.isArrayOf_alike hZ.alike Ar42.2.1) (g := (mkF m 9 #[.val (.ref a), .val (.ref b7), .val (.int (3 : Int32))] [(.ref a), (.int (3 : Int32))])) rfl rfl (hb hby d1_9) t (by rw [len_of S42 P42]; exact k)) ?_
        refine own_go (T' := T39) (g' := (mkF m 35 #[.val (.ref a), .val (.ref b7), .val (.int (3 : Int32))] [])) (fun t k => XS.icmpYes X39.here hx rfl (pc0 := 10) (pc' := 35) rfl (hb hby d1_10) rfl (flt (by decide : ¬ (3 : Int32) < (3 : Int32))).2.1 (by decide) (by decide) k) ?_
        refine own_go (T' := T39) (g' := (mkF m 36 #[.val (.ref a), .val (.ref b7), .val (.int (3 : Int32))] [(.ref b7)])) (fun t k => XS.aloadN X39.here hx rfl (hb hby d1_35) rfl rfl k) ?_
        exact own_retA X39 hx Bd.notSynchronized (ty := (.array .boolean)) rfl Bd.returns (hb hby d1_36) ⟨b7, k7, rfl, N39, by rw [e39]; exact K41, sz_b7, by rw [e39]; unfold own_fl; rw [if_pos c20_1, if_neg c20_2, if_neg c20_4]; exact V_b7⟩ (by decide) (by decide)
  · refine own_go (T' := T7) (g' := (mkF m 23 #[.val (.ref a), .val (.ref b7), .val (.int (0 : Int32))] [(.int (0 : Int32)), (.ref b7)])) (fun t k => XS.icmpNo X7.here hx rfl (hb hby d1_20) rfl (feq c20_1).1 k) ?_
    refine own_go (T' := T7) (g' := (mkF m 24 #[.val (.ref a), .val (.ref b7), .val (.int (0 : Int32))] [(.int (1 : Int32)), (.int (0 : Int32)), (.ref b7)])) (fun t k => XS.iconst X7.here hx rfl (hb hby d1_23) k) ?_
    refine own_go (T' := T7) (g' := (mkF m 28 #[.val (.ref a), .val (.ref b7), .val (.int (0 : Int32))] [(.int (1 : Int32)), (.int (0 : Int32)), (.ref b7)])) (fun t k => XS.goto X7.here hx rfl (pc0 := 24) (pc' := 28) rfl (hb hby d1_24) (by decide) (by decide) k) ?_
    obtain ⟨cl43, Ar43, q43, S43, P43, H43, G43⟩ := V_b7
    obtain ⟨T43, h43, X43, e43, W43, st43⟩ := stZ X7 hx hZ e7 Ar43 (j := (0 : Int32)) (inb_of S43 ⟨by decide, by decide⟩) (g := (mkF m 28 #[.val (.ref a), .val (.ref b7), .val (.int (0 : Int32))] [(.int (1 : Int32)), (.int (0 : Int32)), (.ref b7)])) rfl rfl (hb hby d1_28)
    have N43 := Fr.snoc X43 N0 gn_b7
    have V_a := V_a.other W43 ne_a_b7
    have Z44 : n0 ≤ h43.size := Nat.le_trans Z8 (Keep.of_wr W43).1
    have K45 : Keep h0 h43 [] := K9.wr W43 (Or.inr sz_b7)
    have V_b7 : Arv Z h43 b7 k7 .boolean (3 : Int32) [(.int (1 : Int32)), (.int (0 : Int32)), (.int (0 : Int32))] (.int (0 : Int32)) := Arv.set Ar43 q43 S43 P43 H43 G43 (fits_nar_bool _) W43 0 rfl (Nat.le_of_ble_eq_true rfl)
    refine own_go (T' := T43) (g' := (mkF m 29 #[.val (.ref a), .val (.ref b7), .val (.int (0 : Int32))] [])) (st43) ?_
    refine own_go (T' := T43) (g' := (mkF m 32 #[.val (.ref a), .val (.ref b7), .val (.int (1 : Int32))] [])) (fun t k => XS.iinc X43.here hx rfl (hb hby d1_29) rfl (l' := #[.val (.ref a), .val (.ref b7), .val (.int (1 : Int32))]) rfl k) ?_
    refine own_go (T' := T43) (g' := (mkF m 7 #[.val (.ref a), .val (.ref b7), .val (.int (1 : Int32))] [])) (fun t k => XS.goto X43.here hx rfl (pc0 := 32) (pc' := 7) rfl (hb hby d1_32) (by decide) (by decide) k) ?_
    refine own_go (T' := T43) (g' := (mkF m 8 #[.val (.ref a), .val (.ref b7), .val (.int (1 : Int32))] [(.int (1 : Int32))])) (fun t k => XS.iloadN X43.here hx rfl (hb hby d1_7) rfl k) ?_
    refine own_go (T' := T43) (g' := (mkF m 9 #[.val (.ref a), .val (.ref b7), .val (.int (1 : Int32))] [(.ref a), (.int (1 : Int32))])) (fun t k => XS.aloadN X43.here hx rfl (hb hby d1_8) rfl rfl k) ?_
    obtain ⟨cl46, Ar46, q46, S46, P46, H46, G46⟩ := id V_a
    refine own_go (T' := T43) (g' := (mkF m 10 #[.val (.ref a), .val (.ref b7), .val (.int (1 : Int32))] [(.int (3 : Int32)), (.int (1 : Int32))])) (fun t k => X43.arraylength hx (by rw [e43]; exact Ar46.1) (State.isArrayOf_alike hZ.alike Ar46.2.1) (g := (mkF m 9 #[.val (.ref a), .val (.ref b7), .val (.int (1 : Int32))] [(.ref a), (.int (1 : Int32))])) rfl rfl (hb hby d1_9) t (by rw [len_of S46 P46]; exact k)) ?_
    refine own_go (T' := T43) (g' := (mkF m 13 #[.val (.ref a), .val (.ref b7), .val (.int (1 : Int32))] [])) (fun t k => XS.icmpNo X43.here hx rfl (hb hby d1_10) rfl (tlt (by decide : (1 : Int32) < (3 : Int32))).2.1 k) ?_
    refine own_go (T' := T43) (g' := (mkF m 14 #[.val (.ref a), .val (.ref b7), .val (.int (1 : Int32))] [(.ref b7)])) (fun t k => XS.aloadN X43.here hx rfl (hb hby d1_13) rfl rfl k) ?_
    refine own_go (T' := T43) (g' := (mkF m 15 #[.val (.ref a), .val (.ref b7), .val (.int (1 : Int32))] [(.int (1 : Int32)), (.ref b7)])) (fun t k => XS.iloadN X43.here hx rfl (hb hby d1_14) rfl k) ?_
    refine own_go (T' := T43) (g' := (mkF m 16 #[.val (.ref a), .val (.ref b7), .val (.int (1 : Int32))] [(.ref a), (.int (1 : Int32)), (.ref b7)])) (fun t k => XS.aloadN X43.here hx rfl (hb hby d1_15) rfl rfl k) ?_
    refine own_go (T' := T43) (g' := (mkF m 17 #[.val (.ref a), .val (.ref b7), .val (.int (1 : Int32))] [(.int (1 : Int32)), (.ref a), (.int (1 : Int32)), (.ref b7)])) (fun t k => XS.iloadN X43.here hx rfl (hb hby d1_16) rfl k) ?_
    obtain ⟨cl47, Ar47, q47, S47, P47, H47, G47⟩ := id V_a
    have hin47 : ¬ ((1 : Int32) < 0 ∨ cl47.slots.size ≤ ((1 : Int32)).toNatClampNeg) := inb_of S47 ⟨by decide, by decide⟩
    refine own_go (T' := T43) (g' := (mkF m 18 #[.val (.ref a), .val (.ref b7), .val (.int (1 : Int32))] [(.int p2), (.int (1 : Int32)), (.ref b7)])) (X43.iaload hx (j := (1 : Int32)) (v := (.int p2)) (by rw [e43]; exact Ar47.1) (State.isArrayOf_alike hZ.alike Ar47.2.1) Ar47.2.2 hin47 (H47.at hin47 rfl) (g := (mkF m 17 #[.val (.ref a), .val (.ref b7), .val (.int (1 : Int32))] [(.int (1 : Int32)), (.ref a), (.int (1 : Int32)), (.ref b7)])) rfl rfl (hb hby d1_17)) ?_
    refine own_go (T' := T43) (g' := (mkF m 20 #[.val (.ref a), .val (.ref b7), .val (.int (1 : Int32))] [(.int (2147483647 : Int32)), (.int p2), (.int (1 : Int32)), (.ref b7)])) (X43.ldcInt hx hown (mvT hZ (hw _ (List.mem_of_getElem? (i := 7) rfl))) (g := (mkF m 18 #[.val (.ref a), .val (.ref b7), .val (.int (1 : Int32))] [(.int p2), (.int (1 : Int32)), (.ref b7)])) rfl (hb hby d1_18)) ?_
    by_cases c20_5 : p2 = (2147483647 : Int32)
    · refine own_go (T' := T43) (g' := (mkF m 27 #[.val (.ref a), .val (.ref b7), .val (.int (1 : Int32))] [(.int (1 : Int32)), (.ref b7)])) (fun t k => XS.icmpYes X43.here hx rfl (pc0 := 20) (pc' := 27) rfl (hb hby d1_20) rfl (teq c20_5).1 (by decide) (by decide) k) ?_
      refine own_go (T' := T43) (g' := (mkF m 28 #[.val (.ref a), .val (.ref b7), .val (.int (1 : Int32))] [(.int (0 : Int32)), (.int (1 : Int32)), (.ref b7)])) (fun t k => XS.iconst X43.here hx rfl (hb hby d1_27) k) ?_
      obtain ⟨cl48, Ar48, q48, S48, P48, H48, G48⟩ := V_b7
      obtain ⟨T48, h48, X48, e48, W48, st48⟩ := stZ X43 hx hZ e43 Ar48 (j := (1 : Int32)) (inb_of S48 ⟨by decide, by decide⟩) (g := (mkF m 28 #[.val (.ref a), .val (.ref b7), .val (.int (1 : Int32))] [(.int (0 : Int32)), (.int (1 : Int32)), (.ref b7)])) rfl rfl (hb hby d1_28)
      have N48 := Fr.snoc X48 N43 gn_b7
      have V_a := V_a.other W48 ne_a_b7
      have Z49 : n0 ≤ h48.size := Nat.le_trans Z44 (Keep.of_wr W48).1
      have K50 : Keep h0 h48 [] := K45.wr W48 (Or.inr sz_b7)
      have V_b7 : Arv Z h48 b7 k7 .boolean (3 : Int32) [(.int (1 : Int32)), (.int (0 : Int32)), (.int (0 : Int32))] (.int (0 : Int32)) := Arv.set Ar48 q48 S48 P48 H48 G48 (fits_nar_bool _) W48 1 rfl (Nat.le_of_ble_eq_true rfl)
      refine own_go (T' := T48) (g' := (mkF m 29 #[.val (.ref a), .val (.ref b7), .val (.int (1 : Int32))] [])) (st48) ?_
      refine own_go (T' := T48) (g' := (mkF m 32 #[.val (.ref a), .val (.ref b7), .val (.int (2 : Int32))] [])) (fun t k => XS.iinc X48.here hx rfl (hb hby d1_29) rfl (l' := #[.val (.ref a), .val (.ref b7), .val (.int (2 : Int32))]) rfl k) ?_
      refine own_go (T' := T48) (g' := (mkF m 7 #[.val (.ref a), .val (.ref b7), .val (.int (2 : Int32))] [])) (fun t k => XS.goto X48.here hx rfl (pc0 := 32) (pc' := 7) rfl (hb hby d1_32) (by decide) (by decide) k) ?_
      refine own_go (T' := T48) (g' := (mkF m 8 #[.val (.ref a), .val (.ref b7), .val (.int (2 : Int32))] [(.int (2 : Int32))])) (fun t k => XS.iloadN X48.here hx rfl (hb hby d1_7) rfl k) ?_
      refine own_go (T' := T48) (g' := (mkF m 9 #[.val (.ref a), .val (.ref b7), .val (.int (2 : Int32))] [(.ref a), (.int (2 : Int32))])) (fun t k => XS.aloadN X48.here hx rfl (hb hby d1_8) rfl rfl k) ?_
      obtain ⟨cl51, Ar51, q51, S51, P51, H51, G51⟩ := id V_a
      refine own_go (T' := T48) (g' := (mkF m 10 #[.val (.ref a), .val (.ref b7), .val (.int (2 : Int32))] [(.int (3 : Int32)), (.int (2 : Int32))])) (fun t k => X48.arraylength hx (by rw [e48]; exact Ar51.1) (State.isArrayOf_alike hZ.alike Ar51.2.1) (g := (mkF m 9 #[.val (.ref a), .val (.ref b7), .val (.int (2 : Int32))] [(.ref a), (.int (2 : Int32))])) rfl rfl (hb hby d1_9) t (by rw [len_of S51 P51]; exact k)) ?_
      refine own_go (T' := T48) (g' := (mkF m 13 #[.val (.ref a), .val (.ref b7), .val (.int (2 : Int32))] [])) (fun t k => XS.icmpNo X48.here hx rfl (hb hby d1_10) rfl (tlt (by decide : (2 : Int32) < (3 : Int32))).2.1 k) ?_
      refine own_go (T' := T48) (g' := (mkF m 14 #[.val (.ref a), .val (.ref b7), .val (.int (2 : Int32))] [(.ref b7)])) (fun t k => XS.aloadN X48.here hx rfl (hb hby d1_13) rfl rfl k) ?_
      refine own_go (T' := T48) (g' := (mkF m 15 #[.val (.ref a), .val (.ref b7), .val (.int (2 : Int32))] [(.int (2 : Int32)), (.ref b7)])) (fun t k => XS.iloadN X48.here hx rfl (hb hby d1_14) rfl k) ?_
      refine own_go (T' := T48) (g' := (mkF m 16 #[.val (.ref a), .val (.ref b7), .val (.int (2 : Int32))] [(.ref a), (.int (2 : Int32)), (.ref b7)])) (fun t k => XS.aloadN X48.here hx rfl (hb hby d1_15) rfl rfl k) ?_
      refine own_go (T' := T48) (g' := (mkF m 17 #[.val (.ref a), .val (.ref b7), .val (.int (2 : Int32))] [(.int (2 : Int32)), (.ref a), (.int (2 : Int32)), (.ref b7)])) (fun t k => XS.iloadN X48.here hx rfl (hb hby d1_16) rfl k) ?_
      obtain ⟨cl52, Ar52, q52, S52, P52, H52, G52⟩ := id V_a
      have hin52 : ¬ ((2 : Int32) < 0 ∨ cl52.slots.size ≤ ((2 : Int32)).toNatClampNeg) := inb_of S52 ⟨by decide, by decide⟩
      refine own_go (T' := T48) (g' := (mkF m 18 #[.val (.ref a), .val (.ref b7), .val (.int (2 : Int32))] [(.int p3), (.int (2 : Int32)), (.ref b7)])) (X48.iaload hx (j := (2 : Int32)) (v := (.int p3)) (by rw [e48]; exact Ar52.1) (State.isArrayOf_alike hZ.alike Ar52.2.1) Ar52.2.2 hin52 (H52.at hin52 rfl) (g := (mkF m 17 #[.val (.ref a), .val (.ref b7), .val (.int (2 : Int32))] [(.int (2 : Int32)), (.ref a), (.int (2 : Int32)), (.ref b7)])) rfl rfl (hb hby d1_17)) ?_
      refine own_go (T' := T48) (g' := (mkF m 20 #[.val (.ref a), .val (.ref b7), .val (.int (2 : Int32))] [(.int (2147483647 : Int32)), (.int p3), (.int (2 : Int32)), (.ref b7)])) (X48.ldcInt hx hown (mvT hZ (hw _ (List.mem_of_getElem? (i := 7) rfl))) (g := (mkF m 18 #[.val (.ref a), .val (.ref b7), .val (.int (2 : Int32))] [(.int p3), (.int (2 : Int32)), (.ref b7)])) rfl (hb hby d1_18)) ?_
      by_cases c20_6 : p3 = (2147483647 : Int32)
      · refine own_go (T' := T48) (g' := (mkF m 27 #[.val (.ref a), .val (.ref b7), .val (.int (2 : Int32))] [(.int (2 : Int32)), (.ref b7)])) (fun t k => XS.icmpYes X48.here hx rfl (pc0 := 20) (pc' := 27) rfl (hb hby d1_20) rfl (teq c20_6).1 (by decide) (by decide) k) ?_
        refine own_go (T' := T48) (g' := (mkF m 28 #[.val (.ref a), .val (.ref b7), .val (.int (2 : Int32))] [(.int (0 : Int32)), (.int (2 : Int32)), (.ref b7)])) (fun t k => XS.iconst X48.here hx rfl (hb hby d1_27) k) ?_
        obtain ⟨cl53, Ar53, q53, S53, P53, H53, G53⟩ := V_b7
        obtain ⟨T53, h53, X53, e53, W53, st53⟩ := stZ X48 hx hZ e48 Ar53 (j := (2 : Int32)) (inb_of S53 ⟨by decide, by decide⟩) (g := (mkF m 28 #[.val (.ref a), .val (.ref b7), .val (.int (2 : Int32))] [(.int (0 : Int32)), (.int (2 : Int32)), (.ref b7)])) rfl rfl (hb hby d1_28)
        have N53 := Fr.snoc X53 N48 gn_b7
        have V_a := V_a.other W53 ne_a_b7
        have Z54 : n0 ≤ h53.size := Nat.le_trans Z49 (Keep.of_wr W53).1
        have K55 : Keep h0 h53 [] := K50.wr W53 (Or.inr sz_b7)
        have V_b7 : Arv Z h53 b7 k7 .boolean (3 : Int32) [(.int (1 : Int32)), (.int (0 : Int32)), (.int (0 : Int32))] (.int (0 : Int32)) := Arv.set Ar53 q53 S53 P53 H53 G53 (fits_nar_bool _) W53 2 rfl (Nat.le_of_ble_eq_true rfl)
        refine own_go (T' := T53) (g' := (mkF m 29 #[.val (.ref a), .val (.ref b7), .val (.int (2 : Int32))] [])) (st53) ?_
        refine own_go (T' := T53) (g' := (mkF m 32 #[.val (.ref a), .val (.ref b7), .val (.int (3 : Int32))] [])) (fun t k => XS.iinc X53.here hx rfl (hb hby d1_29) rfl (l' := #[.val (.ref a), .val (.ref b7), .val (.int (3 : Int32))]) rfl k) ?_
        refine own_go (T' := T53) (g' := (mkF m 7 #[.val (.ref a), .val (.ref b7), .val (.int (3 : Int32))] [])) (fun t k => XS.goto X53.here hx rfl (pc0 := 32) (pc' := 7) rfl (hb hby d1_32) (by decide) (by decide) k) ?_
        refine own_go (T' := T53) (g' := (mkF m 8 #[.val (.ref a), .val (.ref b7), .val (.int (3 : Int32))] [(.int (3 : Int32))])) (fun t k => XS.iloadN X53.here hx rfl (hb hby d1_7) rfl k) ?_
        refine own_go (T' := T53) (g' := (mkF m 9 #[.val (.ref a), .val (.ref b7), .val (.int (3 : Int32))] [(.ref a), (.int (3 : Int32))])) (fun t k => XS.aloadN X53.here hx rfl (hb hby d1_8) rfl rfl k) ?_
        obtain ⟨cl56, Ar56, q56, S56, P56, H56, G56⟩ := id V_a
        refine own_go (T' := T53) (g' := (mkF m 10 #[.val (.ref a), .val (.ref b7), .val (.int (3 : Int32))] [(.int (3 : Int32)), (.int (3 : Int32))])) (fun t k => X53.arraylength hx (by rw [e53]; exact Ar56.1) (State.isArrayOf_alike hZ.alike Ar56.2.1) (g := (mkF m 9 #[.val (.ref a), .val (.ref b7), .val (.int (3 : Int32))] [(.ref a), (.int (3 : Int32))])) rfl rfl (hb hby d1_9) t (by rw [len_of S56 P56]; exact k)) ?_
        refine own_go (T' := T53) (g' := (mkF m 35 #[.val (.ref a), .val (.ref b7), .val (.int (3 : Int32))] [])) (fun t k => XS.icmpYes X53.here hx rfl (pc0 := 10) (pc' := 35) rfl (hb hby d1_10) rfl (flt (by decide : ¬ (3 : Int32) < (3 : Int32))).2.1 (by decide) (by decide) k) ?_
        refine own_go (T' := T53) (g' := (mkF m 36 #[.val (.ref a), .val (.ref b7), .val (.int (3 : Int32))] [(.ref b7)])) (fun t k => XS.aloadN X53.here hx rfl (hb hby d1_35) rfl rfl k) ?_
        exact own_retA X53 hx Bd.notSynchronized (ty := (.array .boolean)) rfl Bd.returns (hb hby d1_36) ⟨b7, k7, rfl, N53, by rw [e53]; exact K55, sz_b7, by rw [e53]; unfold own_fl; rw [if_neg c20_1, if_pos c20_5, if_pos c20_6]; exact V_b7⟩ (by decide) (by decide)
      · refine own_go (T' := T48) (g' := (mkF m 23 #[.val (.ref a), .val (.ref b7), .val (.int (2 : Int32))] [(.int (2 : Int32)), (.ref b7)])) (fun t k => XS.icmpNo X48.here hx rfl (hb hby d1_20) rfl (feq c20_6).1 k) ?_
        refine own_go (T' := T48) (g' := (mkF m 24 #[.val (.ref a), .val (.ref b7), .val (.int (2 : Int32))] [(.int (1 : Int32)), (.int (2 : Int32)), (.ref b7)])) (fun t k => XS.iconst X48.here hx rfl (hb hby d1_23) k) ?_
        refine own_go (T' := T48) (g' := (mkF m 28 #[.val (.ref a), .val (.ref b7), .val (.int (2 : Int32))] [(.int (1 : Int32)), (.int (2 : Int32)), (.ref b7)])) (fun t k => XS.goto X48.here hx rfl (pc0 := 24) (pc' := 28) rfl (hb hby d1_24) (by decide) (by decide) k) ?_
        obtain ⟨cl57, Ar57, q57, S57, P57, H57, G57⟩ := V_b7
        obtain ⟨T57, h57, X57, e57, W57, st57⟩ := stZ X48 hx hZ e48 Ar57 (j := (2 : Int32)) (inb_of S57 ⟨by decide, by decide⟩) (g := (mkF m 28 #[.val (.ref a), .val (.ref b7), .val (.int (2 : Int32))] [(.int (1 : Int32)), (.int (2 : Int32)), (.ref b7)])) rfl rfl (hb hby d1_28)
        have N57 := Fr.snoc X57 N48 gn_b7
        have V_a := V_a.other W57 ne_a_b7
        have Z58 : n0 ≤ h57.size := Nat.le_trans Z49 (Keep.of_wr W57).1
        have K59 : Keep h0 h57 [] := K50.wr W57 (Or.inr sz_b7)
        have V_b7 : Arv Z h57 b7 k7 .boolean (3 : Int32) [(.int (1 : Int32)), (.int (0 : Int32)), (.int (1 : Int32))] (.int (0 : Int32)) := Arv.set Ar57 q57 S57 P57 H57 G57 (fits_nar_bool _) W57 2 rfl (Nat.le_of_ble_eq_true rfl)
        refine own_go (T' := T57) (g' := (mkF m 29 #[.val (.ref a), .val (.ref b7), .val (.int (2 : Int32))] [])) (st57) ?_
        refine own_go (T' := T57) (g' := (mkF m 32 #[.val (.ref a), .val (.ref b7), .val (.int (3 : Int32))] [])) (fun t k => XS.iinc X57.here hx rfl (hb hby d1_29) rfl (l' := #[.val (.ref a), .val (.ref b7), .val (.int (3 : Int32))]) rfl k) ?_
        refine own_go (T' := T57) (g' := (mkF m 7 #[.val (.ref a), .val (.ref b7), .val (.int (3 : Int32))] [])) (fun t k => XS.goto X57.here hx rfl (pc0 := 32) (pc' := 7) rfl (hb hby d1_32) (by decide) (by decide) k) ?_
        refine own_go (T' := T57) (g' := (mkF m 8 #[.val (.ref a), .val (.ref b7), .val (.int (3 : Int32))] [(.int (3 : Int32))])) (fun t k => XS.iloadN X57.here hx rfl (hb hby d1_7) rfl k) ?_
        refine own_go (T' := T57) (g' := (mkF m 9 #[.val (.ref a), .val (.ref b7), .val (.int (3 : Int32))] [(.ref a), (.int (3 : Int32))])) (fun t k => XS.aloadN X57.here hx rfl (hb hby d1_8) rfl rfl k) ?_
        obtain ⟨cl60, Ar60, q60, S60, P60, H60, G60⟩ := id V_a
        refine own_go (T' := T57) (g' := (mkF m 10 #[.val (.ref a), .val (.ref b7), .val (.int (3 : Int32))] [(.int (3 : Int32)), (.int (3 : Int32))])) (fun t k => X57.arraylength hx (by rw [e57]; exact Ar60.1) (State.isArrayOf_alike hZ.alike Ar60.2.1) (g := (mkF m 9 #[.val (.ref a), .val (.ref b7), .val (.int (3 : Int32))] [(.ref a), (.int (3 : Int32))])) rfl rfl (hb hby d1_9) t (by rw [len_of S60 P60]; exact k)) ?_
        refine own_go (T' := T57) (g' := (mkF m 35 #[.val (.ref a), .val (.ref b7), .val (.int (3 : Int32))] [])) (fun t k => XS.icmpYes X57.here hx rfl (pc0 := 10) (pc' := 35) rfl (hb hby d1_10) rfl (flt (by decide : ¬ (3 : Int32) < (3 : Int32))).2.1 (by decide) (by decide) k) ?_
        refine own_go (T' := T57) (g' := (mkF m 36 #[.val (.ref a), .val (.ref b7), .val (.int (3 : Int32))] [(.ref b7)])) (fun t k => XS.aloadN X57.here hx rfl (hb hby d1_35) rfl rfl k) ?_
        exact own_retA X57 hx Bd.notSynchronized (ty := (.array .boolean)) rfl Bd.returns (hb hby d1_36) ⟨b7, k7, rfl, N57, by rw [e57]; exact K59, sz_b7, by rw [e57]; unfold own_fl; rw [if_neg c20_1, if_pos c20_5, if_neg c20_6]; exact V_b7⟩ (by decide) (by decide)
    · refine own_go (T' := T43) (g' := (mkF m 23 #[.val (.ref a), .val (.ref b7), .val (.int (1 : Int32))] [(.int (1 : Int32)), (.ref b7)])) (fun t k => XS.icmpNo X43.here hx rfl (hb hby d1_20) rfl (feq c20_5).1 k) ?_
      refine own_go (T' := T43) (g' := (mkF m 24 #[.val (.ref a), .val (.ref b7), .val (.int (1 : Int32))] [(.int (1 : Int32)), (.int (1 : Int32)), (.ref b7)])) (fun t k => XS.iconst X43.here hx rfl (hb hby d1_23) k) ?_
      refine own_go (T' := T43) (g' := (mkF m 28 #[.val (.ref a), .val (.ref b7), .val (.int (1 : Int32))] [(.int (1 : Int32)), (.int (1 : Int32)), (.ref b7)])) (fun t k => XS.goto X43.here hx rfl (pc0 := 24) (pc' := 28) rfl (hb hby d1_24) (by decide) (by decide) k) ?_
      obtain ⟨cl61, Ar61, q61, S61, P61, H61, G61⟩ := V_b7
      obtain ⟨T61, h61, X61, e61, W61, st61⟩ := stZ X43 hx hZ e43 Ar61 (j := (1 : Int32)) (inb_of S61 ⟨by decide, by decide⟩) (g := (mkF m 28 #[.val (.ref a), .val (.ref b7), .val (.int (1 : Int32))] [(.int (1 : Int32)), (.int (1 : Int32)), (.ref b7)])) rfl rfl (hb hby d1_28)
      have N61 := Fr.snoc X61 N43 gn_b7
      have V_a := V_a.other W61 ne_a_b7
      have Z62 : n0 ≤ h61.size := Nat.le_trans Z44 (Keep.of_wr W61).1
      have K63 : Keep h0 h61 [] := K45.wr W61 (Or.inr sz_b7)
      have V_b7 : Arv Z h61 b7 k7 .boolean (3 : Int32) [(.int (1 : Int32)), (.int (1 : Int32)), (.int (0 : Int32))] (.int (0 : Int32)) := Arv.set Ar61 q61 S61 P61 H61 G61 (fits_nar_bool _) W61 1 rfl (Nat.le_of_ble_eq_true rfl)
      refine own_go (T' := T61) (g' := (mkF m 29 #[.val (.ref a), .val (.ref b7), .val (.int (1 : Int32))] [])) (st61) ?_
      refine own_go (T' := T61) (g' := (mkF m 32 #[.val (.ref a), .val (.ref b7), .val (.int (2 : Int32))] [])) (fun t k => XS.iinc X61.here hx rfl (hb hby d1_29) rfl (l' := #[.val (.ref a), .val (.ref b7), .val (.int (2 : Int32))]) rfl k) ?_
      refine own_go (T' := T61) (g' := (mkF m 7 #[.val (.ref a), .val (.ref b7), .val (.int (2 : Int32))] [])) (fun t k => XS.goto X61.here hx rfl (pc0 := 32) (pc' := 7) rfl (hb hby d1_32) (by decide) (by decide) k) ?_
      refine own_go (T' := T61) (g' := (mkF m 8 #[.val (.ref a), .val (.ref b7), .val (.int (2 : Int32))] [(.int (2 : Int32))])) (fun t k => XS.iloadN X61.here hx rfl (hb hby d1_7) rfl k) ?_
      refine own_go (T' := T61) (g' := (mkF m 9 #[.val (.ref a), .val (.ref b7), .val (.int (2 : Int32))] [(.ref a), (.int (2 : Int32))])) (fun t k => XS.aloadN X61.here hx rfl (hb hby d1_8) rfl rfl k) ?_
      obtain ⟨cl64, Ar64, q64, S64, P64, H64, G64⟩ := id V_a
      refine own_go (T' := T61) (g' := (mkF m 10 #[.val (.ref a), .val (.ref b7), .val (.int (2 : Int32))] [(.int (3 : Int32)), (.int (2 : Int32))])) (fun t k => X61.arraylength hx (by rw [e61]; exact Ar64.1) (State.isArrayOf_alike hZ.alike Ar64.2.1) (g := (mkF m 9 #[.val (.ref a), .val (.ref b7), .val (.int (2 : Int32))] [(.ref a), (.int (2 : Int32))])) rfl rfl (hb hby d1_9) t (by rw [len_of S64 P64]; exact k)) ?_
      refine own_go (T' := T61) (g' := (mkF m 13 #[.val (.ref a), .val (.ref b7), .val (.int (2 : Int32))] [])) (fun t k => XS.icmpNo X61.here hx rfl (hb hby d1_10) rfl (tlt (by decide : (2 : Int32) < (3 : Int32))).2.1 k) ?_
      refine own_go (T' := T61) (g' := (mkF m 14 #[.val (.ref a), .val (.ref b7), .val (.int (2 : Int32))] [(.ref b7)])) (fun t k => XS.aloadN X61.here hx rfl (hb hby d1_13) rfl rfl k) ?_
      refine own_go (T' := T61) (g' := (mkF m 15 #[.val (.ref a), .val (.ref b7), .val (.int (2 : Int32))] [(.int (2 : Int32)), (.ref b7)])) (fun t k => XS.iloadN X61.here hx rfl (hb hby d1_14) rfl k) ?_
      refine own_go (T' := T61) (g' := (mkF m 16 #[.val (.ref a), .val (.ref b7), .val (.int (2 : Int32))] [(.ref a), (.int (2 : Int32)), (.ref b7)])) (fun t k => XS.aloadN X61.here hx rfl (hb hby d1_15) rfl rfl k) ?_
      refine own_go (T' := T61) (g' := (mkF m 17 #[.val (.ref a), .val (.ref b7), .val (.int (2 : Int32))] [(.int (2 : Int32)), (.ref a), (.int (2 : Int32)), (.ref b7)])) (fun t k => XS.iloadN X61.here hx rfl (hb hby d1_16) rfl k) ?_
      obtain ⟨cl65, Ar65, q65, S65, P65, H65, G65⟩ := id V_a
      have hin65 : ¬ ((2 : Int32) < 0 ∨ cl65.slots.size ≤ ((2 : Int32)).toNatClampNeg) := inb_of S65 ⟨by decide, by decide⟩
      refine own_go (T' := T61) (g' := (mkF m 18 #[.val (.ref a), .val (.ref b7), .val (.int (2 : Int32))] [(.int p3), (.int (2 : Int32)), (.ref b7)])) (X61.iaload hx (j := (2 : Int32)) (v := (.int p3)) (by rw [e61]; exact Ar65.1) (State.isArrayOf_alike hZ.alike Ar65.2.1) Ar65.2.2 hin65 (H65.at hin65 rfl) (g := (mkF m 17 #[.val (.ref a), .val (.ref b7), .val (.int (2 : Int32))] [(.int (2 : Int32)), (.ref a), (.int (2 : Int32)), (.ref b7)])) rfl rfl (hb hby d1_17)) ?_
      refine own_go (T' := T61) (g' := (mkF m 20 #[.val (.ref a), .val (.ref b7), .val (.int (2 : Int32))] [(.int (2147483647 : Int32)), (.int p3), (.int (2 : Int32)), (.ref b7)])) (X61.ldcInt hx hown (mvT hZ (hw _ (List.mem_of_getElem? (i := 7) rfl))) (g := (mkF m 18 #[.val (.ref a), .val (.ref b7), .val (.int (2 : Int32))] [(.int p3), (.int (2 : Int32)), (.ref b7)])) rfl (hb hby d1_18)) ?_
      by_cases c20_7 : p3 = (2147483647 : Int32)
      · refine own_go (T' := T61) (g' := (mkF m 27 #[.val (.ref a), .val (.ref b7), .val (.int (2 : Int32))] [(.int (2 : Int32)), (.ref b7)])) (fun t k => XS.icmpYes X61.here hx rfl (pc0 := 20) (pc' := 27) rfl (hb hby d1_20) rfl (teq c20_7).1 (by decide) (by decide) k) ?_
        refine own_go (T' := T61) (g' := (mkF m 28 #[.val (.ref a), .val (.ref b7), .val (.int (2 : Int32))] [(.int (0 : Int32)), (.int (2 : Int32)), (.ref b7)])) (fun t k => XS.iconst X61.here hx rfl (hb hby d1_27) k) ?_
        obtain ⟨cl66, Ar66, q66, S66, P66, H66, G66⟩ := V_b7
        obtain ⟨T66, h66, X66, e66, W66, st66⟩ := stZ X61 hx hZ e61 Ar66 (j := (2 : Int32)) (inb_of S66 ⟨by decide, by decide⟩) (g := (mkF m 28 #[.val (.ref a), .val (.ref b7), .val (.int (2 : Int32))] [(.int (0 : Int32)), (.int (2 : Int32)), (.ref b7)])) rfl rfl (hb hby d1_28)
        have N66 := Fr.snoc X66 N61 gn_b7
        have V_a := V_a.other W66 ne_a_b7
        have Z67 : n0 ≤ h66.size := Nat.le_trans Z62 (Keep.of_wr W66).1
        have K68 : Keep h0 h66 [] := K63.wr W66 (Or.inr sz_b7)
        have V_b7 : Arv Z h66 b7 k7 .boolean (3 : Int32) [(.int (1 : Int32)), (.int (1 : Int32)), (.int (0 : Int32))] (.int (0 : Int32)) := Arv.set Ar66 q66 S66 P66 H66 G66 (fits_nar_bool _) W66 2 rfl (Nat.le_of_ble_eq_true rfl)
        refine own_go (T' := T66) (g' := (mkF m 29 #[.val (.ref a), .val (.ref b7), .val (.int (2 : Int32))] [])) (st66) ?_
        refine own_go (T' := T66) (g' := (mkF m 32 #[.val (.ref a), .val (.ref b7), .val (.int (3 : Int32))] [])) (fun t k => XS.iinc X66.here hx rfl (hb hby d1_29) rfl (l' := #[.val (.ref a), .val (.ref b7), .val (.int (3 : Int32))]) rfl k) ?_
        refine own_go (T' := T66) (g' := (mkF m 7 #[.val (.ref a), .val (.ref b7), .val (.int (3 : Int32))] [])) (fun t k => XS.goto X66.here hx rfl (pc0 := 32) (pc' := 7) rfl (hb hby d1_32) (by decide) (by decide) k) ?_
        refine own_go (T' := T66) (g' := (mkF m 8 #[.val (.ref a), .val (.ref b7), .val (.int (3 : Int32))] [(.int (3 : Int32))])) (fun t k => XS.iloadN X66.here hx rfl (hb hby d1_7) rfl k) ?_
        refine own_go (T' := T66) (g' := (mkF m 9 #[.val (.ref a), .val (.ref b7), .val (.int (3 : Int32))] [(.ref a), (.int (3 : Int32))])) (fun t k => XS.aloadN X66.here hx rfl (hb hby d1_8) rfl rfl k) ?_
        obtain ⟨cl69, Ar69, q69, S69, P69, H69, G69⟩ := id V_a
        refine own_go (T' := T66) (g' := (mkF m 10 #[.val (.ref a), .val (.ref b7), .val (.int (3 : Int32))] [(.int (3 : Int32)), (.int (3 : Int32))])) (fun t k => X66.arraylength hx (by rw [e66]; exact Ar69.1) (State.isArrayOf_alike hZ.alike Ar69.2.1) (g := (mkF m 9 #[.val (.ref a), .val (.ref b7), .val (.int (3 : Int32))] [(.ref a), (.int (3 : Int32))])) rfl rfl (hb hby d1_9) t (by rw [len_of S69 P69]; exact k)) ?_
        refine own_go (T' := T66) (g' := (mkF m 35 #[.val (.ref a), .val (.ref b7), .val (.int (3 : Int32))] [])) (fun t k => XS.icmpYes X66.here hx rfl (pc0 := 10) (pc' := 35) rfl (hb hby d1_10) rfl (flt (by decide : ¬ (3 : Int32) < (3 : Int32))).2.1 (by decide) (by decide) k) ?_
        refine own_go (T' := T66) (g' := (mkF m 36 #[.val (.ref a), .val (.ref b7), .val (.int (3 : Int32))] [(.ref b7)])) (fun t k => XS.aloadN X66.here hx rfl (hb hby d1_35) rfl rfl k) ?_
        exact own_retA X66 hx Bd.notSynchronized (ty := (.array .boolean)) rfl Bd.returns (hb hby d1_36) ⟨b7, k7, rfl, N66, by rw [e66]; exact K68, sz_b7, by rw [e66]; unfold own_fl; rw [if_neg c20_1, if_neg c20_5, if_pos c20_7]; exact V_b7⟩ (by decide) (by decide)
      · refine own_go (T' := T61) (g' := (mkF m 23 #[.val (.ref a), .val (.ref b7), .val (.int (2 : Int32))] [(.int (2 : Int32)), (.ref b7)])) (fun t k => XS.icmpNo X61.here hx rfl (hb hby d1_20) rfl (feq c20_7).1 k) ?_
        refine own_go (T' := T61) (g' := (mkF m 24 #[.val (.ref a), .val (.ref b7), .val (.int (2 : Int32))] [(.int (1 : Int32)), (.int (2 : Int32)), (.ref b7)])) (fun t k => XS.iconst X61.here hx rfl (hb hby d1_23) k) ?_
        refine own_go (T' := T61) (g' := (mkF m 28 #[.val (.ref a), .val (.ref b7), .val (.int (2 : Int32))] [(.int (1 : Int32)), (.int (2 : Int32)), (.ref b7)])) (fun t k => XS.goto X61.here hx rfl (pc0 := 24) (pc' := 28) rfl (hb hby d1_24) (by decide) (by decide) k) ?_
        obtain ⟨cl70, Ar70, q70, S70, P70, H70, G70⟩ := V_b7
        obtain ⟨T70, h70, X70, e70, W70, st70⟩ := stZ X61 hx hZ e61 Ar70 (j := (2 : Int32)) (inb_of S70 ⟨by decide, by decide⟩) (g := (mkF m 28 #[.val (.ref a), .val (.ref b7), .val (.int (2 : Int32))] [(.int (1 : Int32)), (.int (2 : Int32)), (.ref b7)])) rfl rfl (hb hby d1_28)
        have N70 := Fr.snoc X70 N61 gn_b7
        have V_a := V_a.other W70 ne_a_b7
        have Z71 : n0 ≤ h70.size := Nat.le_trans Z62 (Keep.of_wr W70).1
        have K72 : Keep h0 h70 [] := K63.wr W70 (Or.inr sz_b7)
        have V_b7 : Arv Z h70 b7 k7 .boolean (3 : Int32) [(.int (1 : Int32)), (.int (1 : Int32)), (.int (1 : Int32))] (.int (0 : Int32)) := Arv.set Ar70 q70 S70 P70 H70 G70 (fits_nar_bool _) W70 2 rfl (Nat.le_of_ble_eq_true rfl)
        refine own_go (T' := T70) (g' := (mkF m 29 #[.val (.ref a), .val (.ref b7), .val (.int (2 : Int32))] [])) (st70) ?_
        refine own_go (T' := T70) (g' := (mkF m 32 #[.val (.ref a), .val (.ref b7), .val (.int (3 : Int32))] [])) (fun t k => XS.iinc X70.here hx rfl (hb hby d1_29) rfl (l' := #[.val (.ref a), .val (.ref b7), .val (.int (3 : Int32))]) rfl k) ?_
        refine own_go (T' := T70) (g' := (mkF m 7 #[.val (.ref a), .val (.ref b7), .val (.int (3 : Int32))] [])) (fun t k => XS.goto X70.here hx rfl (pc0 := 32) (pc' := 7) rfl (hb hby d1_32) (by decide) (by decide) k) ?_
        refine own_go (T' := T70) (g' := (mkF m 8 #[.val (.ref a), .val (.ref b7), .val (.int (3 : Int32))] [(.int (3 : Int32))])) (fun t k => XS.iloadN X70.here hx rfl (hb hby d1_7) rfl k) ?_
        refine own_go (T' := T70) (g' := (mkF m 9 #[.val (.ref a), .val (.ref b7), .val (.int (3 : Int32))] [(.ref a), (.int (3 : Int32))])) (fun t k => XS.aloadN X70.here hx rfl (hb hby d1_8) rfl rfl k) ?_
        obtain ⟨cl73, Ar73, q73, S73, P73, H73, G73⟩ := id V_a
        refine own_go (T' := T70) (g' := (mkF m 10 #[.val (.ref a), .val (.ref b7), .val (.int (3 : Int32))] [(.int (3 : Int32)), (.int (3 : Int32))])) (fun t k => X70.arraylength hx (by rw [e70]; exact Ar73.1) (State.isArrayOf_alike hZ.alike Ar73.2.1) (g := (mkF m 9 #[.val (.ref a), .val (.ref b7), .val (.int (3 : Int32))] [(.ref a), (.int (3 : Int32))])) rfl rfl (hb hby d1_9) t (by rw [len_of S73 P73]; exact k)) ?_
        refine own_go (T' := T70) (g' := (mkF m 35 #[.val (.ref a), .val (.ref b7), .val (.int (3 : Int32))] [])) (fun t k => XS.icmpYes X70.here hx rfl (pc0 := 10) (pc' := 35) rfl (hb hby d1_10) rfl (flt (by decide : ¬ (3 : Int32) < (3 : Int32))).2.1 (by decide) (by decide) k) ?_
        refine own_go (T' := T70) (g' := (mkF m 36 #[.val (.ref a), .val (.ref b7), .val (.int (3 : Int32))] [(.ref b7)])) (fun t k => XS.aloadN X70.here hx rfl (hb hby d1_35) rfl rfl k) ?_
        exact own_retA X70 hx Bd.notSynchronized (ty := (.array .boolean)) rfl Bd.returns (hb hby d1_36) ⟨b7, k7, rfl, N70, by rw [e70]; exact K72, sz_b7, by rw [e70]; unfold own_fl; rw [if_neg c20_1, if_neg c20_5, if_neg c20_7]; exact V_b7⟩ (by decide) (by decide)
theorem own_fl0 {x : Int32} (h : x = (2147483647 : Int32)) : own_fl x = (0 : Int32) := by unfold own_fl; rw [if_pos h]
theorem own_fl1 {x : Int32} (h : ¬ x = (2147483647 : Int32)) : own_fl x = (1 : Int32) := by unfold own_fl; rw [if_neg h]
theorem pn_0 : plainName "com/example/paths_to_documents/pathstodocuments/query/EvaluationFoundPinLaw" = true := by first | (simp [plainName, overriddenIn]; done) | decide +kernel
theorem own_pd0 : parseMethodDescriptor "([I)[Z" = some ⟨[(.array .int)], some (.array .boolean)⟩ := by decide +kernel
theorem ef_0 (m : MethodId) (x0 : Int32) (x1 : Int32) (x2 : Int32) (x3 : Int32) : entryFrame m #[(.int x0), (.int x1), (.int x2), (.int x3)] maxLocals = mkF m 0 #[.val (.int x0), .val (.int x1), .val (.int x2), .val (.int x3), .unset, .unset, .unset, .unset, .unset, .unset, .unset] [] := by first | (simp [entryFrame, mkF, argsToLocals, Value.category, maxLocals]; done) | rfl
def Q0 (Z : State) (p1 p2 p3 p4 : Int32) (h0 : Heap) (n0 : Nat) (v : Option Value) (h : Heap) (L : List Loc) : Prop := v = some (.int 1) ∧ Fr n0 L
set_option maxRecDepth 65536 in
set_option maxHeartbeats 40000000 in
theorem rm0 (l : Launch) (Z : State) (a0 : Array Value) (hw : ∀ d ∈ tables_1, d.before a0 Z = true) (ws : List Jvm.Cond) (p1 : Int32) (p2 : Int32) (p3 : Int32) (p4 : Int32) (h0 : Heap) (n0 : Nat) (Z0 : n0 ≤ h0.size) :
    MetFree l x (head1 (Jvm.Cond.code x code maxLocals ret :: ws) room_1) (fun aa U => aa = #[(.int p1), (.int p2), (.int p3), (.int p4)] ∧ Z.Warmed39 U.vm ∧ U.heap = h0) (fun _ _ _ _ _ => True) (fun _ U o U' => ∃ v L, o = .returned v ∧ Q0 Z p1 p2 p3 p4 h0 n0 v U'.heap L ∧ FrameEnd U o U' L room_1.cells room_1.slots) := by
  refine MetFree.of_bodySF (plainFor_of_name pn_0) hisR ?_
  intro p e s m args below meth c s₁ Bd hml0 hP hK
  obtain ⟨rfl, hZ, hh⟩ := hP
  have hx := Bd.exec
  have hby := Bd.bytes
  have hml : c.maxLocals = 11 := hml0
  have hown : s.vm.findClass "com/example/paths_to_documents/pathstodocuments/query/EvaluationFoundPinLaw" = some m.cls := findClass_of_methodNamed Bd.named
  have hnm := (name_of_methodNamed Bd.named Bd.method).1
  have X0 : Stand p l e room_1 s m #[(.int p1), (.int p2), (.int p3), (.int p4)] below meth c s₁ [] 0 0 := Stand.of_body Bd
  have e0 : s₁.heap = h0 := by rw [← hh, Bd.state]; rfl
  have N0 := Fr.nil n0
  refine own_enter (QQ := Q0 Z p1 p2 p3 p4 h0 n0) (ef_0 m p1 p2 p3 p4) ?_
  have J42 : ∀ s1 s2 s3 : Int32, own_Run p e below s (Q0 Z p1 p2 p3 p4 h0 n0) room_1.cells room_1.slots s₁ (mkF m 42 #[.val (.int p1), .val (.int p2), .val (.int p3), .val (.int p4), .val (.int s1), .val (.int s2), .val (.int s3), .unset, .unset, .unset, .unset] []) := by
    intro s1 s2 s3
    refine own_go (T' := s₁) (g' := (mkF m 43 #[.val (.int p1), .val (.int p2), .val (.int p3), .val (.int p4), .val (.int s1), .val (.int s2), .val (.int s3), .unset, .unset, .unset, .unset] [(.int (3 : Int32))])) (fun t k => XS.iconst X0.here hx rfl (hb hby at_42) k) ?_
    obtain ⟨T74, h74, k74, X74, e74, E74, A74, st74⟩ := newP X0 hx hZ (hw _ (List.mem_of_getElem? (i := 1) rfl)) e0 (g := (mkF m 43 #[.val (.int p1), .val (.int p2), .val (.int p3), .val (.int p4), .val (.int s1), .val (.int s2), .val (.int s3), .unset, .unset, .unset, .unset] [(.int (3 : Int32))])) rfl (hb hby at_43) rfl (by decide) (cap := 3) (by decide) (by decide) (by decide) (by decide)
    obtain ⟨b74, g74⟩ : ∃ z, z = h0.size := ⟨_, rfl⟩
    rw [← g74] at A74 st74
    have gn_b74 : n0 ≤ b74 := Nat.le_trans Z0 (Nat.le_of_eq g74.symm)
    have Z75 : n0 ≤ h74.size := Nat.le_trans Z0 E74.1
    have V_b74 : Arv Z h74 b74 k74 .int (3 : Int32) [(.int (0 : Int32)), (.int (0 : Int32)), (.int (0 : Int32))] (.int (0 : Int32)) := (Arv.new A74 (by decide)).pad (pad_rep [] (.int (0 : Int32)) 3)
    refine own_go (T' := T74) (g' := (mkF m 45 #[.val (.int p1), .val (.int p2), .val (.int p3), .val (.int p4), .val (.int s1), .val (.int s2), .val (.int s3), .unset, .unset, .unset, .unset] [(.ref b74)])) (st74) ?_
    refine own_go (T' := T74) (g' := (mkF m 46 #[.val (.int p1), .val (.int p2), .val (.int p3), .val (.int p4), .val (.int s1), .val (.int s2), .val (.int s3), .unset, .unset, .unset, .unset] [(.ref b74), (.ref b74)])) (fun t k => XS.dup X74.here hx rfl (hb hby at_45) rfl rfl k) ?_
    refine own_go (T' := T74) (g' := (mkF m 47 #[.val (.int p1), .val (.int p2), .val (.int p3), .val (.int p4), .val (.int s1), .val (.int s2), .val (.int s3), .unset, .unset, .unset, .unset] [(.int (0 : Int32)), (.ref b74), (.ref b74)])) (fun t k => XS.iconst X74.here hx rfl (hb hby at_46) k) ?_
    refine own_go (T' := T74) (g' := (mkF m 49 #[.val (.int p1), .val (.int p2), .val (.int p3), .val (.int p4), .val (.int s1), .val (.int s2), .val (.int s3), .unset, .unset, .unset, .unset] [(.int s1), (.int (0 : Int32)), (.ref b74), (.ref b74)])) (fun t k => XS.iload X74.here hx rfl (hb hby at_47) rfl k) ?_
    obtain ⟨cl76, Ar76, q76, S76, P76, H76, G76⟩ := V_b74
    obtain ⟨T76, h76, X76, e76, W76, st76⟩ := stI X74 hx hZ e74 Ar76 (j := (0 : Int32)) (inb_of S76 ⟨by decide, by decide⟩) (g := (mkF m 49 #[.val (.int p1), .val (.int p2), .val (.int p3), .val (.int p4), .val (.int s1), .val (.int s2), .val (.int s3), .unset, .unset, .unset, .unset] [(.int s1), (.int (0 : Int32)), (.ref b74), (.ref b74)])) rfl rfl (hb hby at_49)
    have N76 := Fr.snoc X76 N0 gn_b74
    have Z77 : n0 ≤ h76.size := Nat.le_trans Z75 (Keep.of_wr W76).1
    have V_b74 : Arv Z h76 b74 k74 .int (3 : Int32) [(.int s1), (.int (0 : Int32)), (.int (0 : Int32))] (.int (0 : Int32)) := Arv.set Ar76 q76 S76 P76 H76 G76 rfl W76 0 rfl (Nat.le_of_ble_eq_true rfl)
    refine own_go (T' := T76) (g' := (mkF m 50 #[.val (.int p1), .val (.int p2), .val (.int p3), .val (.int p4), .val (.int s1), .val (.int s2), .val (.int s3), .unset, .unset, .unset, .unset] [(.ref b74)])) (st76) ?_
    refine own_go (T' := T76) (g' := (mkF m 51 #[.val (.int p1), .val (.int p2), .val (.int p3), .val (.int p4), .val (.int s1), .val (.int s2), .val (.int s3), .unset, .unset, .unset, .unset] [(.ref b74), (.ref b74)])) (fun t k => XS.dup X76.here hx rfl (hb hby at_50) rfl rfl k) ?_
    refine own_go (T' := T76) (g' := (mkF m 52 #[.val (.int p1), .val (.int p2), .val (.int p3), .val (.int p4), .val (.int s1), .val (.int s2), .val (.int s3), .unset, .unset, .unset, .unset] [(.int (1 : Int32)), (.ref b74), (.ref b74)])) (fun t k => XS.iconst X76.here hx rfl (hb hby at_51) k) ?_
    refine own_go (T' := T76) (g' := (mkF m 54 #[.val (.int p1), .val (.int p2), .val (.int p3), .val (.int p4), .val (.int s1), .val (.int s2), .val (.int s3), .unset, .unset, .unset, .unset] [(.int s2), (.int (1 : Int32)), (.ref b74), (.ref b74)])) (fun t k => XS.iload X76.here hx rfl (hb hby at_52) rfl k) ?_
    obtain ⟨cl78, Ar78, q78, S78, P78, H78, G78⟩ := V_b74
    obtain ⟨T78, h78, X78, e78, W78, st78⟩ := stI X76 hx hZ e76 Ar78 (j := (1 : Int32)) (inb_of S78 ⟨by decide, by decide⟩) (g := (mkF m 54 #[.val (.int p1), .val (.int p2), .val (.int p3), .val (.int p4), .val (.int s1), .val (.int s2), .val (.int s3), .unset, .unset, .unset, .unset] [(.int s2), (.int (1 : Int32)), (.ref b74), (.ref b74)])) rfl rfl (hb hby at_54)
    have N78 := Fr.snoc X78 N76 gn_b74
    have Z79 : n0 ≤ h78.size := Nat.le_trans Z77 (Keep.of_wr W78).1
    have V_b74 : Arv Z h78 b74 k74 .int (3 : Int32) [(.int s1), (.int s2), (.int (0 : Int32))] (.int (0 : Int32)) := Arv.set Ar78 q78 S78 P78 H78 G78 rfl W78 1 rfl (Nat.le_of_ble_eq_true rfl)
    refine own_go (T' := T78) (g' := (mkF m 55 #[.val (.int p1), .val (.int p2), .val (.int p3), .val (.int p4), .val (.int s1), .val (.int s2), .val (.int s3), .unset, .unset, .unset, .unset] [(.ref b74)])) (st78) ?_
    refine own_go (T' := T78) (g' := (mkF m 56 #[.val (.int p1), .val (.int p2), .val (.int p3), .val (.int p4), .val (.int s1), .val (.int s2), .val (.int s3), .unset, .unset, .unset, .unset] [(.ref b74), (.ref b74)])) (fun t k => XS.dup X78.here hx rfl (hb hby at_55) rfl rfl k) ?_
    refine own_go (T' := T78) (g' := (mkF m 57 #[.val (.int p1), .val (.int p2), .val (.int p3), .val (.int p4), .val (.int s1), .val (.int s2), .val (.int s3), .unset, .unset, .unset, .unset] [(.int (2 : Int32)), (.ref b74), (.ref b74)])) (fun t k => XS.iconst X78.here hx rfl (hb hby at_56) k) ?_
    refine own_go (T' := T78) (g' := (mkF m 59 #[.val (.int p1), .val (.int p2), .val (.int p3), .val (.int p4), .val (.int s1), .val (.int s2), .val (.int s3), .unset, .unset, .unset, .unset] [(.int s3), (.int (2 : Int32)), (.ref b74), (.ref b74)])) (fun t k => XS.iload X78.here hx rfl (hb hby at_57) rfl k) ?_
    obtain ⟨cl80, Ar80, q80, S80, P80, H80, G80⟩ := V_b74
    obtain ⟨T80, h80, X80, e80, W80, st80⟩ := stI X78 hx hZ e78 Ar80 (j := (2 : Int32)) (inb_of S80 ⟨by decide, by decide⟩) (g := (mkF m 59 #[.val (.int p1), .val (.int p2), .val (.int p3), .val (.int p4), .val (.int s1), .val (.int s2), .val (.int s3), .unset, .unset, .unset, .unset] [(.int s3), (.int (2 : Int32)), (.ref b74), (.ref b74)])) rfl rfl (hb hby at_59)
    have N80 := Fr.snoc X80 N78 gn_b74
    have Z81 : n0 ≤ h80.size := Nat.le_trans Z79 (Keep.of_wr W80).1
    have V_b74 : Arv Z h80 b74 k74 .int (3 : Int32) [(.int s1), (.int s2), (.int s3)] (.int (0 : Int32)) := Arv.set Ar80 q80 S80 P80 H80 G80 rfl W80 2 rfl (Nat.le_of_ble_eq_true rfl)
    refine own_go (T' := T80) (g' := (mkF m 60 #[.val (.int p1), .val (.int p2), .val (.int p3), .val (.int p4), .val (.int s1), .val (.int s2), .val (.int s3), .unset, .unset, .unset, .unset] [(.ref b74)])) (st80) ?_
    refine own_go (T' := T80) (g' := (mkF m 62 #[.val (.int p1), .val (.int p2), .val (.int p3), .val (.int p4), .val (.int s1), .val (.int s2), .val (.int s3), .val (.ref b74), .unset, .unset, .unset] [])) (fun t k => XS.astore X80.here hx rfl (hb hby at_60) rfl rfl (l' := #[.val (.int p1), .val (.int p2), .val (.int p3), .val (.int p4), .val (.int s1), .val (.int s2), .val (.int s3), .val (.ref b74), .unset, .unset, .unset]) rfl k) ?_
    refine own_go (T' := T80) (g' := (mkF m 63 #[.val (.int p1), .val (.int p2), .val (.int p3), .val (.int p4), .val (.int s1), .val (.int s2), .val (.int s3), .val (.ref b74), .unset, .unset, .unset] [(.int (0 : Int32))])) (fun t k => XS.iconst X80.here hx rfl (hb hby at_62) k) ?_
    obtain ⟨T82, h82, k82, X82, e82, E82, A82, st82⟩ := newP X80 hx hZ (hw _ (List.mem_of_getElem? (i := 1) rfl)) e80 (g := (mkF m 63 #[.val (.int p1), .val (.int p2), .val (.int p3), .val (.int p4), .val (.int s1), .val (.int s2), .val (.int s3), .val (.ref b74), .unset, .unset, .unset] [(.int (0 : Int32))])) rfl (hb hby at_63) rfl (by decide) (cap := 0) (by decide) (by decide) (by decide) (by decide)
    obtain ⟨b82, g82⟩ : ∃ z, z = h80.size := ⟨_, rfl⟩
    rw [← g82] at A82 st82
    have ne_b74_b82 : b74 ≠ b82 := Nat.ne_of_lt (Nat.lt_of_lt_of_le V_b74.lt (Nat.le_of_eq g82.symm))
    have ne_b82_b74 := Ne.symm ne_b74_b82
    have gn_b82 : n0 ≤ b82 := Nat.le_trans Z81 (Nat.le_of_eq g82.symm)
    have V_b74 := V_b74.ext E82
    have Z83 : n0 ≤ h82.size := Nat.le_trans Z81 E82.1
    have V_b82 : Arv Z h82 b82 k82 .int (0 : Int32) [] (.int (0 : Int32)) := (Arv.new A82 (by decide)).pad (pad_rep [] (.int (0 : Int32)) 0)
    refine own_go (T' := T82) (g' := (mkF m 65 #[.val (.int p1), .val (.int p2), .val (.int p3), .val (.int p4), .val (.int s1), .val (.int s2), .val (.int s3), .val (.ref b74), .unset, .unset, .unset] [(.ref b82)])) (st82) ?_
    refine own_go (T' := T82) (g' := (mkF m 67 #[.val (.int p1), .val (.int p2), .val (.int p3), .val (.int p4), .val (.int s1), .val (.int s2), .val (.int s3), .val (.ref b74), .val (.ref b82), .unset, .unset] [])) (fun t k => XS.astore X82.here hx rfl (hb hby at_65) rfl rfl (l' := #[.val (.int p1), .val (.int p2), .val (.int p3), .val (.int p4), .val (.int s1), .val (.int s2), .val (.int s3), .val (.ref b74), .val (.ref b82), .unset, .unset]) rfl k) ?_
    refine own_go (T' := T82) (g' := (mkF m 69 #[.val (.int p1), .val (.int p2), .val (.int p3), .val (.int p4), .val (.int s1), .val (.int s2), .val (.int s3), .val (.ref b74), .val (.ref b82), .unset, .unset] [(.ref b82)])) (fun t k => XS.aload X82.here hx rfl (hb hby at_67) rfl rfl k) ?_
    obtain ⟨_, _, ⟨T84, L84, k84, n84⟩, -, X84, ⟨Lc84, hQ84, l84, y84, z84⟩, st84⟩ := Jvm.LawKit.callS X82 hx (y := (⟨"com/example/paths_to_documents/pathstodocuments/query/Evaluation", "found", "([I)[Z"⟩ : MethodName)) hown (mvT hZ (hw _ (List.mem_of_getElem? (i := 2) rfl))) (mvT hZ (hw _ (List.mem_of_getElem? (i := 3) rfl))) (mvT hZ (hw _ (List.mem_of_getElem? (i := 4) rfl))) (mvT hZ (hw _ (List.mem_of_getElem? (i := 5) rfl))) (by decide) (backOf (W := 0) (rm1n0 l Z a0 hw [] b82 k82  h82 n0 Z83 V_b82) hZ (hw _ (List.mem_of_getElem? (i := 5) rfl)) (hw _ (List.mem_of_getElem? (i := 4) rfl)) (by decide) (by decide)) (g := (mkF m 69 #[.val (.int p1), .val (.int p2), .val (.int p3), .val (.int p4), .val (.int s1), .val (.int s2), .val (.int s3), .val (.ref b74), .val (.ref b82), .unset, .unset] [(.ref b82)])) rfl (by rw [hml]; rfl) (argsL := [(.ref b82)]) (rest := []) (lenOf own_pd0 rfl) rfl (by show 2 * 0 + _ ≤ _; exact Nat.le_of_eq rfl) (hb hby at_69) (fun _ _ => ⟨rfl, e82, (by decide : 2 + 1 ≤ _), (by decide : 3 + 0 ≤ _)⟩)
    dsimp only [Pt.U, Pt.locs, Pt.cells, Pt.slots] at X84 l84 y84 z84 st84 hQ84
    subst l84 y84 z84
    obtain ⟨b84, kk84, rfl, M84, K84, sz84, V_b84⟩ := hQ84
    have N84 := Fr.app N80 M84
    refine own_go (T' := T84) (g' := (mkF m 72 #[.val (.int p1), .val (.int p2), .val (.int p3), .val (.int p4), .val (.int s1), .val (.int s2), .val (.int s3), .val (.ref b74), .val (.ref b82), .unset, .unset] [(.ref b84)])) (st84) ?_
    have ne_b74_b84 : b74 ≠ b84 := Nat.ne_of_lt (Nat.lt_of_lt_of_le V_b74.lt sz84)
    have ne_b84_b74 := Ne.symm ne_b74_b84
    have ne_b82_b84 : b82 ≠ b84 := Nat.ne_of_lt (Nat.lt_of_lt_of_le V_b82.lt sz84)
    have ne_b84_b82 := Ne.symm ne_b82_b84
    have gn_b84 : n0 ≤ b84 := Nat.le_trans Z83 sz84
    have V_b74 := V_b74.keep K84 nin0
    have V_b82 := V_b82.keep K84 nin0
    have Z85 : n0 ≤ T84.heap.size := Nat.le_trans Z83 K84.1
    refine own_go (T' := T84) (g' := (mkF m 74 #[.val (.int p1), .val (.int p2), .val (.int p3), .val (.int p4), .val (.int s1), .val (.int s2), .val (.int s3), .val (.ref b74), .val (.ref b82), .val (.ref b84), .unset] [])) (fun t k => XS.astore X84.here hx rfl (hb hby at_72) rfl rfl (l' := #[.val (.int p1), .val (.int p2), .val (.int p3), .val (.int p4), .val (.int s1), .val (.int s2), .val (.int s3), .val (.ref b74), .val (.ref b82), .val (.ref b84), .unset]) rfl k) ?_
    refine own_go (T' := T84) (g' := (mkF m 76 #[.val (.int p1), .val (.int p2), .val (.int p3), .val (.int p4), .val (.int s1), .val (.int s2), .val (.int s3), .val (.ref b74), .val (.ref b82), .val (.ref b84), .unset] [(.ref b74)])) (fun t k => XS.aload X84.here hx rfl (hb hby at_74) rfl rfl k) ?_
    obtain ⟨_, _, ⟨T86, L86, k86, n86⟩, -, X86, ⟨Lc86, hQ86, l86, y86, z86⟩, st86⟩ := Jvm.LawKit.callS X84 hx (y := (⟨"com/example/paths_to_documents/pathstodocuments/query/Evaluation", "found", "([I)[Z"⟩ : MethodName)) hown (mvT hZ (hw _ (List.mem_of_getElem? (i := 2) rfl))) (mvT hZ (hw _ (List.mem_of_getElem? (i := 3) rfl))) (mvT hZ (hw _ (List.mem_of_getElem? (i := 4) rfl))) (mvT hZ (hw _ (List.mem_of_getElem? (i := 5) rfl))) (by decide) (backOf (W := 0) (rm1n3 l Z a0 hw [] b74 k74 s1 s2 s3 T84.heap n0 Z85 V_b74) hZ (hw _ (List.mem_of_getElem? (i := 5) rfl)) (hw _ (List.mem_of_getElem? (i := 4) rfl)) (by decide) (by decide)) (g := (mkF m 76 #[.val (.int p1), .val (.int p2), .val (.int p3), .val (.int p4), .val (.int s1), .val (.int s2), .val (.int s3), .val (.ref b74), .val (.ref b82), .val (.ref b84), .unset] [(.ref b74)])) rfl (by rw [hml]; rfl) (argsL := [(.ref b74)]) (rest := []) (lenOf own_pd0 rfl) rfl (by show 2 * 0 + _ ≤ _; exact Nat.le_of_eq rfl) (hb hby at_76) (fun _ _ => ⟨rfl, rfl, (by decide : 3 + 1 ≤ _), (by decide : 3 + 3 ≤ _)⟩)
    dsimp only [Pt.U, Pt.locs, Pt.cells, Pt.slots] at X86 l86 y86 z86 st86 hQ86
    subst l86 y86 z86
    obtain ⟨b86, kk86, rfl, M86, K86, sz86, V_b86⟩ := hQ86
    have N86 := Fr.app N84 M86
    refine own_go (T' := T86) (g' := (mkF m 79 #[.val (.int p1), .val (.int p2), .val (.int p3), .val (.int p4), .val (.int s1), .val (.int s2), .val (.int s3), .val (.ref b74), .val (.ref b82), .val (.ref b84), .unset] [(.ref b86)])) (st86) ?_
    have ne_b74_b86 : b74 ≠ b86 := Nat.ne_of_lt (Nat.lt_of_lt_of_le V_b74.lt sz86)
    have ne_b86_b74 := Ne.symm ne_b74_b86
    have ne_b82_b86 : b82 ≠ b86 := Nat.ne_of_lt (Nat.lt_of_lt_of_le V_b82.lt sz86)
    have ne_b86_b82 := Ne.symm ne_b82_b86
    have ne_b84_b86 : b84 ≠ b86 := Nat.ne_of_lt (Nat.lt_of_lt_of_le V_b84.lt sz86)
    have ne_b86_b84 := Ne.symm ne_b84_b86
    have gn_b86 : n0 ≤ b86 := Nat.le_trans Z85 sz86
    have V_b74 := V_b74.keep K86 nin0
    have V_b82 := V_b82.keep K86 nin0
    have V_b84 := V_b84.keep K86 nin0
    have Z87 : n0 ≤ T86.heap.size := Nat.le_trans Z85 K86.1
    refine own_go (T' := T86) (g' := (mkF m 81 #[.val (.int p1), .val (.int p2), .val (.int p3), .val (.int p4), .val (.int s1), .val (.int s2), .val (.int s3), .val (.ref b74), .val (.ref b82), .val (.ref b84), .val (.ref b86)] [])) (fun t k => XS.astore X86.here hx rfl (hb hby at_79) rfl rfl (l' := #[.val (.int p1), .val (.int p2), .val (.int p3), .val (.int p4), .val (.int s1), .val (.int s2), .val (.int s3), .val (.ref b74), .val (.ref b82), .val (.ref b84), .val (.ref b86)]) rfl k) ?_
    refine own_go (T' := T86) (g' := (mkF m 83 #[.val (.int p1), .val (.int p2), .val (.int p3), .val (.int p4), .val (.int s1), .val (.int s2), .val (.int s3), .val (.ref b74), .val (.ref b82), .val (.ref b84), .val (.ref b86)] [(.ref b84)])) (fun t k => XS.aload X86.here hx rfl (hb hby at_81) rfl rfl k) ?_
    obtain ⟨cl88, Ar88, q88, S88, P88, H88, G88⟩ := id V_b84
    refine own_go (T' := T86) (g' := (mkF m 84 #[.val (.int p1), .val (.int p2), .val (.int p3), .val (.int p4), .val (.int s1), .val (.int s2), .val (.int s3), .val (.ref b74), .val (.ref b82), .val (.ref b84), .val (.ref b86)] [(.int (0 : Int32))])) (fun t k => X86.arraylength hx Ar88.1 (State.isArrayOf_alike hZ.alike Ar88.2.1) (g := (mkF m 83 #[.val (.int p1), .val (.int p2), .val (.int p3), .val (.int p4), .val (.int s1), .val (.int s2), .val (.int s3), .val (.ref b74), .val (.ref b82), .val (.ref b84), .val (.ref b86)] [(.ref b84)])) rfl rfl (hb hby at_83) t (by rw [len_of S88 P88]; exact k)) ?_
    refine own_go (T' := T86) (g' := (mkF m 87 #[.val (.int p1), .val (.int p2), .val (.int p3), .val (.int p4), .val (.int s1), .val (.int s2), .val (.int s3), .val (.ref b74), .val (.ref b82), .val (.ref b84), .val (.ref b86)] [])) (fun t k => XS.ifNo X86.here hx rfl (hb hby at_84) rfl ((if0 _ _).trans (teq (by decide : (0 : Int32) = (0 : Int32))).2) k) ?_
    refine own_go (T' := T86) (g' := (mkF m 89 #[.val (.int p1), .val (.int p2), .val (.int p3), .val (.int p4), .val (.int s1), .val (.int s2), .val (.int s3), .val (.ref b74), .val (.ref b82), .val (.ref b84), .val (.ref b86)] [(.ref b86)])) (fun t k => XS.aload X86.here hx rfl (hb hby at_87) rfl rfl k) ?_
    obtain ⟨cl89, Ar89, q89, S89, P89, H89, G89⟩ := id V_b86
    refine own_go (T' := T86) (g' := (mkF m 90 #[.val (.int p1), .val (.int p2), .val (.int p3), .val (.int p4), .val (.int s1), .val (.int s2), .val (.int s3), .val (.ref b74), .val (.ref b82), .val (.ref b84), .val (.ref b86)] [(.int (3 : Int32))])) (fun t k => X86.arraylength hx Ar89.1 (State.isArrayOf_alike hZ.alike Ar89.2.1) (g := (mkF m 89 #[.val (.int p1), .val (.int p2), .val (.int p3), .val (.int p4), .val (.int s1), .val (.int s2), .val (.int s3), .val (.ref b74), .val (.ref b82), .val (.ref b84), .val (.ref b86)] [(.ref b86)])) rfl rfl (hb hby at_89) t (by rw [len_of S89 P89]; exact k)) ?_
    refine own_go (T' := T86) (g' := (mkF m 91 #[.val (.int p1), .val (.int p2), .val (.int p3), .val (.int p4), .val (.int s1), .val (.int s2), .val (.int s3), .val (.ref b74), .val (.ref b82), .val (.ref b84), .val (.ref b86)] [(.int (3 : Int32)), (.int (3 : Int32))])) (fun t k => XS.iconst X86.here hx rfl (hb hby at_90) k) ?_
    refine own_go (T' := T86) (g' := (mkF m 94 #[.val (.int p1), .val (.int p2), .val (.int p3), .val (.int p4), .val (.int s1), .val (.int s2), .val (.int s3), .val (.ref b74), .val (.ref b82), .val (.ref b84), .val (.ref b86)] [])) (fun t k => XS.icmpNo X86.here hx rfl (hb hby at_91) rfl (teq (by decide : (3 : Int32) = (3 : Int32))).2 k) ?_
    refine own_go (T' := T86) (g' := (mkF m 96 #[.val (.int p1), .val (.int p2), .val (.int p3), .val (.int p4), .val (.int s1), .val (.int s2), .val (.int s3), .val (.ref b74), .val (.ref b82), .val (.ref b84), .val (.ref b86)] [(.ref b86)])) (fun t k => XS.aload X86.here hx rfl (hb hby at_94) rfl rfl k) ?_
    refine own_go (T' := T86) (g' := (mkF m 97 #[.val (.int p1), .val (.int p2), .val (.int p3), .val (.int p4), .val (.int s1), .val (.int s2), .val (.int s3), .val (.ref b74), .val (.ref b82), .val (.ref b84), .val (.ref b86)] [(.int (0 : Int32)), (.ref b86)])) (fun t k => XS.iconst X86.here hx rfl (hb hby at_96) k) ?_
    obtain ⟨cl90, Ar90, q90, S90, P90, H90, G90⟩ := id V_b86
    have hin90 : ¬ ((0 : Int32) < 0 ∨ cl90.slots.size ≤ ((0 : Int32)).toNatClampNeg) := inb_of S90 ⟨by decide, by decide⟩
    refine own_go (T' := T86) (g' := (mkF m 98 #[.val (.int p1), .val (.int p2), .val (.int p3), .val (.int p4), .val (.int s1), .val (.int s2), .val (.int s3), .val (.ref b74), .val (.ref b82), .val (.ref b84), .val (.ref b86)] [(.int (own_fl s1))])) (X86.baloadBooleans hx (j := (0 : Int32)) (v := (.int (own_fl s1))) Ar90.1 (State.isArrayOf_alike hZ.alike Ar90.2.1) Ar90.2.2 hin90 (H90.at hin90 rfl) (g := (mkF m 97 #[.val (.int p1), .val (.int p2), .val (.int p3), .val (.int p4), .val (.int s1), .val (.int s2), .val (.int s3), .val (.ref b74), .val (.ref b82), .val (.ref b84), .val (.ref b86)] [(.int (0 : Int32)), (.ref b86)])) rfl rfl (hb hby at_97)) ?_
    refine own_go (T' := T86) (g' := (mkF m 100 #[.val (.int p1), .val (.int p2), .val (.int p3), .val (.int p4), .val (.int s1), .val (.int s2), .val (.int s3), .val (.ref b74), .val (.ref b82), .val (.ref b84), .val (.ref b86)] [(.int s1), (.int (own_fl s1))])) (fun t k => XS.iload X86.here hx rfl (hb hby at_98) rfl k) ?_
    refine own_go (T' := T86) (g' := (mkF m 102 #[.val (.int p1), .val (.int p2), .val (.int p3), .val (.int p4), .val (.int s1), .val (.int s2), .val (.int s3), .val (.ref b74), .val (.ref b82), .val (.ref b84), .val (.ref b86)] [(.int (2147483647 : Int32)), (.int s1), (.int (own_fl s1))])) (X86.ldcInt hx hown (mvT hZ (hw _ (List.mem_of_getElem? (i := 0) rfl))) (g := (mkF m 100 #[.val (.int p1), .val (.int p2), .val (.int p3), .val (.int p4), .val (.int s1), .val (.int s2), .val (.int s3), .val (.ref b74), .val (.ref b82), .val (.ref b84), .val (.ref b86)] [(.int s1), (.int (own_fl s1))])) rfl (hb hby at_100)) ?_
    by_cases c102_1 : s1 = (2147483647 : Int32)
    · refine own_go (T' := T86) (g' := (mkF m 109 #[.val (.int p1), .val (.int p2), .val (.int p3), .val (.int p4), .val (.int s1), .val (.int s2), .val (.int s3), .val (.ref b74), .val (.ref b82), .val (.ref b84), .val (.ref b86)] [(.int (own_fl s1))])) (fun t k => XS.icmpYes X86.here hx rfl (pc0 := 102) (pc' := 109) rfl (hb hby at_102) rfl (teq c102_1).1 (by decide) (by decide) k) ?_
      refine own_go (T' := T86) (g' := (mkF m 110 #[.val (.int p1), .val (.int p2), .val (.int p3), .val (.int p4), .val (.int s1), .val (.int s2), .val (.int s3), .val (.ref b74), .val (.ref b82), .val (.ref b84), .val (.ref b86)] [(.int (0 : Int32)), (.int (own_fl s1))])) (fun t k => XS.iconst X86.here hx rfl (hb hby at_109) k) ?_
      refine own_go (T' := T86) (g' := (mkF m 113 #[.val (.int p1), .val (.int p2), .val (.int p3), .val (.int p4), .val (.int s1), .val (.int s2), .val (.int s3), .val (.ref b74), .val (.ref b82), .val (.ref b84), .val (.ref b86)] [])) (fun t k => XS.icmpNo X86.here hx rfl (hb hby at_110) rfl (teq (own_fl0 c102_1)).2 k) ?_
      refine own_go (T' := T86) (g' := (mkF m 115 #[.val (.int p1), .val (.int p2), .val (.int p3), .val (.int p4), .val (.int s1), .val (.int s2), .val (.int s3), .val (.ref b74), .val (.ref b82), .val (.ref b84), .val (.ref b86)] [(.ref b86)])) (fun t k => XS.aload X86.here hx rfl (hb hby at_113) rfl rfl k) ?_
      refine own_go (T' := T86) (g' := (mkF m 116 #[.val (.int p1), .val (.int p2), .val (.int p3), .val (.int p4), .val (.int s1), .val (.int s2), .val (.int s3), .val (.ref b74), .val (.ref b82), .val (.ref b84), .val (.ref b86)] [(.int (1 : Int32)), (.ref b86)])) (fun t k => XS.iconst X86.here hx rfl (hb hby at_115) k) ?_
      obtain ⟨cl91, Ar91, q91, S91, P91, H91, G91⟩ := id V_b86
      have hin91 : ¬ ((1 : Int32) < 0 ∨ cl91.slots.size ≤ ((1 : Int32)).toNatClampNeg) := inb_of S91 ⟨by decide, by decide⟩
      refine own_go (T' := T86) (g' := (mkF m 117 #[.val (.int p1), .val (.int p2), .val (.int p3), .val (.int p4), .val (.int s1), .val (.int s2), .val (.int s3), .val (.ref b74), .val (.ref b82), .val (.ref b84), .val (.ref b86)] [(.int (own_fl s2))])) (X86.baloadBooleans hx (j := (1 : Int32)) (v := (.int (own_fl s2))) Ar91.1 (State.isArrayOf_alike hZ.alike Ar91.2.1) Ar91.2.2 hin91 (H91.at hin91 rfl) (g := (mkF m 116 #[.val (.int p1), .val (.int p2), .val (.int p3), .val (.int p4), .val (.int s1), .val (.int s2), .val (.int s3), .val (.ref b74), .val (.ref b82), .val (.ref b84), .val (.ref b86)] [(.int (1 : Int32)), (.ref b86)])) rfl rfl (hb hby at_116)) ?_
      refine own_go (T' := T86) (g' := (mkF m 119 #[.val (.int p1), .val (.int p2), .val (.int p3), .val (.int p4), .val (.int s1), .val (.int s2), .val (.int s3), .val (.ref b74), .val (.ref b82), .val (.ref b84), .val (.ref b86)] [(.int s2), (.int (own_fl s2))])) (fun t k => XS.iload X86.here hx rfl (hb hby at_117) rfl k) ?_
      refine own_go (T' := T86) (g' := (mkF m 121 #[.val (.int p1), .val (.int p2), .val (.int p3), .val (.int p4), .val (.int s1), .val (.int s2), .val (.int s3), .val (.ref b74), .val (.ref b82), .val (.ref b84), .val (.ref b86)] [(.int (2147483647 : Int32)), (.int s2), (.int (own_fl s2))])) (X86.ldcInt hx hown (mvT hZ (hw _ (List.mem_of_getElem? (i := 0) rfl))) (g := (mkF m 119 #[.val (.int p1), .val (.int p2), .val (.int p3), .val (.int p4), .val (.int s1), .val (.int s2), .val (.int s3), .val (.ref b74), .val (.ref b82), .val (.ref b84), .val (.ref b86)] [(.int s2), (.int (own_fl s2))])) rfl (hb hby at_119)) ?_
      by_cases c121_2 : s2 = (2147483647 : Int32)
      · refine own_go (T' := T86) (g' := (mkF m 128 #[.val (.int p1), .val (.int p2), .val (.int p3), .val (.int p4), .val (.int s1), .val (.int s2), .val (.int s3), .val (.ref b74), .val (.ref b82), .val (.ref b84), .val (.ref b86)] [(.int (own_fl s2))])) (fun t k => XS.icmpYes X86.here hx rfl (pc0 := 121) (pc' := 128) rfl (hb hby at_121) rfl (teq c121_2).1 (by decide) (by decide) k) ?_
        refine own_go (T' := T86) (g' := (mkF m 129 #[.val (.int p1), .val (.int p2), .val (.int p3), .val (.int p4), .val (.int s1), .val (.int s2), .val (.int s3), .val (.ref b74), .val (.ref b82), .val (.ref b84), .val (.ref b86)] [(.int (0 : Int32)), (.int (own_fl s2))])) (fun t k => XS.iconst X86.here hx rfl (hb hby at_128) k) ?_
        refine own_go (T' := T86) (g' := (mkF m 132 #[.val (.int p1), .val (.int p2), .val (.int p3), .val (.int p4), .val (.int s1), .val (.int s2), .val (.int s3), .val (.ref b74), .val (.ref b82), .val (.ref b84), .val (.ref b86)] [])) (fun t k => XS.icmpNo X86.here hx rfl (hb hby at_129) rfl (teq (own_fl0 c121_2)).2 k) ?_
        refine own_go (T' := T86) (g' := (mkF m 134 #[.val (.int p1), .val (.int p2), .val (.int p3), .val (.int p4), .val (.int s1), .val (.int s2), .val (.int s3), .val (.ref b74), .val (.ref b82), .val (.ref b84), .val (.ref b86)] [(.ref b86)])) (fun t k => XS.aload X86.here hx rfl (hb hby at_132) rfl rfl k) ?_
        refine own_go (T' := T86) (g' := (mkF m 135 #[.val (.int p1), .val (.int p2), .val (.int p3), .val (.int p4), .val (.int s1), .val (.int s2), .val (.int s3), .val (.ref b74), .val (.ref b82), .val (.ref b84), .val (.ref b86)] [(.int (2 : Int32)), (.ref b86)])) (fun t k => XS.iconst X86.here hx rfl (hb hby at_134) k) ?_
        obtain ⟨cl92, Ar92, q92, S92, P92, H92, G92⟩ := id V_b86
        have hin92 : ¬ ((2 : Int32) < 0 ∨ cl92.slots.size ≤ ((2 : Int32)).toNatClampNeg) := inb_of S92 ⟨by decide, by decide⟩
        refine own_go (T' := T86) (g' := (mkF m 136 #[.val (.int p1), .val (.int p2), .val (.int p3), .val (.int p4), .val (.int s1), .val (.int s2), .val (.int s3), .val (.ref b74), .val (.ref b82), .val (.ref b84), .val (.ref b86)] [(.int (own_fl s3))])) (X86.baloadBooleans hx (j := (2 : Int32)) (v := (.int (own_fl s3))) Ar92.1 (State.isArrayOf_alike hZ.alike Ar92.2.1) Ar92.2.2 hin92 (H92.at hin92 rfl) (g := (mkF m 135 #[.val (.int p1), .val (.int p2), .val (.int p3), .val (.int p4), .val (.int s1), .val (.int s2), .val (.int s3), .val (.ref b74), .val (.ref b82), .val (.ref b84), .val (.ref b86)] [(.int (2 : Int32)), (.ref b86)])) rfl rfl (hb hby at_135)) ?_
        refine own_go (T' := T86) (g' := (mkF m 138 #[.val (.int p1), .val (.int p2), .val (.int p3), .val (.int p4), .val (.int s1), .val (.int s2), .val (.int s3), .val (.ref b74), .val (.ref b82), .val (.ref b84), .val (.ref b86)] [(.int s3), (.int (own_fl s3))])) (fun t k => XS.iload X86.here hx rfl (hb hby at_136) rfl k) ?_
        refine own_go (T' := T86) (g' := (mkF m 140 #[.val (.int p1), .val (.int p2), .val (.int p3), .val (.int p4), .val (.int s1), .val (.int s2), .val (.int s3), .val (.ref b74), .val (.ref b82), .val (.ref b84), .val (.ref b86)] [(.int (2147483647 : Int32)), (.int s3), (.int (own_fl s3))])) (X86.ldcInt hx hown (mvT hZ (hw _ (List.mem_of_getElem? (i := 0) rfl))) (g := (mkF m 138 #[.val (.int p1), .val (.int p2), .val (.int p3), .val (.int p4), .val (.int s1), .val (.int s2), .val (.int s3), .val (.ref b74), .val (.ref b82), .val (.ref b84), .val (.ref b86)] [(.int s3), (.int (own_fl s3))])) rfl (hb hby at_138)) ?_
        by_cases c140_3 : s3 = (2147483647 : Int32)
        · refine own_go (T' := T86) (g' := (mkF m 147 #[.val (.int p1), .val (.int p2), .val (.int p3), .val (.int p4), .val (.int s1), .val (.int s2), .val (.int s3), .val (.ref b74), .val (.ref b82), .val (.ref b84), .val (.ref b86)] [(.int (own_fl s3))])) (fun t k => XS.icmpYes X86.here hx rfl (pc0 := 140) (pc' := 147) rfl (hb hby at_140) rfl (teq c140_3).1 (by decide) (by decide) k) ?_
          refine own_go (T' := T86) (g' := (mkF m 148 #[.val (.int p1), .val (.int p2), .val (.int p3), .val (.int p4), .val (.int s1), .val (.int s2), .val (.int s3), .val (.ref b74), .val (.ref b82), .val (.ref b84), .val (.ref b86)] [(.int (0 : Int32)), (.int (own_fl s3))])) (fun t k => XS.iconst X86.here hx rfl (hb hby at_147) k) ?_
          refine own_go (T' := T86) (g' := (mkF m 151 #[.val (.int p1), .val (.int p2), .val (.int p3), .val (.int p4), .val (.int s1), .val (.int s2), .val (.int s3), .val (.ref b74), .val (.ref b82), .val (.ref b84), .val (.ref b86)] [])) (fun t k => XS.icmpNo X86.here hx rfl (hb hby at_148) rfl (teq (own_fl0 c140_3)).2 k) ?_
          refine own_go (T' := T86) (g' := (mkF m 153 #[.val (.int p1), .val (.int p2), .val (.int p3), .val (.int p4), .val (.int s1), .val (.int s2), .val (.int s3), .val (.ref b74), .val (.ref b82), .val (.ref b84), .val (.ref b86)] [(.ref b74)])) (fun t k => XS.aload X86.here hx rfl (hb hby at_151) rfl rfl k) ?_
          refine own_go (T' := T86) (g' := (mkF m 154 #[.val (.int p1), .val (.int p2), .val (.int p3), .val (.int p4), .val (.int s1), .val (.int s2), .val (.int s3), .val (.ref b74), .val (.ref b82), .val (.ref b84), .val (.ref b86)] [(.int (0 : Int32)), (.ref b74)])) (fun t k => XS.iconst X86.here hx rfl (hb hby at_153) k) ?_
          obtain ⟨cl93, Ar93, q93, S93, P93, H93, G93⟩ := id V_b74
          have hin93 : ¬ ((0 : Int32) < 0 ∨ cl93.slots.size ≤ ((0 : Int32)).toNatClampNeg) := inb_of S93 ⟨by decide, by decide⟩
          refine own_go (T' := T86) (g' := (mkF m 155 #[.val (.int p1), .val (.int p2), .val (.int p3), .val (.int p4), .val (.int s1), .val (.int s2), .val (.int s3), .val (.ref b74), .val (.ref b82), .val (.ref b84), .val (.ref b86)] [(.int s1)])) (X86.iaload hx (j := (0 : Int32)) (v := (.int s1)) Ar93.1 (State.isArrayOf_alike hZ.alike Ar93.2.1) Ar93.2.2 hin93 (H93.at hin93 rfl) (g := (mkF m 154 #[.val (.int p1), .val (.int p2), .val (.int p3), .val (.int p4), .val (.int s1), .val (.int s2), .val (.int s3), .val (.ref b74), .val (.ref b82), .val (.ref b84), .val (.ref b86)] [(.int (0 : Int32)), (.ref b74)])) rfl rfl (hb hby at_154)) ?_
          refine own_go (T' := T86) (g' := (mkF m 157 #[.val (.int p1), .val (.int p2), .val (.int p3), .val (.int p4), .val (.int s1), .val (.int s2), .val (.int s3), .val (.ref b74), .val (.ref b82), .val (.ref b84), .val (.ref b86)] [(.int s1), (.int s1)])) (fun t k => XS.iload X86.here hx rfl (hb hby at_155) rfl k) ?_
          refine own_go (T' := T86) (g' := (mkF m 160 #[.val (.int p1), .val (.int p2), .val (.int p3), .val (.int p4), .val (.int s1), .val (.int s2), .val (.int s3), .val (.ref b74), .val (.ref b82), .val (.ref b84), .val (.ref b86)] [])) (fun t k => XS.icmpNo X86.here hx rfl (hb hby at_157) rfl (teq (rfl : s1 = s1)).2 k) ?_
          refine own_go (T' := T86) (g' := (mkF m 162 #[.val (.int p1), .val (.int p2), .val (.int p3), .val (.int p4), .val (.int s1), .val (.int s2), .val (.int s3), .val (.ref b74), .val (.ref b82), .val (.ref b84), .val (.ref b86)] [(.ref b74)])) (fun t k => XS.aload X86.here hx rfl (hb hby at_160) rfl rfl k) ?_
          refine own_go (T' := T86) (g' := (mkF m 163 #[.val (.int p1), .val (.int p2), .val (.int p3), .val (.int p4), .val (.int s1), .val (.int s2), .val (.int s3), .val (.ref b74), .val (.ref b82), .val (.ref b84), .val (.ref b86)] [(.int (1 : Int32)), (.ref b74)])) (fun t k => XS.iconst X86.here hx rfl (hb hby at_162) k) ?_
          obtain ⟨cl94, Ar94, q94, S94, P94, H94, G94⟩ := id V_b74
          have hin94 : ¬ ((1 : Int32) < 0 ∨ cl94.slots.size ≤ ((1 : Int32)).toNatClampNeg) := inb_of S94 ⟨by decide, by decide⟩
          refine own_go (T' := T86) (g' := (mkF m 164 #[.val (.int p1), .val (.int p2), .val (.int p3), .val (.int p4), .val (.int s1), .val (.int s2), .val (.int s3), .val (.ref b74), .val (.ref b82), .val (.ref b84), .val (.ref b86)] [(.int s2)])) (X86.iaload hx (j := (1 : Int32)) (v := (.int s2)) Ar94.1 (State.isArrayOf_alike hZ.alike Ar94.2.1) Ar94.2.2 hin94 (H94.at hin94 rfl) (g := (mkF m 163 #[.val (.int p1), .val (.int p2), .val (.int p3), .val (.int p4), .val (.int s1), .val (.int s2), .val (.int s3), .val (.ref b74), .val (.ref b82), .val (.ref b84), .val (.ref b86)] [(.int (1 : Int32)), (.ref b74)])) rfl rfl (hb hby at_163)) ?_
          refine own_go (T' := T86) (g' := (mkF m 166 #[.val (.int p1), .val (.int p2), .val (.int p3), .val (.int p4), .val (.int s1), .val (.int s2), .val (.int s3), .val (.ref b74), .val (.ref b82), .val (.ref b84), .val (.ref b86)] [(.int s2), (.int s2)])) (fun t k => XS.iload X86.here hx rfl (hb hby at_164) rfl k) ?_
          refine own_go (T' := T86) (g' := (mkF m 169 #[.val (.int p1), .val (.int p2), .val (.int p3), .val (.int p4), .val (.int s1), .val (.int s2), .val (.int s3), .val (.ref b74), .val (.ref b82), .val (.ref b84), .val (.ref b86)] [])) (fun t k => XS.icmpNo X86.here hx rfl (hb hby at_166) rfl (teq (rfl : s2 = s2)).2 k) ?_
          refine own_go (T' := T86) (g' := (mkF m 171 #[.val (.int p1), .val (.int p2), .val (.int p3), .val (.int p4), .val (.int s1), .val (.int s2), .val (.int s3), .val (.ref b74), .val (.ref b82), .val (.ref b84), .val (.ref b86)] [(.ref b74)])) (fun t k => XS.aload X86.here hx rfl (hb hby at_169) rfl rfl k) ?_
          refine own_go (T' := T86) (g' := (mkF m 172 #[.val (.int p1), .val (.int p2), .val (.int p3), .val (.int p4), .val (.int s1), .val (.int s2), .val (.int s3), .val (.ref b74), .val (.ref b82), .val (.ref b84), .val (.ref b86)] [(.int (2 : Int32)), (.ref b74)])) (fun t k => XS.iconst X86.here hx rfl (hb hby at_171) k) ?_
          obtain ⟨cl95, Ar95, q95, S95, P95, H95, G95⟩ := id V_b74
          have hin95 : ¬ ((2 : Int32) < 0 ∨ cl95.slots.size ≤ ((2 : Int32)).toNatClampNeg) := inb_of S95 ⟨by decide, by decide⟩
          refine own_go (T' := T86) (g' := (mkF m 173 #[.val (.int p1), .val (.int p2), .val (.int p3), .val (.int p4), .val (.int s1), .val (.int s2), .val (.int s3), .val (.ref b74), .val (.ref b82), .val (.ref b84), .val (.ref b86)] [(.int s3)])) (X86.iaload hx (j := (2 : Int32)) (v := (.int s3)) Ar95.1 (State.isArrayOf_alike hZ.alike Ar95.2.1) Ar95.2.2 hin95 (H95.at hin95 rfl) (g := (mkF m 172 #[.val (.int p1), .val (.int p2), .val (.int p3), .val (.int p4), .val (.int s1), .val (.int s2), .val (.int s3), .val (.ref b74), .val (.ref b82), .val (.ref b84), .val (.ref b86)] [(.int (2 : Int32)), (.ref b74)])) rfl rfl (hb hby at_172)) ?_
          refine own_go (T' := T86) (g' := (mkF m 175 #[.val (.int p1), .val (.int p2), .val (.int p3), .val (.int p4), .val (.int s1), .val (.int s2), .val (.int s3), .val (.ref b74), .val (.ref b82), .val (.ref b84), .val (.ref b86)] [(.int s3), (.int s3)])) (fun t k => XS.iload X86.here hx rfl (hb hby at_173) rfl k) ?_
          refine own_go (T' := T86) (g' := (mkF m 178 #[.val (.int p1), .val (.int p2), .val (.int p3), .val (.int p4), .val (.int s1), .val (.int s2), .val (.int s3), .val (.ref b74), .val (.ref b82), .val (.ref b84), .val (.ref b86)] [])) (fun t k => XS.icmpNo X86.here hx rfl (hb hby at_175) rfl (teq (rfl : s3 = s3)).2 k) ?_
          refine own_go (T' := T86) (g' := (mkF m 179 #[.val (.int p1), .val (.int p2), .val (.int p3), .val (.int p4), .val (.int s1), .val (.int s2), .val (.int s3), .val (.ref b74), .val (.ref b82), .val (.ref b84), .val (.ref b86)] [(.int (1 : Int32))])) (fun t k => XS.iconst X86.here hx rfl (hb hby at_178) k) ?_
          refine own_go (T' := T86) (g' := (mkF m 183 #[.val (.int p1), .val (.int p2), .val (.int p3), .val (.int p4), .val (.int s1), .val (.int s2), .val (.int s3), .val (.ref b74), .val (.ref b82), .val (.ref b84), .val (.ref b86)] [(.int (1 : Int32))])) (fun t k => XS.goto X86.here hx rfl (pc0 := 179) (pc' := 183) rfl (hb hby at_179) (by decide) (by decide) k) ?_
          exact own_retZ X86 hx Bd.notSynchronized Bd.returns (hb hby at_183) rfl ⟨rfl, N86⟩ (by decide) (by decide)
        · refine own_go (T' := T86) (g' := (mkF m 143 #[.val (.int p1), .val (.int p2), .val (.int p3), .val (.int p4), .val (.int s1), .val (.int s2), .val (.int s3), .val (.ref b74), .val (.ref b82), .val (.ref b84), .val (.ref b86)] [(.int (own_fl s3))])) (fun t k => XS.icmpNo X86.here hx rfl (hb hby at_140) rfl (feq c140_3).1 k) ?_
          refine own_go (T' := T86) (g' := (mkF m 144 #[.val (.int p1), .val (.int p2), .val (.int p3), .val (.int p4), .val (.int s1), .val (.int s2), .val (.int s3), .val (.ref b74), .val (.ref b82), .val (.ref b84), .val (.ref b86)] [(.int (1 : Int32)), (.int (own_fl s3))])) (fun t k => XS.iconst X86.here hx rfl (hb hby at_143) k) ?_
          refine own_go (T' := T86) (g' := (mkF m 148 #[.val (.int p1), .val (.int p2), .val (.int p3), .val (.int p4), .val (.int s1), .val (.int s2), .val (.int s3), .val (.ref b74), .val (.ref b82), .val (.ref b84), .val (.ref b86)] [(.int (1 : Int32)), (.int (own_fl s3))])) (fun t k => XS.goto X86.here hx rfl (pc0 := 144) (pc' := 148) rfl (hb hby at_144) (by decide) (by decide) k) ?_
          refine own_go (T' := T86) (g' := (mkF m 151 #[.val (.int p1), .val (.int p2), .val (.int p3), .val (.int p4), .val (.int s1), .val (.int s2), .val (.int s3), .val (.ref b74), .val (.ref b82), .val (.ref b84), .val (.ref b86)] [])) (fun t k => XS.icmpNo X86.here hx rfl (hb hby at_148) rfl (teq (own_fl1 c140_3)).2 k) ?_
          refine own_go (T' := T86) (g' := (mkF m 153 #[.val (.int p1), .val (.int p2), .val (.int p3), .val (.int p4), .val (.int s1), .val (.int s2), .val (.int s3), .val (.ref b74), .val (.ref b82), .val (.ref b84), .val (.ref b86)] [(.ref b74)])) (fun t k => XS.aload X86.here hx rfl (hb hby at_151) rfl rfl k) ?_
          refine own_go (T' := T86) (g' := (mkF m 154 #[.val (.int p1), .val (.int p2), .val (.int p3), .val (.int p4), .val (.int s1), .val (.int s2), .val (.int s3), .val (.ref b74), .val (.ref b82), .val (.ref b84), .val (.ref b86)] [(.int (0 : Int32)), (.ref b74)])) (fun t k => XS.iconst X86.here hx rfl (hb hby at_153) k) ?_
          obtain ⟨cl96, Ar96, q96, S96, P96, H96, G96⟩ := id V_b74
          have hin96 : ¬ ((0 : Int32) < 0 ∨ cl96.slots.size ≤ ((0 : Int32)).toNatClampNeg) := inb_of S96 ⟨by decide, by decide⟩
          refine own_go (T' := T86) (g' := (mkF m 155 #[.val (.int p1), .val (.int p2), .val (.int p3), .val (.int p4), .val (.int s1), .val (.int s2), .val (.int s3), .val (.ref b74), .val (.ref b82), .val (.ref b84), .val (.ref b86)] [(.int s1)])) (X86.iaload hx (j := (0 : Int32)) (v := (.int s1)) Ar96.1 (State.isArrayOf_alike hZ.alike Ar96.2.1) Ar96.2.2 hin96 (H96.at hin96 rfl) (g := (mkF m 154 #[.val (.int p1), .val (.int p2), .val (.int p3), .val (.int p4), .val (.int s1), .val (.int s2), .val (.int s3), .val (.ref b74), .val (.ref b82), .val (.ref b84), .val (.ref b86)] [(.int (0 : Int32)), (.ref b74)])) rfl rfl (hb hby at_154)) ?_
          refine own_go (T' := T86) (g' := (mkF m 157 #[.val (.int p1), .val (.int p2), .val (.int p3), .val (.int p4), .val (.int s1), .val (.int s2), .val (.int s3), .val (.ref b74), .val (.ref b82), .val (.ref b84), .val (.ref b86)] [(.int s1), (.int s1)])) (fun t k => XS.iload X86.here hx rfl (hb hby at_155) rfl k) ?_
          refine own_go (T' := T86) (g' := (mkF m 160 #[.val (.int p1), .val (.int p2), .val (.int p3), .val (.int p4), .val (.int s1), .val (.int s2), .val (.int s3), .val (.ref b74), .val (.ref b82), .val (.ref b84), .val (.ref b86)] [])) (fun t k => XS.icmpNo X86.here hx rfl (hb hby at_157) rfl (teq (rfl : s1 = s1)).2 k) ?_
          refine own_go (T' := T86) (g' := (mkF m 162 #[.val (.int p1), .val (.int p2), .val (.int p3), .val (.int p4), .val (.int s1), .val (.int s2), .val (.int s3), .val (.ref b74), .val (.ref b82), .val (.ref b84), .val (.ref b86)] [(.ref b74)])) (fun t k => XS.aload X86.here hx rfl (hb hby at_160) rfl rfl k) ?_
          refine own_go (T' := T86) (g' := (mkF m 163 #[.val (.int p1), .val (.int p2), .val (.int p3), .val (.int p4), .val (.int s1), .val (.int s2), .val (.int s3), .val (.ref b74), .val (.ref b82), .val (.ref b84), .val (.ref b86)] [(.int (1 : Int32)), (.ref b74)])) (fun t k => XS.iconst X86.here hx rfl (hb hby at_162) k) ?_
          obtain ⟨cl97, Ar97, q97, S97, P97, H97, G97⟩ := id V_b74
          have hin97 : ¬ ((1 : Int32) < 0 ∨ cl97.slots.size ≤ ((1 : Int32)).toNatClampNeg) := inb_of S97 ⟨by decide, by decide⟩
          refine own_go (T' := T86) (g' := (mkF m 164 #[.val (.int p1), .val (.int p2), .val (.int p3), .val (.int p4), .val (.int s1), .val (.int s2), .val (.int s3), .val (.ref b74), .val (.ref b82), .val (.ref b84), .val (.ref b86)] [(.int s2)])) (X86.iaload hx (j := (1 : Int32)) (v := (.int s2)) Ar97.1 (State.isArrayOf_alike hZ.alike Ar97.2.1) Ar97.2.2 hin97 (H97.at hin97 rfl) (g := (mkF m 163 #[.val (.int p1), .val (.int p2), .val (.int p3), .val (.int p4), .val (.int s1), .val (.int s2), .val (.int s3), .val (.ref b74), .val (.ref b82), .val (.ref b84), .val (.ref b86)] [(.int (1 : Int32)), (.ref b74)])) rfl rfl (hb hby at_163)) ?_
          refine own_go (T' := T86) (g' := (mkF m 166 #[.val (.int p1), .val (.int p2), .val (.int p3), .val (.int p4), .val (.int s1), .val (.int s2), .val (.int s3), .val (.ref b74), .val (.ref b82), .val (.ref b84), .val (.ref b86)] [(.int s2), (.int s2)])) (fun t k => XS.iload X86.here hx rfl (hb hby at_164) rfl k) ?_
          refine own_go (T' := T86) (g' := (mkF m 169 #[.val (.int p1), .val (.int p2), .val (.int p3), .val (.int p4), .val (.int s1), .val (.int s2), .val (.int s3), .val (.ref b74), .val (.ref b82), .val (.ref b84), .val (.ref b86)] [])) (fun t k => XS.icmpNo X86.here hx rfl (hb hby at_166) rfl (teq (rfl : s2 = s2)).2 k) ?_
          refine own_go (T' := T86) (g' := (mkF m 171 #[.val (.int p1), .val (.int p2), .val (.int p3), .val (.int p4), .val (.int s1), .val (.int s2), .val (.int s3), .val (.ref b74), .val (.ref b82), .val (.ref b84), .val (.ref b86)] [(.ref b74)])) (fun t k => XS.aload X86.here hx rfl (hb hby at_169) rfl rfl k) ?_
          refine own_go (T' := T86) (g' := (mkF m 172 #[.val (.int p1), .val (.int p2), .val (.int p3), .val (.int p4), .val (.int s1), .val (.int s2), .val (.int s3), .val (.ref b74), .val (.ref b82), .val (.ref b84), .val (.ref b86)] [(.int (2 : Int32)), (.ref b74)])) (fun t k => XS.iconst X86.here hx rfl (hb hby at_171) k) ?_
          obtain ⟨cl98, Ar98, q98, S98, P98, H98, G98⟩ := id V_b74
          have hin98 : ¬ ((2 : Int32) < 0 ∨ cl98.slots.size ≤ ((2 : Int32)).toNatClampNeg) := inb_of S98 ⟨by decide, by decide⟩
          refine own_go (T' := T86) (g' := (mkF m 173 #[.val (.int p1), .val (.int p2), .val (.int p3), .val (.int p4), .val (.int s1), .val (.int s2), .val (.int s3), .val (.ref b74), .val (.ref b82), .val (.ref b84), .val (.ref b86)] [(.int s3)])) (X86.iaload hx (j := (2 : Int32)) (v := (.int s3)) Ar98.1 (State.isArrayOf_alike hZ.alike Ar98.2.1) Ar98.2.2 hin98 (H98.at hin98 rfl) (g := (mkF m 172 #[.val (.int p1), .val (.int p2), .val (.int p3), .val (.int p4), .val (.int s1), .val (.int s2), .val (.int s3), .val (.ref b74), .val (.ref b82), .val (.ref b84), .val (.ref b86)] [(.int (2 : Int32)), (.ref b74)])) rfl rfl (hb hby at_172)) ?_
          refine own_go (T' := T86) (g' := (mkF m 175 #[.val (.int p1), .val (.int p2), .val (.int p3), .val (.int p4), .val (.int s1), .val (.int s2), .val (.int s3), .val (.ref b74), .val (.ref b82), .val (.ref b84), .val (.ref b86)] [(.int s3), (.int s3)])) (fun t k => XS.iload X86.here hx rfl (hb hby at_173) rfl k) ?_
          refine own_go (T' := T86) (g' := (mkF m 178 #[.val (.int p1), .val (.int p2), .val (.int p3), .val (.int p4), .val (.int s1), .val (.int s2), .val (.int s3), .val (.ref b74), .val (.ref b82), .val (.ref b84), .val (.ref b86)] [])) (fun t k => XS.icmpNo X86.here hx rfl (hb hby at_175) rfl (teq (rfl : s3 = s3)).2 k) ?_
          refine own_go (T' := T86) (g' := (mkF m 179 #[.val (.int p1), .val (.int p2), .val (.int p3), .val (.int p4), .val (.int s1), .val (.int s2), .val (.int s3), .val (.ref b74), .val (.ref b82), .val (.ref b84), .val (.ref b86)] [(.int (1 : Int32))])) (fun t k => XS.iconst X86.here hx rfl (hb hby at_178) k) ?_
          refine own_go (T' := T86) (g' := (mkF m 183 #[.val (.int p1), .val (.int p2), .val (.int p3), .val (.int p4), .val (.int s1), .val (.int s2), .val (.int s3), .val (.ref b74), .val (.ref b82), .val (.ref b84), .val (.ref b86)] [(.int (1 : Int32))])) (fun t k => XS.goto X86.here hx rfl (pc0 := 179) (pc' := 183) rfl (hb hby at_179) (by decide) (by decide) k) ?_
          exact own_retZ X86 hx Bd.notSynchronized Bd.returns (hb hby at_183) rfl ⟨rfl, N86⟩ (by decide) (by decide)
      · refine own_go (T' := T86) (g' := (mkF m 124 #[.val (.int p1), .val (.int p2), .val (.int p3), .val (.int p4), .val (.int s1), .val (.int s2), .val (.int s3), .val (.ref b74), .val (.ref b82), .val (.ref b84), .val (.ref b86)] [(.int (own_fl s2))])) (fun t k => XS.icmpNo X86.here hx rfl (hb hby at_121) rfl (feq c121_2).1 k) ?_
        refine own_go (T' := T86) (g' := (mkF m 125 #[.val (.int p1), .val (.int p2), .val (.int p3), .val (.int p4), .val (.int s1), .val (.int s2), .val (.int s3), .val (.ref b74), .val (.ref b82), .val (.ref b84), .val (.ref b86)] [(.int (1 : Int32)), (.int (own_fl s2))])) (fun t k => XS.iconst X86.here hx rfl (hb hby at_124) k) ?_
        refine own_go (T' := T86) (g' := (mkF m 129 #[.val (.int p1), .val (.int p2), .val (.int p3), .val (.int p4), .val (.int s1), .val (.int s2), .val (.int s3), .val (.ref b74), .val (.ref b82), .val (.ref b84), .val (.ref b86)] [(.int (1 : Int32)), (.int (own_fl s2))])) (fun t k => XS.goto X86.here hx rfl (pc0 := 125) (pc' := 129) rfl (hb hby at_125) (by decide) (by decide) k) ?_
        refine own_go (T' := T86) (g' := (mkF m 132 #[.val (.int p1), .val (.int p2), .val (.int p3), .val (.int p4), .val (.int s1), .val (.int s2), .val (.int s3), .val (.ref b74), .val (.ref b82), .val (.ref b84), .val (.ref b86)] [])) (fun t k => XS.icmpNo X86.here hx rfl (hb hby at_129) rfl (teq (own_fl1 c121_2)).2 k) ?_
        refine own_go (T' := T86) (g' := (mkF m 134 #[.val (.int p1), .val (.int p2), .val (.int p3), .val (.int p4), .val (.int s1), .val (.int s2), .val (.int s3), .val (.ref b74), .val (.ref b82), .val (.ref b84), .val (.ref b86)] [(.ref b86)])) (fun t k => XS.aload X86.here hx rfl (hb hby at_132) rfl rfl k) ?_
        refine own_go (T' := T86) (g' := (mkF m 135 #[.val (.int p1), .val (.int p2), .val (.int p3), .val (.int p4), .val (.int s1), .val (.int s2), .val (.int s3), .val (.ref b74), .val (.ref b82), .val (.ref b84), .val (.ref b86)] [(.int (2 : Int32)), (.ref b86)])) (fun t k => XS.iconst X86.here hx rfl (hb hby at_134) k) ?_
        obtain ⟨cl99, Ar99, q99, S99, P99, H99, G99⟩ := id V_b86
        have hin99 : ¬ ((2 : Int32) < 0 ∨ cl99.slots.size ≤ ((2 : Int32)).toNatClampNeg) := inb_of S99 ⟨by decide, by decide⟩
        refine own_go (T' := T86) (g' := (mkF m 136 #[.val (.int p1), .val (.int p2), .val (.int p3), .val (.int p4), .val (.int s1), .val (.int s2), .val (.int s3), .val (.ref b74), .val (.ref b82), .val (.ref b84), .val (.ref b86)] [(.int (own_fl s3))])) (X86.baloadBooleans hx (j := (2 : Int32)) (v := (.int (own_fl s3))) Ar99.1 (State.isArrayOf_alike hZ.alike Ar99.2.1) Ar99.2.2 hin99 (H99.at hin99 rfl) (g := (mkF m 135 #[.val (.int p1), .val (.int p2), .val (.int p3), .val (.int p4), .val (.int s1), .val (.int s2), .val (.int s3), .val (.ref b74), .val (.ref b82), .val (.ref b84), .val (.ref b86)] [(.int (2 : Int32)), (.ref b86)])) rfl rfl (hb hby at_135)) ?_
        refine own_go (T' := T86) (g' := (mkF m 138 #[.val (.int p1), .val (.int p2), .val (.int p3), .val (.int p4), .val (.int s1), .val (.int s2), .val (.int s3), .val (.ref b74), .val (.ref b82), .val (.ref b84), .val (.ref b86)] [(.int s3), (.int (own_fl s3))])) (fun t k => XS.iload X86.here hx rfl (hb hby at_136) rfl k) ?_
        refine own_go (T' := T86) (g' := (mkF m 140 #[.val (.int p1), .val (.int p2), .val (.int p3), .val (.int p4), .val (.int s1), .val (.int s2), .val (.int s3), .val (.ref b74), .val (.ref b82), .val (.ref b84), .val (.ref b86)] [(.int (2147483647 : Int32)), (.int s3), (.int (own_fl s3))])) (X86.ldcInt hx hown (mvT hZ (hw _ (List.mem_of_getElem? (i := 0) rfl))) (g := (mkF m 138 #[.val (.int p1), .val (.int p2), .val (.int p3), .val (.int p4), .val (.int s1), .val (.int s2), .val (.int s3), .val (.ref b74), .val (.ref b82), .val (.ref b84), .val (.ref b86)] [(.int s3), (.int (own_fl s3))])) rfl (hb hby at_138)) ?_
        by_cases c140_4 : s3 = (2147483647 : Int32)
        · refine own_go (T' := T86) (g' := (mkF m 147 #[.val (.int p1), .val (.int p2), .val (.int p3), .val (.int p4), .val (.int s1), .val (.int s2), .val (.int s3), .val (.ref b74), .val (.ref b82), .val (.ref b84), .val (.ref b86)] [(.int (own_fl s3))])) (fun t k => XS.icmpYes X86.here hx rfl (pc0 := 140) (pc' := 147) rfl (hb hby at_140) rfl (teq c140_4).1 (by decide) (by decide) k) ?_
          refine own_go (T' := T86) (g' := (mkF m 148 #[.val (.int p1), .val (.int p2), .val (.int p3), .val (.int p4), .val (.int s1), .val (.int s2), .val (.int s3), .val (.ref b74), .val (.ref b82), .val (.ref b84), .val (.ref b86)] [(.int (0 : Int32)), (.int (own_fl s3))])) (fun t k => XS.iconst X86.here hx rfl (hb hby at_147) k) ?_
          refine own_go (T' := T86) (g' := (mkF m 151 #[.val (.int p1), .val (.int p2), .val (.int p3), .val (.int p4), .val (.int s1), .val (.int s2), .val (.int s3), .val (.ref b74), .val (.ref b82), .val (.ref b84), .val (.ref b86)] [])) (fun t k => XS.icmpNo X86.here hx rfl (hb hby at_148) rfl (teq (own_fl0 c140_4)).2 k) ?_
          refine own_go (T' := T86) (g' := (mkF m 153 #[.val (.int p1), .val (.int p2), .val (.int p3), .val (.int p4), .val (.int s1), .val (.int s2), .val (.int s3), .val (.ref b74), .val (.ref b82), .val (.ref b84), .val (.ref b86)] [(.ref b74)])) (fun t k => XS.aload X86.here hx rfl (hb hby at_151) rfl rfl k) ?_
          refine own_go (T' := T86) (g' := (mkF m 154 #[.val (.int p1), .val (.int p2), .val (.int p3), .val (.int p4), .val (.int s1), .val (.int s2), .val (.int s3), .val (.ref b74), .val (.ref b82), .val (.ref b84), .val (.ref b86)] [(.int (0 : Int32)), (.ref b74)])) (fun t k => XS.iconst X86.here hx rfl (hb hby at_153) k) ?_
          obtain ⟨cl100, Ar100, q100, S100, P100, H100, G100⟩ := id V_b74
          have hin100 : ¬ ((0 : Int32) < 0 ∨ cl100.slots.size ≤ ((0 : Int32)).toNatClampNeg) := inb_of S100 ⟨by decide, by decide⟩
          refine own_go (T' := T86) (g' := (mkF m 155 #[.val (.int p1), .val (.int p2), .val (.int p3), .val (.int p4), .val (.int s1), .val (.int s2), .val (.int s3), .val (.ref b74), .val (.ref b82), .val (.ref b84), .val (.ref b86)] [(.int s1)])) (X86.iaload hx (j := (0 : Int32)) (v := (.int s1)) Ar100.1 (State.isArrayOf_alike hZ.alike Ar100.2.1) Ar100.2.2 hin100 (H100.at hin100 rfl) (g := (mkF m 154 #[.val (.int p1), .val (.int p2), .val (.int p3), .val (.int p4), .val (.int s1), .val (.int s2), .val (.int s3), .val (.ref b74), .val (.ref b82), .val (.ref b84), .val (.ref b86)] [(.int (0 : Int32)), (.ref b74)])) rfl rfl (hb hby at_154)) ?_
          refine own_go (T' := T86) (g' := (mkF m 157 #[.val (.int p1), .val (.int p2), .val (.int p3), .val (.int p4), .val (.int s1), .val (.int s2), .val (.int s3), .val (.ref b74), .val (.ref b82), .val (.ref b84), .val (.ref b86)] [(.int s1), (.int s1)])) (fun t k => XS.iload X86.here hx rfl (hb hby at_155) rfl k) ?_
          refine own_go (T' := T86) (g' := (mkF m 160 #[.val (.int p1), .val (.int p2), .val (.int p3), .val (.int p4), .val (.int s1), .val (.int s2), .val (.int s3), .val (.ref b74), .val (.ref b82), .val (.ref b84), .val (.ref b86)] [])) (fun t k => XS.icmpNo X86.here hx rfl (hb hby at_157) rfl (teq (rfl : s1 = s1)).2 k) ?_
          refine own_go (T' := T86) (g' := (mkF m 162 #[.val (.int p1), .val (.int p2), .val (.int p3), .val (.int p4), .val (.int s1), .val (.int s2), .val (.int s3), .val (.ref b74), .val (.ref b82), .val (.ref b84), .val (.ref b86)] [(.ref b74)])) (fun t k => XS.aload X86.here hx rfl (hb hby at_160) rfl rfl k) ?_
          refine own_go (T' := T86) (g' := (mkF m 163 #[.val (.int p1), .val (.int p2), .val (.int p3), .val (.int p4), .val (.int s1), .val (.int s2), .val (.int s3), .val (.ref b74), .val (.ref b82), .val (.ref b84), .val (.ref b86)] [(.int (1 : Int32)), (.ref b74)])) (fun t k => XS.iconst X86.here hx rfl (hb hby at_162) k) ?_
          obtain ⟨cl101, Ar101, q101, S101, P101, H101, G101⟩ := id V_b74
          have hin101 : ¬ ((1 : Int32) < 0 ∨ cl101.slots.size ≤ ((1 : Int32)).toNatClampNeg) := inb_of S101 ⟨by decide, by decide⟩
          refine own_go (T' := T86) (g' := (mkF m 164 #[.val (.int p1), .val (.int p2), .val (.int p3), .val (.int p4), .val (.int s1), .val (.int s2), .val (.int s3), .val (.ref b74), .val (.ref b82), .val (.ref b84), .val (.ref b86)] [(.int s2)])) (X86.iaload hx (j := (1 : Int32)) (v := (.int s2)) Ar101.1 (State.isArrayOf_alike hZ.alike Ar101.2.1) Ar101.2.2 hin101 (H101.at hin101 rfl) (g := (mkF m 163 #[.val (.int p1), .val (.int p2), .val (.int p3), .val (.int p4), .val (.int s1), .val (.int s2), .val (.int s3), .val (.ref b74), .val (.ref b82), .val (.ref b84), .val (.ref b86)] [(.int (1 : Int32)), (.ref b74)])) rfl rfl (hb hby at_163)) ?_
          refine own_go (T' := T86) (g' := (mkF m 166 #[.val (.int p1), .val (.int p2), .val (.int p3), .val (.int p4), .val (.int s1), .val (.int s2), .val (.int s3), .val (.ref b74), .val (.ref b82), .val (.ref b84), .val (.ref b86)] [(.int s2), (.int s2)])) (fun t k => XS.iload X86.here hx rfl (hb hby at_164) rfl k) ?_
          refine own_go (T' := T86) (g' := (mkF m 169 #[.val (.int p1), .val (.int p2), .val (.int p3), .val (.int p4), .val (.int s1), .val (.int s2), .val (.int s3), .val (.ref b74), .val (.ref b82), .val (.ref b84), .val (.ref b86)] [])) (fun t k => XS.icmpNo X86.here hx rfl (hb hby at_166) rfl (teq (rfl : s2 = s2)).2 k) ?_
          refine own_go (T' := T86) (g' := (mkF m 171 #[.val (.int p1), .val (.int p2), .val (.int p3), .val (.int p4), .val (.int s1), .val (.int s2), .val (.int s3), .val (.ref b74), .val (.ref b82), .val (.ref b84), .val (.ref b86)] [(.ref b74)])) (fun t k => XS.aload X86.here hx rfl (hb hby at_169) rfl rfl k) ?_
          refine own_go (T' := T86) (g' := (mkF m 172 #[.val (.int p1), .val (.int p2), .val (.int p3), .val (.int p4), .val (.int s1), .val (.int s2), .val (.int s3), .val (.ref b74), .val (.ref b82), .val (.ref b84), .val (.ref b86)] [(.int (2 : Int32)), (.ref b74)])) (fun t k => XS.iconst X86.here hx rfl (hb hby at_171) k) ?_
          obtain ⟨cl102, Ar102, q102, S102, P102, H102, G102⟩ := id V_b74
          have hin102 : ¬ ((2 : Int32) < 0 ∨ cl102.slots.size ≤ ((2 : Int32)).toNatClampNeg) := inb_of S102 ⟨by decide, by decide⟩
          refine own_go (T' := T86) (g' := (mkF m 173 #[.val (.int p1), .val (.int p2), .val (.int p3), .val (.int p4), .val (.int s1), .val (.int s2), .val (.int s3), .val (.ref b74), .val (.ref b82), .val (.ref b84), .val (.ref b86)] [(.int s3)])) (X86.iaload hx (j := (2 : Int32)) (v := (.int s3)) Ar102.1 (State.isArrayOf_alike hZ.alike Ar102.2.1) Ar102.2.2 hin102 (H102.at hin102 rfl) (g := (mkF m 172 #[.val (.int p1), .val (.int p2), .val (.int p3), .val (.int p4), .val (.int s1), .val (.int s2), .val (.int s3), .val (.ref b74), .val (.ref b82), .val (.ref b84), .val (.ref b86)] [(.int (2 : Int32)), (.ref b74)])) rfl rfl (hb hby at_172)) ?_
          refine own_go (T' := T86) (g' := (mkF m 175 #[.val (.int p1), .val (.int p2), .val (.int p3), .val (.int p4), .val (.int s1), .val (.int s2), .val (.int s3), .val (.ref b74), .val (.ref b82), .val (.ref b84), .val (.ref b86)] [(.int s3), (.int s3)])) (fun t k => XS.iload X86.here hx rfl (hb hby at_173) rfl k) ?_
          refine own_go (T' := T86) (g' := (mkF m 178 #[.val (.int p1), .val (.int p2), .val (.int p3), .val (.int p4), .val (.int s1), .val (.int s2), .val (.int s3), .val (.ref b74), .val (.ref b82), .val (.ref b84), .val (.ref b86)] [])) (fun t k => XS.icmpNo X86.here hx rfl (hb hby at_175) rfl (teq (rfl : s3 = s3)).2 k) ?_
          refine own_go (T' := T86) (g' := (mkF m 179 #[.val (.int p1), .val (.int p2), .val (.int p3), .val (.int p4), .val (.int s1), .val (.int s2), .val (.int s3), .val (.ref b74), .val (.ref b82), .val (.ref b84), .val (.ref b86)] [(.int (1 : Int32))])) (fun t k => XS.iconst X86.here hx rfl (hb hby at_178) k) ?_
          refine own_go (T' := T86) (g' := (mkF m 183 #[.val (.int p1), .val (.int p2), .val (.int p3), .val (.int p4), .val (.int s1), .val (.int s2), .val (.int s3), .val (.ref b74), .val (.ref b82), .val (.ref b84), .val (.ref b86)] [(.int (1 : Int32))])) (fun t k => XS.goto X86.here hx rfl (pc0 := 179) (pc' := 183) rfl (hb hby at_179) (by decide) (by decide) k) ?_
          exact own_retZ X86 hx Bd.notSynchronized Bd.returns (hb hby at_183) rfl ⟨rfl, N86⟩ (by decide) (by decide)
        · refine own_go (T' := T86) (g' := (mkF m 143 #[.val (.int p1), .val (.int p2), .val (.int p3), .val (.int p4), .val (.int s1), .val (.int s2), .val (.int s3), .val (.ref b74), .val (.ref b82), .val (.ref b84), .val (.ref b86)] [(.int (own_fl s3))])) (fun t k => XS.icmpNo X86.here hx rfl (hb hby at_140) rfl (feq c140_4).1 k) ?_
          refine own_go (T' := T86) (g' := (mkF m 144 #[.val (.int p1), .val (.int p2), .val (.int p3), .val (.int p4), .val (.int s1), .val (.int s2), .val (.int s3), .val (.ref b74), .val (.ref b82), .val (.ref b84), .val (.ref b86)] [(.int (1 : Int32)), (.int (own_fl s3))])) (fun t k => XS.iconst X86.here hx rfl (hb hby at_143) k) ?_
          refine own_go (T' := T86) (g' := (mkF m 148 #[.val (.int p1), .val (.int p2), .val (.int p3), .val (.int p4), .val (.int s1), .val (.int s2), .val (.int s3), .val (.ref b74), .val (.ref b82), .val (.ref b84), .val (.ref b86)] [(.int (1 : Int32)), (.int (own_fl s3))])) (fun t k => XS.goto X86.here hx rfl (pc0 := 144) (pc' := 148) rfl (hb hby at_144) (by decide) (by decide) k) ?_
          refine own_go (T' := T86) (g' := (mkF m 151 #[.val (.int p1), .val (.int p2), .val (.int p3), .val (.int p4), .val (.int s1), .val (.int s2), .val (.int s3), .val (.ref b74), .val (.ref b82), .val (.ref b84), .val (.ref b86)] [])) (fun t k => XS.icmpNo X86.here hx rfl (hb hby at_148) rfl (teq (own_fl1 c140_4)).2 k) ?_
          refine own_go (T' := T86) (g' := (mkF m 153 #[.val (.int p1), .val (.int p2), .val (.int p3), .val (.int p4), .val (.int s1), .val (.int s2), .val (.int s3), .val (.ref b74), .val (.ref b82), .val (.ref b84), .val (.ref b86)] [(.ref b74)])) (fun t k => XS.aload X86.here hx rfl (hb hby at_151) rfl rfl k) ?_
          refine own_go (T' := T86) (g' := (mkF m 154 #[.val (.int p1), .val (.int p2), .val (.int p3), .val (.int p4), .val (.int s1), .val (.int s2), .val (.int s3), .val (.ref b74), .val (.ref b82), .val (.ref b84), .val (.ref b86)] [(.int (0 : Int32)), (.ref b74)])) (fun t k => XS.iconst X86.here hx rfl (hb hby at_153) k) ?_
          obtain ⟨cl103, Ar103, q103, S103, P103, H103, G103⟩ := id V_b74
          have hin103 : ¬ ((0 : Int32) < 0 ∨ cl103.slots.size ≤ ((0 : Int32)).toNatClampNeg) := inb_of S103 ⟨by decide, by decide⟩
          refine own_go (T' := T86) (g' := (mkF m 155 #[.val (.int p1), .val (.int p2), .val (.int p3), .val (.int p4), .val (.int s1), .val (.int s2), .val (.int s3), .val (.ref b74), .val (.ref b82), .val (.ref b84), .val (.ref b86)] [(.int s1)])) (X86.iaload hx (j := (0 : Int32)) (v := (.int s1)) Ar103.1 (State.isArrayOf_alike hZ.alike Ar103.2.1) Ar103.2.2 hin103 (H103.at hin103 rfl) (g := (mkF m 154 #[.val (.int p1), .val (.int p2), .val (.int p3), .val (.int p4), .val (.int s1), .val (.int s2), .val (.int s3), .val (.ref b74), .val (.ref b82), .val (.ref b84), .val (.ref b86)] [(.int (0 : Int32)), (.ref b74)])) rfl rfl (hb hby at_154)) ?_
          refine own_go (T' := T86) (g' := (mkF m 157 #[.val (.int p1), .val (.int p2), .val (.int p3), .val (.int p4), .val (.int s1), .val (.int s2), .val (.int s3), .val (.ref b74), .val (.ref b82), .val (.ref b84), .val (.ref b86)] [(.int s1), (.int s1)])) (fun t k => XS.iload X86.here hx rfl (hb hby at_155) rfl k) ?_
          refine own_go (T' := T86) (g' := (mkF m 160 #[.val (.int p1), .val (.int p2), .val (.int p3), .val (.int p4), .val (.int s1), .val (.int s2), .val (.int s3), .val (.ref b74), .val (.ref b82), .val (.ref b84), .val (.ref b86)] [])) (fun t k => XS.icmpNo X86.here hx rfl (hb hby at_157) rfl (teq (rfl : s1 = s1)).2 k) ?_
          refine own_go (T' := T86) (g' := (mkF m 162 #[.val (.int p1), .val (.int p2), .val (.int p3), .val (.int p4), .val (.int s1), .val (.int s2), .val (.int s3), .val (.ref b74), .val (.ref b82), .val (.ref b84), .val (.ref b86)] [(.ref b74)])) (fun t k => XS.aload X86.here hx rfl (hb hby at_160) rfl rfl k) ?_
          refine own_go (T' := T86) (g' := (mkF m 163 #[.val (.int p1), .val (.int p2), .val (.int p3), .val (.int p4), .val (.int s1), .val (.int s2), .val (.int s3), .val (.ref b74), .val (.ref b82), .val (.ref b84), .val (.ref b86)] [(.int (1 : Int32)), (.ref b74)])) (fun t k => XS.iconst X86.here hx rfl (hb hby at_162) k) ?_
          obtain ⟨cl104, Ar104, q104, S104, P104, H104, G104⟩ := id V_b74
          have hin104 : ¬ ((1 : Int32) < 0 ∨ cl104.slots.size ≤ ((1 : Int32)).toNatClampNeg) := inb_of S104 ⟨by decide, by decide⟩
          refine own_go (T' := T86) (g' := (mkF m 164 #[.val (.int p1), .val (.int p2), .val (.int p3), .val (.int p4), .val (.int s1), .val (.int s2), .val (.int s3), .val (.ref b74), .val (.ref b82), .val (.ref b84), .val (.ref b86)] [(.int s2)])) (X86.iaload hx (j := (1 : Int32)) (v := (.int s2)) Ar104.1 (State.isArrayOf_alike hZ.alike Ar104.2.1) Ar104.2.2 hin104 (H104.at hin104 rfl) (g := (mkF m 163 #[.val (.int p1), .val (.int p2), .val (.int p3), .val (.int p4), .val (.int s1), .val (.int s2), .val (.int s3), .val (.ref b74), .val (.ref b82), .val (.ref b84), .val (.ref b86)] [(.int (1 : Int32)), (.ref b74)])) rfl rfl (hb hby at_163)) ?_
          refine own_go (T' := T86) (g' := (mkF m 166 #[.val (.int p1), .val (.int p2), .val (.int p3), .val (.int p4), .val (.int s1), .val (.int s2), .val (.int s3), .val (.ref b74), .val (.ref b82), .val (.ref b84), .val (.ref b86)] [(.int s2), (.int s2)])) (fun t k => XS.iload X86.here hx rfl (hb hby at_164) rfl k) ?_
          refine own_go (T' := T86) (g' := (mkF m 169 #[.val (.int p1), .val (.int p2), .val (.int p3), .val (.int p4), .val (.int s1), .val (.int s2), .val (.int s3), .val (.ref b74), .val (.ref b82), .val (.ref b84), .val (.ref b86)] [])) (fun t k => XS.icmpNo X86.here hx rfl (hb hby at_166) rfl (teq (rfl : s2 = s2)).2 k) ?_
          refine own_go (T' := T86) (g' := (mkF m 171 #[.val (.int p1), .val (.int p2), .val (.int p3), .val (.int p4), .val (.int s1), .val (.int s2), .val (.int s3), .val (.ref b74), .val (.ref b82), .val (.ref b84), .val (.ref b86)] [(.ref b74)])) (fun t k => XS.aload X86.here hx rfl (hb hby at_169) rfl rfl k) ?_
          refine own_go (T' := T86) (g' := (mkF m 172 #[.val (.int p1), .val (.int p2), .val (.int p3), .val (.int p4), .val (.int s1), .val (.int s2), .val (.int s3), .val (.ref b74), .val (.ref b82), .val (.ref b84), .val (.ref b86)] [(.int (2 : Int32)), (.ref b74)])) (fun t k => XS.iconst X86.here hx rfl (hb hby at_171) k) ?_
          obtain ⟨cl105, Ar105, q105, S105, P105, H105, G105⟩ := id V_b74
          have hin105 : ¬ ((2 : Int32) < 0 ∨ cl105.slots.size ≤ ((2 : Int32)).toNatClampNeg) := inb_of S105 ⟨by decide, by decide⟩
          refine own_go (T' := T86) (g' := (mkF m 173 #[.val (.int p1), .val (.int p2), .val (.int p3), .val (.int p4), .val (.int s1), .val (.int s2), .val (.int s3), .val (.ref b74), .val (.ref b82), .val (.ref b84), .val (.ref b86)] [(.int s3)])) (X86.iaload hx (j := (2 : Int32)) (v := (.int s3)) Ar105.1 (State.isArrayOf_alike hZ.alike Ar105.2.1) Ar105.2.2 hin105 (H105.at hin105 rfl) (g := (mkF m 172 #[.val (.int p1), .val (.int p2), .val (.int p3), .val (.int p4), .val (.int s1), .val (.int s2), .val (.int s3), .val (.ref b74), .val (.ref b82), .val (.ref b84), .val (.ref b86)] [(.int (2 : Int32)), (.ref b74)])) rfl rfl (hb hby at_172)) ?_
          refine own_go (T' := T86) (g' := (mkF m 175 #[.val (.int p1), .val (.int p2), .val (.int p3), .val (.int p4), .val (.int s1), .val (.int s2), .val (.int s3), .val (.ref b74), .val (.ref b82), .val (.ref b84), .val (.ref b86)] [(.int s3), (.int s3)])) (fun t k => XS.iload X86.here hx rfl (hb hby at_173) rfl k) ?_
          refine own_go (T' := T86) (g' := (mkF m 178 #[.val (.int p1), .val (.int p2), .val (.int p3), .val (.int p4), .val (.int s1), .val (.int s2), .val (.int s3), .val (.ref b74), .val (.ref b82), .val (.ref b84), .val (.ref b86)] [])) (fun t k => XS.icmpNo X86.here hx rfl (hb hby at_175) rfl (teq (rfl : s3 = s3)).2 k) ?_
          refine own_go (T' := T86) (g' := (mkF m 179 #[.val (.int p1), .val (.int p2), .val (.int p3), .val (.int p4), .val (.int s1), .val (.int s2), .val (.int s3), .val (.ref b74), .val (.ref b82), .val (.ref b84), .val (.ref b86)] [(.int (1 : Int32))])) (fun t k => XS.iconst X86.here hx rfl (hb hby at_178) k) ?_
          refine own_go (T' := T86) (g' := (mkF m 183 #[.val (.int p1), .val (.int p2), .val (.int p3), .val (.int p4), .val (.int s1), .val (.int s2), .val (.int s3), .val (.ref b74), .val (.ref b82), .val (.ref b84), .val (.ref b86)] [(.int (1 : Int32))])) (fun t k => XS.goto X86.here hx rfl (pc0 := 179) (pc' := 183) rfl (hb hby at_179) (by decide) (by decide) k) ?_
          exact own_retZ X86 hx Bd.notSynchronized Bd.returns (hb hby at_183) rfl ⟨rfl, N86⟩ (by decide) (by decide)
    · refine own_go (T' := T86) (g' := (mkF m 105 #[.val (.int p1), .val (.int p2), .val (.int p3), .val (.int p4), .val (.int s1), .val (.int s2), .val (.int s3), .val (.ref b74), .val (.ref b82), .val (.ref b84), .val (.ref b86)] [(.int (own_fl s1))])) (fun t k => XS.icmpNo X86.here hx rfl (hb hby at_102) rfl (feq c102_1).1 k) ?_
      refine own_go (T' := T86) (g' := (mkF m 106 #[.val (.int p1), .val (.int p2), .val (.int p3), .val (.int p4), .val (.int s1), .val (.int s2), .val (.int s3), .val (.ref b74), .val (.ref b82), .val (.ref b84), .val (.ref b86)] [(.int (1 : Int32)), (.int (own_fl s1))])) (fun t k => XS.iconst X86.here hx rfl (hb hby at_105) k) ?_
      refine own_go (T' := T86) (g' := (mkF m 110 #[.val (.int p1), .val (.int p2), .val (.int p3), .val (.int p4), .val (.int s1), .val (.int s2), .val (.int s3), .val (.ref b74), .val (.ref b82), .val (.ref b84), .val (.ref b86)] [(.int (1 : Int32)), (.int (own_fl s1))])) (fun t k => XS.goto X86.here hx rfl (pc0 := 106) (pc' := 110) rfl (hb hby at_106) (by decide) (by decide) k) ?_
      refine own_go (T' := T86) (g' := (mkF m 113 #[.val (.int p1), .val (.int p2), .val (.int p3), .val (.int p4), .val (.int s1), .val (.int s2), .val (.int s3), .val (.ref b74), .val (.ref b82), .val (.ref b84), .val (.ref b86)] [])) (fun t k => XS.icmpNo X86.here hx rfl (hb hby at_110) rfl (teq (own_fl1 c102_1)).2 k) ?_
      refine own_go (T' := T86) (g' := (mkF m 115 #[.val (.int p1), .val (.int p2), .val (.int p3), .val (.int p4), .val (.int s1), .val (.int s2), .val (.int s3), .val (.ref b74), .val (.ref b82), .val (.ref b84), .val (.ref b86)] [(.ref b86)])) (fun t k => XS.aload X86.here hx rfl (hb hby at_113) rfl rfl k) ?_
      refine own_go (T' := T86) (g' := (mkF m 116 #[.val (.int p1), .val (.int p2), .val (.int p3), .val (.int p4), .val (.int s1), .val (.int s2), .val (.int s3), .val (.ref b74), .val (.ref b82), .val (.ref b84), .val (.ref b86)] [(.int (1 : Int32)), (.ref b86)])) (fun t k => XS.iconst X86.here hx rfl (hb hby at_115) k) ?_
      obtain ⟨cl106, Ar106, q106, S106, P106, H106, G106⟩ := id V_b86
      have hin106 : ¬ ((1 : Int32) < 0 ∨ cl106.slots.size ≤ ((1 : Int32)).toNatClampNeg) := inb_of S106 ⟨by decide, by decide⟩
      refine own_go (T' := T86) (g' := (mkF m 117 #[.val (.int p1), .val (.int p2), .val (.int p3), .val (.int p4), .val (.int s1), .val (.int s2), .val (.int s3), .val (.ref b74), .val (.ref b82), .val (.ref b84), .val (.ref b86)] [(.int (own_fl s2))])) (X86.baloadBooleans hx (j := (1 : Int32)) (v := (.int (own_fl s2))) Ar106.1 (State.isArrayOf_alike hZ.alike Ar106.2.1) Ar106.2.2 hin106 (H106.at hin106 rfl) (g := (mkF m 116 #[.val (.int p1), .val (.int p2), .val (.int p3), .val (.int p4), .val (.int s1), .val (.int s2), .val (.int s3), .val (.ref b74), .val (.ref b82), .val (.ref b84), .val (.ref b86)] [(.int (1 : Int32)), (.ref b86)])) rfl rfl (hb hby at_116)) ?_
      refine own_go (T' := T86) (g' := (mkF m 119 #[.val (.int p1), .val (.int p2), .val (.int p3), .val (.int p4), .val (.int s1), .val (.int s2), .val (.int s3), .val (.ref b74), .val (.ref b82), .val (.ref b84), .val (.ref b86)] [(.int s2), (.int (own_fl s2))])) (fun t k => XS.iload X86.here hx rfl (hb hby at_117) rfl k) ?_
      refine own_go (T' := T86) (g' := (mkF m 121 #[.val (.int p1), .val (.int p2), .val (.int p3), .val (.int p4), .val (.int s1), .val (.int s2), .val (.int s3), .val (.ref b74), .val (.ref b82), .val (.ref b84), .val (.ref b86)] [(.int (2147483647 : Int32)), (.int s2), (.int (own_fl s2))])) (X86.ldcInt hx hown (mvT hZ (hw _ (List.mem_of_getElem? (i := 0) rfl))) (g := (mkF m 119 #[.val (.int p1), .val (.int p2), .val (.int p3), .val (.int p4), .val (.int s1), .val (.int s2), .val (.int s3), .val (.ref b74), .val (.ref b82), .val (.ref b84), .val (.ref b86)] [(.int s2), (.int (own_fl s2))])) rfl (hb hby at_119)) ?_
      by_cases c121_5 : s2 = (2147483647 : Int32)
      · refine own_go (T' := T86) (g' := (mkF m 128 #[.val (.int p1), .val (.int p2), .val (.int p3), .val (.int p4), .val (.int s1), .val (.int s2), .val (.int s3), .val (.ref b74), .val (.ref b82), .val (.ref b84), .val (.ref b86)] [(.int (own_fl s2))])) (fun t k => XS.icmpYes X86.here hx rfl (pc0 := 121) (pc' := 128) rfl (hb hby at_121) rfl (teq c121_5).1 (by decide) (by decide) k) ?_
        refine own_go (T' := T86) (g' := (mkF m 129 #[.val (.int p1), .val (.int p2), .val (.int p3), .val (.int p4), .val (.int s1), .val (.int s2), .val (.int s3), .val (.ref b74), .val (.ref b82), .val (.ref b84), .val (.ref b86)] [(.int (0 : Int32)), (.int (own_fl s2))])) (fun t k => XS.iconst X86.here hx rfl (hb hby at_128) k) ?_
        refine own_go (T' := T86) (g' := (mkF m 132 #[.val (.int p1), .val (.int p2), .val (.int p3), .val (.int p4), .val (.int s1), .val (.int s2), .val (.int s3), .val (.ref b74), .val (.ref b82), .val (.ref b84), .val (.ref b86)] [])) (fun t k => XS.icmpNo X86.here hx rfl (hb hby at_129) rfl (teq (own_fl0 c121_5)).2 k) ?_
        refine own_go (T' := T86) (g' := (mkF m 134 #[.val (.int p1), .val (.int p2), .val (.int p3), .val (.int p4), .val (.int s1), .val (.int s2), .val (.int s3), .val (.ref b74), .val (.ref b82), .val (.ref b84), .val (.ref b86)] [(.ref b86)])) (fun t k => XS.aload X86.here hx rfl (hb hby at_132) rfl rfl k) ?_
        refine own_go (T' := T86) (g' := (mkF m 135 #[.val (.int p1), .val (.int p2), .val (.int p3), .val (.int p4), .val (.int s1), .val (.int s2), .val (.int s3), .val (.ref b74), .val (.ref b82), .val (.ref b84), .val (.ref b86)] [(.int (2 : Int32)), (.ref b86)])) (fun t k => XS.iconst X86.here hx rfl (hb hby at_134) k) ?_
        obtain ⟨cl107, Ar107, q107, S107, P107, H107, G107⟩ := id V_b86
        have hin107 : ¬ ((2 : Int32) < 0 ∨ cl107.slots.size ≤ ((2 : Int32)).toNatClampNeg) := inb_of S107 ⟨by decide, by decide⟩
        refine own_go (T' := T86) (g' := (mkF m 136 #[.val (.int p1), .val (.int p2), .val (.int p3), .val (.int p4), .val (.int s1), .val (.int s2), .val (.int s3), .val (.ref b74), .val (.ref b82), .val (.ref b84), .val (.ref b86)] [(.int (own_fl s3))])) (X86.baloadBooleans hx (j := (2 : Int32)) (v := (.int (own_fl s3))) Ar107.1 (State.isArrayOf_alike hZ.alike Ar107.2.1) Ar107.2.2 hin107 (H107.at hin107 rfl) (g := (mkF m 135 #[.val (.int p1), .val (.int p2), .val (.int p3), .val (.int p4), .val (.int s1), .val (.int s2), .val (.int s3), .val (.ref b74), .val (.ref b82), .val (.ref b84), .val (.ref b86)] [(.int (2 : Int32)), (.ref b86)])) rfl rfl (hb hby at_135)) ?_
        refine own_go (T' := T86) (g' := (mkF m 138 #[.val (.int p1), .val (.int p2), .val (.int p3), .val (.int p4), .val (.int s1), .val (.int s2), .val (.int s3), .val (.ref b74), .val (.ref b82), .val (.ref b84), .val (.ref b86)] [(.int s3), (.int (own_fl s3))])) (fun t k => XS.iload X86.here hx rfl (hb hby at_136) rfl k) ?_
        refine own_go (T' := T86) (g' := (mkF m 140 #[.val (.int p1), .val (.int p2), .val (.int p3), .val (.int p4), .val (.int s1), .val (.int s2), .val (.int s3), .val (.ref b74), .val (.ref b82), .val (.ref b84), .val (.ref b86)] [(.int (2147483647 : Int32)), (.int s3), (.int (own_fl s3))])) (X86.ldcInt hx hown (mvT hZ (hw _ (List.mem_of_getElem? (i := 0) rfl))) (g := (mkF m 138 #[.val (.int p1), .val (.int p2), .val (.int p3), .val (.int p4), .val (.int s1), .val (.int s2), .val (.int s3), .val (.ref b74), .val (.ref b82), .val (.ref b84), .val (.ref b86)] [(.int s3), (.int (own_fl s3))])) rfl (hb hby at_138)) ?_
        by_cases c140_6 : s3 = (2147483647 : Int32)
        · refine own_go (T' := T86) (g' := (mkF m 147 #[.val (.int p1), .val (.int p2), .val (.int p3), .val (.int p4), .val (.int s1), .val (.int s2), .val (.int s3), .val (.ref b74), .val (.ref b82), .val (.ref b84), .val (.ref b86)] [(.int (own_fl s3))])) (fun t k => XS.icmpYes X86.here hx rfl (pc0 := 140) (pc' := 147) rfl (hb hby at_140) rfl (teq c140_6).1 (by decide) (by decide) k) ?_
          refine own_go (T' := T86) (g' := (mkF m 148 #[.val (.int p1), .val (.int p2), .val (.int p3), .val (.int p4), .val (.int s1), .val (.int s2), .val (.int s3), .val (.ref b74), .val (.ref b82), .val (.ref b84), .val (.ref b86)] [(.int (0 : Int32)), (.int (own_fl s3))])) (fun t k => XS.iconst X86.here hx rfl (hb hby at_147) k) ?_
          refine own_go (T' := T86) (g' := (mkF m 151 #[.val (.int p1), .val (.int p2), .val (.int p3), .val (.int p4), .val (.int s1), .val (.int s2), .val (.int s3), .val (.ref b74), .val (.ref b82), .val (.ref b84), .val (.ref b86)] [])) (fun t k => XS.icmpNo X86.here hx rfl (hb hby at_148) rfl (teq (own_fl0 c140_6)).2 k) ?_
          refine own_go (T' := T86) (g' := (mkF m 153 #[.val (.int p1), .val (.int p2), .val (.int p3), .val (.int p4), .val (.int s1), .val (.int s2), .val (.int s3), .val (.ref b74), .val (.ref b82), .val (.ref b84), .val (.ref b86)] [(.ref b74)])) (fun t k => XS.aload X86.here hx rfl (hb hby at_151) rfl rfl k) ?_
          refine own_go (T' := T86) (g' := (mkF m 154 #[.val (.int p1), .val (.int p2), .val (.int p3), .val (.int p4), .val (.int s1), .val (.int s2), .val (.int s3), .val (.ref b74), .val (.ref b82), .val (.ref b84), .val (.ref b86)] [(.int (0 : Int32)), (.ref b74)])) (fun t k => XS.iconst X86.here hx rfl (hb hby at_153) k) ?_
          obtain ⟨cl108, Ar108, q108, S108, P108, H108, G108⟩ := id V_b74
          have hin108 : ¬ ((0 : Int32) < 0 ∨ cl108.slots.size ≤ ((0 : Int32)).toNatClampNeg) := inb_of S108 ⟨by decide, by decide⟩
          refine own_go (T' := T86) (g' := (mkF m 155 #[.val (.int p1), .val (.int p2), .val (.int p3), .val (.int p4), .val (.int s1), .val (.int s2), .val (.int s3), .val (.ref b74), .val (.ref b82), .val (.ref b84), .val (.ref b86)] [(.int s1)])) (X86.iaload hx (j := (0 : Int32)) (v := (.int s1)) Ar108.1 (State.isArrayOf_alike hZ.alike Ar108.2.1) Ar108.2.2 hin108 (H108.at hin108 rfl) (g := (mkF m 154 #[.val (.int p1), .val (.int p2), .val (.int p3), .val (.int p4), .val (.int s1), .val (.int s2), .val (.int s3), .val (.ref b74), .val (.ref b82), .val (.ref b84), .val (.ref b86)] [(.int (0 : Int32)), (.ref b74)])) rfl rfl (hb hby at_154)) ?_
          refine own_go (T' := T86) (g' := (mkF m 157 #[.val (.int p1), .val (.int p2), .val (.int p3), .val (.int p4), .val (.int s1), .val (.int s2), .val (.int s3), .val (.ref b74), .val (.ref b82), .val (.ref b84), .val (.ref b86)] [(.int s1), (.int s1)])) (fun t k => XS.iload X86.here hx rfl (hb hby at_155) rfl k) ?_
          refine own_go (T' := T86) (g' := (mkF m 160 #[.val (.int p1), .val (.int p2), .val (.int p3), .val (.int p4), .val (.int s1), .val (.int s2), .val (.int s3), .val (.ref b74), .val (.ref b82), .val (.ref b84), .val (.ref b86)] [])) (fun t k => XS.icmpNo X86.here hx rfl (hb hby at_157) rfl (teq (rfl : s1 = s1)).2 k) ?_
          refine own_go (T' := T86) (g' := (mkF m 162 #[.val (.int p1), .val (.int p2), .val (.int p3), .val (.int p4), .val (.int s1), .val (.int s2), .val (.int s3), .val (.ref b74), .val (.ref b82), .val (.ref b84), .val (.ref b86)] [(.ref b74)])) (fun t k => XS.aload X86.here hx rfl (hb hby at_160) rfl rfl k) ?_
          refine own_go (T' := T86) (g' := (mkF m 163 #[.val (.int p1), .val (.int p2), .val (.int p3), .val (.int p4), .val (.int s1), .val (.int s2), .val (.int s3), .val (.ref b74), .val (.ref b82), .val (.ref b84), .val (.ref b86)] [(.int (1 : Int32)), (.ref b74)])) (fun t k => XS.iconst X86.here hx rfl (hb hby at_162) k) ?_
          obtain ⟨cl109, Ar109, q109, S109, P109, H109, G109⟩ := id V_b74
          have hin109 : ¬ ((1 : Int32) < 0 ∨ cl109.slots.size ≤ ((1 : Int32)).toNatClampNeg) := inb_of S109 ⟨by decide, by decide⟩
          refine own_go (T' := T86) (g' := (mkF m 164 #[.val (.int p1), .val (.int p2), .val (.int p3), .val (.int p4), .val (.int s1), .val (.int s2), .val (.int s3), .val (.ref b74), .val (.ref b82), .val (.ref b84), .val (.ref b86)] [(.int s2)])) (X86.iaload hx (j := (1 : Int32)) (v := (.int s2)) Ar109.1 (State.isArrayOf_alike hZ.alike Ar109.2.1) Ar109.2.2 hin109 (H109.at hin109 rfl) (g := (mkF m 163 #[.val (.int p1), .val (.int p2), .val (.int p3), .val (.int p4), .val (.int s1), .val (.int s2), .val (.int s3), .val (.ref b74), .val (.ref b82), .val (.ref b84), .val (.ref b86)] [(.int (1 : Int32)), (.ref b74)])) rfl rfl (hb hby at_163)) ?_
          refine own_go (T' := T86) (g' := (mkF m 166 #[.val (.int p1), .val (.int p2), .val (.int p3), .val (.int p4), .val (.int s1), .val (.int s2), .val (.int s3), .val (.ref b74), .val (.ref b82), .val (.ref b84), .val (.ref b86)] [(.int s2), (.int s2)])) (fun t k => XS.iload X86.here hx rfl (hb hby at_164) rfl k) ?_
          refine own_go (T' := T86) (g' := (mkF m 169 #[.val (.int p1), .val (.int p2), .val (.int p3), .val (.int p4), .val (.int s1), .val (.int s2), .val (.int s3), .val (.ref b74), .val (.ref b82), .val (.ref b84), .val (.ref b86)] [])) (fun t k => XS.icmpNo X86.here hx rfl (hb hby at_166) rfl (teq (rfl : s2 = s2)).2 k) ?_
          refine own_go (T' := T86) (g' := (mkF m 171 #[.val (.int p1), .val (.int p2), .val (.int p3), .val (.int p4), .val (.int s1), .val (.int s2), .val (.int s3), .val (.ref b74), .val (.ref b82), .val (.ref b84), .val (.ref b86)] [(.ref b74)])) (fun t k => XS.aload X86.here hx rfl (hb hby at_169) rfl rfl k) ?_
          refine own_go (T' := T86) (g' := (mkF m 172 #[.val (.int p1), .val (.int p2), .val (.int p3), .val (.int p4), .val (.int s1), .val (.int s2), .val (.int s3), .val (.ref b74), .val (.ref b82), .val (.ref b84), .val (.ref b86)] [(.int (2 : Int32)), (.ref b74)])) (fun t k => XS.iconst X86.here hx rfl (hb hby at_171) k) ?_
          obtain ⟨cl110, Ar110, q110, S110, P110, H110, G110⟩ := id V_b74
          have hin110 : ¬ ((2 : Int32) < 0 ∨ cl110.slots.size ≤ ((2 : Int32)).toNatClampNeg) := inb_of S110 ⟨by decide, by decide⟩
          refine own_go (T' := T86) (g' := (mkF m 173 #[.val (.int p1), .val (.int p2), .val (.int p3), .val (.int p4), .val (.int s1), .val (.int s2), .val (.int s3), .val (.ref b74), .val (.ref b82), .val (.ref b84), .val (.ref b86)] [(.int s3)])) (X86.iaload hx (j := (2 : Int32)) (v := (.int s3)) Ar110.1 (State.isArrayOf_alike hZ.alike Ar110.2.1) Ar110.2.2 hin110 (H110.at hin110 rfl) (g := (mkF m 172 #[.val (.int p1), .val (.int p2), .val (.int p3), .val (.int p4), .val (.int s1), .val (.int s2), .val (.int s3), .val (.ref b74), .val (.ref b82), .val (.ref b84), .val (.ref b86)] [(.int (2 : Int32)), (.ref b74)])) rfl rfl (hb hby at_172)) ?_
          refine own_go (T' := T86) (g' := (mkF m 175 #[.val (.int p1), .val (.int p2), .val (.int p3), .val (.int p4), .val (.int s1), .val (.int s2), .val (.int s3), .val (.ref b74), .val (.ref b82), .val (.ref b84), .val (.ref b86)] [(.int s3), (.int s3)])) (fun t k => XS.iload X86.here hx rfl (hb hby at_173) rfl k) ?_
          refine own_go (T' := T86) (g' := (mkF m 178 #[.val (.int p1), .val (.int p2), .val (.int p3), .val (.int p4), .val (.int s1), .val (.int s2), .val (.int s3), .val (.ref b74), .val (.ref b82), .val (.ref b84), .val (.ref b86)] [])) (fun t k => XS.icmpNo X86.here hx rfl (hb hby at_175) rfl (teq (rfl : s3 = s3)).2 k) ?_
          refine own_go (T' := T86) (g' := (mkF m 179 #[.val (.int p1), .val (.int p2), .val (.int p3), .val (.int p4), .val (.int s1), .val (.int s2), .val (.int s3), .val (.ref b74), .val (.ref b82), .val (.ref b84), .val (.ref b86)] [(.int (1 : Int32))])) (fun t k => XS.iconst X86.here hx rfl (hb hby at_178) k) ?_
          refine own_go (T' := T86) (g' := (mkF m 183 #[.val (.int p1), .val (.int p2), .val (.int p3), .val (.int p4), .val (.int s1), .val (.int s2), .val (.int s3), .val (.ref b74), .val (.ref b82), .val (.ref b84), .val (.ref b86)] [(.int (1 : Int32))])) (fun t k => XS.goto X86.here hx rfl (pc0 := 179) (pc' := 183) rfl (hb hby at_179) (by decide) (by decide) k) ?_
          exact own_retZ X86 hx Bd.notSynchronized Bd.returns (hb hby at_183) rfl ⟨rfl, N86⟩ (by decide) (by decide)
        · refine own_go (T' := T86) (g' := (mkF m 143 #[.val (.int p1), .val (.int p2), .val (.int p3), .val (.int p4), .val (.int s1), .val (.int s2), .val (.int s3), .val (.ref b74), .val (.ref b82), .val (.ref b84), .val (.ref b86)] [(.int (own_fl s3))])) (fun t k => XS.icmpNo X86.here hx rfl (hb hby at_140) rfl (feq c140_6).1 k) ?_
          refine own_go (T' := T86) (g' := (mkF m 144 #[.val (.int p1), .val (.int p2), .val (.int p3), .val (.int p4), .val (.int s1), .val (.int s2), .val (.int s3), .val (.ref b74), .val (.ref b82), .val (.ref b84), .val (.ref b86)] [(.int (1 : Int32)), (.int (own_fl s3))])) (fun t k => XS.iconst X86.here hx rfl (hb hby at_143) k) ?_
          refine own_go (T' := T86) (g' := (mkF m 148 #[.val (.int p1), .val (.int p2), .val (.int p3), .val (.int p4), .val (.int s1), .val (.int s2), .val (.int s3), .val (.ref b74), .val (.ref b82), .val (.ref b84), .val (.ref b86)] [(.int (1 : Int32)), (.int (own_fl s3))])) (fun t k => XS.goto X86.here hx rfl (pc0 := 144) (pc' := 148) rfl (hb hby at_144) (by decide) (by decide) k) ?_
          refine own_go (T' := T86) (g' := (mkF m 151 #[.val (.int p1), .val (.int p2), .val (.int p3), .val (.int p4), .val (.int s1), .val (.int s2), .val (.int s3), .val (.ref b74), .val (.ref b82), .val (.ref b84), .val (.ref b86)] [])) (fun t k => XS.icmpNo X86.here hx rfl (hb hby at_148) rfl (teq (own_fl1 c140_6)).2 k) ?_
          refine own_go (T' := T86) (g' := (mkF m 153 #[.val (.int p1), .val (.int p2), .val (.int p3), .val (.int p4), .val (.int s1), .val (.int s2), .val (.int s3), .val (.ref b74), .val (.ref b82), .val (.ref b84), .val (.ref b86)] [(.ref b74)])) (fun t k => XS.aload X86.here hx rfl (hb hby at_151) rfl rfl k) ?_
          refine own_go (T' := T86) (g' := (mkF m 154 #[.val (.int p1), .val (.int p2), .val (.int p3), .val (.int p4), .val (.int s1), .val (.int s2), .val (.int s3), .val (.ref b74), .val (.ref b82), .val (.ref b84), .val (.ref b86)] [(.int (0 : Int32)), (.ref b74)])) (fun t k => XS.iconst X86.here hx rfl (hb hby at_153) k) ?_
          obtain ⟨cl111, Ar111, q111, S111, P111, H111, G111⟩ := id V_b74
          have hin111 : ¬ ((0 : Int32) < 0 ∨ cl111.slots.size ≤ ((0 : Int32)).toNatClampNeg) := inb_of S111 ⟨by decide, by decide⟩
          refine own_go (T' := T86) (g' := (mkF m 155 #[.val (.int p1), .val (.int p2), .val (.int p3), .val (.int p4), .val (.int s1), .val (.int s2), .val (.int s3), .val (.ref b74), .val (.ref b82), .val (.ref b84), .val (.ref b86)] [(.int s1)])) (X86.iaload hx (j := (0 : Int32)) (v := (.int s1)) Ar111.1 (State.isArrayOf_alike hZ.alike Ar111.2.1) Ar111.2.2 hin111 (H111.at hin111 rfl) (g := (mkF m 154 #[.val (.int p1), .val (.int p2), .val (.int p3), .val (.int p4), .val (.int s1), .val (.int s2), .val (.int s3), .val (.ref b74), .val (.ref b82), .val (.ref b84), .val (.ref b86)] [(.int (0 : Int32)), (.ref b74)])) rfl rfl (hb hby at_154)) ?_
          refine own_go (T' := T86) (g' := (mkF m 157 #[.val (.int p1), .val (.int p2), .val (.int p3), .val (.int p4), .val (.int s1), .val (.int s2), .val (.int s3), .val (.ref b74), .val (.ref b82), .val (.ref b84), .val (.ref b86)] [(.int s1), (.int s1)])) (fun t k => XS.iload X86.here hx rfl (hb hby at_155) rfl k) ?_
          refine own_go (T' := T86) (g' := (mkF m 160 #[.val (.int p1), .val (.int p2), .val (.int p3), .val (.int p4), .val (.int s1), .val (.int s2), .val (.int s3), .val (.ref b74), .val (.ref b82), .val (.ref b84), .val (.ref b86)] [])) (fun t k => XS.icmpNo X86.here hx rfl (hb hby at_157) rfl (teq (rfl : s1 = s1)).2 k) ?_
          refine own_go (T' := T86) (g' := (mkF m 162 #[.val (.int p1), .val (.int p2), .val (.int p3), .val (.int p4), .val (.int s1), .val (.int s2), .val (.int s3), .val (.ref b74), .val (.ref b82), .val (.ref b84), .val (.ref b86)] [(.ref b74)])) (fun t k => XS.aload X86.here hx rfl (hb hby at_160) rfl rfl k) ?_
          refine own_go (T' := T86) (g' := (mkF m 163 #[.val (.int p1), .val (.int p2), .val (.int p3), .val (.int p4), .val (.int s1), .val (.int s2), .val (.int s3), .val (.ref b74), .val (.ref b82), .val (.ref b84), .val (.ref b86)] [(.int (1 : Int32)), (.ref b74)])) (fun t k => XS.iconst X86.here hx rfl (hb hby at_162) k) ?_
          obtain ⟨cl112, Ar112, q112, S112, P112, H112, G112⟩ := id V_b74
          have hin112 : ¬ ((1 : Int32) < 0 ∨ cl112.slots.size ≤ ((1 : Int32)).toNatClampNeg) := inb_of S112 ⟨by decide, by decide⟩
          refine own_go (T' := T86) (g' := (mkF m 164 #[.val (.int p1), .val (.int p2), .val (.int p3), .val (.int p4), .val (.int s1), .val (.int s2), .val (.int s3), .val (.ref b74), .val (.ref b82), .val (.ref b84), .val (.ref b86)] [(.int s2)])) (X86.iaload hx (j := (1 : Int32)) (v := (.int s2)) Ar112.1 (State.isArrayOf_alike hZ.alike Ar112.2.1) Ar112.2.2 hin112 (H112.at hin112 rfl) (g := (mkF m 163 #[.val (.int p1), .val (.int p2), .val (.int p3), .val (.int p4), .val (.int s1), .val (.int s2), .val (.int s3), .val (.ref b74), .val (.ref b82), .val (.ref b84), .val (.ref b86)] [(.int (1 : Int32)), (.ref b74)])) rfl rfl (hb hby at_163)) ?_
          refine own_go (T' := T86) (g' := (mkF m 166 #[.val (.int p1), .val (.int p2), .val (.int p3), .val (.int p4), .val (.int s1), .val (.int s2), .val (.int s3), .val (.ref b74), .val (.ref b82), .val (.ref b84), .val (.ref b86)] [(.int s2), (.int s2)])) (fun t k => XS.iload X86.here hx rfl (hb hby at_164) rfl k) ?_
          refine own_go (T' := T86) (g' := (mkF m 169 #[.val (.int p1), .val (.int p2), .val (.int p3), .val (.int p4), .val (.int s1), .val (.int s2), .val (.int s3), .val (.ref b74), .val (.ref b82), .val (.ref b84), .val (.ref b86)] [])) (fun t k => XS.icmpNo X86.here hx rfl (hb hby at_166) rfl (teq (rfl : s2 = s2)).2 k) ?_
          refine own_go (T' := T86) (g' := (mkF m 171 #[.val (.int p1), .val (.int p2), .val (.int p3), .val (.int p4), .val (.int s1), .val (.int s2), .val (.int s3), .val (.ref b74), .val (.ref b82), .val (.ref b84), .val (.ref b86)] [(.ref b74)])) (fun t k => XS.aload X86.here hx rfl (hb hby at_169) rfl rfl k) ?_
          refine own_go (T' := T86) (g' := (mkF m 172 #[.val (.int p1), .val (.int p2), .val (.int p3), .val (.int p4), .val (.int s1), .val (.int s2), .val (.int s3), .val (.ref b74), .val (.ref b82), .val (.ref b84), .val (.ref b86)] [(.int (2 : Int32)), (.ref b74)])) (fun t k => XS.iconst X86.here hx rfl (hb hby at_171) k) ?_
          obtain ⟨cl113, Ar113, q113, S113, P113, H113, G113⟩ := id V_b74
          have hin113 : ¬ ((2 : Int32) < 0 ∨ cl113.slots.size ≤ ((2 : Int32)).toNatClampNeg) := inb_of S113 ⟨by decide, by decide⟩
          refine own_go (T' := T86) (g' := (mkF m 173 #[.val (.int p1), .val (.int p2), .val (.int p3), .val (.int p4), .val (.int s1), .val (.int s2), .val (.int s3), .val (.ref b74), .val (.ref b82), .val (.ref b84), .val (.ref b86)] [(.int s3)])) (X86.iaload hx (j := (2 : Int32)) (v := (.int s3)) Ar113.1 (State.isArrayOf_alike hZ.alike Ar113.2.1) Ar113.2.2 hin113 (H113.at hin113 rfl) (g := (mkF m 172 #[.val (.int p1), .val (.int p2), .val (.int p3), .val (.int p4), .val (.int s1), .val (.int s2), .val (.int s3), .val (.ref b74), .val (.ref b82), .val (.ref b84), .val (.ref b86)] [(.int (2 : Int32)), (.ref b74)])) rfl rfl (hb hby at_172)) ?_
          refine own_go (T' := T86) (g' := (mkF m 175 #[.val (.int p1), .val (.int p2), .val (.int p3), .val (.int p4), .val (.int s1), .val (.int s2), .val (.int s3), .val (.ref b74), .val (.ref b82), .val (.ref b84), .val (.ref b86)] [(.int s3), (.int s3)])) (fun t k => XS.iload X86.here hx rfl (hb hby at_173) rfl k) ?_
          refine own_go (T' := T86) (g' := (mkF m 178 #[.val (.int p1), .val (.int p2), .val (.int p3), .val (.int p4), .val (.int s1), .val (.int s2), .val (.int s3), .val (.ref b74), .val (.ref b82), .val (.ref b84), .val (.ref b86)] [])) (fun t k => XS.icmpNo X86.here hx rfl (hb hby at_175) rfl (teq (rfl : s3 = s3)).2 k) ?_
          refine own_go (T' := T86) (g' := (mkF m 179 #[.val (.int p1), .val (.int p2), .val (.int p3), .val (.int p4), .val (.int s1), .val (.int s2), .val (.int s3), .val (.ref b74), .val (.ref b82), .val (.ref b84), .val (.ref b86)] [(.int (1 : Int32))])) (fun t k => XS.iconst X86.here hx rfl (hb hby at_178) k) ?_
          refine own_go (T' := T86) (g' := (mkF m 183 #[.val (.int p1), .val (.int p2), .val (.int p3), .val (.int p4), .val (.int s1), .val (.int s2), .val (.int s3), .val (.ref b74), .val (.ref b82), .val (.ref b84), .val (.ref b86)] [(.int (1 : Int32))])) (fun t k => XS.goto X86.here hx rfl (pc0 := 179) (pc' := 183) rfl (hb hby at_179) (by decide) (by decide) k) ?_
          exact own_retZ X86 hx Bd.notSynchronized Bd.returns (hb hby at_183) rfl ⟨rfl, N86⟩ (by decide) (by decide)
      · refine own_go (T' := T86) (g' := (mkF m 124 #[.val (.int p1), .val (.int p2), .val (.int p3), .val (.int p4), .val (.int s1), .val (.int s2), .val (.int s3), .val (.ref b74), .val (.ref b82), .val (.ref b84), .val (.ref b86)] [(.int (own_fl s2))])) (fun t k => XS.icmpNo X86.here hx rfl (hb hby at_121) rfl (feq c121_5).1 k) ?_
        refine own_go (T' := T86) (g' := (mkF m 125 #[.val (.int p1), .val (.int p2), .val (.int p3), .val (.int p4), .val (.int s1), .val (.int s2), .val (.int s3), .val (.ref b74), .val (.ref b82), .val (.ref b84), .val (.ref b86)] [(.int (1 : Int32)), (.int (own_fl s2))])) (fun t k => XS.iconst X86.here hx rfl (hb hby at_124) k) ?_
        refine own_go (T' := T86) (g' := (mkF m 129 #[.val (.int p1), .val (.int p2), .val (.int p3), .val (.int p4), .val (.int s1), .val (.int s2), .val (.int s3), .val (.ref b74), .val (.ref b82), .val (.ref b84), .val (.ref b86)] [(.int (1 : Int32)), (.int (own_fl s2))])) (fun t k => XS.goto X86.here hx rfl (pc0 := 125) (pc' := 129) rfl (hb hby at_125) (by decide) (by decide) k) ?_
        refine own_go (T' := T86) (g' := (mkF m 132 #[.val (.int p1), .val (.int p2), .val (.int p3), .val (.int p4), .val (.int s1), .val (.int s2), .val (.int s3), .val (.ref b74), .val (.ref b82), .val (.ref b84), .val (.ref b86)] [])) (fun t k => XS.icmpNo X86.here hx rfl (hb hby at_129) rfl (teq (own_fl1 c121_5)).2 k) ?_
        refine own_go (T' := T86) (g' := (mkF m 134 #[.val (.int p1), .val (.int p2), .val (.int p3), .val (.int p4), .val (.int s1), .val (.int s2), .val (.int s3), .val (.ref b74), .val (.ref b82), .val (.ref b84), .val (.ref b86)] [(.ref b86)])) (fun t k => XS.aload X86.here hx rfl (hb hby at_132) rfl rfl k) ?_
        refine own_go (T' := T86) (g' := (mkF m 135 #[.val (.int p1), .val (.int p2), .val (.int p3), .val (.int p4), .val (.int s1), .val (.int s2), .val (.int s3), .val (.ref b74), .val (.ref b82), .val (.ref b84), .val (.ref b86)] [(.int (2 : Int32)), (.ref b86)])) (fun t k => XS.iconst X86.here hx rfl (hb hby at_134) k) ?_
        obtain ⟨cl114, Ar114, q114, S114, P114, H114, G114⟩ := id V_b86
        have hin114 : ¬ ((2 : Int32) < 0 ∨ cl114.slots.size ≤ ((2 : Int32)).toNatClampNeg) := inb_of S114 ⟨by decide, by decide⟩
        refine own_go (T' := T86) (g' := (mkF m 136 #[.val (.int p1), .val (.int p2), .val (.int p3), .val (.int p4), .val (.int s1), .val (.int s2), .val (.int s3), .val (.ref b74), .val (.ref b82), .val (.ref b84), .val (.ref b86)] [(.int (own_fl s3))])) (X86.baloadBooleans hx (j := (2 : Int32)) (v := (.int (own_fl s3))) Ar114.1 (State.isArrayOf_alike hZ.alike Ar114.2.1) Ar114.2.2 hin114 (H114.at hin114 rfl) (g := (mkF m 135 #[.val (.int p1), .val (.int p2), .val (.int p3), .val (.int p4), .val (.int s1), .val (.int s2), .val (.int s3), .val (.ref b74), .val (.ref b82), .val (.ref b84), .val (.ref b86)] [(.int (2 : Int32)), (.ref b86)])) rfl rfl (hb hby at_135)) ?_
        refine own_go (T' := T86) (g' := (mkF m 138 #[.val (.int p1), .val (.int p2), .val (.int p3), .val (.int p4), .val (.int s1), .val (.int s2), .val (.int s3), .val (.ref b74), .val (.ref b82), .val (.ref b84), .val (.ref b86)] [(.int s3), (.int (own_fl s3))])) (fun t k => XS.iload X86.here hx rfl (hb hby at_136) rfl k) ?_
        refine own_go (T' := T86) (g' := (mkF m 140 #[.val (.int p1), .val (.int p2), .val (.int p3), .val (.int p4), .val (.int s1), .val (.int s2), .val (.int s3), .val (.ref b74), .val (.ref b82), .val (.ref b84), .val (.ref b86)] [(.int (2147483647 : Int32)), (.int s3), (.int (own_fl s3))])) (X86.ldcInt hx hown (mvT hZ (hw _ (List.mem_of_getElem? (i := 0) rfl))) (g := (mkF m 138 #[.val (.int p1), .val (.int p2), .val (.int p3), .val (.int p4), .val (.int s1), .val (.int s2), .val (.int s3), .val (.ref b74), .val (.ref b82), .val (.ref b84), .val (.ref b86)] [(.int s3), (.int (own_fl s3))])) rfl (hb hby at_138)) ?_
        by_cases c140_7 : s3 = (2147483647 : Int32)
        · refine own_go (T' := T86) (g' := (mkF m 147 #[.val (.int p1), .val (.int p2), .val (.int p3), .val (.int p4), .val (.int s1), .val (.int s2), .val (.int s3), .val (.ref b74), .val (.ref b82), .val (.ref b84), .val (.ref b86)] [(.int (own_fl s3))])) (fun t k => XS.icmpYes X86.here hx rfl (pc0 := 140) (pc' := 147) rfl (hb hby at_140) rfl (teq c140_7).1 (by decide) (by decide) k) ?_
          refine own_go (T' := T86) (g' := (mkF m 148 #[.val (.int p1), .val (.int p2), .val (.int p3), .val (.int p4), .val (.int s1), .val (.int s2), .val (.int s3), .val (.ref b74), .val (.ref b82), .val (.ref b84), .val (.ref b86)] [(.int (0 : Int32)), (.int (own_fl s3))])) (fun t k => XS.iconst X86.here hx rfl (hb hby at_147) k) ?_
          refine own_go (T' := T86) (g' := (mkF m 151 #[.val (.int p1), .val (.int p2), .val (.int p3), .val (.int p4), .val (.int s1), .val (.int s2), .val (.int s3), .val (.ref b74), .val (.ref b82), .val (.ref b84), .val (.ref b86)] [])) (fun t k => XS.icmpNo X86.here hx rfl (hb hby at_148) rfl (teq (own_fl0 c140_7)).2 k) ?_
          refine own_go (T' := T86) (g' := (mkF m 153 #[.val (.int p1), .val (.int p2), .val (.int p3), .val (.int p4), .val (.int s1), .val (.int s2), .val (.int s3), .val (.ref b74), .val (.ref b82), .val (.ref b84), .val (.ref b86)] [(.ref b74)])) (fun t k => XS.aload X86.here hx rfl (hb hby at_151) rfl rfl k) ?_
          refine own_go (T' := T86) (g' := (mkF m 154 #[.val (.int p1), .val (.int p2), .val (.int p3), .val (.int p4), .val (.int s1), .val (.int s2), .val (.int s3), .val (.ref b74), .val (.ref b82), .val (.ref b84), .val (.ref b86)] [(.int (0 : Int32)), (.ref b74)])) (fun t k => XS.iconst X86.here hx rfl (hb hby at_153) k) ?_
          obtain ⟨cl115, Ar115, q115, S115, P115, H115, G115⟩ := id V_b74
          have hin115 : ¬ ((0 : Int32) < 0 ∨ cl115.slots.size ≤ ((0 : Int32)).toNatClampNeg) := inb_of S115 ⟨by decide, by decide⟩
          refine own_go (T' := T86) (g' := (mkF m 155 #[.val (.int p1), .val (.int p2), .val (.int p3), .val (.int p4), .val (.int s1), .val (.int s2), .val (.int s3), .val (.ref b74), .val (.ref b82), .val (.ref b84), .val (.ref b86)] [(.int s1)])) (X86.iaload hx (j := (0 : Int32)) (v := (.int s1)) Ar115.1 (State.isArrayOf_alike hZ.alike Ar115.2.1) Ar115.2.2 hin115 (H115.at hin115 rfl) (g := (mkF m 154 #[.val (.int p1), .val (.int p2), .val (.int p3), .val (.int p4), .val (.int s1), .val (.int s2), .val (.int s3), .val (.ref b74), .val (.ref b82), .val (.ref b84), .val (.ref b86)] [(.int (0 : Int32)), (.ref b74)])) rfl rfl (hb hby at_154)) ?_
          refine own_go (T' := T86) (g' := (mkF m 157 #[.val (.int p1), .val (.int p2), .val (.int p3), .val (.int p4), .val (.int s1), .val (.int s2), .val (.int s3), .val (.ref b74), .val (.ref b82), .val (.ref b84), .val (.ref b86)] [(.int s1), (.int s1)])) (fun t k => XS.iload X86.here hx rfl (hb hby at_155) rfl k) ?_
          refine own_go (T' := T86) (g' := (mkF m 160 #[.val (.int p1), .val (.int p2), .val (.int p3), .val (.int p4), .val (.int s1), .val (.int s2), .val (.int s3), .val (.ref b74), .val (.ref b82), .val (.ref b84), .val (.ref b86)] [])) (fun t k => XS.icmpNo X86.here hx rfl (hb hby at_157) rfl (teq (rfl : s1 = s1)).2 k) ?_
          refine own_go (T' := T86) (g' := (mkF m 162 #[.val (.int p1), .val (.int p2), .val (.int p3), .val (.int p4), .val (.int s1), .val (.int s2), .val (.int s3), .val (.ref b74), .val (.ref b82), .val (.ref b84), .val (.ref b86)] [(.ref b74)])) (fun t k => XS.aload X86.here hx rfl (hb hby at_160) rfl rfl k) ?_
          refine own_go (T' := T86) (g' := (mkF m 163 #[.val (.int p1), .val (.int p2), .val (.int p3), .val (.int p4), .val (.int s1), .val (.int s2), .val (.int s3), .val (.ref b74), .val (.ref b82), .val (.ref b84), .val (.ref b86)] [(.int (1 : Int32)), (.ref b74)])) (fun t k => XS.iconst X86.here hx rfl (hb hby at_162) k) ?_
          obtain ⟨cl116, Ar116, q116, S116, P116, H116, G116⟩ := id V_b74
          have hin116 : ¬ ((1 : Int32) < 0 ∨ cl116.slots.size ≤ ((1 : Int32)).toNatClampNeg) := inb_of S116 ⟨by decide, by decide⟩
          refine own_go (T' := T86) (g' := (mkF m 164 #[.val (.int p1), .val (.int p2), .val (.int p3), .val (.int p4), .val (.int s1), .val (.int s2), .val (.int s3), .val (.ref b74), .val (.ref b82), .val (.ref b84), .val (.ref b86)] [(.int s2)])) (X86.iaload hx (j := (1 : Int32)) (v := (.int s2)) Ar116.1 (State.isArrayOf_alike hZ.alike Ar116.2.1) Ar116.2.2 hin116 (H116.at hin116 rfl) (g := (mkF m 163 #[.val (.int p1), .val (.int p2), .val (.int p3), .val (.int p4), .val (.int s1), .val (.int s2), .val (.int s3), .val (.ref b74), .val (.ref b82), .val (.ref b84), .val (.ref b86)] [(.int (1 : Int32)), (.ref b74)])) rfl rfl (hb hby at_163)) ?_
          refine own_go (T' := T86) (g' := (mkF m 166 #[.val (.int p1), .val (.int p2), .val (.int p3), .val (.int p4), .val (.int s1), .val (.int s2), .val (.int s3), .val (.ref b74), .val (.ref b82), .val (.ref b84), .val (.ref b86)] [(.int s2), (.int s2)])) (fun t k => XS.iload X86.here hx rfl (hb hby at_164) rfl k) ?_
          refine own_go (T' := T86) (g' := (mkF m 169 #[.val (.int p1), .val (.int p2), .val (.int p3), .val (.int p4), .val (.int s1), .val (.int s2), .val (.int s3), .val (.ref b74), .val (.ref b82), .val (.ref b84), .val (.ref b86)] [])) (fun t k => XS.icmpNo X86.here hx rfl (hb hby at_166) rfl (teq (rfl : s2 = s2)).2 k) ?_
          refine own_go (T' := T86) (g' := (mkF m 171 #[.val (.int p1), .val (.int p2), .val (.int p3), .val (.int p4), .val (.int s1), .val (.int s2), .val (.int s3), .val (.ref b74), .val (.ref b82), .val (.ref b84), .val (.ref b86)] [(.ref b74)])) (fun t k => XS.aload X86.here hx rfl (hb hby at_169) rfl rfl k) ?_
          refine own_go (T' := T86) (g' := (mkF m 172 #[.val (.int p1), .val (.int p2), .val (.int p3), .val (.int p4), .val (.int s1), .val (.int s2), .val (.int s3), .val (.ref b74), .val (.ref b82), .val (.ref b84), .val (.ref b86)] [(.int (2 : Int32)), (.ref b74)])) (fun t k => XS.iconst X86.here hx rfl (hb hby at_171) k) ?_
          obtain ⟨cl117, Ar117, q117, S117, P117, H117, G117⟩ := id V_b74
          have hin117 : ¬ ((2 : Int32) < 0 ∨ cl117.slots.size ≤ ((2 : Int32)).toNatClampNeg) := inb_of S117 ⟨by decide, by decide⟩
          refine own_go (T' := T86) (g' := (mkF m 173 #[.val (.int p1), .val (.int p2), .val (.int p3), .val (.int p4), .val (.int s1), .val (.int s2), .val (.int s3), .val (.ref b74), .val (.ref b82), .val (.ref b84), .val (.ref b86)] [(.int s3)])) (X86.iaload hx (j := (2 : Int32)) (v := (.int s3)) Ar117.1 (State.isArrayOf_alike hZ.alike Ar117.2.1) Ar117.2.2 hin117 (H117.at hin117 rfl) (g := (mkF m 172 #[.val (.int p1), .val (.int p2), .val (.int p3), .val (.int p4), .val (.int s1), .val (.int s2), .val (.int s3), .val (.ref b74), .val (.ref b82), .val (.ref b84), .val (.ref b86)] [(.int (2 : Int32)), (.ref b74)])) rfl rfl (hb hby at_172)) ?_
          refine own_go (T' := T86) (g' := (mkF m 175 #[.val (.int p1), .val (.int p2), .val (.int p3), .val (.int p4), .val (.int s1), .val (.int s2), .val (.int s3), .val (.ref b74), .val (.ref b82), .val (.ref b84), .val (.ref b86)] [(.int s3), (.int s3)])) (fun t k => XS.iload X86.here hx rfl (hb hby at_173) rfl k) ?_
          refine own_go (T' := T86) (g' := (mkF m 178 #[.val (.int p1), .val (.int p2), .val (.int p3), .val (.int p4), .val (.int s1), .val (.int s2), .val (.int s3), .val (.ref b74), .val (.ref b82), .val (.ref b84), .val (.ref b86)] [])) (fun t k => XS.icmpNo X86.here hx rfl (hb hby at_175) rfl (teq (rfl : s3 = s3)).2 k) ?_
          refine own_go (T' := T86) (g' := (mkF m 179 #[.val (.int p1), .val (.int p2), .val (.int p3), .val (.int p4), .val (.int s1), .val (.int s2), .val (.int s3), .val (.ref b74), .val (.ref b82), .val (.ref b84), .val (.ref b86)] [(.int (1 : Int32))])) (fun t k => XS.iconst X86.here hx rfl (hb hby at_178) k) ?_
          refine own_go (T' := T86) (g' := (mkF m 183 #[.val (.int p1), .val (.int p2), .val (.int p3), .val (.int p4), .val (.int s1), .val (.int s2), .val (.int s3), .val (.ref b74), .val (.ref b82), .val (.ref b84), .val (.ref b86)] [(.int (1 : Int32))])) (fun t k => XS.goto X86.here hx rfl (pc0 := 179) (pc' := 183) rfl (hb hby at_179) (by decide) (by decide) k) ?_
          exact own_retZ X86 hx Bd.notSynchronized Bd.returns (hb hby at_183) rfl ⟨rfl, N86⟩ (by decide) (by decide)
        · refine own_go (T' := T86) (g' := (mkF m 143 #[.val (.int p1), .val (.int p2), .val (.int p3), .val (.int p4), .val (.int s1), .val (.int s2), .val (.int s3), .val (.ref b74), .val (.ref b82), .val (.ref b84), .val (.ref b86)] [(.int (own_fl s3))])) (fun t k => XS.icmpNo X86.here hx rfl (hb hby at_140) rfl (feq c140_7).1 k) ?_
          refine own_go (T' := T86) (g' := (mkF m 144 #[.val (.int p1), .val (.int p2), .val (.int p3), .val (.int p4), .val (.int s1), .val (.int s2), .val (.int s3), .val (.ref b74), .val (.ref b82), .val (.ref b84), .val (.ref b86)] [(.int (1 : Int32)), (.int (own_fl s3))])) (fun t k => XS.iconst X86.here hx rfl (hb hby at_143) k) ?_
          refine own_go (T' := T86) (g' := (mkF m 148 #[.val (.int p1), .val (.int p2), .val (.int p3), .val (.int p4), .val (.int s1), .val (.int s2), .val (.int s3), .val (.ref b74), .val (.ref b82), .val (.ref b84), .val (.ref b86)] [(.int (1 : Int32)), (.int (own_fl s3))])) (fun t k => XS.goto X86.here hx rfl (pc0 := 144) (pc' := 148) rfl (hb hby at_144) (by decide) (by decide) k) ?_
          refine own_go (T' := T86) (g' := (mkF m 151 #[.val (.int p1), .val (.int p2), .val (.int p3), .val (.int p4), .val (.int s1), .val (.int s2), .val (.int s3), .val (.ref b74), .val (.ref b82), .val (.ref b84), .val (.ref b86)] [])) (fun t k => XS.icmpNo X86.here hx rfl (hb hby at_148) rfl (teq (own_fl1 c140_7)).2 k) ?_
          refine own_go (T' := T86) (g' := (mkF m 153 #[.val (.int p1), .val (.int p2), .val (.int p3), .val (.int p4), .val (.int s1), .val (.int s2), .val (.int s3), .val (.ref b74), .val (.ref b82), .val (.ref b84), .val (.ref b86)] [(.ref b74)])) (fun t k => XS.aload X86.here hx rfl (hb hby at_151) rfl rfl k) ?_
          refine own_go (T' := T86) (g' := (mkF m 154 #[.val (.int p1), .val (.int p2), .val (.int p3), .val (.int p4), .val (.int s1), .val (.int s2), .val (.int s3), .val (.ref b74), .val (.ref b82), .val (.ref b84), .val (.ref b86)] [(.int (0 : Int32)), (.ref b74)])) (fun t k => XS.iconst X86.here hx rfl (hb hby at_153) k) ?_
          obtain ⟨cl118, Ar118, q118, S118, P118, H118, G118⟩ := id V_b74
          have hin118 : ¬ ((0 : Int32) < 0 ∨ cl118.slots.size ≤ ((0 : Int32)).toNatClampNeg) := inb_of S118 ⟨by decide, by decide⟩
          refine own_go (T' := T86) (g' := (mkF m 155 #[.val (.int p1), .val (.int p2), .val (.int p3), .val (.int p4), .val (.int s1), .val (.int s2), .val (.int s3), .val (.ref b74), .val (.ref b82), .val (.ref b84), .val (.ref b86)] [(.int s1)])) (X86.iaload hx (j := (0 : Int32)) (v := (.int s1)) Ar118.1 (State.isArrayOf_alike hZ.alike Ar118.2.1) Ar118.2.2 hin118 (H118.at hin118 rfl) (g := (mkF m 154 #[.val (.int p1), .val (.int p2), .val (.int p3), .val (.int p4), .val (.int s1), .val (.int s2), .val (.int s3), .val (.ref b74), .val (.ref b82), .val (.ref b84), .val (.ref b86)] [(.int (0 : Int32)), (.ref b74)])) rfl rfl (hb hby at_154)) ?_
          refine own_go (T' := T86) (g' := (mkF m 157 #[.val (.int p1), .val (.int p2), .val (.int p3), .val (.int p4), .val (.int s1), .val (.int s2), .val (.int s3), .val (.ref b74), .val (.ref b82), .val (.ref b84), .val (.ref b86)] [(.int s1), (.int s1)])) (fun t k => XS.iload X86.here hx rfl (hb hby at_155) rfl k) ?_
          refine own_go (T' := T86) (g' := (mkF m 160 #[.val (.int p1), .val (.int p2), .val (.int p3), .val (.int p4), .val (.int s1), .val (.int s2), .val (.int s3), .val (.ref b74), .val (.ref b82), .val (.ref b84), .val (.ref b86)] [])) (fun t k => XS.icmpNo X86.here hx rfl (hb hby at_157) rfl (teq (rfl : s1 = s1)).2 k) ?_
          refine own_go (T' := T86) (g' := (mkF m 162 #[.val (.int p1), .val (.int p2), .val (.int p3), .val (.int p4), .val (.int s1), .val (.int s2), .val (.int s3), .val (.ref b74), .val (.ref b82), .val (.ref b84), .val (.ref b86)] [(.ref b74)])) (fun t k => XS.aload X86.here hx rfl (hb hby at_160) rfl rfl k) ?_
          refine own_go (T' := T86) (g' := (mkF m 163 #[.val (.int p1), .val (.int p2), .val (.int p3), .val (.int p4), .val (.int s1), .val (.int s2), .val (.int s3), .val (.ref b74), .val (.ref b82), .val (.ref b84), .val (.ref b86)] [(.int (1 : Int32)), (.ref b74)])) (fun t k => XS.iconst X86.here hx rfl (hb hby at_162) k) ?_
          obtain ⟨cl119, Ar119, q119, S119, P119, H119, G119⟩ := id V_b74
          have hin119 : ¬ ((1 : Int32) < 0 ∨ cl119.slots.size ≤ ((1 : Int32)).toNatClampNeg) := inb_of S119 ⟨by decide, by decide⟩
          refine own_go (T' := T86) (g' := (mkF m 164 #[.val (.int p1), .val (.int p2), .val (.int p3), .val (.int p4), .val (.int s1), .val (.int s2), .val (.int s3), .val (.ref b74), .val (.ref b82), .val (.ref b84), .val (.ref b86)] [(.int s2)])) (X86.iaload hx (j := (1 : Int32)) (v := (.int s2)) Ar119.1 (State.isArrayOf_alike hZ.alike Ar119.2.1) Ar119.2.2 hin119 (H119.at hin119 rfl) (g := (mkF m 163 #[.val (.int p1), .val (.int p2), .val (.int p3), .val (.int p4), .val (.int s1), .val (.int s2), .val (.int s3), .val (.ref b74), .val (.ref b82), .val (.ref b84), .val (.ref b86)] [(.int (1 : Int32)), (.ref b74)])) rfl rfl (hb hby at_163)) ?_
          refine own_go (T' := T86) (g' := (mkF m 166 #[.val (.int p1), .val (.int p2), .val (.int p3), .val (.int p4), .val (.int s1), .val (.int s2), .val (.int s3), .val (.ref b74), .val (.ref b82), .val (.ref b84), .val (.ref b86)] [(.int s2), (.int s2)])) (fun t k => XS.iload X86.here hx rfl (hb hby at_164) rfl k) ?_
          refine own_go (T' := T86) (g' := (mkF m 169 #[.val (.int p1), .val (.int p2), .val (.int p3), .val (.int p4), .val (.int s1), .val (.int s2), .val (.int s3), .val (.ref b74), .val (.ref b82), .val (.ref b84), .val (.ref b86)] [])) (fun t k => XS.icmpNo X86.here hx rfl (hb hby at_166) rfl (teq (rfl : s2 = s2)).2 k) ?_
          refine own_go (T' := T86) (g' := (mkF m 171 #[.val (.int p1), .val (.int p2), .val (.int p3), .val (.int p4), .val (.int s1), .val (.int s2), .val (.int s3), .val (.ref b74), .val (.ref b82), .val (.ref b84), .val (.ref b86)] [(.ref b74)])) (fun t k => XS.aload X86.here hx rfl (hb hby at_169) rfl rfl k) ?_
          refine own_go (T' := T86) (g' := (mkF m 172 #[.val (.int p1), .val (.int p2), .val (.int p3), .val (.int p4), .val (.int s1), .val (.int s2), .val (.int s3), .val (.ref b74), .val (.ref b82), .val (.ref b84), .val (.ref b86)] [(.int (2 : Int32)), (.ref b74)])) (fun t k => XS.iconst X86.here hx rfl (hb hby at_171) k) ?_
          obtain ⟨cl120, Ar120, q120, S120, P120, H120, G120⟩ := id V_b74
          have hin120 : ¬ ((2 : Int32) < 0 ∨ cl120.slots.size ≤ ((2 : Int32)).toNatClampNeg) := inb_of S120 ⟨by decide, by decide⟩
          refine own_go (T' := T86) (g' := (mkF m 173 #[.val (.int p1), .val (.int p2), .val (.int p3), .val (.int p4), .val (.int s1), .val (.int s2), .val (.int s3), .val (.ref b74), .val (.ref b82), .val (.ref b84), .val (.ref b86)] [(.int s3)])) (X86.iaload hx (j := (2 : Int32)) (v := (.int s3)) Ar120.1 (State.isArrayOf_alike hZ.alike Ar120.2.1) Ar120.2.2 hin120 (H120.at hin120 rfl) (g := (mkF m 172 #[.val (.int p1), .val (.int p2), .val (.int p3), .val (.int p4), .val (.int s1), .val (.int s2), .val (.int s3), .val (.ref b74), .val (.ref b82), .val (.ref b84), .val (.ref b86)] [(.int (2 : Int32)), (.ref b74)])) rfl rfl (hb hby at_172)) ?_
          refine own_go (T' := T86) (g' := (mkF m 175 #[.val (.int p1), .val (.int p2), .val (.int p3), .val (.int p4), .val (.int s1), .val (.int s2), .val (.int s3), .val (.ref b74), .val (.ref b82), .val (.ref b84), .val (.ref b86)] [(.int s3), (.int s3)])) (fun t k => XS.iload X86.here hx rfl (hb hby at_173) rfl k) ?_
          refine own_go (T' := T86) (g' := (mkF m 178 #[.val (.int p1), .val (.int p2), .val (.int p3), .val (.int p4), .val (.int s1), .val (.int s2), .val (.int s3), .val (.ref b74), .val (.ref b82), .val (.ref b84), .val (.ref b86)] [])) (fun t k => XS.icmpNo X86.here hx rfl (hb hby at_175) rfl (teq (rfl : s3 = s3)).2 k) ?_
          refine own_go (T' := T86) (g' := (mkF m 179 #[.val (.int p1), .val (.int p2), .val (.int p3), .val (.int p4), .val (.int s1), .val (.int s2), .val (.int s3), .val (.ref b74), .val (.ref b82), .val (.ref b84), .val (.ref b86)] [(.int (1 : Int32))])) (fun t k => XS.iconst X86.here hx rfl (hb hby at_178) k) ?_
          refine own_go (T' := T86) (g' := (mkF m 183 #[.val (.int p1), .val (.int p2), .val (.int p3), .val (.int p4), .val (.int s1), .val (.int s2), .val (.int s3), .val (.ref b74), .val (.ref b82), .val (.ref b84), .val (.ref b86)] [(.int (1 : Int32))])) (fun t k => XS.goto X86.here hx rfl (pc0 := 179) (pc' := 183) rfl (hb hby at_179) (by decide) (by decide) k) ?_
          exact own_retZ X86 hx Bd.notSynchronized Bd.returns (hb hby at_183) rfl ⟨rfl, N86⟩ (by decide) (by decide)
  have J28 : ∀ s1 s2 : Int32, own_Run p e below s (Q0 Z p1 p2 p3 p4 h0 n0) room_1.cells room_1.slots s₁ (mkF m 28 #[.val (.int p1), .val (.int p2), .val (.int p3), .val (.int p4), .val (.int s1), .val (.int s2), .unset, .unset, .unset, .unset, .unset] []) := by
    intro s1 s2
    refine own_go (T' := s₁) (g' := (mkF m 29 #[.val (.int p1), .val (.int p2), .val (.int p3), .val (.int p4), .val (.int s1), .val (.int s2), .unset, .unset, .unset, .unset, .unset] [(.int p4)])) (fun t k => XS.iloadN X0.here hx rfl (hb hby at_28) rfl k) ?_
    refine own_go (T' := s₁) (g' := (mkF m 30 #[.val (.int p1), .val (.int p2), .val (.int p3), .val (.int p4), .val (.int s1), .val (.int s2), .unset, .unset, .unset, .unset, .unset] [(.int (4 : Int32)), (.int p4)])) (fun t k => XS.iconst X0.here hx rfl (hb hby at_29) k) ?_
    refine own_go (T' := s₁) (g' := (mkF m 31 #[.val (.int p1), .val (.int p2), .val (.int p3), .val (.int p4), .val (.int s1), .val (.int s2), .unset, .unset, .unset, .unset, .unset] [(.int (p4 &&& (4 : Int32)))])) (fun t k => XS.iand X0.here hx rfl (hb hby at_30) rfl k) ?_
    by_cases c31_1 : (p4 &&& (4 : Int32)) = (0 : Int32)
    · refine own_go (T' := s₁) (g' := (mkF m 39 #[.val (.int p1), .val (.int p2), .val (.int p3), .val (.int p4), .val (.int s1), .val (.int s2), .unset, .unset, .unset, .unset, .unset] [])) (fun t k => XS.ifYes X0.here hx rfl (pc0 := 31) (pc' := 39) rfl (hb hby at_31) rfl ((if0 _ _).trans (teq c31_1).1) (by decide) (by decide) k) ?_
      refine own_go (T' := s₁) (g' := (mkF m 40 #[.val (.int p1), .val (.int p2), .val (.int p3), .val (.int p4), .val (.int s1), .val (.int s2), .unset, .unset, .unset, .unset, .unset] [(.int p3)])) (fun t k => XS.iloadN X0.here hx rfl (hb hby at_39) rfl k) ?_
      refine own_go (T' := s₁) (g' := (mkF m 42 #[.val (.int p1), .val (.int p2), .val (.int p3), .val (.int p4), .val (.int s1), .val (.int s2), .val (.int p3), .unset, .unset, .unset, .unset] [])) (fun t k => XS.istore X0.here hx rfl (hb hby at_40) rfl (l' := #[.val (.int p1), .val (.int p2), .val (.int p3), .val (.int p4), .val (.int s1), .val (.int s2), .val (.int p3), .unset, .unset, .unset, .unset]) rfl k) ?_
      exact J42 _ _ _
    · refine own_go (T' := s₁) (g' := (mkF m 34 #[.val (.int p1), .val (.int p2), .val (.int p3), .val (.int p4), .val (.int s1), .val (.int s2), .unset, .unset, .unset, .unset, .unset] [])) (fun t k => XS.ifNo X0.here hx rfl (hb hby at_31) rfl ((if0 _ _).trans (feq c31_1).1) k) ?_
      refine own_go (T' := s₁) (g' := (mkF m 36 #[.val (.int p1), .val (.int p2), .val (.int p3), .val (.int p4), .val (.int s1), .val (.int s2), .unset, .unset, .unset, .unset, .unset] [(.int (2147483647 : Int32))])) (X0.ldcInt hx hown (mvT hZ (hw _ (List.mem_of_getElem? (i := 0) rfl))) (g := (mkF m 34 #[.val (.int p1), .val (.int p2), .val (.int p3), .val (.int p4), .val (.int s1), .val (.int s2), .unset, .unset, .unset, .unset, .unset] [])) rfl (hb hby at_34)) ?_
      refine own_go (T' := s₁) (g' := (mkF m 40 #[.val (.int p1), .val (.int p2), .val (.int p3), .val (.int p4), .val (.int s1), .val (.int s2), .unset, .unset, .unset, .unset, .unset] [(.int (2147483647 : Int32))])) (fun t k => XS.goto X0.here hx rfl (pc0 := 36) (pc' := 40) rfl (hb hby at_36) (by decide) (by decide) k) ?_
      refine own_go (T' := s₁) (g' := (mkF m 42 #[.val (.int p1), .val (.int p2), .val (.int p3), .val (.int p4), .val (.int s1), .val (.int s2), .val (.int (2147483647 : Int32)), .unset, .unset, .unset, .unset] [])) (fun t k => XS.istore X0.here hx rfl (hb hby at_40) rfl (l' := #[.val (.int p1), .val (.int p2), .val (.int p3), .val (.int p4), .val (.int s1), .val (.int s2), .val (.int (2147483647 : Int32)), .unset, .unset, .unset, .unset]) rfl k) ?_
      exact J42 _ _ _
  have J14 : ∀ s1 : Int32, own_Run p e below s (Q0 Z p1 p2 p3 p4 h0 n0) room_1.cells room_1.slots s₁ (mkF m 14 #[.val (.int p1), .val (.int p2), .val (.int p3), .val (.int p4), .val (.int s1), .unset, .unset, .unset, .unset, .unset, .unset] []) := by
    intro s1
    refine own_go (T' := s₁) (g' := (mkF m 15 #[.val (.int p1), .val (.int p2), .val (.int p3), .val (.int p4), .val (.int s1), .unset, .unset, .unset, .unset, .unset, .unset] [(.int p4)])) (fun t k => XS.iloadN X0.here hx rfl (hb hby at_14) rfl k) ?_
    refine own_go (T' := s₁) (g' := (mkF m 16 #[.val (.int p1), .val (.int p2), .val (.int p3), .val (.int p4), .val (.int s1), .unset, .unset, .unset, .unset, .unset, .unset] [(.int (2 : Int32)), (.int p4)])) (fun t k => XS.iconst X0.here hx rfl (hb hby at_15) k) ?_
    refine own_go (T' := s₁) (g' := (mkF m 17 #[.val (.int p1), .val (.int p2), .val (.int p3), .val (.int p4), .val (.int s1), .unset, .unset, .unset, .unset, .unset, .unset] [(.int (p4 &&& (2 : Int32)))])) (fun t k => XS.iand X0.here hx rfl (hb hby at_16) rfl k) ?_
    by_cases c17_1 : (p4 &&& (2 : Int32)) = (0 : Int32)
    · refine own_go (T' := s₁) (g' := (mkF m 25 #[.val (.int p1), .val (.int p2), .val (.int p3), .val (.int p4), .val (.int s1), .unset, .unset, .unset, .unset, .unset, .unset] [])) (fun t k => XS.ifYes X0.here hx rfl (pc0 := 17) (pc' := 25) rfl (hb hby at_17) rfl ((if0 _ _).trans (teq c17_1).1) (by decide) (by decide) k) ?_
      refine own_go (T' := s₁) (g' := (mkF m 26 #[.val (.int p1), .val (.int p2), .val (.int p3), .val (.int p4), .val (.int s1), .unset, .unset, .unset, .unset, .unset, .unset] [(.int p2)])) (fun t k => XS.iloadN X0.here hx rfl (hb hby at_25) rfl k) ?_
      refine own_go (T' := s₁) (g' := (mkF m 28 #[.val (.int p1), .val (.int p2), .val (.int p3), .val (.int p4), .val (.int s1), .val (.int p2), .unset, .unset, .unset, .unset, .unset] [])) (fun t k => XS.istore X0.here hx rfl (hb hby at_26) rfl (l' := #[.val (.int p1), .val (.int p2), .val (.int p3), .val (.int p4), .val (.int s1), .val (.int p2), .unset, .unset, .unset, .unset, .unset]) rfl k) ?_
      exact J28 _ _
    · refine own_go (T' := s₁) (g' := (mkF m 20 #[.val (.int p1), .val (.int p2), .val (.int p3), .val (.int p4), .val (.int s1), .unset, .unset, .unset, .unset, .unset, .unset] [])) (fun t k => XS.ifNo X0.here hx rfl (hb hby at_17) rfl ((if0 _ _).trans (feq c17_1).1) k) ?_
      refine own_go (T' := s₁) (g' := (mkF m 22 #[.val (.int p1), .val (.int p2), .val (.int p3), .val (.int p4), .val (.int s1), .unset, .unset, .unset, .unset, .unset, .unset] [(.int (2147483647 : Int32))])) (X0.ldcInt hx hown (mvT hZ (hw _ (List.mem_of_getElem? (i := 0) rfl))) (g := (mkF m 20 #[.val (.int p1), .val (.int p2), .val (.int p3), .val (.int p4), .val (.int s1), .unset, .unset, .unset, .unset, .unset, .unset] [])) rfl (hb hby at_20)) ?_
      refine own_go (T' := s₁) (g' := (mkF m 26 #[.val (.int p1), .val (.int p2), .val (.int p3), .val (.int p4), .val (.int s1), .unset, .unset, .unset, .unset, .unset, .unset] [(.int (2147483647 : Int32))])) (fun t k => XS.goto X0.here hx rfl (pc0 := 22) (pc' := 26) rfl (hb hby at_22) (by decide) (by decide) k) ?_
      refine own_go (T' := s₁) (g' := (mkF m 28 #[.val (.int p1), .val (.int p2), .val (.int p3), .val (.int p4), .val (.int s1), .val (.int (2147483647 : Int32)), .unset, .unset, .unset, .unset, .unset] [])) (fun t k => XS.istore X0.here hx rfl (hb hby at_26) rfl (l' := #[.val (.int p1), .val (.int p2), .val (.int p3), .val (.int p4), .val (.int s1), .val (.int (2147483647 : Int32)), .unset, .unset, .unset, .unset, .unset]) rfl k) ?_
      exact J28 _ _
  refine own_go (T' := s₁) (g' := (mkF m 1 #[.val (.int p1), .val (.int p2), .val (.int p3), .val (.int p4), .unset, .unset, .unset, .unset, .unset, .unset, .unset] [(.int p4)])) (fun t k => XS.iloadN X0.here hx rfl (hb hby at_0) rfl k) ?_
  refine own_go (T' := s₁) (g' := (mkF m 2 #[.val (.int p1), .val (.int p2), .val (.int p3), .val (.int p4), .unset, .unset, .unset, .unset, .unset, .unset, .unset] [(.int (1 : Int32)), (.int p4)])) (fun t k => XS.iconst X0.here hx rfl (hb hby at_1) k) ?_
  refine own_go (T' := s₁) (g' := (mkF m 3 #[.val (.int p1), .val (.int p2), .val (.int p3), .val (.int p4), .unset, .unset, .unset, .unset, .unset, .unset, .unset] [(.int (p4 &&& (1 : Int32)))])) (fun t k => XS.iand X0.here hx rfl (hb hby at_2) rfl k) ?_
  by_cases c3_1 : (p4 &&& (1 : Int32)) = (0 : Int32)
  · refine own_go (T' := s₁) (g' := (mkF m 11 #[.val (.int p1), .val (.int p2), .val (.int p3), .val (.int p4), .unset, .unset, .unset, .unset, .unset, .unset, .unset] [])) (fun t k => XS.ifYes X0.here hx rfl (pc0 := 3) (pc' := 11) rfl (hb hby at_3) rfl ((if0 _ _).trans (teq c3_1).1) (by decide) (by decide) k) ?_
    refine own_go (T' := s₁) (g' := (mkF m 12 #[.val (.int p1), .val (.int p2), .val (.int p3), .val (.int p4), .unset, .unset, .unset, .unset, .unset, .unset, .unset] [(.int p1)])) (fun t k => XS.iloadN X0.here hx rfl (hb hby at_11) rfl k) ?_
    refine own_go (T' := s₁) (g' := (mkF m 14 #[.val (.int p1), .val (.int p2), .val (.int p3), .val (.int p4), .val (.int p1), .unset, .unset, .unset, .unset, .unset, .unset] [])) (fun t k => XS.istore X0.here hx rfl (hb hby at_12) rfl (l' := #[.val (.int p1), .val (.int p2), .val (.int p3), .val (.int p4), .val (.int p1), .unset, .unset, .unset, .unset, .unset, .unset]) rfl k) ?_
    exact J14 _
  · refine own_go (T' := s₁) (g' := (mkF m 6 #[.val (.int p1), .val (.int p2), .val (.int p3), .val (.int p4), .unset, .unset, .unset, .unset, .unset, .unset, .unset] [])) (fun t k => XS.ifNo X0.here hx rfl (hb hby at_3) rfl ((if0 _ _).trans (feq c3_1).1) k) ?_
    refine own_go (T' := s₁) (g' := (mkF m 8 #[.val (.int p1), .val (.int p2), .val (.int p3), .val (.int p4), .unset, .unset, .unset, .unset, .unset, .unset, .unset] [(.int (2147483647 : Int32))])) (X0.ldcInt hx hown (mvT hZ (hw _ (List.mem_of_getElem? (i := 0) rfl))) (g := (mkF m 6 #[.val (.int p1), .val (.int p2), .val (.int p3), .val (.int p4), .unset, .unset, .unset, .unset, .unset, .unset, .unset] [])) rfl (hb hby at_6)) ?_
    refine own_go (T' := s₁) (g' := (mkF m 12 #[.val (.int p1), .val (.int p2), .val (.int p3), .val (.int p4), .unset, .unset, .unset, .unset, .unset, .unset, .unset] [(.int (2147483647 : Int32))])) (fun t k => XS.goto X0.here hx rfl (pc0 := 8) (pc' := 12) rfl (hb hby at_8) (by decide) (by decide) k) ?_
    refine own_go (T' := s₁) (g' := (mkF m 14 #[.val (.int p1), .val (.int p2), .val (.int p3), .val (.int p4), .val (.int (2147483647 : Int32)), .unset, .unset, .unset, .unset, .unset, .unset] [])) (fun t k => XS.istore X0.here hx rfl (hb hby at_12) rfl (l' := #[.val (.int p1), .val (.int p2), .val (.int p3), .val (.int p4), .val (.int (2147483647 : Int32)), .unset, .unset, .unset, .unset, .unset, .unset]) rfl k) ?_
    exact J14 _
set_option maxRecDepth 65536 in
set_option maxHeartbeats 40000000 in
theorem comes_1 {Post : Tables → Env → Array Value → State → Outcome → State → Prop} (hpost : ∀ tb e args s v u, (limb_1_1.after args s (.returned v) u = true ∧ limb_1_2.after args s (.returned v) u = true ∧ True) → FrameEnd s (.returned v) u (Jvm.fieldLocs frame_1_writes args s ++ Jvm.arrayLocs frame_1_arrays args s ++ Jvm.staticLocs frame_1_statics s) 16 128 → Post tb e args s (.returned v) u) :
    ArmFor flags0 classFile x code maxLocals ret World_1 tables_1 room_1 Calls_1 rest_1 Pre_1 Post := by
  intro l hfl _ _ p e ha hc hk s m args below hf hA hF happ hP
  obtain ⟨hcalls, hrest, hpre⟩ := hP
  obtain ⟨-, -, -, hnamed, -, -, -, hat⟩ := (Spec.applies_iff hf).mp happ
  obtain ⟨hg, hn⟩ := and_e (Cond.before_iff.mp (show (Jvm.Cond.and given_1 narrow_1).before args s = true from hpre))
  obtain ⟨g0, q0⟩ := and_e hg
  obtain ⟨ga0, q1⟩ := and_e q0
  obtain ⟨ga1, q2⟩ := and_e q1
  obtain ⟨ga2, q3⟩ := and_e q2
  have ga3 := q3
  obtain ⟨w0, w1, w2, w3, rfl⟩ : ∃ w0 w1 w2 w3 : Value, args = #[w0, w1, w2, w3] := by
    have hs : args.size = 4 := by simpa [Cond.value, given_1] using g0
    obtain ⟨L⟩ := args
    match L, hs with
    | [w0, w1, w2, w3], _ => exact ⟨w0, w1, w2, w3, rfl⟩
  have hw := fun d (hd : d ∈ tables_1) => atoms_spec (ws := Jvm.Cond.code x code maxLocals ret :: tables_1) hat d (List.mem_cons_of_mem _ hd)
  obtain ⟨i0, ei0⟩ := is_v ga0
  obtain rfl : w0 = (.int i0) := Option.some.inj ei0
  obtain ⟨i1, ei1⟩ := is_v ga1
  obtain rfl : w1 = (.int i1) := Option.some.inj ei1
  obtain ⟨i2, ei2⟩ := is_v ga2
  obtain rfl : w2 = (.int i2) := Option.some.inj ei2
  obtain ⟨i3, ei3⟩ := is_v ga3
  obtain rfl : w3 = (.int i3) := Option.some.inj ei3
  obtain ⟨n, o, h1, h2, h3, _, L, rfl, ⟨rfl, N⟩, hq⟩ := rm0 l s _ hw tables_1 i0 i1 i2 i3 s.heap s.heap.size (Nat.le_refl _) p e ha hc hk s m _ below hf ((Spec.applies_iff_loose hf).mp happ).1 ⟨rfl, State.Warmed39.refl s, rfl⟩ trivial
  refine ⟨n, _, h1, h2, h3, hpost _ _ _ _ _ _ ⟨Cond.after_iff.mpr rfl, Cond.after_iff.mpr (eq_i res_at (Term.int_eval (1)) rfl), trivial⟩ ⟨hq.1, hq.2.1, (hq.2.2.sift fun y hy => Or.inr (N y hy)).mono (by decide) (by decide)⟩⟩
theorem main_1_1 : Claimed_1_1 := comes_1 fun _ _ _ _ _ _ h hF => ⟨h.1, hF⟩
theorem main_1_2 : Claimed_1_2 := comes_1 fun _ _ _ _ _ _ h hF => ⟨h.2.1, hF⟩
end Jvm.Pilot.@@N@@
namespace Jvm.Pilot.@@N@@
open Jvm Jvm.ClassFile Sem Op Lib Jvm.Free Jvm.Stand Jvm.Pilot.@@N@@.Jvm.D
/-! MADE BY PROGRAM (witnessworld.py) out of the Statement's table words and the real class files: 11 classes; the members and pool entries that the words name. The judged class is class 1, her method 1. -/
namespace start1
open Jvm.ClassFile
def u (s : String) : CpInfo := .utf8 (stringToUtf16 s)
/-- a pool by its gaps: so many unusable entries, then the entry; so many at the end -/
def gap : Nat → List CpInfo → List CpInfo
  | 0, r => r
  | n + 1, r => .unusable :: gap n r
def poolList (es : List (Nat × CpInfo)) (last : Nat) : List CpInfo := es.foldr (fun e r => gap e.1 (e.2 :: r)) (gap last [])
def pool (es : List (Nat × CpInfo)) (last : Nat) : Array CpInfo := ⟨poolList es last⟩
def fileOf (pool : Array CpInfo) (this : Nat) (attrs : Array Attribute := #[]) (ms : Array MethodInfo := #[]) (fl : Nat := 33) (sup : Nat := 0) (ifs : Array Nat := #[]) (fds : Array FieldInfo := #[]) : ClassFile where
  minorVersion := 0
  majorVersion := 65
  constantPool := pool
  accessFlags := fl
  thisClass := this
  superClass := sup
  interfaces := ifs
  fields := fds
  methods := ms
  attributes := attrs
def plain (name : String) (sup : Option ClassId) : Class where
  name := name
  kind := .ordinary
  loader := none
  accessFlags := 33
  super := sup
  interfaces := #[]
  cf := none
  fields := #[]
  methods := #[]
  instanceTypes := #[]
  staticTypes := #[]
  resolved := #[]
  callSites := []
  init := .initialized
  statics := none
  mirror := none

def pool0 : Array CpInfo := pool [(5, u "<init>"), (0, u "()V"), (1, .class_ 10), (1, u "java/lang/Object")] 113

def k0m0 : Method := { name := "<init>", desc := "()V", sig := { parameters := [], returnType := none }, accessFlags := 1, code := none }
/-- java/lang/Object -/
def k0 : Class := { plain "java/lang/Object" none with
  accessFlags := 33
  interfaces := #[]
  cf := some (fileOf pool0 8 #[] #[{ accessFlags := 1, nameIndex := 5, descriptorIndex := 6, attributes := #[] }] 33 0 #[] #[])
  fields := #[]
  methods := #[k0m0]
  instanceTypes := #[]
  staticTypes := #[]
  resolved := Array.replicate 124 none
  statics := none }

def pool1 : Array CpInfo := pool [(2, .class_ 4), (1, u "java/lang/Object"), (0, u "<init>"), (0, u "()V"), (0, .integer 2147483647), (0, .methodref 9 10), (0, .class_ 11), (0, .nameAndType 12 13), (0, u "com/example/paths_to_documents/pathstodocuments/query/Evaluation"), (0, u "found"), (0, u "([I)[Z"), (0, .class_ 15), (0, u "com/example/paths_to_documents/pathstodocuments/query/EvaluationFoundPinLaw"), (2, u "law"), (0, u "(IIII)Z")] 7

def k1m0 : Method := { name := "<init>", desc := "()V", sig := { parameters := [], returnType := none }, accessFlags := 1, code := none }
def k1c1 : Code := { maxStack := 4, maxLocals := 11, code := code, exceptionTable := #[], attributes := #[] }
def k1m1 : Method := { name := "law", desc := "(IIII)Z", sig := { parameters := [.int, .int, .int, .int], returnType := some .boolean }, accessFlags := 9, code := some k1c1 }
/-- com/example/paths_to_documents/pathstodocuments/query/EvaluationFoundPinLaw -/
def k1 : Class := { plain "com/example/paths_to_documents/pathstodocuments/query/EvaluationFoundPinLaw" (some 0) with
  accessFlags := 49
  interfaces := #[]
  cf := some (fileOf pool1 14 #[] #[{ accessFlags := 1, nameIndex := 5, descriptorIndex := 6, attributes := #[] }, { accessFlags := 9, nameIndex := 18, descriptorIndex := 19, attributes := #[] }] 49 2 #[] #[])
  fields := #[]
  methods := #[k1m0, k1m1]
  instanceTypes := #[]
  staticTypes := #[]
  resolved := Array.replicate 27 none
  statics := none }

def pool2 : Array CpInfo := pool [(9, u "NONE"), (0, u "Lcom/example/paths_to_documents/pathstodocuments/query/Cancellation;"), (1, .class_ 14), (1, u "com/example/paths_to_documents/pathstodocuments/query/Evaluation"), (3, .class_ 20), (1, u "java/lang/Object"), (3, u "document"), (0, u "Lcom/example/paths_to_documents/pathstodocuments/query/Document;"), (2, u "readsPerChar"), (0, u "I"), (2, u "cancellation"), (13, u "search"), (0, u "Lcom/example/paths_to_documents/pathstodocuments/query/TextSearch;"), (5, u "words"), (0, u "Lcom/example/paths_to_documents/pathstodocuments/query/Words;"), (5, u "values"), (0, u "Lcom/example/paths_to_documents/pathstodocuments/query/ValueNumbers;"), (7, u "ancestry"), (0, u "Lcom/example/paths_to_documents/pathstodocuments/query/Ancestry;"), (5, u "proximity"), (0, u "Lcom/example/paths_to_documents/pathstodocuments/query/Evaluation$Proximity;"), (1, .class_ 81), (1, u "com/example/paths_to_documents/pathstodocuments/query/Evaluation$Proximity"), (64, .class_ 148), (1, u "com/example/paths_to_documents/pathstodocuments/query/Evaluation$Route"), (5, .class_ 156), (1, u "com/example/paths_to_documents/pathstodocuments/query/Evaluation$NodeCondition"), (2, .integer 2147483647), (75, .class_ 236), (0, u "com/example/paths_to_documents/pathstodocuments/query/Evaluation$Strings"), (144, u "found"), (0, u "([I)[Z")] 11

def k2c0 : Code := { maxStack := 4, maxLocals := 3, code := prog_71_method_28_code, exceptionTable := #[], attributes := #[] }
def k2m0 : Method := { name := "found", desc := "([I)[Z", sig := { parameters := [(.array .int)], returnType := some (.array .boolean) }, accessFlags := 8, code := some k2c0 }
/-- com/example/paths_to_documents/pathstodocuments/query/Evaluation -/
def k2 : Class := { plain "com/example/paths_to_documents/pathstodocuments/query/Evaluation" (some 0) with
  accessFlags := 48
  interfaces := #[]
  cf := some (fileOf pool2 12 #[.nestMembers #[235, 154, 146, 79]] #[{ accessFlags := 8, nameIndex := 381, descriptorIndex := 382, attributes := #[] }] 48 18 #[] #[{ accessFlags := 24, nameIndex := 9, descriptorIndex := 29, attributes := #[] }, { accessFlags := 18, nameIndex := 24, descriptorIndex := 25, attributes := #[] }, { accessFlags := 18, nameIndex := 28, descriptorIndex := 29, attributes := #[] }, { accessFlags := 18, nameIndex := 32, descriptorIndex := 10, attributes := #[] }, { accessFlags := 18, nameIndex := 46, descriptorIndex := 47, attributes := #[] }, { accessFlags := 2, nameIndex := 53, descriptorIndex := 54, attributes := #[] }, { accessFlags := 2, nameIndex := 60, descriptorIndex := 61, attributes := #[] }, { accessFlags := 2, nameIndex := 69, descriptorIndex := 70, attributes := #[] }, { accessFlags := 2, nameIndex := 76, descriptorIndex := 77, attributes := #[] }])
  fields := #[{ name := "NONE", type := .int, accessFlags := 24, slot := 0, constantValue := 0 }, { name := "document", type := (.object "com/example/paths_to_documents/pathstodocuments/query/Document"), accessFlags := 18, slot := 0, constantValue := 0 }, { name := "readsPerChar", type := .int, accessFlags := 18, slot := 1, constantValue := 0 }, { name := "cancellation", type := (.object "com/example/paths_to_documents/pathstodocuments/query/Cancellation"), accessFlags := 18, slot := 2, constantValue := 0 }, { name := "search", type := (.object "com/example/paths_to_documents/pathstodocuments/query/TextSearch"), accessFlags := 18, slot := 3, constantValue := 0 }, { name := "words", type := (.object "com/example/paths_to_documents/pathstodocuments/query/Words"), accessFlags := 2, slot := 4, constantValue := 0 }, { name := "values", type := (.object "com/example/paths_to_documents/pathstodocuments/query/ValueNumbers"), accessFlags := 2, slot := 5, constantValue := 0 }, { name := "ancestry", type := (.object "com/example/paths_to_documents/pathstodocuments/query/Ancestry"), accessFlags := 2, slot := 6, constantValue := 0 }, { name := "proximity", type := (.object "com/example/paths_to_documents/pathstodocuments/query/Evaluation$Proximity"), accessFlags := 2, slot := 7, constantValue := 0 }]
  methods := #[k2m0]
  instanceTypes := #[(.object "com/example/paths_to_documents/pathstodocuments/query/Document"), .int, (.object "com/example/paths_to_documents/pathstodocuments/query/Cancellation"), (.object "com/example/paths_to_documents/pathstodocuments/query/TextSearch"), (.object "com/example/paths_to_documents/pathstodocuments/query/Words"), (.object "com/example/paths_to_documents/pathstodocuments/query/ValueNumbers"), (.object "com/example/paths_to_documents/pathstodocuments/query/Ancestry"), (.object "com/example/paths_to_documents/pathstodocuments/query/Evaluation$Proximity")]
  staticTypes := #[.int]
  resolved := Array.replicate 394 none
  statics := none }

def pool3 : Array CpInfo := pool [(1, u "java/lang/Cloneable"), (0, .class_ 1), (0, u "java/lang/Object"), (0, .class_ 3)] 3

/-- java/lang/Cloneable -/
def k3 : Class := { plain "java/lang/Cloneable" (some 0) with
  accessFlags := 1537
  interfaces := #[]
  cf := some (fileOf pool3 2 #[] #[] 1537 4 #[] #[])
  fields := #[]
  methods := #[]
  instanceTypes := #[]
  staticTypes := #[]
  resolved := Array.replicate 8 none
  statics := none }

def pool4 : Array CpInfo := pool [(1, u "java/io/Serializable"), (0, .class_ 1), (0, u "java/lang/Object"), (0, .class_ 3)] 3

/-- java/io/Serializable -/
def k4 : Class := { plain "java/io/Serializable" (some 0) with
  accessFlags := 1537
  interfaces := #[]
  cf := some (fileOf pool4 2 #[] #[] 1537 4 #[] #[])
  fields := #[]
  methods := #[]
  instanceTypes := #[]
  staticTypes := #[]
  resolved := Array.replicate 8 none
  statics := none }

/-- the primitive boolean -/
def k5 : Class := { plain "boolean" none with kind := .primitive 'Z', accessFlags := 0x411 }
/-- [Z -/
def k6 : Class := { plain "[Z" (some 0) with kind := .array 5 .boolean, interfaces := #[3, 4], accessFlags := 1041 }

/-- the primitive byte -/
def k7 : Class := { plain "byte" none with kind := .primitive 'B', accessFlags := 0x411 }
/-- [B -/
def k8 : Class := { plain "[B" (some 0) with kind := .array 7 .byte, interfaces := #[3, 4], accessFlags := 1041 }

/-- the primitive int -/
def k9 : Class := { plain "int" none with kind := .primitive 'I', accessFlags := 0x411 }
/-- [I -/
def k10 : Class := { plain "[I" (some 0) with kind := .array 9 .int, interfaces := #[3, 4], accessFlags := 1041 }

def heap : Heap := #[]
def classes : Array Class := #[k0, k1, k2, k3, k4, k5, k6, k7, k8, k9, k10]
def interned : List (Array UInt16 × Addr) := []
def slotsUsed : Nat := 0
def theMethod : MethodId := ⟨1, 1⟩
def args0 : Array Value := #[.int 5, .int 300, .int 7, .int 8]
def aboutOver (below : List Frame) : State where
  vm := { classes := classes, interned := interned.toArray }
  heap := heap
  slotsUsed := slotsUsed
  threads := #[{ frames := .invoking theMethod args0 :: below }]
def below0 : List Frame := [.native { method := ⟨0, 0⟩, args := #[] }]
def about1 : State := aboutOver below0
def p0 : Program := .bare "" "" ""
def e0 : Env := launch0.env 0 0 0
theorem w_frames : about1.frames = Frame.invoking theMethod args0 :: below0 := rfl
set_option maxRecDepth 65536 in
theorem w_args : argsFit about1.vm theMethod args0 = true := by decide +kernel
set_option maxRecDepth 65536 in
theorem w_heap : heapFits about1 = true := by decide +kernel
set_option maxRecDepth 65536 in
theorem w_runnable : about1.curStatus? = some .runnable := by decide +kernel
set_option maxRecDepth 65536 in
theorem w_alone : about1.alone = true := by decide +kernel
set_option maxRecDepth 65536 in
theorem w_named : about1.methodNamed? x = some theMethod := by decide +kernel
set_option maxRecDepth 65536 in
theorem w_hears : about1.hears theMethod below0 = true := by decide +kernel
set_option maxRecDepth 65536 in
theorem w_ripe : about1.ripe theMethod args0 below0 = true := by decide +kernel
theorem w_running : about1.status = .running := rfl
set_option maxRecDepth 65536 in
theorem w_room : about1.hasRoom e0.platform room_1 = true :=
  launch0.hasRoom_least _ room_1 (by decide +kernel) (by decide +kernel) (by decide +kernel) (by decide +kernel) (by decide +kernel) (by decide +kernel)
theorem allAtoms_all (ts : List Jvm.Cond) (a : Array Jvm.Value) (st : Jvm.State) : (allAtoms ts).before a st = ts.all (fun c => c.before a st) := by
  induction ts with
  | nil => rfl
  | cons c t ih =>
    show (Jvm.Cond.and c (allAtoms t)).before a st = _
    rw [Jvm.Cond.before_and, ih, List.all_cons]
def words1 : List Jvm.Cond := Jvm.Cond.code x code maxLocals ret :: tables_1
/-- a 'code' word, met by the world's own term for the bytes: nothing is compared byte by byte -/
theorem code_word {y : MethodName} {bytes : ByteArray} {mx : Nat} {rt : Option FieldType} {a : Array Value} {s : State} {m : MethodId} {meth : Method} {c : Code} (h1 : s.methodNamed? y = some m) (h2 : s.vm.method? m = some meth) (h3 : meth.code = some c) (h4 : c.code = bytes)
    (h5 : (c.maxLocals == mx && c.exceptionTable.isEmpty && decide (c.maxStack ≤ mostOperands) && decide (meth.sig.returnType = rt) && !meth.locks && decide (parseMethodDescriptor y.desc = some meth.sig)) = true) : (Jvm.Cond.code y bytes mx rt).before a s = true := by
  simp only [Bool.and_eq_true, beq_iff_eq, Bool.not_eq_true', decide_eq_true_eq] at h5
  obtain ⟨⟨⟨⟨⟨g1, g2⟩, g3⟩, g4⟩, g5⟩, g6⟩ := h5
  simp [Cond.before, Cond.holds, Cond.value, h1, h2, h3, h4, g1, g2, g3, g4, g5, g6]
def isCode : Jvm.Cond → Bool
  | .code _ _ _ _ => true
  | _ => false
theorem all_split {L : List Jvm.Cond} {P : Jvm.Cond → Bool} (h1 : L.all (fun c => isCode c || P c) = true) (h2 : ∀ c ∈ L.filter isCode, P c = true) : L.all P = true := by
  refine List.all_eq_true.mpr fun c hc => ?_
  have h := List.all_eq_true.mp h1 c hc
  rcases Bool.eq_false_or_eq_true (isCode c) with hi | hi
  · exact h2 c (List.mem_filter.mpr ⟨hc, hi⟩)
  · simpa [hi] using h
set_option maxRecDepth 65536 in
theorem w_c0 : (Jvm.Cond.code x code maxLocals ret).before args0 about1 = true := code_word (m := ⟨1, 1⟩) (meth := k1m1) (c := k1c1) (by decide +kernel) rfl rfl rfl (by decide +kernel)
set_option maxRecDepth 65536 in
theorem w_c1 : (Jvm.Cond.code ({ cls := "com/example/paths_to_documents/pathstodocuments/query/Evaluation", name := "found", desc := "([I)[Z" } : Jvm.MethodName) prog_71_method_28_code (3 : Nat) (Option.some (Jvm.ClassFile.FieldType.array Jvm.ClassFile.FieldType.boolean))).before args0 about1 = true := code_word (m := ⟨2, 0⟩) (meth := k2m0) (c := k2c0) (by decide +kernel) rfl rfl rfl (by decide +kernel)
def codes1 : List Jvm.Cond := [Jvm.Cond.code x code maxLocals ret, Jvm.Cond.code ({ cls := "com/example/paths_to_documents/pathstodocuments/query/Evaluation", name := "found", desc := "([I)[Z" } : Jvm.MethodName) prog_71_method_28_code (3 : Nat) (Option.some (Jvm.ClassFile.FieldType.array Jvm.ClassFile.FieldType.boolean))]
set_option maxRecDepth 65536 in
theorem codes_eq : words1.filter isCode = codes1 := rfl
theorem w_codes : ∀ c ∈ words1.filter isCode, c.before args0 about1 = true := by
  rw [codes_eq]
  intro c hc
  simp only [codes1, List.mem_cons, List.not_mem_nil, or_false] at hc
  rcases hc with rfl | rfl
  · exact w_c0
  · exact w_c1
set_option maxRecDepth 65536 in
theorem w_t1 : words1.all (fun c => isCode c || c.before args0 about1) = true := by decide +kernel
theorem w_tables : (allAtoms (Jvm.Cond.code x code maxLocals ret :: tables_1)).before args0 about1 = true := by
  rw [allAtoms_all]
  show words1.all (fun c => c.before args0 about1) = true
  refine all_split ?_ w_codes
  rw [w_t1]
set_option maxRecDepth 65536 in
theorem w_case : (Jvm.Cond.and given_1 narrow_1).before args0 about1 = true := by decide +kernel
theorem w_applies : (headSpec (Jvm.Cond.code x code maxLocals ret :: tables_1) room_1).applies x e0.platform about1 = true :=
  (Spec.applies_iff w_frames).mpr ⟨w_running, w_runnable, w_alone, w_named, w_hears, w_ripe, w_room, w_tables⟩
theorem atStart : AtStart classFile x code maxLocals ret World_1 tables_1 room_1 Calls_1 rest_1 Pre_1 launch0 p0 e0 about1 theMethod args0 below0 :=
  ⟨lists_1, trivial, launch0.admits_env _ _ _, launch0.least_env, fairChoices_fair.cas, fairChoices_fair.clock, w_frames, w_args, w_heap, w_applies, trivial, trivial, w_case⟩
end start1
theorem witness_1 : WitnessClaimed_1 := ⟨start1.p0, start1.e0, start1.about1, start1.theMethod, start1.args0, start1.below0, start1.atStart⟩
end Jvm.Pilot.@@N@@
