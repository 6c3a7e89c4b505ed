import JvmDerived
import JvmDerived.Pilot.@@N@@Statement
import JvmDerived.Pilot.@@N@@Code
set_option linter.unusedVariables false
set_option linter.unusedSimpArgs false
namespace Jvm.Pilot.@@N@@
open Jvm Jvm.ClassFile Sem Op Lib Jvm.Free Jvm.Stand Jvm.LawKit Jvm.RoadKit Bundle Jvm.Pilot.@@N@@.Jvm.D
section Own
variable {p : Program} {l : Launch} {e : Env} {R : Room} {s : State} {m : MethodId} {args : Array Value} {below : List Frame} {meth : Method} {c : Code} {T T' : State} {locs : List Loc} {cells slots : Nat} {QQ : Option Value → Heap → List Loc → Prop} {RC RS : Nat} {g g' : JFrame}
/-- from this frame the run comes to the method's end, and what it leaves is as QQ says -/
def own_Run (p : Program) (e : Env) (below : List Frame) (s : State) (QQ : Option Value → Heap → List Loc → Prop) (RC RS : Nat) (T : State) (g : JFrame) : Prop :=
  ∃ s₂ o, Steps p.tables e below (T.setTop g) s₂ ∧ s₂.status = .running ∧ Ended s₂ below o ∧ ∃ v L, o = .returned v ∧ QQ v s₂.heap L ∧ FrameEnd s o s₂ L RC RS
theorem own_go (h : ∀ t, Steps p.tables e below (T'.setTop g') t → Steps p.tables e below (T.setTop g) t) (r : own_Run p e below s QQ RC RS T' g') : own_Run p e below s QQ RC RS T g := by
  obtain ⟨s₂, o, k, r⟩ := r
  exact ⟨s₂, o, h _ k, r⟩
theorem own_enter {g0 : JFrame} (q : g0 = g) (r : own_Run p e below s QQ RC RS T g) : ∃ s₂ o, Steps p.tables e below (T.setTop g0) s₂ ∧ s₂.status = .running ∧ Ended s₂ below o ∧ ∃ v L, o = .returned v ∧ QQ v s₂.heap L ∧ FrameEnd s o s₂ L RC RS := by
  subst q; exact r
theorem own_retZ (X : Stand p l e R s m args below meth c T locs cells slots) (hx : p.tables.exec = Jvm.exec) (hlk : meth.locks = false) (hret : meth.sig.returnType = some .boolean) {pc : Nat} {Ls : Array Slot} {z : Int32} {rest : List Value} (hd : decode c.code pc = .ok (.ireturn, 1)) (hz : nar .boolean z = z)
    (hQ : QQ (some (.int z)) T.heap locs) (hc : cells ≤ RC) (hs : slots ≤ RS) : own_Run p e below s QQ RC RS T (mkF m pc Ls (.int z :: rest)) := by
  obtain ⟨fs, hr, hrun, hended, hW, hsame⟩ := X.leave (v := some (.int z)) (fun h => by rw [hret] at h; cases h) hlk
  refine ⟨_, _, retN X hx (t := .boolean) hret (by simp) hd (by rw [hz]; exact hr), hrun, hended, _, _, rfl, hQ, ⟨_, rfl⟩, hW, hsame.mono hc hs⟩
theorem own_retI (X : Stand p l e R s m args below meth c T locs cells slots) (hx : p.tables.exec = Jvm.exec) (hlk : meth.locks = false) (hret : meth.sig.returnType = some .int) {pc : Nat} {Ls : Array Slot} {z : Int32} {rest : List Value} (hd : decode c.code pc = .ok (.ireturn, 1))
    (hQ : QQ (some (.int z)) T.heap locs) (hc : cells ≤ RC) (hs : slots ≤ RS) : own_Run p e below s QQ RC RS T (mkF m pc Ls (.int z :: rest)) := by
  obtain ⟨fs, hr, hrun, hended, hW, hsame⟩ := X.leave (v := some (.int z)) (fun h => by rw [hret] at h; cases h) hlk
  refine ⟨_, _, ?_, hrun, hended, _, _, rfl, hQ, ⟨_, rfl⟩, hW, hsame.mono hc hs⟩
  have hm' : T.vm.method? m = some meth := X.method'
  have hn : narrow .int (.int z) = .int z := rfl
  show Steps p.tables e below (T.setTop { method := m, pc := pc, locals := Ls, stack := _ :: rest, locked := none }) _
  jvm_step X.here [X.here.top, hx, hd, hm', hret, hn]
  first | (intro acts; rw [hr _ acts rfl rfl rfl]) | rw [hr _ _ rfl rfl rfl]
  exact Steps.refl _
theorem own_retJ (X : Stand p l e R s m args below meth c T locs cells slots) (hx : p.tables.exec = Jvm.exec) (hlk : meth.locks = false) (hret : meth.sig.returnType = some .long) {pc : Nat} {Ls : Array Slot} {z : Int64} (hd : decode c.code pc = .ok (.lreturn, 1))
    (hQ : QQ (some (.long z)) T.heap locs) (hc : cells ≤ RC) (hs : slots ≤ RS) : own_Run p e below s QQ RC RS T (mkF m pc Ls [.long z]) := by
  obtain ⟨fs, hr, hrun, hended, hW, hsame⟩ := X.leave (v := some (.long z)) (fun h => by rw [hret] at h; cases h) hlk
  exact ⟨_, _, X.lreturnOut hx hret hd hr, hrun, hended, _, _, rfl, hQ, ⟨_, rfl⟩, hW, hsame.mono hc hs⟩
theorem own_retV (X : Stand p l e R s m args below meth c T locs cells slots) (hx : p.tables.exec = Jvm.exec) (hlk : meth.locks = false) (hret : meth.sig.returnType = none) {pc : Nat} {Ls : Array Slot} (hd : decode c.code pc = .ok (.return_, 1))
    (hQ : QQ none T.heap locs) (hc : cells ≤ RC) (hs : slots ≤ RS) : own_Run p e below s QQ RC RS T (mkF m pc Ls []) := by
  obtain ⟨fs, hr, hrun, hended, hW, hsame⟩ := X.leave (v := none) (fun _ => rfl) hlk
  exact ⟨_, _, X.returnOut hx hret hd hr, hrun, hended, _, _, rfl, hQ, ⟨_, rfl⟩, hW, hsame.mono hc hs⟩
theorem own_retA (X : Stand p l e R s m args below meth c T locs cells slots) (hx : p.tables.exec = Jvm.exec) (hlk : meth.locks = false) {ty : FieldType} (hty : ty.isReference = true) (hret : meth.sig.returnType = some ty) {pc : Nat} {Ls : Array Slot} {a : Addr} {rest : List Value} (hd : decode c.code pc = .ok (.areturn, 1))
    (hQ : QQ (some (.ref a)) T.heap locs) (hc : cells ≤ RC) (hs : slots ≤ RS) : own_Run p e below s QQ RC RS T (mkF m pc Ls (.ref a :: rest)) := by
  obtain ⟨fs, hr, hrun, hended, hW, hsame⟩ := X.leave (v := some (.ref a)) (fun h => by rw [hret] at h; cases h) hlk
  refine ⟨_, _, ?_, hrun, hended, _, _, rfl, hQ, ⟨_, rfl⟩, hW, hsame.mono hc hs⟩
  have hm' : T.vm.method? m = some meth := X.method'
  show Steps p.tables e below (T.setTop { method := m, pc := pc, locals := Ls, stack := _ :: rest, locked := none }) _
  jvm_step X.here [X.here.top, hx, hd, hm', hret, hty, Value.isRef]
  first | (intro acts; rw [hr _ acts rfl rfl rfl]) | rw [hr _ _ rfl rfl rfl]
  exact Steps.refl _
end Own
theorem d1_0 : decode prog_108_method_3_code 0 = .ok (.iload_n 0, 1) := by decide +kernel
theorem d1_1 : decode prog_108_method_3_code 1 = .ok (.bipush 32, 2) := by decide +kernel
theorem d1_3 : decode prog_108_method_3_code 3 = .ok (.if_icmp .eq 21, 3) := by decide +kernel
theorem d1_6 : decode prog_108_method_3_code 6 = .ok (.iload_n 0, 1) := by decide +kernel
theorem d1_7 : decode prog_108_method_3_code 7 = .ok (.bipush 9, 2) := by decide +kernel
theorem d1_9 : decode prog_108_method_3_code 9 = .ok (.if_icmp .eq 15, 3) := by decide +kernel
theorem d1_12 : decode prog_108_method_3_code 12 = .ok (.iload_n 0, 1) := by decide +kernel
theorem d1_13 : decode prog_108_method_3_code 13 = .ok (.bipush 10, 2) := by decide +kernel
theorem d1_15 : decode prog_108_method_3_code 15 = .ok (.if_icmp .eq 9, 3) := by decide +kernel
theorem d1_18 : decode prog_108_method_3_code 18 = .ok (.iload_n 0, 1) := by decide +kernel
theorem d1_19 : decode prog_108_method_3_code 19 = .ok (.bipush 13, 2) := by decide +kernel
theorem d1_21 : decode prog_108_method_3_code 21 = .ok (.if_icmp .ne 7, 3) := by decide +kernel
theorem d1_24 : decode prog_108_method_3_code 24 = .ok (.iconst 1, 1) := by decide +kernel
theorem d1_25 : decode prog_108_method_3_code 25 = .ok (.goto 4, 3) := by decide +kernel
theorem d1_28 : decode prog_108_method_3_code 28 = .ok (.iconst 0, 1) := by decide +kernel
theorem d1_29 : decode prog_108_method_3_code 29 = .ok (.ireturn, 1) := by decide +kernel
theorem pn_1 : plainName "com/example/noddle/noddle/xml/Characters" = true := by first | (simp [plainName, overriddenIn]; done) | decide +kernel
theorem ef_1 (m : MethodId) (x0 : Int32) : entryFrame m #[(.int x0)] 1 = mkF m 0 #[.val (.int x0)] [] := by first | (simp [entryFrame, mkF, argsToLocals, Value.category]; done) | rfl
def own_isSpace (p1 : Int32) : Int32 :=
  if p1 = (32 : Int32) then (1 : Int32) else
  if p1 = (9 : Int32) then (1 : Int32) else
  if p1 = (10 : Int32) then (1 : Int32) else
  if p1 = (13 : Int32) then (1 : Int32) else
  (0 : Int32)
def Q1 (Z : State) (p1 : Int32) (h0 : Heap) (n0 : Nat) (v : Option Value) (h : Heap) (L : List Loc) : Prop := v = some (.int (own_isSpace p1)) ∧ Fr n0 L ∧ h = h0
set_option maxRecDepth 65536 in
set_option maxHeartbeats 40000000 in
theorem rm1 (l : Launch) (Z : State) (a0 : Array Value) (hw : ∀ d ∈ tables_1, d.before a0 Z = true) (ws : List Jvm.Cond) (p1 : Int32) (h0 : Heap) (n0 : Nat) (Z0 : n0 ≤ h0.size) :
    MetFree l (⟨"com/example/noddle/noddle/xml/Characters", "isSpace", "(I)Z"⟩ : MethodName) (head1 (Jvm.Cond.code (⟨"com/example/noddle/noddle/xml/Characters", "isSpace", "(I)Z"⟩ : MethodName) prog_108_method_3_code 1 (some .boolean) :: ws) ({ frames := 0, cells := 0, slots := 0, locals := 0 } : Room)) (fun aa U => aa = #[(.int p1)] ∧ Z.Warmed39 U.vm ∧ U.heap = h0) (fun _ _ _ _ _ => True) (fun _ U o U' => ∃ v L, o = .returned v ∧ Q1 Z p1 h0 n0 v U'.heap L ∧ FrameEnd U o U' L ({ frames := 0, cells := 0, slots := 0, locals := 0 } : Room).cells ({ frames := 0, cells := 0, slots := 0, locals := 0 } : Room).slots) := by
  refine MetFree.of_bodySF (plainFor_of_name pn_1) hisR ?_
  intro p e s m args below meth c s₁ Bd hml0 hP hK
  obtain ⟨rfl, hZ, hh⟩ := hP
  have hx := Bd.exec
  have hby := Bd.bytes
  have hml : c.maxLocals = 1 := hml0
  have hown : s.vm.findClass "com/example/noddle/noddle/xml/Characters" = some m.cls := findClass_of_methodNamed Bd.named
  have hnm := (name_of_methodNamed Bd.named Bd.method).1
  have X0 : Stand p l e ({ frames := 0, cells := 0, slots := 0, locals := 0 } : Room) s m #[(.int p1)] below meth c s₁ [] 0 0 := Stand.of_body Bd
  have e0 : s₁.heap = h0 := by rw [← hh, Bd.state]; rfl
  have N0 := Fr.nil n0
  refine own_enter (QQ := Q1 Z p1 h0 n0) (ef_1 m p1) ?_
  refine own_go (T' := s₁) (g' := (mkF m 1 #[.val (.int p1)] [(.int p1)])) (fun t k => XS.iloadN X0.here hx rfl (hb hby d1_0) rfl k) ?_
  refine own_go (T' := s₁) (g' := (mkF m 3 #[.val (.int p1)] [(.int (32 : Int32)), (.int p1)])) (fun t k => XS.bipush X0.here hx rfl (hb hby d1_1) k) ?_
  by_cases c3_1 : p1 = (32 : Int32)
  · refine own_go (T' := s₁) (g' := (mkF m 24 #[.val (.int p1)] [])) (fun t k => XS.icmpYes X0.here hx rfl (pc0 := 3) (pc' := 24) rfl (hb hby d1_3) rfl (teq c3_1).1 (by decide) (by decide) k) ?_
    refine own_go (T' := s₁) (g' := (mkF m 25 #[.val (.int p1)] [(.int (1 : Int32))])) (fun t k => XS.iconst X0.here hx rfl (hb hby d1_24) k) ?_
    refine own_go (T' := s₁) (g' := (mkF m 29 #[.val (.int p1)] [(.int (1 : Int32))])) (fun t k => XS.goto X0.here hx rfl (pc0 := 25) (pc' := 29) rfl (hb hby d1_25) (by decide) (by decide) k) ?_
    exact own_retZ X0 hx Bd.notSynchronized Bd.returns (hb hby d1_29) rfl ⟨by unfold own_isSpace; rw [if_pos c3_1], N0, e0⟩ (by decide) (by decide)
  · refine own_go (T' := s₁) (g' := (mkF m 6 #[.val (.int p1)] [])) (fun t k => XS.icmpNo X0.here hx rfl (hb hby d1_3) rfl (feq c3_1).1 k) ?_
    refine own_go (T' := s₁) (g' := (mkF m 7 #[.val (.int p1)] [(.int p1)])) (fun t k => XS.iloadN X0.here hx rfl (hb hby d1_6) rfl k) ?_
    refine own_go (T' := s₁) (g' := (mkF m 9 #[.val (.int p1)] [(.int (9 : Int32)), (.int p1)])) (fun t k => XS.bipush X0.here hx rfl (hb hby d1_7) k) ?_
    by_cases c9_2 : p1 = (9 : Int32)
    · refine own_go (T' := s₁) (g' := (mkF m 24 #[.val (.int p1)] [])) (fun t k => XS.icmpYes X0.here hx rfl (pc0 := 9) (pc' := 24) rfl (hb hby d1_9) rfl (teq c9_2).1 (by decide) (by decide) k) ?_
      refine own_go (T' := s₁) (g' := (mkF m 25 #[.val (.int p1)] [(.int (1 : Int32))])) (fun t k => XS.iconst X0.here hx rfl (hb hby d1_24) k) ?_
      refine own_go (T' := s₁) (g' := (mkF m 29 #[.val (.int p1)] [(.int (1 : Int32))])) (fun t k => XS.goto X0.here hx rfl (pc0 := 25) (pc' := 29) rfl (hb hby d1_25) (by decide) (by decide) k) ?_
      exact own_retZ X0 hx Bd.notSynchronized Bd.returns (hb hby d1_29) rfl ⟨by unfold own_isSpace; rw [if_neg c3_1, if_pos c9_2], N0, e0⟩ (by decide) (by decide)
    · refine own_go (T' := s₁) (g' := (mkF m 12 #[.val (.int p1)] [])) (fun t k => XS.icmpNo X0.here hx rfl (hb hby d1_9) rfl (feq c9_2).1 k) ?_
      refine own_go (T' := s₁) (g' := (mkF m 13 #[.val (.int p1)] [(.int p1)])) (fun t k => XS.iloadN X0.here hx rfl (hb hby d1_12) rfl k) ?_
      refine own_go (T' := s₁) (g' := (mkF m 15 #[.val (.int p1)] [(.int (10 : Int32)), (.int p1)])) (fun t k => XS.bipush X0.here hx rfl (hb hby d1_13) k) ?_
      by_cases c15_3 : p1 = (10 : Int32)
      · refine own_go (T' := s₁) (g' := (mkF m 24 #[.val (.int p1)] [])) (fun t k => XS.icmpYes X0.here hx rfl (pc0 := 15) (pc' := 24) rfl (hb hby d1_15) rfl (teq c15_3).1 (by decide) (by decide) k) ?_
        refine own_go (T' := s₁) (g' := (mkF m 25 #[.val (.int p1)] [(.int (1 : Int32))])) (fun t k => XS.iconst X0.here hx rfl (hb hby d1_24) k) ?_
        refine own_go (T' := s₁) (g' := (mkF m 29 #[.val (.int p1)] [(.int (1 : Int32))])) (fun t k => XS.goto X0.here hx rfl (pc0 := 25) (pc' := 29) rfl (hb hby d1_25) (by decide) (by decide) k) ?_
        exact own_retZ X0 hx Bd.notSynchronized Bd.returns (hb hby d1_29) rfl ⟨by unfold own_isSpace; rw [if_neg c3_1, if_neg c9_2, if_pos c15_3], N0, e0⟩ (by decide) (by decide)
      · refine own_go (T' := s₁) (g' := (mkF m 18 #[.val (.int p1)] [])) (fun t k => XS.icmpNo X0.here hx rfl (hb hby d1_15) rfl (feq c15_3).1 k) ?_
        refine own_go (T' := s₁) (g' := (mkF m 19 #[.val (.int p1)] [(.int p1)])) (fun t k => XS.iloadN X0.here hx rfl (hb hby d1_18) rfl k) ?_
        refine own_go (T' := s₁) (g' := (mkF m 21 #[.val (.int p1)] [(.int (13 : Int32)), (.int p1)])) (fun t k => XS.bipush X0.here hx rfl (hb hby d1_19) k) ?_
        by_cases c21_4 : p1 = (13 : Int32)
        · refine own_go (T' := s₁) (g' := (mkF m 24 #[.val (.int p1)] [])) (fun t k => XS.icmpNo X0.here hx rfl (hb hby d1_21) rfl (teq c21_4).2 k) ?_
          refine own_go (T' := s₁) (g' := (mkF m 25 #[.val (.int p1)] [(.int (1 : Int32))])) (fun t k => XS.iconst X0.here hx rfl (hb hby d1_24) k) ?_
          refine own_go (T' := s₁) (g' := (mkF m 29 #[.val (.int p1)] [(.int (1 : Int32))])) (fun t k => XS.goto X0.here hx rfl (pc0 := 25) (pc' := 29) rfl (hb hby d1_25) (by decide) (by decide) k) ?_
          exact own_retZ X0 hx Bd.notSynchronized Bd.returns (hb hby d1_29) rfl ⟨by unfold own_isSpace; rw [if_neg c3_1, if_neg c9_2, if_neg c15_3, if_pos c21_4], N0, e0⟩ (by decide) (by decide)
        · refine own_go (T' := s₁) (g' := (mkF m 28 #[.val (.int p1)] [])) (fun t k => XS.icmpYes X0.here hx rfl (pc0 := 21) (pc' := 28) rfl (hb hby d1_21) rfl (feq c21_4).2 (by decide) (by decide) k) ?_
          refine own_go (T' := s₁) (g' := (mkF m 29 #[.val (.int p1)] [(.int (0 : Int32))])) (fun t k => XS.iconst X0.here hx rfl (hb hby d1_28) k) ?_
          exact own_retZ X0 hx Bd.notSynchronized Bd.returns (hb hby d1_29) rfl ⟨by unfold own_isSpace; rw [if_neg c3_1, if_neg c9_2, if_neg c15_3, if_neg c21_4], N0, e0⟩ (by decide) (by decide)
theorem pn_0 : plainName "com/example/noddle/noddle/xml/CharactersIsSpacePinLaw" = true := by first | (simp [plainName, overriddenIn]; done) | decide +kernel
theorem own_pd0 : parseMethodDescriptor "(I)Z" = some ⟨[.int], some .boolean⟩ := by decide +kernel
theorem ef_0 (m : MethodId) (x0 : Int32) (x1 : Int32) : entryFrame m #[(.int x0), (.int x1)] maxLocals = mkF m 0 #[.val (.int x0), .val (.int x1), .unset, .unset, .unset, .unset] [] := by first | (simp [entryFrame, mkF, argsToLocals, Value.category, maxLocals]; done) | rfl
def Q0 (Z : State) (p1 p2 : Int32) (h0 : Heap) (n0 : Nat) (v : Option Value) (h : Heap) (L : List Loc) : Prop := v = some (.int 1) ∧ Fr n0 L
def own_expected (cv : Int32) : Int32 :=
  if cv = (32 : Int32) then (1 : Int32) else
  if cv < (9 : Int32) then (0 : Int32) else
  if (13 : Int32) < cv then (0 : Int32) else
  if cv = (11 : Int32) then (0 : Int32) else
  if cv = (12 : Int32) then (0 : Int32) else
  (1 : Int32)
theorem own_pin (cv : Int32) : own_expected cv = own_isSpace cv := by
  unfold own_expected own_isSpace
  simp only [Int32.lt_iff_toInt_lt, ← Int32.toInt_inj, Int32.reduceToInt]
  repeat' split
  all_goals first | rfl | (exfalso; omega)
set_option maxRecDepth 65536 in
set_option maxHeartbeats 40000000 in
theorem rm0 (l : Launch) (Z : State) (a0 : Array Value) (hw : ∀ d ∈ tables_1, d.before a0 Z = true) (ws : List Jvm.Cond) (p1 : Int32) (p2 : Int32) (h0 : Heap) (n0 : Nat) (Z0 : n0 ≤ h0.size) :
    MetFree l x (head1 (Jvm.Cond.code x code maxLocals ret :: ws) room_1) (fun aa U => aa = #[(.int p1), (.int p2)] ∧ Z.Warmed39 U.vm ∧ U.heap = h0) (fun _ _ _ _ _ => True) (fun _ U o U' => ∃ v L, o = .returned v ∧ Q0 Z p1 p2 h0 n0 v U'.heap L ∧ FrameEnd U o U' L room_1.cells room_1.slots) := by
  refine MetFree.of_bodySF (plainFor_of_name pn_0) hisR ?_
  intro p e s m args below meth c s₁ Bd hml0 hP hK
  obtain ⟨rfl, hZ, hh⟩ := hP
  have hx := Bd.exec
  have hby := Bd.bytes
  have hml : c.maxLocals = 6 := hml0
  have hown : s.vm.findClass "com/example/noddle/noddle/xml/CharactersIsSpacePinLaw" = some m.cls := findClass_of_methodNamed Bd.named
  have hnm := (name_of_methodNamed Bd.named Bd.method).1
  have X0 : Stand p l e room_1 s m #[(.int p1), (.int p2)] below meth c s₁ [] 0 0 := Stand.of_body Bd
  have e0 : s₁.heap = h0 := by rw [← hh, Bd.state]; rfl
  have N0 := Fr.nil n0
  refine own_enter (QQ := Q0 Z p1 p2 h0 n0) (ef_0 m p1 p2) ?_
  have J112 : ∀ am al cv ev : Int32, ev = own_isSpace cv → own_Run p e below s (Q0 Z p1 p2 h0 n0) room_1.cells room_1.slots s₁ (mkF m 112 #[.val (.int p1), .val (.int p2), .val (.int am), .val (.int al), .val (.int cv), .val (.int ev)] []) := by
    intro am al cv ev hev
    refine own_go (T' := s₁) (g' := (mkF m 114 #[.val (.int p1), .val (.int p2), .val (.int am), .val (.int al), .val (.int cv), .val (.int ev)] [(.int cv)])) (fun t k => XS.iload X0.here hx rfl (hb hby at_112) rfl k) ?_
    obtain ⟨_, _, ⟨T1, L1, k1, n1⟩, -, X1, ⟨Lc1, hQ1, l1, y1, z1⟩, st1⟩ := Jvm.LawKit.callS X0 hx (y := (⟨"com/example/noddle/noddle/xml/Characters", "isSpace", "(I)Z"⟩ : MethodName)) hown (mvT hZ (hw _ (List.mem_of_getElem? (i := 0) rfl))) (mvT hZ (hw _ (List.mem_of_getElem? (i := 1) rfl))) (mvT hZ (hw _ (List.mem_of_getElem? (i := 2) rfl))) (mvT hZ (hw _ (List.mem_of_getElem? (i := 3) rfl))) (by decide) (backOf (W := 0) (rm1 l Z a0 hw [] cv h0 n0 Z0) hZ (hw _ (List.mem_of_getElem? (i := 3) rfl)) (hw _ (List.mem_of_getElem? (i := 2) rfl)) (by decide) (by decide)) (g := (mkF m 114 #[.val (.int p1), .val (.int p2), .val (.int am), .val (.int al), .val (.int cv), .val (.int ev)] [(.int cv)])) rfl (by rw [hml]; rfl) (argsL := [(.int cv)]) (rest := []) (lenOf own_pd0 rfl) rfl (by show 2 * 0 + _ ≤ _; exact Nat.le_of_eq rfl) (hb hby at_114) (fun _ _ => ⟨rfl, e0, (by decide : 0 + 0 ≤ _), (by decide : 0 + 0 ≤ _)⟩)
    dsimp only [Pt.U, Pt.locs, Pt.cells, Pt.slots] at X1 l1 y1 z1 st1 hQ1
    subst l1 y1 z1
    obtain ⟨rfl, M1, K1⟩ := hQ1
    have N1 := Fr.app N0 M1
    refine own_go (T' := T1) (g' := (mkF m 117 #[.val (.int p1), .val (.int p2), .val (.int am), .val (.int al), .val (.int cv), .val (.int ev)] [(.int (own_isSpace cv))])) (st1) ?_
    refine own_go (T' := T1) (g' := (mkF m 119 #[.val (.int p1), .val (.int p2), .val (.int am), .val (.int al), .val (.int cv), .val (.int ev)] [(.int ev), (.int (own_isSpace cv))])) (fun t k => XS.iload X1.here hx rfl (hb hby at_117) rfl k) ?_
    refine own_go (T' := T1) (g' := (mkF m 122 #[.val (.int p1), .val (.int p2), .val (.int am), .val (.int al), .val (.int cv), .val (.int ev)] [])) (fun t k => XS.icmpNo X1.here hx rfl (hb hby at_119) rfl (teq hev.symm).2 k) ?_
    refine own_go (T' := T1) (g' := (mkF m 123 #[.val (.int p1), .val (.int p2), .val (.int am), .val (.int al), .val (.int cv), .val (.int ev)] [(.int (1 : Int32))])) (fun t k => XS.iconst X1.here hx rfl (hb hby at_122) k) ?_
    refine own_go (T' := T1) (g' := (mkF m 127 #[.val (.int p1), .val (.int p2), .val (.int am), .val (.int al), .val (.int cv), .val (.int ev)] [(.int (1 : Int32))])) (fun t k => XS.goto X1.here hx rfl (pc0 := 123) (pc' := 127) rfl (hb hby at_123) (by decide) (by decide) k) ?_
    exact own_retZ X1 hx Bd.notSynchronized Bd.returns (hb hby at_127) rfl ⟨rfl, N1⟩ (by decide) (by decide)
  have J58 : ∀ am al cv : Int32, own_Run p e below s (Q0 Z p1 p2 h0 n0) room_1.cells room_1.slots s₁ (mkF m 58 #[.val (.int p1), .val (.int p2), .val (.int am), .val (.int al), .val (.int cv), .unset] []) := by
    intro am al cv
    refine own_go (T' := s₁) (g' := (mkF m 60 #[.val (.int p1), .val (.int p2), .val (.int am), .val (.int al), .val (.int cv), .unset] [(.int cv)])) (fun t k => XS.iload X0.here hx rfl (hb hby at_58) rfl k) ?_
    refine own_go (T' := s₁) (g' := (mkF m 62 #[.val (.int p1), .val (.int p2), .val (.int am), .val (.int al), .val (.int cv), .unset] [(.int (32 : Int32)), (.int cv)])) (fun t k => XS.bipush X0.here hx rfl (hb hby at_60) k) ?_
    by_cases c62_1 : cv = (32 : Int32)
    · refine own_go (T' := s₁) (g' := (mkF m 65 #[.val (.int p1), .val (.int p2), .val (.int am), .val (.int al), .val (.int cv), .unset] [])) (fun t k => XS.icmpNo X0.here hx rfl (hb hby at_62) rfl (teq c62_1).2 k) ?_
      refine own_go (T' := s₁) (g' := (mkF m 66 #[.val (.int p1), .val (.int p2), .val (.int am), .val (.int al), .val (.int cv), .unset] [(.int (1 : Int32))])) (fun t k => XS.iconst X0.here hx rfl (hb hby at_65) k) ?_
      refine own_go (T' := s₁) (g' := (mkF m 68 #[.val (.int p1), .val (.int p2), .val (.int am), .val (.int al), .val (.int cv), .val (.int (1 : Int32))] [])) (fun t k => XS.istore X0.here hx rfl (hb hby at_66) rfl (l' := #[.val (.int p1), .val (.int p2), .val (.int am), .val (.int al), .val (.int cv), .val (.int (1 : Int32))]) rfl k) ?_
      refine own_go (T' := s₁) (g' := (mkF m 112 #[.val (.int p1), .val (.int p2), .val (.int am), .val (.int al), .val (.int cv), .val (.int (1 : Int32))] [])) (fun t k => XS.goto X0.here hx rfl (pc0 := 68) (pc' := 112) rfl (hb hby at_68) (by decide) (by decide) k) ?_
      exact J112 _ _ _ _ (by rw [← own_pin]; unfold own_expected; rw [if_pos c62_1])
    · refine own_go (T' := s₁) (g' := (mkF m 71 #[.val (.int p1), .val (.int p2), .val (.int am), .val (.int al), .val (.int cv), .unset] [])) (fun t k => XS.icmpYes X0.here hx rfl (pc0 := 62) (pc' := 71) rfl (hb hby at_62) rfl (feq c62_1).2 (by decide) (by decide) k) ?_
      refine own_go (T' := s₁) (g' := (mkF m 73 #[.val (.int p1), .val (.int p2), .val (.int am), .val (.int al), .val (.int cv), .unset] [(.int cv)])) (fun t k => XS.iload X0.here hx rfl (hb hby at_71) rfl k) ?_
      refine own_go (T' := s₁) (g' := (mkF m 75 #[.val (.int p1), .val (.int p2), .val (.int am), .val (.int al), .val (.int cv), .unset] [(.int (9 : Int32)), (.int cv)])) (fun t k => XS.bipush X0.here hx rfl (hb hby at_73) k) ?_
      by_cases c75_2 : cv < (9 : Int32)
      · refine own_go (T' := s₁) (g' := (mkF m 85 #[.val (.int p1), .val (.int p2), .val (.int am), .val (.int al), .val (.int cv), .unset] [])) (fun t k => XS.icmpYes X0.here hx rfl (pc0 := 75) (pc' := 85) rfl (hb hby at_75) rfl (tlt c75_2).1 (by decide) (by decide) k) ?_
        refine own_go (T' := s₁) (g' := (mkF m 86 #[.val (.int p1), .val (.int p2), .val (.int am), .val (.int al), .val (.int cv), .unset] [(.int (0 : Int32))])) (fun t k => XS.iconst X0.here hx rfl (hb hby at_85) k) ?_
        refine own_go (T' := s₁) (g' := (mkF m 88 #[.val (.int p1), .val (.int p2), .val (.int am), .val (.int al), .val (.int cv), .val (.int (0 : Int32))] [])) (fun t k => XS.istore X0.here hx rfl (hb hby at_86) rfl (l' := #[.val (.int p1), .val (.int p2), .val (.int am), .val (.int al), .val (.int cv), .val (.int (0 : Int32))]) rfl k) ?_
        refine own_go (T' := s₁) (g' := (mkF m 112 #[.val (.int p1), .val (.int p2), .val (.int am), .val (.int al), .val (.int cv), .val (.int (0 : Int32))] [])) (fun t k => XS.goto X0.here hx rfl (pc0 := 88) (pc' := 112) rfl (hb hby at_88) (by decide) (by decide) k) ?_
        exact J112 _ _ _ _ (by rw [← own_pin]; unfold own_expected; rw [if_neg c62_1, if_pos c75_2])
      · refine own_go (T' := s₁) (g' := (mkF m 78 #[.val (.int p1), .val (.int p2), .val (.int am), .val (.int al), .val (.int cv), .unset] [])) (fun t k => XS.icmpNo X0.here hx rfl (hb hby at_75) rfl (flt c75_2).1 k) ?_
        refine own_go (T' := s₁) (g' := (mkF m 80 #[.val (.int p1), .val (.int p2), .val (.int am), .val (.int al), .val (.int cv), .unset] [(.int cv)])) (fun t k => XS.iload X0.here hx rfl (hb hby at_78) rfl k) ?_
        refine own_go (T' := s₁) (g' := (mkF m 82 #[.val (.int p1), .val (.int p2), .val (.int am), .val (.int al), .val (.int cv), .unset] [(.int (13 : Int32)), (.int cv)])) (fun t k => XS.bipush X0.here hx rfl (hb hby at_80) k) ?_
        by_cases c82_3 : (13 : Int32) < cv
        · refine own_go (T' := s₁) (g' := (mkF m 85 #[.val (.int p1), .val (.int p2), .val (.int am), .val (.int al), .val (.int cv), .unset] [])) (fun t k => XS.icmpNo X0.here hx rfl (hb hby at_82) rfl (tlt c82_3).2.2.2 k) ?_
          refine own_go (T' := s₁) (g' := (mkF m 86 #[.val (.int p1), .val (.int p2), .val (.int am), .val (.int al), .val (.int cv), .unset] [(.int (0 : Int32))])) (fun t k => XS.iconst X0.here hx rfl (hb hby at_85) k) ?_
          refine own_go (T' := s₁) (g' := (mkF m 88 #[.val (.int p1), .val (.int p2), .val (.int am), .val (.int al), .val (.int cv), .val (.int (0 : Int32))] [])) (fun t k => XS.istore X0.here hx rfl (hb hby at_86) rfl (l' := #[.val (.int p1), .val (.int p2), .val (.int am), .val (.int al), .val (.int cv), .val (.int (0 : Int32))]) rfl k) ?_
          refine own_go (T' := s₁) (g' := (mkF m 112 #[.val (.int p1), .val (.int p2), .val (.int am), .val (.int al), .val (.int cv), .val (.int (0 : Int32))] [])) (fun t k => XS.goto X0.here hx rfl (pc0 := 88) (pc' := 112) rfl (hb hby at_88) (by decide) (by decide) k) ?_
          exact J112 _ _ _ _ (by rw [← own_pin]; unfold own_expected; rw [if_neg c62_1, if_neg c75_2, if_pos c82_3])
        · refine own_go (T' := s₁) (g' := (mkF m 91 #[.val (.int p1), .val (.int p2), .val (.int am), .val (.int al), .val (.int cv), .unset] [])) (fun t k => XS.icmpYes X0.here hx rfl (pc0 := 82) (pc' := 91) rfl (hb hby at_82) rfl (flt c82_3).2.2.2 (by decide) (by decide) k) ?_
          refine own_go (T' := s₁) (g' := (mkF m 93 #[.val (.int p1), .val (.int p2), .val (.int am), .val (.int al), .val (.int cv), .unset] [(.int cv)])) (fun t k => XS.iload X0.here hx rfl (hb hby at_91) rfl k) ?_
          refine own_go (T' := s₁) (g' := (mkF m 95 #[.val (.int p1), .val (.int p2), .val (.int am), .val (.int al), .val (.int cv), .unset] [(.int (11 : Int32)), (.int cv)])) (fun t k => XS.bipush X0.here hx rfl (hb hby at_93) k) ?_
          by_cases c95_4 : cv = (11 : Int32)
          · refine own_go (T' := s₁) (g' := (mkF m 109 #[.val (.int p1), .val (.int p2), .val (.int am), .val (.int al), .val (.int cv), .unset] [])) (fun t k => XS.icmpYes X0.here hx rfl (pc0 := 95) (pc' := 109) rfl (hb hby at_95) rfl (teq c95_4).1 (by decide) (by decide) k) ?_
            refine own_go (T' := s₁) (g' := (mkF m 110 #[.val (.int p1), .val (.int p2), .val (.int am), .val (.int al), .val (.int cv), .unset] [(.int (0 : Int32))])) (fun t k => XS.iconst X0.here hx rfl (hb hby at_109) k) ?_
            refine own_go (T' := s₁) (g' := (mkF m 112 #[.val (.int p1), .val (.int p2), .val (.int am), .val (.int al), .val (.int cv), .val (.int (0 : Int32))] [])) (fun t k => XS.istore X0.here hx rfl (hb hby at_110) rfl (l' := #[.val (.int p1), .val (.int p2), .val (.int am), .val (.int al), .val (.int cv), .val (.int (0 : Int32))]) rfl k) ?_
            exact J112 _ _ _ _ (by rw [← own_pin]; unfold own_expected; rw [if_neg c62_1, if_neg c75_2, if_neg c82_3, if_pos c95_4])
          · refine own_go (T' := s₁) (g' := (mkF m 98 #[.val (.int p1), .val (.int p2), .val (.int am), .val (.int al), .val (.int cv), .unset] [])) (fun t k => XS.icmpNo X0.here hx rfl (hb hby at_95) rfl (feq c95_4).1 k) ?_
            refine own_go (T' := s₁) (g' := (mkF m 100 #[.val (.int p1), .val (.int p2), .val (.int am), .val (.int al), .val (.int cv), .unset] [(.int cv)])) (fun t k => XS.iload X0.here hx rfl (hb hby at_98) rfl k) ?_
            refine own_go (T' := s₁) (g' := (mkF m 102 #[.val (.int p1), .val (.int p2), .val (.int am), .val (.int al), .val (.int cv), .unset] [(.int (12 : Int32)), (.int cv)])) (fun t k => XS.bipush X0.here hx rfl (hb hby at_100) k) ?_
            by_cases c102_5 : cv = (12 : Int32)
            · refine own_go (T' := s₁) (g' := (mkF m 109 #[.val (.int p1), .val (.int p2), .val (.int am), .val (.int al), .val (.int cv), .unset] [])) (fun t k => XS.icmpYes X0.here hx rfl (pc0 := 102) (pc' := 109) rfl (hb hby at_102) rfl (teq c102_5).1 (by decide) (by decide) k) ?_
              refine own_go (T' := s₁) (g' := (mkF m 110 #[.val (.int p1), .val (.int p2), .val (.int am), .val (.int al), .val (.int cv), .unset] [(.int (0 : Int32))])) (fun t k => XS.iconst X0.here hx rfl (hb hby at_109) k) ?_
              refine own_go (T' := s₁) (g' := (mkF m 112 #[.val (.int p1), .val (.int p2), .val (.int am), .val (.int al), .val (.int cv), .val (.int (0 : Int32))] [])) (fun t k => XS.istore X0.here hx rfl (hb hby at_110) rfl (l' := #[.val (.int p1), .val (.int p2), .val (.int am), .val (.int al), .val (.int cv), .val (.int (0 : Int32))]) rfl k) ?_
              exact J112 _ _ _ _ (by rw [← own_pin]; unfold own_expected; rw [if_neg c62_1, if_neg c75_2, if_neg c82_3, if_neg c95_4, if_pos c102_5])
            · refine own_go (T' := s₁) (g' := (mkF m 105 #[.val (.int p1), .val (.int p2), .val (.int am), .val (.int al), .val (.int cv), .unset] [])) (fun t k => XS.icmpNo X0.here hx rfl (hb hby at_102) rfl (feq c102_5).1 k) ?_
              refine own_go (T' := s₁) (g' := (mkF m 106 #[.val (.int p1), .val (.int p2), .val (.int am), .val (.int al), .val (.int cv), .unset] [(.int (1 : Int32))])) (fun t k => XS.iconst X0.here hx rfl (hb hby at_105) k) ?_
              refine own_go (T' := s₁) (g' := (mkF m 110 #[.val (.int p1), .val (.int p2), .val (.int am), .val (.int al), .val (.int cv), .unset] [(.int (1 : Int32))])) (fun t k => XS.goto X0.here hx rfl (pc0 := 106) (pc' := 110) rfl (hb hby at_106) (by decide) (by decide) k) ?_
              refine own_go (T' := s₁) (g' := (mkF m 112 #[.val (.int p1), .val (.int p2), .val (.int am), .val (.int al), .val (.int cv), .val (.int (1 : Int32))] [])) (fun t k => XS.istore X0.here hx rfl (hb hby at_110) rfl (l' := #[.val (.int p1), .val (.int p2), .val (.int am), .val (.int al), .val (.int cv), .val (.int (1 : Int32))]) rfl k) ?_
              exact J112 _ _ _ _ (by rw [← own_pin]; unfold own_expected; rw [if_neg c62_1, if_neg c75_2, if_neg c82_3, if_neg c95_4, if_neg c102_5])
  refine own_go (T' := s₁) (g' := (mkF m 1 #[.val (.int p1), .val (.int p2), .unset, .unset, .unset, .unset] [(.int p2)])) (fun t k => XS.iloadN X0.here hx rfl (hb hby at_0) rfl k) ?_
  refine own_go (T' := s₁) (g' := (mkF m 2 #[.val (.int p1), .val (.int p2), .unset, .unset, .unset, .unset] [(.int (3 : Int32)), (.int p2)])) (fun t k => XS.iconst X0.here hx rfl (hb hby at_1) k) ?_
  refine own_go (T' := s₁) (g' := (mkF m 3 #[.val (.int p1), .val (.int p2), .unset, .unset, .unset, .unset] [(.int (p2 &&& (3 : Int32)))])) (fun t k => XS.iand X0.here hx rfl (hb hby at_2) rfl k) ?_
  refine own_go (T' := s₁) (g' := (mkF m 4 #[.val (.int p1), .val (.int p2), .val (.int (p2 &&& (3 : Int32))), .unset, .unset, .unset] [])) (fun t k => XS.istoreN X0.here hx rfl (hb hby at_3) rfl (l' := #[.val (.int p1), .val (.int p2), .val (.int (p2 &&& (3 : Int32))), .unset, .unset, .unset]) rfl k) ?_
  refine own_go (T' := s₁) (g' := (mkF m 5 #[.val (.int p1), .val (.int p2), .val (.int (p2 &&& (3 : Int32))), .unset, .unset, .unset] [(.int p2)])) (fun t k => XS.iloadN X0.here hx rfl (hb hby at_4) rfl k) ?_
  refine own_go (T' := s₁) (g' := (mkF m 6 #[.val (.int p1), .val (.int p2), .val (.int (p2 &&& (3 : Int32))), .unset, .unset, .unset] [(.int (2 : Int32)), (.int p2)])) (fun t k => XS.iconst X0.here hx rfl (hb hby at_5) k) ?_
  refine own_go (T' := s₁) (g' := (mkF m 7 #[.val (.int p1), .val (.int p2), .val (.int (p2 &&& (3 : Int32))), .unset, .unset, .unset] [(.int ((p2.toUInt32 >>> ((2 : Int32) &&& 31).toUInt32).toInt32))])) (fun t k => XS.iushr X0.here hx rfl (hb hby at_6) rfl k) ?_
  refine own_go (T' := s₁) (g' := (mkF m 9 #[.val (.int p1), .val (.int p2), .val (.int (p2 &&& (3 : Int32))), .unset, .unset, .unset] [(.int (63 : Int32)), (.int ((p2.toUInt32 >>> ((2 : Int32) &&& 31).toUInt32).toInt32))])) (fun t k => XS.bipush X0.here hx rfl (hb hby at_7) k) ?_
  refine own_go (T' := s₁) (g' := (mkF m 10 #[.val (.int p1), .val (.int p2), .val (.int (p2 &&& (3 : Int32))), .unset, .unset, .unset] [(.int (((p2.toUInt32 >>> ((2 : Int32) &&& 31).toUInt32).toInt32) &&& (63 : Int32)))])) (fun t k => XS.iand X0.here hx rfl (hb hby at_9) rfl k) ?_
  refine own_go (T' := s₁) (g' := (mkF m 11 #[.val (.int p1), .val (.int p2), .val (.int (p2 &&& (3 : Int32))), .val (.int (((p2.toUInt32 >>> ((2 : Int32) &&& 31).toUInt32).toInt32) &&& (63 : Int32))), .unset, .unset] [])) (fun t k => XS.istoreN X0.here hx rfl (hb hby at_10) rfl (l' := #[.val (.int p1), .val (.int p2), .val (.int (p2 &&& (3 : Int32))), .val (.int (((p2.toUInt32 >>> ((2 : Int32) &&& 31).toUInt32).toInt32) &&& (63 : Int32))), .unset, .unset]) rfl k) ?_
  refine own_go (T' := s₁) (g' := (mkF m 12 #[.val (.int p1), .val (.int p2), .val (.int (p2 &&& (3 : Int32))), .val (.int (((p2.toUInt32 >>> ((2 : Int32) &&& 31).toUInt32).toInt32) &&& (63 : Int32))), .unset, .unset] [(.int (p2 &&& (3 : Int32)))])) (fun t k => XS.iloadN X0.here hx rfl (hb hby at_11) rfl k) ?_
  by_cases c12_1 : (p2 &&& (3 : Int32)) = (0 : Int32)
  · refine own_go (T' := s₁) (g' := (mkF m 15 #[.val (.int p1), .val (.int p2), .val (.int (p2 &&& (3 : Int32))), .val (.int (((p2.toUInt32 >>> ((2 : Int32) &&& 31).toUInt32).toInt32) &&& (63 : Int32))), .unset, .unset] [])) (fun t k => XS.ifNo X0.here hx rfl (hb hby at_12) rfl ((if0 _ _).trans (teq c12_1).2) k) ?_
    refine own_go (T' := s₁) (g' := (mkF m 16 #[.val (.int p1), .val (.int p2), .val (.int (p2 &&& (3 : Int32))), .val (.int (((p2.toUInt32 >>> ((2 : Int32) &&& 31).toUInt32).toInt32) &&& (63 : Int32))), .unset, .unset] [(.int p1)])) (fun t k => XS.iloadN X0.here hx rfl (hb hby at_15) rfl k) ?_
    refine own_go (T' := s₁) (g' := (mkF m 18 #[.val (.int p1), .val (.int p2), .val (.int (p2 &&& (3 : Int32))), .val (.int (((p2.toUInt32 >>> ((2 : Int32) &&& 31).toUInt32).toInt32) &&& (63 : Int32))), .val (.int p1), .unset] [])) (fun t k => XS.istore X0.here hx rfl (hb hby at_16) rfl (l' := #[.val (.int p1), .val (.int p2), .val (.int (p2 &&& (3 : Int32))), .val (.int (((p2.toUInt32 >>> ((2 : Int32) &&& 31).toUInt32).toInt32) &&& (63 : Int32))), .val (.int p1), .unset]) rfl k) ?_
    refine own_go (T' := s₁) (g' := (mkF m 58 #[.val (.int p1), .val (.int p2), .val (.int (p2 &&& (3 : Int32))), .val (.int (((p2.toUInt32 >>> ((2 : Int32) &&& 31).toUInt32).toInt32) &&& (63 : Int32))), .val (.int p1), .unset] [])) (fun t k => XS.goto X0.here hx rfl (pc0 := 18) (pc' := 58) rfl (hb hby at_18) (by decide) (by decide) k) ?_
    exact J58 _ _ _
  · refine own_go (T' := s₁) (g' := (mkF m 21 #[.val (.int p1), .val (.int p2), .val (.int (p2 &&& (3 : Int32))), .val (.int (((p2.toUInt32 >>> ((2 : Int32) &&& 31).toUInt32).toInt32) &&& (63 : Int32))), .unset, .unset] [])) (fun t k => XS.ifYes X0.here hx rfl (pc0 := 12) (pc' := 21) rfl (hb hby at_12) rfl ((if0 _ _).trans (feq c12_1).2) (by decide) (by decide) k) ?_
    refine own_go (T' := s₁) (g' := (mkF m 22 #[.val (.int p1), .val (.int p2), .val (.int (p2 &&& (3 : Int32))), .val (.int (((p2.toUInt32 >>> ((2 : Int32) &&& 31).toUInt32).toInt32) &&& (63 : Int32))), .unset, .unset] [(.int (p2 &&& (3 : Int32)))])) (fun t k => XS.iloadN X0.here hx rfl (hb hby at_21) rfl k) ?_
    refine own_go (T' := s₁) (g' := (mkF m 23 #[.val (.int p1), .val (.int p2), .val (.int (p2 &&& (3 : Int32))), .val (.int (((p2.toUInt32 >>> ((2 : Int32) &&& 31).toUInt32).toInt32) &&& (63 : Int32))), .unset, .unset] [(.int (1 : Int32)), (.int (p2 &&& (3 : Int32)))])) (fun t k => XS.iconst X0.here hx rfl (hb hby at_22) k) ?_
    by_cases c23_2 : (p2 &&& (3 : Int32)) = (1 : Int32)
    · refine own_go (T' := s₁) (g' := (mkF m 26 #[.val (.int p1), .val (.int p2), .val (.int (p2 &&& (3 : Int32))), .val (.int (((p2.toUInt32 >>> ((2 : Int32) &&& 31).toUInt32).toInt32) &&& (63 : Int32))), .unset, .unset] [])) (fun t k => XS.icmpNo X0.here hx rfl (hb hby at_23) rfl (teq c23_2).2 k) ?_
      refine own_go (T' := s₁) (g' := (mkF m 27 #[.val (.int p1), .val (.int p2), .val (.int (p2 &&& (3 : Int32))), .val (.int (((p2.toUInt32 >>> ((2 : Int32) &&& 31).toUInt32).toInt32) &&& (63 : Int32))), .unset, .unset] [(.int p1)])) (fun t k => XS.iloadN X0.here hx rfl (hb hby at_26) rfl k) ?_
      refine own_go (T' := s₁) (g' := (mkF m 29 #[.val (.int p1), .val (.int p2), .val (.int (p2 &&& (3 : Int32))), .val (.int (((p2.toUInt32 >>> ((2 : Int32) &&& 31).toUInt32).toInt32) &&& (63 : Int32))), .unset, .unset] [(.int (63 : Int32)), (.int p1)])) (fun t k => XS.bipush X0.here hx rfl (hb hby at_27) k) ?_
      refine own_go (T' := s₁) (g' := (mkF m 30 #[.val (.int p1), .val (.int p2), .val (.int (p2 &&& (3 : Int32))), .val (.int (((p2.toUInt32 >>> ((2 : Int32) &&& 31).toUInt32).toInt32) &&& (63 : Int32))), .unset, .unset] [(.int (p1 &&& (63 : Int32)))])) (fun t k => XS.iand X0.here hx rfl (hb hby at_29) rfl k) ?_
      refine own_go (T' := s₁) (g' := (mkF m 32 #[.val (.int p1), .val (.int p2), .val (.int (p2 &&& (3 : Int32))), .val (.int (((p2.toUInt32 >>> ((2 : Int32) &&& 31).toUInt32).toInt32) &&& (63 : Int32))), .unset, .unset] [(.int (8 : Int32)), (.int (p1 &&& (63 : Int32)))])) (fun t k => XS.bipush X0.here hx rfl (hb hby at_30) k) ?_
      refine own_go (T' := s₁) (g' := (mkF m 33 #[.val (.int p1), .val (.int p2), .val (.int (p2 &&& (3 : Int32))), .val (.int (((p2.toUInt32 >>> ((2 : Int32) &&& 31).toUInt32).toInt32) &&& (63 : Int32))), .unset, .unset] [(.int ((p1 &&& (63 : Int32)) - (8 : Int32)))])) (fun t k => XS.isub X0.here hx rfl (hb hby at_32) rfl k) ?_
      refine own_go (T' := s₁) (g' := (mkF m 35 #[.val (.int p1), .val (.int p2), .val (.int (p2 &&& (3 : Int32))), .val (.int (((p2.toUInt32 >>> ((2 : Int32) &&& 31).toUInt32).toInt32) &&& (63 : Int32))), .val (.int ((p1 &&& (63 : Int32)) - (8 : Int32))), .unset] [])) (fun t k => XS.istore X0.here hx rfl (hb hby at_33) rfl (l' := #[.val (.int p1), .val (.int p2), .val (.int (p2 &&& (3 : Int32))), .val (.int (((p2.toUInt32 >>> ((2 : Int32) &&& 31).toUInt32).toInt32) &&& (63 : Int32))), .val (.int ((p1 &&& (63 : Int32)) - (8 : Int32))), .unset]) rfl k) ?_
      refine own_go (T' := s₁) (g' := (mkF m 58 #[.val (.int p1), .val (.int p2), .val (.int (p2 &&& (3 : Int32))), .val (.int (((p2.toUInt32 >>> ((2 : Int32) &&& 31).toUInt32).toInt32) &&& (63 : Int32))), .val (.int ((p1 &&& (63 : Int32)) - (8 : Int32))), .unset] [])) (fun t k => XS.goto X0.here hx rfl (pc0 := 35) (pc' := 58) rfl (hb hby at_35) (by decide) (by decide) k) ?_
      exact J58 _ _ _
    · refine own_go (T' := s₁) (g' := (mkF m 38 #[.val (.int p1), .val (.int p2), .val (.int (p2 &&& (3 : Int32))), .val (.int (((p2.toUInt32 >>> ((2 : Int32) &&& 31).toUInt32).toInt32) &&& (63 : Int32))), .unset, .unset] [])) (fun t k => XS.icmpYes X0.here hx rfl (pc0 := 23) (pc' := 38) rfl (hb hby at_23) rfl (feq c23_2).2 (by decide) (by decide) k) ?_
      refine own_go (T' := s₁) (g' := (mkF m 39 #[.val (.int p1), .val (.int p2), .val (.int (p2 &&& (3 : Int32))), .val (.int (((p2.toUInt32 >>> ((2 : Int32) &&& 31).toUInt32).toInt32) &&& (63 : Int32))), .unset, .unset] [(.int (p2 &&& (3 : Int32)))])) (fun t k => XS.iloadN X0.here hx rfl (hb hby at_38) rfl k) ?_
      refine own_go (T' := s₁) (g' := (mkF m 40 #[.val (.int p1), .val (.int p2), .val (.int (p2 &&& (3 : Int32))), .val (.int (((p2.toUInt32 >>> ((2 : Int32) &&& 31).toUInt32).toInt32) &&& (63 : Int32))), .unset, .unset] [(.int (2 : Int32)), (.int (p2 &&& (3 : Int32)))])) (fun t k => XS.iconst X0.here hx rfl (hb hby at_39) k) ?_
      by_cases c40_3 : (p2 &&& (3 : Int32)) = (2 : Int32)
      · refine own_go (T' := s₁) (g' := (mkF m 43 #[.val (.int p1), .val (.int p2), .val (.int (p2 &&& (3 : Int32))), .val (.int (((p2.toUInt32 >>> ((2 : Int32) &&& 31).toUInt32).toInt32) &&& (63 : Int32))), .unset, .unset] [])) (fun t k => XS.icmpNo X0.here hx rfl (hb hby at_40) rfl (teq c40_3).2 k) ?_
        refine own_go (T' := s₁) (g' := (mkF m 44 #[.val (.int p1), .val (.int p2), .val (.int (p2 &&& (3 : Int32))), .val (.int (((p2.toUInt32 >>> ((2 : Int32) &&& 31).toUInt32).toInt32) &&& (63 : Int32))), .unset, .unset] [(.int p1)])) (fun t k => XS.iloadN X0.here hx rfl (hb hby at_43) rfl k) ?_
        refine own_go (T' := s₁) (g' := (mkF m 46 #[.val (.int p1), .val (.int p2), .val (.int (p2 &&& (3 : Int32))), .val (.int (((p2.toUInt32 >>> ((2 : Int32) &&& 31).toUInt32).toInt32) &&& (63 : Int32))), .unset, .unset] [(.int (-65536 : Int32)), (.int p1)])) (X0.ldcInt hx hown (mvT hZ (hw _ (List.mem_of_getElem? (i := 4) rfl))) (g := (mkF m 44 #[.val (.int p1), .val (.int p2), .val (.int (p2 &&& (3 : Int32))), .val (.int (((p2.toUInt32 >>> ((2 : Int32) &&& 31).toUInt32).toInt32) &&& (63 : Int32))), .unset, .unset] [(.int p1)])) rfl (hb hby at_44)) ?_
        refine own_go (T' := s₁) (g' := (mkF m 47 #[.val (.int p1), .val (.int p2), .val (.int (p2 &&& (3 : Int32))), .val (.int (((p2.toUInt32 >>> ((2 : Int32) &&& 31).toUInt32).toInt32) &&& (63 : Int32))), .unset, .unset] [(.int (p1 &&& (-65536 : Int32)))])) (fun t k => XS.iand X0.here hx rfl (hb hby at_46) rfl k) ?_
        refine own_go (T' := s₁) (g' := (mkF m 48 #[.val (.int p1), .val (.int p2), .val (.int (p2 &&& (3 : Int32))), .val (.int (((p2.toUInt32 >>> ((2 : Int32) &&& 31).toUInt32).toInt32) &&& (63 : Int32))), .unset, .unset] [(.int (((p2.toUInt32 >>> ((2 : Int32) &&& 31).toUInt32).toInt32) &&& (63 : Int32))), (.int (p1 &&& (-65536 : Int32)))])) (fun t k => XS.iloadN X0.here hx rfl (hb hby at_47) rfl k) ?_
        refine own_go (T' := s₁) (g' := (mkF m 49 #[.val (.int p1), .val (.int p2), .val (.int (p2 &&& (3 : Int32))), .val (.int (((p2.toUInt32 >>> ((2 : Int32) &&& 31).toUInt32).toInt32) &&& (63 : Int32))), .unset, .unset] [(.int ((p1 &&& (-65536 : Int32)) ||| (((p2.toUInt32 >>> ((2 : Int32) &&& 31).toUInt32).toInt32) &&& (63 : Int32))))])) (fun t k => XS.ior X0.here hx rfl (hb hby at_48) rfl k) ?_
        refine own_go (T' := s₁) (g' := (mkF m 51 #[.val (.int p1), .val (.int p2), .val (.int (p2 &&& (3 : Int32))), .val (.int (((p2.toUInt32 >>> ((2 : Int32) &&& 31).toUInt32).toInt32) &&& (63 : Int32))), .val (.int ((p1 &&& (-65536 : Int32)) ||| (((p2.toUInt32 >>> ((2 : Int32) &&& 31).toUInt32).toInt32) &&& (63 : Int32)))), .unset] [])) (fun t k => XS.istore X0.here hx rfl (hb hby at_49) rfl (l' := #[.val (.int p1), .val (.int p2), .val (.int (p2 &&& (3 : Int32))), .val (.int (((p2.toUInt32 >>> ((2 : Int32) &&& 31).toUInt32).toInt32) &&& (63 : Int32))), .val (.int ((p1 &&& (-65536 : Int32)) ||| (((p2.toUInt32 >>> ((2 : Int32) &&& 31).toUInt32).toInt32) &&& (63 : Int32)))), .unset]) rfl k) ?_
        refine own_go (T' := s₁) (g' := (mkF m 58 #[.val (.int p1), .val (.int p2), .val (.int (p2 &&& (3 : Int32))), .val (.int (((p2.toUInt32 >>> ((2 : Int32) &&& 31).toUInt32).toInt32) &&& (63 : Int32))), .val (.int ((p1 &&& (-65536 : Int32)) ||| (((p2.toUInt32 >>> ((2 : Int32) &&& 31).toUInt32).toInt32) &&& (63 : Int32)))), .unset] [])) (fun t k => XS.goto X0.here hx rfl (pc0 := 51) (pc' := 58) rfl (hb hby at_51) (by decide) (by decide) k) ?_
        exact J58 _ _ _
      · refine own_go (T' := s₁) (g' := (mkF m 54 #[.val (.int p1), .val (.int p2), .val (.int (p2 &&& (3 : Int32))), .val (.int (((p2.toUInt32 >>> ((2 : Int32) &&& 31).toUInt32).toInt32) &&& (63 : Int32))), .unset, .unset] [])) (fun t k => XS.icmpYes X0.here hx rfl (pc0 := 40) (pc' := 54) rfl (hb hby at_40) rfl (feq c40_3).2 (by decide) (by decide) k) ?_
        refine own_go (T' := s₁) (g' := (mkF m 55 #[.val (.int p1), .val (.int p2), .val (.int (p2 &&& (3 : Int32))), .val (.int (((p2.toUInt32 >>> ((2 : Int32) &&& 31).toUInt32).toInt32) &&& (63 : Int32))), .unset, .unset] [(.int (((p2.toUInt32 >>> ((2 : Int32) &&& 31).toUInt32).toInt32) &&& (63 : Int32)))])) (fun t k => XS.iloadN X0.here hx rfl (hb hby at_54) rfl k) ?_
        refine own_go (T' := s₁) (g' := (mkF m 56 #[.val (.int p1), .val (.int p2), .val (.int (p2 &&& (3 : Int32))), .val (.int (((p2.toUInt32 >>> ((2 : Int32) &&& 31).toUInt32).toInt32) &&& (63 : Int32))), .unset, .unset] [(.int (-(((p2.toUInt32 >>> ((2 : Int32) &&& 31).toUInt32).toInt32) &&& (63 : Int32))))])) (fun t k => XS.ineg X0.here hx rfl (hb hby at_55) rfl k) ?_
        refine own_go (T' := s₁) (g' := (mkF m 58 #[.val (.int p1), .val (.int p2), .val (.int (p2 &&& (3 : Int32))), .val (.int (((p2.toUInt32 >>> ((2 : Int32) &&& 31).toUInt32).toInt32) &&& (63 : Int32))), .val (.int (-(((p2.toUInt32 >>> ((2 : Int32) &&& 31).toUInt32).toInt32) &&& (63 : Int32)))), .unset] [])) (fun t k => XS.istore X0.here hx rfl (hb hby at_56) rfl (l' := #[.val (.int p1), .val (.int p2), .val (.int (p2 &&& (3 : Int32))), .val (.int (((p2.toUInt32 >>> ((2 : Int32) &&& 31).toUInt32).toInt32) &&& (63 : Int32))), .val (.int (-(((p2.toUInt32 >>> ((2 : Int32) &&& 31).toUInt32).toInt32) &&& (63 : Int32)))), .unset]) rfl k) ?_
        exact J58 _ _ _
set_option maxRecDepth 65536 in
set_option maxHeartbeats 40000000 in
theorem comes_1 {Post : Tables → Env → Array Value → State → Outcome → State → Prop} (hpost : ∀ tb e args s v u, (limb_1_1.after args s (.returned v) u = true ∧ limb_1_2.after args s (.returned v) u = true ∧ True) → FrameEnd s (.returned v) u (Jvm.fieldLocs frame_1_writes args s ++ Jvm.arrayLocs frame_1_arrays args s ++ Jvm.staticLocs frame_1_statics s) 0 0 → Post tb e args s (.returned v) u) :
    ArmFor flags0 classFile x code maxLocals ret World_1 tables_1 room_1 Calls_1 rest_1 Pre_1 Post := by
  intro l hfl _ _ p e ha hc hk s m args below hf hA hF happ hP
  obtain ⟨hcalls, hrest, hpre⟩ := hP
  obtain ⟨-, -, -, hnamed, -, -, -, hat⟩ := (Spec.applies_iff hf).mp happ
  obtain ⟨hg, hn⟩ := and_e (Cond.before_iff.mp (show (Jvm.Cond.and given_1 narrow_1).before args s = true from hpre))
  obtain ⟨g0, q0⟩ := and_e hg
  obtain ⟨ga0, q1⟩ := and_e q0
  have ga1 := q1
  obtain ⟨w0, w1, rfl⟩ : ∃ w0 w1 : Value, args = #[w0, w1] := by
    have hs : args.size = 2 := by simpa [Cond.value, given_1] using g0
    obtain ⟨L⟩ := args
    match L, hs with
    | [w0, w1], _ => exact ⟨w0, w1, rfl⟩
  have hw := fun d (hd : d ∈ tables_1) => atoms_spec (ws := Jvm.Cond.code x code maxLocals ret :: tables_1) hat d (List.mem_cons_of_mem _ hd)
  obtain ⟨i0, ei0⟩ := is_v ga0
  obtain rfl : w0 = (.int i0) := Option.some.inj ei0
  obtain ⟨i1, ei1⟩ := is_v ga1
  obtain rfl : w1 = (.int i1) := Option.some.inj ei1
  obtain ⟨n, o, h1, h2, h3, _, L, rfl, ⟨rfl, N⟩, hq⟩ := rm0 l s _ hw tables_1 i0 i1 s.heap s.heap.size (Nat.le_refl _) p e ha hc hk s m _ below hf ((Spec.applies_iff_loose hf).mp happ).1 ⟨rfl, State.Warmed39.refl s, rfl⟩ trivial
  refine ⟨n, _, h1, h2, h3, hpost _ _ _ _ _ _ ⟨Cond.after_iff.mpr rfl, Cond.after_iff.mpr (eq_i res_at (Term.int_eval (1)) rfl), trivial⟩ ⟨hq.1, hq.2.1, (hq.2.2.sift fun y hy => Or.inr (N y hy)).mono (by decide) (by decide)⟩⟩
theorem main_1_1 : Claimed_1_1 := comes_1 fun _ _ _ _ _ _ h hF => ⟨h.1, hF⟩
theorem main_1_2 : Claimed_1_2 := comes_1 fun _ _ _ _ _ _ h hF => ⟨h.2.1, hF⟩
end Jvm.Pilot.@@N@@
namespace Jvm.Pilot.@@N@@
open Jvm Jvm.ClassFile Sem Op Lib Jvm.Free Jvm.Stand Jvm.Pilot.@@N@@.Jvm.D
/-! MADE BY PROGRAM (witnessworld.py) out of the Statement's table words and the real class files: 9 classes; the members and pool entries that the words name. The judged class is class 1, her method 1. -/
namespace start1
open Jvm.ClassFile
def u (s : String) : CpInfo := .utf8 (stringToUtf16 s)
/-- a pool by its gaps: so many unusable entries, then the entry; so many at the end -/
def gap : Nat → List CpInfo → List CpInfo
  | 0, r => r
  | n + 1, r => .unusable :: gap n r
def poolList (es : List (Nat × CpInfo)) (last : Nat) : List CpInfo := es.foldr (fun e r => gap e.1 (e.2 :: r)) (gap last [])
def pool (es : List (Nat × CpInfo)) (last : Nat) : Array CpInfo := ⟨poolList es last⟩
def fileOf (pool : Array CpInfo) (this : Nat) (attrs : Array Attribute := #[]) (ms : Array MethodInfo := #[]) (fl : Nat := 33) (sup : Nat := 0) (ifs : Array Nat := #[]) (fds : Array FieldInfo := #[]) : ClassFile where
  minorVersion := 0
  majorVersion := 65
  constantPool := pool
  accessFlags := fl
  thisClass := this
  superClass := sup
  interfaces := ifs
  fields := fds
  methods := ms
  attributes := attrs
def plain (name : String) (sup : Option ClassId) : Class where
  name := name
  kind := .ordinary
  loader := none
  accessFlags := 33
  super := sup
  interfaces := #[]
  cf := none
  fields := #[]
  methods := #[]
  instanceTypes := #[]
  staticTypes := #[]
  resolved := #[]
  callSites := []
  init := .initialized
  statics := none
  mirror := none

def pool0 : Array CpInfo := pool [(5, u "<init>"), (0, u "()V"), (1, .class_ 10), (1, u "java/lang/Object")] 113

def k0m0 : Method := { name := "<init>", desc := "()V", sig := { parameters := [], returnType := none }, accessFlags := 1, code := none }
/-- java/lang/Object -/
def k0 : Class := { plain "java/lang/Object" none with
  accessFlags := 33
  interfaces := #[]
  cf := some (fileOf pool0 8 #[] #[{ accessFlags := 1, nameIndex := 5, descriptorIndex := 6, attributes := #[] }] 33 0 #[] #[])
  fields := #[]
  methods := #[k0m0]
  instanceTypes := #[]
  staticTypes := #[]
  resolved := Array.replicate 124 none
  statics := none }

def pool1 : Array CpInfo := pool [(2, .class_ 4), (1, u "java/lang/Object"), (0, u "<init>"), (0, u "()V"), (0, .integer 4294901760), (0, .methodref 9 10), (0, .class_ 11), (0, .nameAndType 12 13), (0, u "com/example/noddle/noddle/xml/Characters"), (0, u "isSpace"), (0, u "(I)Z"), (0, .class_ 15), (0, u "com/example/noddle/noddle/xml/CharactersIsSpacePinLaw"), (2, u "law"), (0, u "(II)Z")] 3

def k1m0 : Method := { name := "<init>", desc := "()V", sig := { parameters := [], returnType := none }, accessFlags := 1, code := none }
def k1c1 : Code := { maxStack := 2, maxLocals := 6, code := code, exceptionTable := #[], attributes := #[] }
def k1m1 : Method := { name := "law", desc := "(II)Z", sig := { parameters := [.int, .int], returnType := some .boolean }, accessFlags := 9, code := some k1c1 }
/-- com/example/noddle/noddle/xml/CharactersIsSpacePinLaw -/
def k1 : Class := { plain "com/example/noddle/noddle/xml/CharactersIsSpacePinLaw" (some 0) with
  accessFlags := 49
  interfaces := #[]
  cf := some (fileOf pool1 14 #[] #[{ accessFlags := 1, nameIndex := 5, descriptorIndex := 6, attributes := #[] }, { accessFlags := 9, nameIndex := 18, descriptorIndex := 19, attributes := #[] }] 49 2 #[] #[])
  fields := #[]
  methods := #[k1m0, k1m1]
  instanceTypes := #[]
  staticTypes := #[]
  resolved := Array.replicate 23 none
  statics := none }

def pool2 : Array CpInfo := pool [(2, .class_ 4), (1, u "java/lang/Object"), (0, u "<init>"), (0, u "()V"), (22, .class_ 31), (1, u "com/example/noddle/noddle/xml/Characters"), (19, u "isSpace"), (6, u "(I)Z")] 10

def k2m0 : Method := { name := "<init>", desc := "()V", sig := { parameters := [], returnType := none }, accessFlags := 2, code := none }
def k2c1 : Code := { maxStack := 2, maxLocals := 1, code := prog_108_method_3_code, exceptionTable := #[], attributes := #[] }
def k2m1 : Method := { name := "isSpace", desc := "(I)Z", sig := { parameters := [.int], returnType := some .boolean }, accessFlags := 9, code := some k2c1 }
/-- com/example/noddle/noddle/xml/Characters -/
def k2 : Class := { plain "com/example/noddle/noddle/xml/Characters" (some 0) with
  accessFlags := 33
  interfaces := #[]
  cf := some (fileOf pool2 29 #[] #[{ accessFlags := 2, nameIndex := 5, descriptorIndex := 6, attributes := #[] }, { accessFlags := 9, nameIndex := 51, descriptorIndex := 58, attributes := #[] }] 33 2 #[] #[])
  fields := #[]
  methods := #[k2m0, k2m1]
  instanceTypes := #[]
  staticTypes := #[]
  resolved := Array.replicate 69 none
  statics := none }

def pool3 : Array CpInfo := pool [(1, u "java/lang/Cloneable"), (0, .class_ 1), (0, u "java/lang/Object"), (0, .class_ 3)] 3

/-- java/lang/Cloneable -/
def k3 : Class := { plain "java/lang/Cloneable" (some 0) with
  accessFlags := 1537
  interfaces := #[]
  cf := some (fileOf pool3 2 #[] #[] 1537 4 #[] #[])
  fields := #[]
  methods := #[]
  instanceTypes := #[]
  staticTypes := #[]
  resolved := Array.replicate 8 none
  statics := none }

def pool4 : Array CpInfo := pool [(1, u "java/io/Serializable"), (0, .class_ 1), (0, u "java/lang/Object"), (0, .class_ 3)] 3

/-- java/io/Serializable -/
def k4 : Class := { plain "java/io/Serializable" (some 0) with
  accessFlags := 1537
  interfaces := #[]
  cf := some (fileOf pool4 2 #[] #[] 1537 4 #[] #[])
  fields := #[]
  methods := #[]
  instanceTypes := #[]
  staticTypes := #[]
  resolved := Array.replicate 8 none
  statics := none }

/-- the primitive byte -/
def k5 : Class := { plain "byte" none with kind := .primitive 'B', accessFlags := 0x411 }
/-- [B -/
def k6 : Class := { plain "[B" (some 0) with kind := .array 5 .byte, interfaces := #[3, 4], accessFlags := 1041 }

/-- the primitive int -/
def k7 : Class := { plain "int" none with kind := .primitive 'I', accessFlags := 0x411 }
/-- [I -/
def k8 : Class := { plain "[I" (some 0) with kind := .array 7 .int, interfaces := #[3, 4], accessFlags := 1041 }

def heap : Heap := #[]
def classes : Array Class := #[k0, k1, k2, k3, k4, k5, k6, k7, k8]
def interned : List (Array UInt16 × Addr) := []
def slotsUsed : Nat := 0
def theMethod : MethodId := ⟨1, 1⟩
def args0 : Array Value := #[.int 5, .int 300]
def aboutOver (below : List Frame) : State where
  vm := { classes := classes, interned := interned.toArray }
  heap := heap
  slotsUsed := slotsUsed
  threads := #[{ frames := .invoking theMethod args0 :: below }]
def below0 : List Frame := [.native { method := ⟨0, 0⟩, args := #[] }]
def about1 : State := aboutOver below0
def p0 : Program := .bare "" "" ""
def e0 : Env := launch0.env 0 0 0
theorem w_frames : about1.frames = Frame.invoking theMethod args0 :: below0 := rfl
set_option maxRecDepth 65536 in
theorem w_args : argsFit about1.vm theMethod args0 = true := by decide +kernel
set_option maxRecDepth 65536 in
theorem w_heap : heapFits about1 = true := by decide +kernel
set_option maxRecDepth 65536 in
theorem w_runnable : about1.curStatus? = some .runnable := by decide +kernel
set_option maxRecDepth 65536 in
theorem w_alone : about1.alone = true := by decide +kernel
set_option maxRecDepth 65536 in
theorem w_named : about1.methodNamed? x = some theMethod := by decide +kernel
set_option maxRecDepth 65536 in
theorem w_hears : about1.hears theMethod below0 = true := by decide +kernel
set_option maxRecDepth 65536 in
theorem w_ripe : about1.ripe theMethod args0 below0 = true := by decide +kernel
theorem w_running : about1.status = .running := rfl
set_option maxRecDepth 65536 in
theorem w_room : about1.hasRoom e0.platform room_1 = true :=
  launch0.hasRoom_least _ room_1 (by decide +kernel) (by decide +kernel) (by decide +kernel) (by decide +kernel) (by decide +kernel) (by decide +kernel)
theorem allAtoms_all (ts : List Jvm.Cond) (a : Array Jvm.Value) (st : Jvm.State) : (allAtoms ts).before a st = ts.all (fun c => c.before a st) := by
  induction ts with
  | nil => rfl
  | cons c t ih =>
    show (Jvm.Cond.and c (allAtoms t)).before a st = _
    rw [Jvm.Cond.before_and, ih, List.all_cons]
def words1 : List Jvm.Cond := Jvm.Cond.code x code maxLocals ret :: tables_1
/-- a 'code' word, met by the world's own term for the bytes: nothing is compared byte by byte -/
theorem code_word {y : MethodName} {bytes : ByteArray} {mx : Nat} {rt : Option FieldType} {a : Array Value} {s : State} {m : MethodId} {meth : Method} {c : Code} (h1 : s.methodNamed? y = some m) (h2 : s.vm.method? m = some meth) (h3 : meth.code = some c) (h4 : c.code = bytes)
    (h5 : (c.maxLocals == mx && c.exceptionTable.isEmpty && decide (c.maxStack ≤ mostOperands) && decide (meth.sig.returnType = rt) && !meth.locks && decide (parseMethodDescriptor y.desc = some meth.sig)) = true) : (Jvm.Cond.code y bytes mx rt).before a s = true := by
  simp only [Bool.and_eq_true, beq_iff_eq, Bool.not_eq_true', decide_eq_true_eq] at h5
  obtain ⟨⟨⟨⟨⟨g1, g2⟩, g3⟩, g4⟩, g5⟩, g6⟩ := h5
  simp [Cond.before, Cond.holds, Cond.value, h1, h2, h3, h4, g1, g2, g3, g4, g5, g6]
def isCode : Jvm.Cond → Bool
  | .code _ _ _ _ => true
  | _ => false
theorem all_split {L : List Jvm.Cond} {P : Jvm.Cond → Bool} (h1 : L.all (fun c => isCode c || P c) = true) (h2 : ∀ c ∈ L.filter isCode, P c = true) : L.all P = true := by
  refine List.all_eq_true.mpr fun c hc => ?_
  have h := List.all_eq_true.mp h1 c hc
  rcases Bool.eq_false_or_eq_true (isCode c) with hi | hi
  · exact h2 c (List.mem_filter.mpr ⟨hc, hi⟩)
  · simpa [hi] using h
set_option maxRecDepth 65536 in
theorem w_c0 : (Jvm.Cond.code x code maxLocals ret).before args0 about1 = true := code_word (m := ⟨1, 1⟩) (meth := k1m1) (c := k1c1) (by decide +kernel) rfl rfl rfl (by decide +kernel)
set_option maxRecDepth 65536 in
theorem w_c1 : (Jvm.Cond.code ({ cls := "com/example/noddle/noddle/xml/Characters", name := "isSpace", desc := "(I)Z" } : Jvm.MethodName) prog_108_method_3_code (1 : Nat) (Option.some Jvm.ClassFile.FieldType.boolean)).before args0 about1 = true := code_word (m := ⟨2, 1⟩) (meth := k2m1) (c := k2c1) (by decide +kernel) rfl rfl rfl (by decide +kernel)
def codes1 : List Jvm.Cond := [Jvm.Cond.code x code maxLocals ret, Jvm.Cond.code ({ cls := "com/example/noddle/noddle/xml/Characters", name := "isSpace", desc := "(I)Z" } : Jvm.MethodName) prog_108_method_3_code (1 : Nat) (Option.some Jvm.ClassFile.FieldType.boolean)]
set_option maxRecDepth 65536 in
theorem codes_eq : words1.filter isCode = codes1 := rfl
theorem w_codes : ∀ c ∈ words1.filter isCode, c.before args0 about1 = true := by
  rw [codes_eq]
  intro c hc
  simp only [codes1, List.mem_cons, List.not_mem_nil, or_false] at hc
  rcases hc with rfl | rfl
  · exact w_c0
  · exact w_c1
set_option maxRecDepth 65536 in
theorem w_t1 : words1.all (fun c => isCode c || c.before args0 about1) = true := by decide +kernel
theorem w_tables : (allAtoms (Jvm.Cond.code x code maxLocals ret :: tables_1)).before args0 about1 = true := by
  rw [allAtoms_all]
  show words1.all (fun c => c.before args0 about1) = true
  refine all_split ?_ w_codes
  rw [w_t1]
set_option maxRecDepth 65536 in
theorem w_case : (Jvm.Cond.and given_1 narrow_1).before args0 about1 = true := by decide +kernel
theorem w_applies : (headSpec (Jvm.Cond.code x code maxLocals ret :: tables_1) room_1).applies x e0.platform about1 = true :=
  (Spec.applies_iff w_frames).mpr ⟨w_running, w_runnable, w_alone, w_named, w_hears, w_ripe, w_room, w_tables⟩
theorem atStart : AtStart classFile x code maxLocals ret World_1 tables_1 room_1 Calls_1 rest_1 Pre_1 launch0 p0 e0 about1 theMethod args0 below0 :=
  ⟨lists_1, trivial, launch0.admits_env _ _ _, launch0.least_env, fairChoices_fair.cas, fairChoices_fair.clock, w_frames, w_args, w_heap, w_applies, trivial, trivial, w_case⟩
end start1
theorem witness_1 : WitnessClaimed_1 := ⟨start1.p0, start1.e0, start1.about1, start1.theMethod, start1.args0, start1.below0, start1.atStart⟩
end Jvm.Pilot.@@N@@
