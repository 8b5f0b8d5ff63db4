import JvmDerived
import JvmDerived.Pilot.@@N@@Statement
import JvmDerived.Pilot.@@N@@Code
set_option linter.unusedVariables false
set_option linter.unusedSimpArgs false
@@BLOCK:NumsL.lean.txt@@
namespace Jvm.Pilot.@@N@@
open Jvm Jvm.ClassFile Sem Op Lib Jvm.Free Jvm.Stand Jvm.LawKit Jvm.RoadKit Bundle Jvm.Pilot.@@N@@.Jvm.D
section Own
variable {p : Program} {l : Launch} {e : Env} {R : Room} {s : State} {m : MethodId} {args : Array Value} {below : List Frame} {meth : Method} {c : Code} {T : State} {locs : List Loc} {cells slots : Nat}
/-- from A the run comes to an end of which P holds -/
def own_G (p : Program) (e : Env) (below : List Frame) (P : State → Outcome → Prop) (A : State) : Prop := ∃ s₂ o, Steps p.tables e below A s₂ ∧ P s₂ o
/-- the end of a body: it returned, Q holds of the answer, the heap and the places written, and the frame is kept -/
def own_P (s : State) (below : List Frame) (Q : Option Value → Heap → List Loc → Prop) (k n : Nat) (s₂ : State) (o : Outcome) : Prop := s₂.status = .running ∧ Ended s₂ below o ∧ ∃ v L, o = .returned v ∧ Q v s₂.heap L ∧ FrameEnd s o s₂ L k n
theorem own_go {P : State → Outcome → Prop} {A B : State} (k : ∀ t, Steps p.tables e below B t → Steps p.tables e below A t) (h : own_G p e below P B) : own_G p e below P A := by
  obtain ⟨s₂, o, h1, h2⟩ := h
  exact ⟨s₂, o, k _ h1, h2⟩
theorem own_gs {P : State → Outcome → Prop} {A B : State} (k : Steps p.tables e below A B) (h : own_G p e below P B) : own_G p e below P A := own_go (fun _ hr => k.trans hr) h
theorem own_end (X : Stand p l e R s m args below meth c T locs cells slots) (hlk : meth.locks = false) {v : Option Value} (hv : meth.sig.returnType = none → v = none) {A : State} {Q : Option Value → Heap → List Loc → Prop} {k n : Nat} (hk : cells ≤ k) (hn : slots ≤ n)
    (st : ∀ fs, (∀ (f : JFrame) (acts : List Action), f.method = m → f.locked = none → f.entered = [] → (doReturn e (T.setTop f) acts v).1 = T.setFrames fs) → Steps p.tables e below A (T.setFrames fs)) (q : Q v T.heap locs) : own_G p e below (own_P s below Q k n) A := by
  obtain ⟨fs, hr, hrun, hended, hW, hsame⟩ := X.leave (v := v) hv hlk
  exact ⟨_, _, st fs hr, hrun, hended, _, _, rfl, q, ⟨_, rfl⟩, hW, hsame.mono hk hn⟩
theorem own_retI (X : Stand p l e R s m args below meth c T locs cells slots) (hx : p.tables.exec = Jvm.exec) (hlk : meth.locks = false) {pc : Nat} {Ls : Array Slot} {z : Int32} {rest : List Value} {Q : Option Value → Heap → List Loc → Prop} {k n : Nat} (hret : meth.sig.returnType = some .int) (hd : decode c.code pc = .ok (.ireturn, 1)) (hk : cells ≤ k) (hn : slots ≤ n)
    (q : Q (some (.int z)) T.heap locs) : own_G p e below (own_P s below Q k n) (T.setTop (mkF m pc Ls (.int z :: rest))) :=
  own_end X hlk (fun h => by rw [hret] at h; cases h) hk hn (fun fs hr => retOut X hx hret rfl (Or.inl ⟨rfl, Or.inl rfl, z, rfl⟩) hd hr) q
theorem own_bit {z : Int32} (hz : z = 0 ∨ z = 1) : narrow .boolean (.int z) = .int z := by rcases hz with rfl | rfl <;> rfl
theorem own_retZ (X : Stand p l e R s m args below meth c T locs cells slots) (hx : p.tables.exec = Jvm.exec) (hlk : meth.locks = false) {pc : Nat} {Ls : Array Slot} {z : Int32} {rest : List Value} {Q : Option Value → Heap → List Loc → Prop} {k n : Nat} (hret : meth.sig.returnType = some .boolean) (hz : z = 0 ∨ z = 1) (hd : decode c.code pc = .ok (.ireturn, 1)) (hk : cells ≤ k) (hn : slots ≤ n)
    (q : Q (some (.int z)) T.heap locs) : own_G p e below (own_P s below Q k n) (T.setTop (mkF m pc Ls (.int z :: rest))) :=
  own_end X hlk (fun h => by rw [hret] at h; cases h) hk hn (fun fs hr => retOut X hx hret (own_bit hz) (Or.inl ⟨rfl, Or.inr (Or.inl rfl), z, rfl⟩) hd hr) q
theorem own_retJ (X : Stand p l e R s m args below meth c T locs cells slots) (hx : p.tables.exec = Jvm.exec) (hlk : meth.locks = false) {pc : Nat} {Ls : Array Slot} {z : Int64} {rest : List Value} {Q : Option Value → Heap → List Loc → Prop} {k n : Nat} (hret : meth.sig.returnType = some .long) (hd : decode c.code pc = .ok (.lreturn, 1)) (hk : cells ≤ k) (hn : slots ≤ n)
    (q : Q (some (.long z)) T.heap locs) : own_G p e below (own_P s below Q k n) (T.setTop (mkF m pc Ls (.long z :: rest))) :=
  own_end X hlk (fun h => by rw [hret] at h; cases h) hk hn (fun fs hr => retOut X hx hret rfl (Or.inr (Or.inl ⟨rfl, rfl, z, rfl⟩)) hd hr) q
theorem own_retA (X : Stand p l e R s m args below meth c T locs cells slots) (hx : p.tables.exec = Jvm.exec) (hlk : meth.locks = false) {pc : Nat} {Ls : Array Slot} {z : Addr} {t : FieldType} {rest : List Value} {Q : Option Value → Heap → List Loc → Prop} {k n : Nat} (hret : meth.sig.returnType = some t) (ht : t.isReference = true) (hn0 : narrow t (.ref z) = .ref z) (hd : decode c.code pc = .ok (.areturn, 1)) (hk : cells ≤ k) (hn : slots ≤ n)
    (q : Q (some (.ref z)) T.heap locs) : own_G p e below (own_P s below Q k n) (T.setTop (mkF m pc Ls (.ref z :: rest))) :=
  own_end X hlk (fun h => by rw [hret] at h; cases h) hk hn (fun fs hr => retOut X hx hret hn0 (Or.inr (Or.inr (Or.inr (Or.inr ⟨rfl, ht, rfl⟩)))) hd hr) q
theorem own_retV (X : Stand p l e R s m args below meth c T locs cells slots) (hx : p.tables.exec = Jvm.exec) (hlk : meth.locks = false) {pc : Nat} {Ls : Array Slot} {Q : Option Value → Heap → List Loc → Prop} {k n : Nat} (hret : meth.sig.returnType = none) (hd : decode c.code pc = .ok (.return_, 1)) (hk : cells ≤ k) (hn : slots ≤ n)
    (q : Q none T.heap locs) : own_G p e below (own_P s below Q k n) (T.setTop (mkF m pc Ls [])) :=
  own_end X hlk (fun _ => rfl) hk hn (fun fs hr => X.returnOut hx hret hd hr) q
end Own

theorem d2_0 : decode jdk_30_method_1_code 0 = .ok (.aload_n 0, 1) := by decide +kernel
theorem d2_1 : decode jdk_30_method_1_code 1 = .ok (.invokespecial 1, 3) := by decide +kernel
theorem d2_4 : decode jdk_30_method_1_code 4 = .ok (.return_, 1) := by decide +kernel
theorem pn_rec : plainName "java/lang/Record" = true := by first | (simp [plainName, overriddenIn]; done) | decide +kernel
theorem pd_rec : parseMethodDescriptor "()V" = some ⟨[], none⟩ := by decide +kernel
theorem ef_rec (m : MethodId) (x0 : Addr) : entryFrame m #[(.ref x0)] 1 = mkF m 0 #[.val (.ref x0)] [] := by first | (simp [entryFrame, mkF, argsToLocals, Value.category, maxLocals]; done) | rfl
def Q_rec (Z : State) (a : Addr) (h0 : Heap) (n0 : Nat) (v : Option Value) (h : Heap) (L : List Loc) : Prop := v = none ∧ Fr n0 L ∧ h = h0
set_option maxRecDepth 65536 in
set_option maxHeartbeats 40000000 in
theorem rm_rec (l : Launch) (Z : State) (a0 : Array Value) (hw : ∀ d ∈ tables_1, d.before a0 Z = true) (ws : List Jvm.Cond) (a : Addr) (h0 : Heap) (n0 : Nat) (Z0 : n0 ≤ h0.size)  :
    MetFree l (⟨"java/lang/Record", "<init>", "()V"⟩ : MethodName) (head1 (Jvm.Cond.code (⟨"java/lang/Record", "<init>", "()V"⟩ : MethodName) jdk_30_method_1_code 1 (none) :: ws) ({ frames := 1, cells := 0, slots := 0, locals := 12 } : Room)) (fun as U => as = #[(.ref a)] ∧ Z.Warmed39 U.vm ∧ U.heap = h0) (fun _ _ _ _ _ => True) (fun _ U o U' => ∃ v L, o = .returned v ∧ Q_rec Z a h0 n0 v U'.heap L ∧ FrameEnd U o U' L ({ frames := 1, cells := 0, slots := 0, locals := 12 } : Room).cells ({ frames := 1, cells := 0, slots := 0, locals := 12 } : Room).slots) := by
  refine MetFree.of_bodySF (plainFor_of_name pn_rec) hisR ?_
  intro p e s m args below meth c s₁ Bd hml0 hP hK
  obtain ⟨rfl, hZ, hh⟩ := hP
  have hx := Bd.exec
  have hby := Bd.bytes
  have hml : c.maxLocals = 1 := hml0
  have hown : s.vm.findClass "java/lang/Record" = some m.cls := findClass_of_methodNamed Bd.named
  have hnm := (name_of_methodNamed Bd.named Bd.method).1
  have hlk := BodyLoose.notSynchronized Bd
  have hret := Bd.returns
  have X0 : Stand p l e ({ frames := 1, cells := 0, slots := 0, locals := 12 } : Room) s m #[(.ref a)] below meth c s₁ [] 0 0 := Stand.of_body Bd
  have e0 : s₁.heap = h0 := by rw [← hh, Bd.state]; rfl
  have N0 := Fr.nil n0
  show own_G p e below (own_P s below (Q_rec Z a h0 n0) ({ frames := 1, cells := 0, slots := 0, locals := 12 } : Room).cells ({ frames := 1, cells := 0, slots := 0, locals := 12 } : Room).slots) _
  refine own_go (B := s₁.setTop (mkF m 0 #[.val (.ref a)] [])) (fun t k => castTop (ef_rec m a) k) ?_
  refine own_go (B := s₁.setTop (mkF m 1 #[.val (.ref a)] [(.ref a)])) (fun _ hr => XS.aloadN X0.here hx rfl (hb hby d2_0) rfl rfl hr) ?_
  obtain ⟨T1, X1, e1, st1⟩ := initO X0 hx hZ hown (hw _ (List.mem_of_getElem? (i := 11) rfl)) (hw _ (List.mem_of_getElem? (i := 12) rfl)) (hw _ (List.mem_of_getElem? (i := 13) rfl)) e0 (g := (mkF m 1 #[.val (.ref a)] [(.ref a)])) rfl (by rw [hml]; rfl) rfl (hb hby d2_1) (by decide) (W := 0) (by show 2 * 0 + _ ≤ _; exact Nat.le_of_eq rfl) (by decide)
  refine own_go (B := T1.setTop (mkF m 4 #[.val (.ref a)] [])) (fun t hr => st1 t hr) ?_
  exact own_retV X1 hx hlk hret  (hb hby d2_4) (by decide) (by decide) ⟨rfl, N0, e1⟩
theorem d1_0 : decode prog_37_method_1_code 0 = .ok (.aload_n 0, 1) := by decide +kernel
theorem d1_1 : decode prog_37_method_1_code 1 = .ok (.invokespecial 1, 3) := by decide +kernel
theorem d1_4 : decode prog_37_method_1_code 4 = .ok (.aload_n 0, 1) := by decide +kernel
theorem d1_5 : decode prog_37_method_1_code 5 = .ok (.iload_n 1, 1) := by decide +kernel
theorem d1_6 : decode prog_37_method_1_code 6 = .ok (.putfield 7, 3) := by decide +kernel
theorem d1_9 : decode prog_37_method_1_code 9 = .ok (.aload_n 0, 1) := by decide +kernel
theorem d1_10 : decode prog_37_method_1_code 10 = .ok (.iload_n 2, 1) := by decide +kernel
theorem d1_11 : decode prog_37_method_1_code 11 = .ok (.putfield 13, 3) := by decide +kernel
theorem d1_14 : decode prog_37_method_1_code 14 = .ok (.return_, 1) := by decide +kernel
theorem pn_init : plainName "com/example/tangl/tangl/aop/pointcut/ExecutionPattern$Modifiers" = true := by first | (simp [plainName, overriddenIn]; done) | decide +kernel
theorem pd_init : parseMethodDescriptor "(II)V" = some ⟨[.int, .int], none⟩ := by decide +kernel
theorem ef_init (m : MethodId) (x0 : Addr) (x1 : Int32) (x2 : Int32) : entryFrame m #[(.ref x0), (.int x1), (.int x2)] 3 = mkF m 0 #[.val (.ref x0), .val (.int x1), .val (.int x2)] [] := by first | (simp [entryFrame, mkF, argsToLocals, Value.category, maxLocals]; done) | rfl
def Q_init (Z : State) (a : Addr) (ri : Int32) (fi : Int32) (h0 : Heap) (n0 : Nat) (v : Option Value) (h : Heap) (L : List Loc) : Prop := v = none ∧ Fr n0 L ∧ Keep h0 h [a] ∧ Exa Z h a "com/example/tangl/tangl/aop/pointcut/ExecutionPattern$Modifiers" ∧ Fld Z h a "com/example/tangl/tangl/aop/pointcut/ExecutionPattern$Modifiers" "required" "I" (.int ri) ∧ Fld Z h a "com/example/tangl/tangl/aop/pointcut/ExecutionPattern$Modifiers" "forbidden" "I" (.int fi)
set_option maxRecDepth 65536 in
set_option maxHeartbeats 40000000 in
theorem rm_init (l : Launch) (Z : State) (a0 : Array Value) (hw : ∀ d ∈ tables_1, d.before a0 Z = true) (ws : List Jvm.Cond) (a : Addr) (ri : Int32) (fi : Int32) (h0 : Heap) (n0 : Nat) (Z0 : n0 ≤ h0.size) (F1 : Fld Z h0 a "com/example/tangl/tangl/aop/pointcut/ExecutionPattern$Modifiers" "required" "I" (.int (0 : Int32))) (F2 : Fld Z h0 a "com/example/tangl/tangl/aop/pointcut/ExecutionPattern$Modifiers" "forbidden" "I" (.int (0 : Int32))) (E1 : Exa Z h0 a "com/example/tangl/tangl/aop/pointcut/ExecutionPattern$Modifiers") (ge : n0 ≤ a) :
    MetFree l (⟨"com/example/tangl/tangl/aop/pointcut/ExecutionPattern$Modifiers", "<init>", "(II)V"⟩ : MethodName) (head1 (Jvm.Cond.code (⟨"com/example/tangl/tangl/aop/pointcut/ExecutionPattern$Modifiers", "<init>", "(II)V"⟩ : MethodName) prog_37_method_1_code 3 (none) :: ws) ({ frames := 2, cells := 0, slots := 0, locals := 24 } : Room)) (fun as U => as = #[(.ref a), (.int ri), (.int fi)] ∧ Z.Warmed39 U.vm ∧ U.heap = h0) (fun _ _ _ _ _ => True) (fun _ U o U' => ∃ v L, o = .returned v ∧ Q_init Z a ri fi h0 n0 v U'.heap L ∧ FrameEnd U o U' L ({ frames := 2, cells := 0, slots := 0, locals := 24 } : Room).cells ({ frames := 2, cells := 0, slots := 0, locals := 24 } : Room).slots) := by
  refine MetFree.of_bodySF (plainFor_of_name pn_init) hisR ?_
  intro p e s m args below meth c s₁ Bd hml0 hP hK
  obtain ⟨rfl, hZ, hh⟩ := hP
  have hx := Bd.exec
  have hby := Bd.bytes
  have hml : c.maxLocals = 3 := hml0
  have hown : s.vm.findClass "com/example/tangl/tangl/aop/pointcut/ExecutionPattern$Modifiers" = some m.cls := findClass_of_methodNamed Bd.named
  have hnm := (name_of_methodNamed Bd.named Bd.method).1
  have hlk := BodyLoose.notSynchronized Bd
  have hret := Bd.returns
  have X0 : Stand p l e ({ frames := 2, cells := 0, slots := 0, locals := 24 } : Room) s m #[(.ref a), (.int ri), (.int fi)] below meth c s₁ [] 0 0 := Stand.of_body Bd
  have e0 : s₁.heap = h0 := by rw [← hh, Bd.state]; rfl
  have N0 := Fr.nil n0
  show own_G p e below (own_P s below (Q_init Z a ri fi h0 n0) ({ frames := 2, cells := 0, slots := 0, locals := 24 } : Room).cells ({ frames := 2, cells := 0, slots := 0, locals := 24 } : Room).slots) _
  refine own_go (B := s₁.setTop (mkF m 0 #[.val (.ref a), .val (.int ri), .val (.int fi)] [])) (fun t k => castTop (ef_init m a ri fi) k) ?_
  refine own_go (B := s₁.setTop (mkF m 1 #[.val (.ref a), .val (.int ri), .val (.int fi)] [(.ref a)])) (fun _ hr => XS.aloadN X0.here hx rfl (hb hby d1_0) rfl rfl hr) ?_
  obtain ⟨_, _, ⟨T2, L2, k2, n2⟩, -, X2, ⟨Lc2, hQ2, l2, y2, z2⟩, st2⟩ := X0.specialBack hx (y := (⟨"java/lang/Record", "<init>", "()V"⟩ : MethodName)) rfl hown (mvT hZ (hw _ (List.mem_of_getElem? (i := 6) rfl))) (mvT hZ (hw _ (List.mem_of_getElem? (i := 7) rfl))) (mvT hZ (hw _ (List.mem_of_getElem? (i := 10) rfl))) (by decide) (backOf (W := 0) (rm_rec l Z a0 hw [] a h0 n0 Z0) hZ (hw _ (List.mem_of_getElem? (i := 10) rfl)) (hw _ (List.mem_of_getElem? (i := 9) rfl)) (by decide) (by decide)) (g := (mkF m 1 #[.val (.ref a), .val (.int ri), .val (.int fi)] [(.ref a)])) rfl (by rw [hml]; rfl) (Steps.refl _) (a := a) (argsL := []) (rest := []) (lenOf pd_rec rfl) rfl (by show 2 * 0 + _ ≤ _; exact Nat.le_of_eq rfl) (hb hby d1_1) (fun _ _ => ⟨rfl, e0, (by decide : 0 + 0 ≤ _), (by decide : 0 + 0 ≤ _)⟩)
  dsimp only [Pt.U, Pt.locs, Pt.cells, Pt.slots] at X2 l2 y2 z2 st2 hQ2
  subst l2 y2 z2
  obtain ⟨rfl, N2, e2⟩ := hQ2
  refine own_gs (B := T2.setTop (mkF m 4 #[.val (.ref a), .val (.int ri), .val (.int fi)] [])) st2 ?_
  have M2 := Fr.app N0 N2
  refine own_go (B := T2.setTop (mkF m 5 #[.val (.ref a), .val (.int ri), .val (.int fi)] [(.ref a)])) (fun _ hr => XS.aloadN X2.here hx rfl (hb hby d1_4) rfl rfl hr) ?_
  refine own_go (B := T2.setTop (mkF m 6 #[.val (.ref a), .val (.int ri), .val (.int fi)] [(.int ri), (.ref a)])) (fun _ hr => XS.iloadN X2.here hx rfl (hb hby d1_5) rfl hr) ?_
  have ne : Jvm.RoadKit.slotOf Z "com/example/tangl/tangl/aop/pointcut/ExecutionPattern$Modifiers" "required" "I" ≠ Jvm.RoadKit.slotOf Z "com/example/tangl/tangl/aop/pointcut/ExecutionPattern$Modifiers" "forbidden" "I" := slot_ne (Or.inr (hw _ (List.mem_of_getElem? (i := 15) rfl))) (Or.inr (hw _ (List.mem_of_getElem? (i := 17) rfl))) (t := .int) (t' := .int) (by decide) (by decide) (by decide)
  obtain ⟨T3, h3, X3, e3, W3, st3⟩ := putF X2 hx hZ hown (host := "") (Or.inl (hw _ (List.mem_of_getElem? (i := 14) rfl))) Via.refl e2 F1 E1 (Or.inr ⟨(hw _ (List.mem_of_getElem? (i := 15) rfl)), rfl, hnm⟩) (hw _ (List.mem_of_getElem? (i := 1) rfl)) (ty := .int) (by decide) rfl rfl (g := (mkF m 6 #[.val (.ref a), .val (.int ri), .val (.int fi)] [(.int ri), (.ref a)])) rfl rfl (hb hby d1_6)
  have N3 := Fr.snoc X3 M2 ge
  refine own_go (B := T3.setTop (mkF m 9 #[.val (.ref a), .val (.int ri), .val (.int fi)] [])) (fun t hr => st3 t hr) ?_
  have F3 := F1.same W3
  have F4 := F2.other W3 (Or.inr ne.symm)
  refine own_go (B := T3.setTop (mkF m 10 #[.val (.ref a), .val (.int ri), .val (.int fi)] [(.ref a)])) (fun _ hr => XS.aloadN X3.here hx rfl (hb hby d1_9) rfl rfl hr) ?_
  refine own_go (B := T3.setTop (mkF m 11 #[.val (.ref a), .val (.int ri), .val (.int fi)] [(.int fi), (.ref a)])) (fun _ hr => XS.iloadN X3.here hx rfl (hb hby d1_10) rfl hr) ?_
  obtain ⟨T4, h4, X4, e4, W4, st4⟩ := putF X3 hx hZ hown (host := "") (Or.inl (hw _ (List.mem_of_getElem? (i := 16) rfl))) Via.refl e3 F4 (E1.wr W3) (Or.inr ⟨(hw _ (List.mem_of_getElem? (i := 17) rfl)), rfl, hnm⟩) (hw _ (List.mem_of_getElem? (i := 1) rfl)) (ty := .int) (by decide) rfl rfl (g := (mkF m 11 #[.val (.ref a), .val (.int ri), .val (.int fi)] [(.int fi), (.ref a)])) rfl rfl (hb hby d1_11)
  have N4 := Fr.snoc X4 N3 ge
  refine own_go (B := T4.setTop (mkF m 14 #[.val (.ref a), .val (.int ri), .val (.int fi)] [])) (fun t hr => st4 t hr) ?_
  have F5 := F4.same W4
  have F6 := F3.other W4 (Or.inr ne)
  have K : Keep h0 h4 [a] := ((Keep.refl _ _).wr W3 (Or.inl (List.mem_of_getElem? (i := 0) rfl))).wr W4 (Or.inl (List.mem_of_getElem? (i := 0) rfl))
  exact own_retV X4 hx hlk hret  (hb hby d1_14) (by decide) (by decide) (by rw [e4]; exact ⟨rfl, N4, K, (E1.wr W3).wr W4, F6, F5⟩)
def own_matches (mi ri fi : Int32) : Int32 := (if (mi &&& ri) = ri then (if (mi &&& fi) = 0 then (1 : Int32) else (0 : Int32)) else (0 : Int32))
theorem d4_0 : decode prog_37_method_2_code 0 = .ok (.iload_n 1, 1) := by decide +kernel
theorem d4_1 : decode prog_37_method_2_code 1 = .ok (.aload_n 0, 1) := by decide +kernel
theorem d4_2 : decode prog_37_method_2_code 2 = .ok (.getfield 7, 3) := by decide +kernel
theorem d4_5 : decode prog_37_method_2_code 5 = .ok (.iand, 1) := by decide +kernel
theorem d4_6 : decode prog_37_method_2_code 6 = .ok (.aload_n 0, 1) := by decide +kernel
theorem d4_7 : decode prog_37_method_2_code 7 = .ok (.getfield 7, 3) := by decide +kernel
theorem d4_10 : decode prog_37_method_2_code 10 = .ok (.if_icmp .ne 16, 3) := by decide +kernel
theorem d4_13 : decode prog_37_method_2_code 13 = .ok (.iload_n 1, 1) := by decide +kernel
theorem d4_14 : decode prog_37_method_2_code 14 = .ok (.aload_n 0, 1) := by decide +kernel
theorem d4_15 : decode prog_37_method_2_code 15 = .ok (.getfield 13, 3) := by decide +kernel
theorem d4_18 : decode prog_37_method_2_code 18 = .ok (.iand, 1) := by decide +kernel
theorem d4_19 : decode prog_37_method_2_code 19 = .ok (.ifCond .ne 7, 3) := by decide +kernel
theorem d4_22 : decode prog_37_method_2_code 22 = .ok (.iconst 1, 1) := by decide +kernel
theorem d4_23 : decode prog_37_method_2_code 23 = .ok (.goto 4, 3) := by decide +kernel
theorem d4_26 : decode prog_37_method_2_code 26 = .ok (.iconst 0, 1) := by decide +kernel
theorem d4_27 : decode prog_37_method_2_code 27 = .ok (.ireturn, 1) := by decide +kernel
theorem pn_matches : plainName "com/example/tangl/tangl/aop/pointcut/ExecutionPattern$Modifiers" = true := by first | (simp [plainName, overriddenIn]; done) | decide +kernel
theorem pd_matches : parseMethodDescriptor "(I)Z" = some ⟨[.int], some .boolean⟩ := by decide +kernel
theorem ef_matches (m : MethodId) (x0 : Addr) (x1 : Int32) : entryFrame m #[(.ref x0), (.int x1)] 2 = mkF m 0 #[.val (.ref x0), .val (.int x1)] [] := by first | (simp [entryFrame, mkF, argsToLocals, Value.category, maxLocals]; done) | rfl
def Q_matches (Z : State) (a : Addr) (mi : Int32) (ri : Int32) (fi : Int32) (h0 : Heap) (n0 : Nat) (v : Option Value) (h : Heap) (L : List Loc) : Prop := v = some (.int (own_matches mi ri fi)) ∧ Fr n0 L ∧ h = h0
set_option maxRecDepth 65536 in
set_option maxHeartbeats 40000000 in
theorem rm_matches (l : Launch) (Z : State) (a0 : Array Value) (hw : ∀ d ∈ tables_1, d.before a0 Z = true) (ws : List Jvm.Cond) (a : Addr) (mi : Int32) (ri : Int32) (fi : Int32) (h0 : Heap) (n0 : Nat) (Z0 : n0 ≤ h0.size) (F1 : Fld Z h0 a "com/example/tangl/tangl/aop/pointcut/ExecutionPattern$Modifiers" "required" "I" (.int ri)) (F2 : Fld Z h0 a "com/example/tangl/tangl/aop/pointcut/ExecutionPattern$Modifiers" "forbidden" "I" (.int fi)) :
    MetFree l (⟨"com/example/tangl/tangl/aop/pointcut/ExecutionPattern$Modifiers", "matches", "(I)Z"⟩ : MethodName) (head1 (Jvm.Cond.code (⟨"com/example/tangl/tangl/aop/pointcut/ExecutionPattern$Modifiers", "matches", "(I)Z"⟩ : MethodName) prog_37_method_2_code 2 (some .boolean) :: ws) ({ frames := 0, cells := 0, slots := 0, locals := 0 } : Room)) (fun as U => as = #[(.ref a), (.int mi)] ∧ Z.Warmed39 U.vm ∧ U.heap = h0) (fun _ _ _ _ _ => True) (fun _ U o U' => ∃ v L, o = .returned v ∧ Q_matches Z a mi ri fi h0 n0 v U'.heap L ∧ FrameEnd U o U' L ({ frames := 0, cells := 0, slots := 0, locals := 0 } : Room).cells ({ frames := 0, cells := 0, slots := 0, locals := 0 } : Room).slots) := by
  refine MetFree.of_bodySF (plainFor_of_name pn_matches) hisR ?_
  intro p e s m args below meth c s₁ Bd hml0 hP hK
  obtain ⟨rfl, hZ, hh⟩ := hP
  have hx := Bd.exec
  have hby := Bd.bytes
  have hml : c.maxLocals = 2 := hml0
  have hown : s.vm.findClass "com/example/tangl/tangl/aop/pointcut/ExecutionPattern$Modifiers" = some m.cls := findClass_of_methodNamed Bd.named
  have hnm := (name_of_methodNamed Bd.named Bd.method).1
  have hlk := BodyLoose.notSynchronized Bd
  have hret := Bd.returns
  have X0 : Stand p l e ({ frames := 0, cells := 0, slots := 0, locals := 0 } : Room) s m #[(.ref a), (.int mi)] below meth c s₁ [] 0 0 := Stand.of_body Bd
  have e0 : s₁.heap = h0 := by rw [← hh, Bd.state]; rfl
  have N0 := Fr.nil n0
  show own_G p e below (own_P s below (Q_matches Z a mi ri fi h0 n0) ({ frames := 0, cells := 0, slots := 0, locals := 0 } : Room).cells ({ frames := 0, cells := 0, slots := 0, locals := 0 } : Room).slots) _
  refine own_go (B := s₁.setTop (mkF m 0 #[.val (.ref a), .val (.int mi)] [])) (fun t k => castTop (ef_matches m a mi) k) ?_
  refine own_go (B := s₁.setTop (mkF m 1 #[.val (.ref a), .val (.int mi)] [(.int mi)])) (fun _ hr => XS.iloadN X0.here hx rfl (hb hby d4_0) rfl hr) ?_
  refine own_go (B := s₁.setTop (mkF m 2 #[.val (.ref a), .val (.int mi)] [(.ref a), (.int mi)])) (fun _ hr => XS.aloadN X0.here hx rfl (hb hby d4_1) rfl rfl hr) ?_
  obtain ⟨T10, X10, e10, st10⟩ := getF X0 hx hZ hown (host := "") (Or.inl (hw _ (List.mem_of_getElem? (i := 14) rfl))) Via.refl e0 F1 (g := (mkF m 2 #[.val (.ref a), .val (.int mi)] [(.ref a), (.int mi)])) rfl rfl (hb hby d4_2)
  refine own_go (B := T10.setTop (mkF m 5 #[.val (.ref a), .val (.int mi)] [(.int ri), (.int mi)])) (fun t hr => st10 t hr) ?_
  refine own_go (B := T10.setTop (mkF m 6 #[.val (.ref a), .val (.int mi)] [(.int (mi &&& ri))])) (fun _ hr => XS.iand X10.here hx rfl (hb hby d4_5) rfl hr) ?_
  refine own_go (B := T10.setTop (mkF m 7 #[.val (.ref a), .val (.int mi)] [(.ref a), (.int (mi &&& ri))])) (fun _ hr => XS.aloadN X10.here hx rfl (hb hby d4_6) rfl rfl hr) ?_
  obtain ⟨T11, X11, e11, st11⟩ := getF X10 hx hZ hown (host := "") (Or.inl (hw _ (List.mem_of_getElem? (i := 14) rfl))) Via.refl e10 F1 (g := (mkF m 7 #[.val (.ref a), .val (.int mi)] [(.ref a), (.int (mi &&& ri))])) rfl rfl (hb hby d4_7)
  refine own_go (B := T11.setTop (mkF m 10 #[.val (.ref a), .val (.int mi)] [(.int ri), (.int (mi &&& ri))])) (fun t hr => st11 t hr) ?_
  by_cases c12 : (mi &&& ri) = ri
  · refine own_go (B := T11.setTop (mkF m 13 #[.val (.ref a), .val (.int mi)] [])) (fun _ hr => XS.icmpNo X11.here hx rfl (hb hby d4_10) rfl (XT.ii_ne_f c12) hr) ?_
    refine own_go (B := T11.setTop (mkF m 14 #[.val (.ref a), .val (.int mi)] [(.int mi)])) (fun _ hr => XS.iloadN X11.here hx rfl (hb hby d4_13) rfl hr) ?_
    refine own_go (B := T11.setTop (mkF m 15 #[.val (.ref a), .val (.int mi)] [(.ref a), (.int mi)])) (fun _ hr => XS.aloadN X11.here hx rfl (hb hby d4_14) rfl rfl hr) ?_
    obtain ⟨T13, X13, e13, st13⟩ := getF X11 hx hZ hown (host := "") (Or.inl (hw _ (List.mem_of_getElem? (i := 16) rfl))) Via.refl e11 F2 (g := (mkF m 15 #[.val (.ref a), .val (.int mi)] [(.ref a), (.int mi)])) rfl rfl (hb hby d4_15)
    refine own_go (B := T13.setTop (mkF m 18 #[.val (.ref a), .val (.int mi)] [(.int fi), (.int mi)])) (fun t hr => st13 t hr) ?_
    refine own_go (B := T13.setTop (mkF m 19 #[.val (.ref a), .val (.int mi)] [(.int (mi &&& fi))])) (fun _ hr => XS.iand X13.here hx rfl (hb hby d4_18) rfl hr) ?_
    by_cases c14 : (mi &&& fi) = 0
    · refine own_go (B := T13.setTop (mkF m 22 #[.val (.ref a), .val (.int mi)] [])) (fun _ hr => XS.ifNo X13.here hx rfl (hb hby d4_19) rfl (XT.i0_ne_f c14) hr) ?_
      refine own_go (B := T13.setTop (mkF m 23 #[.val (.ref a), .val (.int mi)] [(.int (1 : Int32))])) (fun _ hr => XT.iconstV X13.here hx rfl (1 : Int32) (hb hby d4_22) (by decide) hr) ?_
      refine own_go (B := T13.setTop (mkF m 27 #[.val (.ref a), .val (.int mi)] [(.int (1 : Int32))])) (fun _ hr => XS.goto X13.here hx rfl (pc0 := 23) (pc' := 27) rfl (hb hby d4_23) (by decide) (by decide) hr) ?_
      exact own_retZ X13 hx hlk hret (by decide) (hb hby d4_27) (by decide) (by decide) ⟨by simp only [own_matches, if_pos c12, if_pos c14], N0, e13⟩
    · refine own_go (B := T13.setTop (mkF m 26 #[.val (.ref a), .val (.int mi)] [])) (fun _ hr => XS.ifYes X13.here hx rfl (pc0 := 19) (pc' := 26) rfl (hb hby d4_19) rfl (XT.i0_ne_t c14) (by decide) (by decide) hr) ?_
      refine own_go (B := T13.setTop (mkF m 27 #[.val (.ref a), .val (.int mi)] [(.int (0 : Int32))])) (fun _ hr => XT.iconstV X13.here hx rfl (0 : Int32) (hb hby d4_26) (by decide) hr) ?_
      exact own_retZ X13 hx hlk hret (by decide) (hb hby d4_27) (by decide) (by decide) ⟨by simp only [own_matches, if_pos c12, if_neg c14], N0, e13⟩
  · refine own_go (B := T11.setTop (mkF m 26 #[.val (.ref a), .val (.int mi)] [])) (fun _ hr => XS.icmpYes X11.here hx rfl (pc0 := 10) (pc' := 26) rfl (hb hby d4_10) rfl (XT.ii_ne_t c12) (by decide) (by decide) hr) ?_
    refine own_go (B := T11.setTop (mkF m 27 #[.val (.ref a), .val (.int mi)] [(.int (0 : Int32))])) (fun _ hr => XT.iconstV X11.here hx rfl (0 : Int32) (hb hby d4_26) (by decide) hr) ?_
    exact own_retZ X11 hx hlk hret (by decide) (hb hby d4_27) (by decide) (by decide) ⟨by simp only [own_matches, if_neg c12], N0, e11⟩
theorem pn_law : plainName "com/example/tangl/tangl/aop/pointcut/ModifiersMatchesPinLaw" = true := by first | (simp [plainName, overriddenIn]; done) | decide +kernel
theorem ef_law (m : MethodId) (x0 : Int32) (x1 : Int32) (x2 : Int32) (x3 : Int32) : entryFrame m #[(.int x0), (.int x1), (.int x2), (.int x3)] maxLocals = mkF m 0 #[.val (.int x0), .val (.int x1), .val (.int x2), .val (.int x3), .unset, .unset, .unset, .unset, .unset, .unset] [] := by first | (simp [entryFrame, mkF, argsToLocals, Value.category, maxLocals]; done) | rfl
def Q_law (Z : State) (ri : Int32) (fi : Int32) (mi : Int32) (oi : Int32) (h0 : Heap) (n0 : Nat) (v : Option Value) (h : Heap) (L : List Loc) : Prop := v = some (.int 1) ∧ Fr n0 L
def own_built (oi : Int32) : Int32 := (if (oi &&& (1 : Int32)) = 0 then (0 : Int32) else (1 : Int32))
def own_m (ri : Int32) (fi : Int32) (mi : Int32) (bu : Int32) : Int32 := (if bu = 0 then mi else ((mi ||| ri) &&& (fi ^^^ (-1 : Int32))))
def own_res (ri : Int32) (fi : Int32) (mm : Int32) (ac : Int32) : Int32 := (if (ri ||| mm) = mm then (if (mm &&& (fi ^^^ (-1 : Int32))) = mm then (if ac = (1 : Int32) then (1 : Int32) else (0 : Int32)) else (if ac = (0 : Int32) then (1 : Int32) else (0 : Int32))) else (if (mm &&& (fi ^^^ (-1 : Int32))) = mm then (if ac = (0 : Int32) then (1 : Int32) else (0 : Int32)) else (if ac = (0 : Int32) then (1 : Int32) else (0 : Int32))))
theorem own_bv1 (a b : BitVec 32) : (a ||| b) = b ↔ (b &&& a) = a := by
  constructor
  · intro h
    refine BitVec.eq_of_getLsbD_eq fun i hi => ?_
    have q := congrArg (fun z => z.getLsbD i) h
    simp only [BitVec.getLsbD_or] at q
    rw [BitVec.getLsbD_and]
    cases ha : a.getLsbD i <;> cases hb : b.getLsbD i <;> simp_all
  · intro h
    refine BitVec.eq_of_getLsbD_eq fun i hi => ?_
    have q := congrArg (fun z => z.getLsbD i) h
    simp only [BitVec.getLsbD_and] at q
    rw [BitVec.getLsbD_or]
    cases ha : a.getLsbD i <;> cases hb : b.getLsbD i <;> simp_all
theorem own_bv2 (m f : BitVec 32) : (m &&& (f ^^^ BitVec.allOnes 32)) = m ↔ (m &&& f) = 0#32 := by
  constructor
  · intro h
    refine BitVec.eq_of_getLsbD_eq fun i hi => ?_
    have q := congrArg (fun z => z.getLsbD i) h
    simp only [BitVec.getLsbD_and, BitVec.getLsbD_xor, BitVec.getLsbD_allOnes, hi, decide_true] at q
    rw [BitVec.getLsbD_and, BitVec.getLsbD_zero]
    cases ha : m.getLsbD i <;> cases hb : f.getLsbD i <;> simp_all
  · intro h
    refine BitVec.eq_of_getLsbD_eq fun i hi => ?_
    have q := congrArg (fun z => z.getLsbD i) h
    simp only [BitVec.getLsbD_and, BitVec.getLsbD_zero] at q
    simp only [BitVec.getLsbD_and, BitVec.getLsbD_xor, BitVec.getLsbD_allOnes, hi, decide_true]
    cases ha : m.getLsbD i <;> cases hb : f.getLsbD i <;> simp_all
theorem own_i1 (a b : Int32) : (a ||| b) = b ↔ (b &&& a) = a := by
  rw [← Int32.toBitVec_inj, ← Int32.toBitVec_inj, Int32.toBitVec_or, Int32.toBitVec_and]; exact own_bv1 _ _
theorem own_i2 (m f : Int32) : (m &&& (f ^^^ (-1 : Int32))) = m ↔ (m &&& f) = 0 := by
  rw [← Int32.toBitVec_inj, ← Int32.toBitVec_inj, Int32.toBitVec_and, Int32.toBitVec_and, Int32.toBitVec_xor]; exact own_bv2 _ _
theorem own_res_one (ri fi mm : Int32) : own_res ri fi mm (own_matches mm ri fi) = 1 := by
  simp only [own_res, own_matches, own_i1, own_i2]
  by_cases h1 : (mm &&& ri) = ri <;> by_cases h2 : (mm &&& fi) = 0 <;> simp [h1, h2]
set_option maxRecDepth 65536 in
set_option maxHeartbeats 40000000 in
theorem rm_law (l : Launch) (Z : State) (a0 : Array Value) (hw : ∀ d ∈ tables_1, d.before a0 Z = true) (ws : List Jvm.Cond) (ri : Int32) (fi : Int32) (mi : Int32) (oi : Int32) (h0 : Heap) (n0 : Nat) (Z0 : n0 ≤ h0.size)  :
    MetFree l x (head1 (Jvm.Cond.code x code maxLocals ret :: ws) room_1) (fun as U => as = #[(.int ri), (.int fi), (.int mi), (.int oi)] ∧ Z.Warmed39 U.vm ∧ U.heap = h0) (fun _ _ _ _ _ => True) (fun _ U o U' => ∃ v L, o = .returned v ∧ Q_law Z ri fi mi oi h0 n0 v U'.heap L ∧ FrameEnd U o U' L 16 128) := by
  refine MetFree.of_bodySF (plainFor_of_name pn_law) hisR ?_
  intro p e s m args below meth c s₁ Bd hml0 hP hK
  obtain ⟨rfl, hZ, hh⟩ := hP
  have hx := Bd.exec
  have hby := Bd.bytes
  have hml : c.maxLocals = 10 := hml0
  have hown : s.vm.findClass "com/example/tangl/tangl/aop/pointcut/ModifiersMatchesPinLaw" = some m.cls := findClass_of_methodNamed Bd.named
  have hnm := (name_of_methodNamed Bd.named Bd.method).1
  have hlk := BodyLoose.notSynchronized Bd
  have hret := Bd.returns
  have X0 : Stand p l e room_1 s m #[(.int ri), (.int fi), (.int mi), (.int oi)] below meth c s₁ [] 0 0 := Stand.of_body Bd
  have e0 : s₁.heap = h0 := by rw [← hh, Bd.state]; rfl
  have N0 := Fr.nil n0
  show own_G p e below (own_P s below (Q_law Z ri fi mi oi h0 n0) 16 128) _
  refine own_go (B := s₁.setTop (mkF m 0 #[.val (.int ri), .val (.int fi), .val (.int mi), .val (.int oi), .unset, .unset, .unset, .unset, .unset, .unset] [])) (fun t k => castTop (ef_law m ri fi mi oi) k) ?_
  have hk17 : own_G p e below (own_P s below (Q_law Z ri fi mi oi h0 n0) 16 128) (s₁.setTop (mkF m 11 #[.val (.int ri), .val (.int fi), .val (.int mi), .val (.int oi), .unset, .unset, .unset, .unset, .unset, .unset] [(.int (own_built oi))])) := by
    refine own_go (B := s₁.setTop (mkF m 13 #[.val (.int ri), .val (.int fi), .val (.int mi), .val (.int oi), .val (.int (own_built oi)), .unset, .unset, .unset, .unset, .unset] [])) (fun _ hr => XS.istore X0.here hx rfl (hb hby at_11) rfl (l' := #[.val (.int ri), .val (.int fi), .val (.int mi), .val (.int oi), .val (.int (own_built oi)), .unset, .unset, .unset, .unset, .unset]) rfl hr) ?_
    obtain ⟨bu, hbu⟩ : ∃ z, z = own_built oi := ⟨_, rfl⟩
    rw [← hbu]
    have hk20 : own_G p e below (own_P s below (Q_law Z ri fi mi oi h0 n0) 16 128) (s₁.setTop (mkF m 29 #[.val (.int ri), .val (.int fi), .val (.int mi), .val (.int oi), .val (.int bu), .unset, .unset, .unset, .unset, .unset] [(.int (own_m ri fi mi bu))])) := by
      refine own_go (B := s₁.setTop (mkF m 31 #[.val (.int ri), .val (.int fi), .val (.int mi), .val (.int oi), .val (.int bu), .val (.int (own_m ri fi mi bu)), .unset, .unset, .unset, .unset] [])) (fun _ hr => XS.istore X0.here hx rfl (hb hby at_29) rfl (l' := #[.val (.int ri), .val (.int fi), .val (.int mi), .val (.int oi), .val (.int bu), .val (.int (own_m ri fi mi bu)), .unset, .unset, .unset, .unset]) rfl hr) ?_
      obtain ⟨mm, hmm⟩ : ∃ z, z = own_m ri fi mi bu := ⟨_, rfl⟩
      rw [← hmm]
      obtain ⟨T21, h21, X21, e21, E21, A21, D21, -, st21⟩ := newO X0 hx hZ hown (hw _ (List.mem_of_getElem? (i := 0) rfl)) (hw _ (List.mem_of_getElem? (i := 1) rfl)) (hw _ (List.mem_of_getElem? (i := 2) rfl)) e0 (g := (mkF m 31 #[.val (.int ri), .val (.int fi), .val (.int mi), .val (.int oi), .val (.int bu), .val (.int mm), .unset, .unset, .unset, .unset] [])) rfl (hb hby at_31) (by decide) (by decide)
      obtain ⟨a21, g21⟩ : ∃ z, z = h0.size := ⟨_, rfl⟩
      rw [← g21] at A21 D21 st21
      refine own_go (B := T21.setTop (mkF m 34 #[.val (.int ri), .val (.int fi), .val (.int mi), .val (.int oi), .val (.int bu), .val (.int mm), .unset, .unset, .unset, .unset] [(.ref a21)])) (fun t hr => st21 t hr) ?_
      have F1 : Fld Z h21 a21 "com/example/tangl/tangl/aop/pointcut/ExecutionPattern$Modifiers" "required" "I" (.int (0 : Int32)) := D21 (Or.inr (hw _ (List.mem_of_getElem? (i := 15) rfl))) (ty := .int) (by decide)
      have F2 : Fld Z h21 a21 "com/example/tangl/tangl/aop/pointcut/ExecutionPattern$Modifiers" "forbidden" "I" (.int (0 : Int32)) := D21 (Or.inr (hw _ (List.mem_of_getElem? (i := 17) rfl))) (ty := .int) (by decide)
      have Z1 : n0 ≤ h21.size := Nat.le_trans Z0 E21.1
      have ge : n0 ≤ a21 := Nat.le_trans Z0 (Nat.le_of_eq g21.symm)
      refine own_go (B := T21.setTop (mkF m 35 #[.val (.int ri), .val (.int fi), .val (.int mi), .val (.int oi), .val (.int bu), .val (.int mm), .unset, .unset, .unset, .unset] [(.ref a21), (.ref a21)])) (fun _ hr => XS.dup X21.here hx rfl (hb hby at_34) rfl rfl hr) ?_
      refine own_go (B := T21.setTop (mkF m 36 #[.val (.int ri), .val (.int fi), .val (.int mi), .val (.int oi), .val (.int bu), .val (.int mm), .unset, .unset, .unset, .unset] [(.int ri), (.ref a21), (.ref a21)])) (fun _ hr => XS.iloadN X21.here hx rfl (hb hby at_35) rfl hr) ?_
      refine own_go (B := T21.setTop (mkF m 37 #[.val (.int ri), .val (.int fi), .val (.int mi), .val (.int oi), .val (.int bu), .val (.int mm), .unset, .unset, .unset, .unset] [(.int fi), (.int ri), (.ref a21), (.ref a21)])) (fun _ hr => XS.iloadN X21.here hx rfl (hb hby at_36) rfl hr) ?_
      obtain ⟨_, _, ⟨T22, L22, k22, n22⟩, -, X22, ⟨Lc22, hQ22, l22, y22, z22⟩, st22⟩ := X21.specialBack hx (y := (⟨"com/example/tangl/tangl/aop/pointcut/ExecutionPattern$Modifiers", "<init>", "(II)V"⟩ : MethodName)) rfl hown (mvT hZ (hw _ (List.mem_of_getElem? (i := 3) rfl))) (mvT hZ (hw _ (List.mem_of_getElem? (i := 4) rfl))) (mvT hZ (hw _ (List.mem_of_getElem? (i := 5) rfl))) (by decide) (backOf (W := 1) (rm_init l Z a0 hw [] a21 ri fi h21 n0 Z1 F1 F2 A21 ge) hZ (hw _ (List.mem_of_getElem? (i := 5) rfl)) (hw _ (List.mem_of_getElem? (i := 2) rfl)) (by decide) (by decide)) (g := (mkF m 37 #[.val (.int ri), .val (.int fi), .val (.int mi), .val (.int oi), .val (.int bu), .val (.int mm), .unset, .unset, .unset, .unset] [(.int fi), (.int ri), (.ref a21), (.ref a21)])) rfl (by rw [hml]; rfl) (Steps.refl _) (a := a21) (argsL := [(.int ri), (.int fi)]) (rest := [(.ref a21)]) (lenOf pd_init rfl) rfl (by show 2 * 0 + _ ≤ _; exact Nat.le_of_eq rfl) (hb hby at_37) (fun _ _ => ⟨rfl, e21, (by decide : 1 + 0 ≤ _), (by decide : 2 + 0 ≤ _)⟩)
      dsimp only [Pt.U, Pt.locs, Pt.cells, Pt.slots] at X22 l22 y22 z22 st22 hQ22
      subst l22 y22 z22
      obtain ⟨rfl, N22, K22, A22, FA22, FB22⟩ := hQ22
      refine own_gs (B := T22.setTop (mkF m 40 #[.val (.int ri), .val (.int fi), .val (.int mi), .val (.int oi), .val (.int bu), .val (.int mm), .unset, .unset, .unset, .unset] [(.ref a21)])) st22 ?_
      have M22 := Fr.app N0 N22
      have Z2 : n0 ≤ T22.heap.size := Nat.le_trans Z1 K22.1
      refine own_go (B := T22.setTop (mkF m 42 #[.val (.int ri), .val (.int fi), .val (.int mi), .val (.int oi), .val (.int bu), .val (.int mm), .val (.ref a21), .unset, .unset, .unset] [])) (fun _ hr => XS.astore X22.here hx rfl (hb hby at_40) rfl rfl (l' := #[.val (.int ri), .val (.int fi), .val (.int mi), .val (.int oi), .val (.int bu), .val (.int mm), .val (.ref a21), .unset, .unset, .unset]) rfl hr) ?_
      refine own_go (B := T22.setTop (mkF m 44 #[.val (.int ri), .val (.int fi), .val (.int mi), .val (.int oi), .val (.int bu), .val (.int mm), .val (.ref a21), .unset, .unset, .unset] [(.ref a21)])) (fun _ hr => XS.aload X22.here hx rfl (hb hby at_42) rfl rfl hr) ?_
      refine own_go (B := T22.setTop (mkF m 46 #[.val (.int ri), .val (.int fi), .val (.int mi), .val (.int oi), .val (.int bu), .val (.int mm), .val (.ref a21), .unset, .unset, .unset] [(.int mm), (.ref a21)])) (fun _ hr => XS.iload X22.here hx rfl (hb hby at_44) rfl hr) ?_
      obtain ⟨cq23, kq23, qa23, qb23, qc23⟩ := isOf hZ rfl A22
      obtain ⟨_, _, ⟨T23, L23, k23, n23⟩, -, X23, ⟨Lc23, hQ23, l23, y23, z23⟩, st23⟩ := X22.virtualBack hx (y := (⟨"com/example/tangl/tangl/aop/pointcut/ExecutionPattern$Modifiers", "matches", "(I)Z"⟩ : MethodName)) (z := (⟨"com/example/tangl/tangl/aop/pointcut/ExecutionPattern$Modifiers", "matches", "(I)Z"⟩ : MethodName)) hown (mvT hZ (hw _ (List.mem_of_getElem? (i := 18) rfl))) (mvT hZ (hw _ (List.mem_of_getElem? (i := 19) rfl))) (notFace_of_selects (args := #[]) (mvT hZ (hw _ (List.mem_of_getElem? (i := 21) rfl)))) (mvT hZ (hw _ (List.mem_of_getElem? (i := 21) rfl))) (mvT hZ (hw _ (List.mem_of_getElem? (i := 20) rfl))) (by decide) (backOf (W := 0) (rm_matches l Z a0 hw [] a21 mm ri fi T22.heap n0 Z2 FA22 FB22) hZ (hw _ (List.mem_of_getElem? (i := 22) rfl)) (hw _ (List.mem_of_getElem? (i := 2) rfl)) (by decide) (by decide)) qa23 qc23 (g := (mkF m 46 #[.val (.int ri), .val (.int fi), .val (.int mi), .val (.int oi), .val (.int bu), .val (.int mm), .val (.ref a21), .unset, .unset, .unset] [(.int mm), (.ref a21)])) rfl (by rw [hml]; rfl) (Steps.refl _) (argsL := [(.int mm)]) (rest := []) (lenOf pd_matches rfl) rfl (by show 2 * 0 + _ ≤ _; exact Nat.le_of_eq rfl) (hb hby at_46) (fun _ _ => ⟨rfl, rfl, (by decide : 1 + 0 ≤ _), (by decide : 2 + 0 ≤ _)⟩)
      dsimp only [Pt.U, Pt.locs, Pt.cells, Pt.slots] at X23 l23 y23 z23 st23 hQ23
      subst l23 y23 z23
      obtain ⟨rfl, N23, e23⟩ := hQ23
      refine own_gs (B := T23.setTop (mkF m 49 #[.val (.int ri), .val (.int fi), .val (.int mi), .val (.int oi), .val (.int bu), .val (.int mm), .val (.ref a21), .unset, .unset, .unset] [(.int (own_matches mm ri fi))])) st23 ?_
      have M23 := Fr.app M22 N23
      refine own_go (B := T23.setTop (mkF m 51 #[.val (.int ri), .val (.int fi), .val (.int mi), .val (.int oi), .val (.int bu), .val (.int mm), .val (.ref a21), .val (.int (own_matches mm ri fi)), .unset, .unset] [])) (fun _ hr => XS.istore X23.here hx rfl (hb hby at_49) rfl (l' := #[.val (.int ri), .val (.int fi), .val (.int mi), .val (.int oi), .val (.int bu), .val (.int mm), .val (.ref a21), .val (.int (own_matches mm ri fi)), .unset, .unset]) rfl hr) ?_
      obtain ⟨ac, hac⟩ : ∃ z, z = own_matches mm ri fi := ⟨_, rfl⟩
      rw [← hac]
      refine own_go (B := T23.setTop (mkF m 52 #[.val (.int ri), .val (.int fi), .val (.int mi), .val (.int oi), .val (.int bu), .val (.int mm), .val (.ref a21), .val (.int ac), .unset, .unset] [(.int ri)])) (fun _ hr => XS.iloadN X23.here hx rfl (hb hby at_51) rfl hr) ?_
      refine own_go (B := T23.setTop (mkF m 54 #[.val (.int ri), .val (.int fi), .val (.int mi), .val (.int oi), .val (.int bu), .val (.int mm), .val (.ref a21), .val (.int ac), .unset, .unset] [(.int mm), (.int ri)])) (fun _ hr => XS.iload X23.here hx rfl (hb hby at_52) rfl hr) ?_
      refine own_go (B := T23.setTop (mkF m 55 #[.val (.int ri), .val (.int fi), .val (.int mi), .val (.int oi), .val (.int bu), .val (.int mm), .val (.ref a21), .val (.int ac), .unset, .unset] [(.int (ri ||| mm))])) (fun _ hr => XT.ior X23.here hx rfl (hb hby at_54) rfl hr) ?_
      refine own_go (B := T23.setTop (mkF m 57 #[.val (.int ri), .val (.int fi), .val (.int mi), .val (.int oi), .val (.int bu), .val (.int mm), .val (.ref a21), .val (.int ac), .unset, .unset] [(.int mm), (.int (ri ||| mm))])) (fun _ hr => XS.iload X23.here hx rfl (hb hby at_55) rfl hr) ?_
      by_cases c31 : (ri ||| mm) = mm
      · refine own_go (B := T23.setTop (mkF m 60 #[.val (.int ri), .val (.int fi), .val (.int mi), .val (.int oi), .val (.int bu), .val (.int mm), .val (.ref a21), .val (.int ac), .unset, .unset] [])) (fun _ hr => XS.icmpNo X23.here hx rfl (hb hby at_57) rfl (XT.ii_ne_f c31) hr) ?_
        refine own_go (B := T23.setTop (mkF m 61 #[.val (.int ri), .val (.int fi), .val (.int mi), .val (.int oi), .val (.int bu), .val (.int mm), .val (.ref a21), .val (.int ac), .unset, .unset] [(.int (1 : Int32))])) (fun _ hr => XT.iconstV X23.here hx rfl (1 : Int32) (hb hby at_60) (by decide) hr) ?_
        refine own_go (B := T23.setTop (mkF m 65 #[.val (.int ri), .val (.int fi), .val (.int mi), .val (.int oi), .val (.int bu), .val (.int mm), .val (.ref a21), .val (.int ac), .unset, .unset] [(.int (1 : Int32))])) (fun _ hr => XS.goto X23.here hx rfl (pc0 := 61) (pc' := 65) rfl (hb hby at_61) (by decide) (by decide) hr) ?_
        refine own_go (B := T23.setTop (mkF m 67 #[.val (.int ri), .val (.int fi), .val (.int mi), .val (.int oi), .val (.int bu), .val (.int mm), .val (.ref a21), .val (.int ac), .val (.int (1 : Int32)), .unset] [])) (fun _ hr => XS.istore X23.here hx rfl (hb hby at_65) rfl (l' := #[.val (.int ri), .val (.int fi), .val (.int mi), .val (.int oi), .val (.int bu), .val (.int mm), .val (.ref a21), .val (.int ac), .val (.int (1 : Int32)), .unset]) rfl hr) ?_
        refine own_go (B := T23.setTop (mkF m 69 #[.val (.int ri), .val (.int fi), .val (.int mi), .val (.int oi), .val (.int bu), .val (.int mm), .val (.ref a21), .val (.int ac), .val (.int (1 : Int32)), .unset] [(.int mm)])) (fun _ hr => XS.iload X23.here hx rfl (hb hby at_67) rfl hr) ?_
        refine own_go (B := T23.setTop (mkF m 70 #[.val (.int ri), .val (.int fi), .val (.int mi), .val (.int oi), .val (.int bu), .val (.int mm), .val (.ref a21), .val (.int ac), .val (.int (1 : Int32)), .unset] [(.int fi), (.int mm)])) (fun _ hr => XS.iloadN X23.here hx rfl (hb hby at_69) rfl hr) ?_
        refine own_go (B := T23.setTop (mkF m 71 #[.val (.int ri), .val (.int fi), .val (.int mi), .val (.int oi), .val (.int bu), .val (.int mm), .val (.ref a21), .val (.int ac), .val (.int (1 : Int32)), .unset] [(.int (-1 : Int32)), (.int fi), (.int mm)])) (fun _ hr => XT.iconstV X23.here hx rfl (-1 : Int32) (hb hby at_70) (by decide) hr) ?_
        refine own_go (B := T23.setTop (mkF m 72 #[.val (.int ri), .val (.int fi), .val (.int mi), .val (.int oi), .val (.int bu), .val (.int mm), .val (.ref a21), .val (.int ac), .val (.int (1 : Int32)), .unset] [(.int (fi ^^^ (-1 : Int32))), (.int mm)])) (fun _ hr => XT.ixor X23.here hx rfl (hb hby at_71) rfl hr) ?_
        refine own_go (B := T23.setTop (mkF m 73 #[.val (.int ri), .val (.int fi), .val (.int mi), .val (.int oi), .val (.int bu), .val (.int mm), .val (.ref a21), .val (.int ac), .val (.int (1 : Int32)), .unset] [(.int (mm &&& (fi ^^^ (-1 : Int32))))])) (fun _ hr => XS.iand X23.here hx rfl (hb hby at_72) rfl hr) ?_
        refine own_go (B := T23.setTop (mkF m 75 #[.val (.int ri), .val (.int fi), .val (.int mi), .val (.int oi), .val (.int bu), .val (.int mm), .val (.ref a21), .val (.int ac), .val (.int (1 : Int32)), .unset] [(.int mm), (.int (mm &&& (fi ^^^ (-1 : Int32))))])) (fun _ hr => XS.iload X23.here hx rfl (hb hby at_73) rfl hr) ?_
        by_cases c32 : (mm &&& (fi ^^^ (-1 : Int32))) = mm
        · refine own_go (B := T23.setTop (mkF m 78 #[.val (.int ri), .val (.int fi), .val (.int mi), .val (.int oi), .val (.int bu), .val (.int mm), .val (.ref a21), .val (.int ac), .val (.int (1 : Int32)), .unset] [])) (fun _ hr => XS.icmpNo X23.here hx rfl (hb hby at_75) rfl (XT.ii_ne_f c32) hr) ?_
          refine own_go (B := T23.setTop (mkF m 79 #[.val (.int ri), .val (.int fi), .val (.int mi), .val (.int oi), .val (.int bu), .val (.int mm), .val (.ref a21), .val (.int ac), .val (.int (1 : Int32)), .unset] [(.int (1 : Int32))])) (fun _ hr => XT.iconstV X23.here hx rfl (1 : Int32) (hb hby at_78) (by decide) hr) ?_
          refine own_go (B := T23.setTop (mkF m 83 #[.val (.int ri), .val (.int fi), .val (.int mi), .val (.int oi), .val (.int bu), .val (.int mm), .val (.ref a21), .val (.int ac), .val (.int (1 : Int32)), .unset] [(.int (1 : Int32))])) (fun _ hr => XS.goto X23.here hx rfl (pc0 := 79) (pc' := 83) rfl (hb hby at_79) (by decide) (by decide) hr) ?_
          refine own_go (B := T23.setTop (mkF m 85 #[.val (.int ri), .val (.int fi), .val (.int mi), .val (.int oi), .val (.int bu), .val (.int mm), .val (.ref a21), .val (.int ac), .val (.int (1 : Int32)), .val (.int (1 : Int32))] [])) (fun _ hr => XS.istore X23.here hx rfl (hb hby at_83) rfl (l' := #[.val (.int ri), .val (.int fi), .val (.int mi), .val (.int oi), .val (.int bu), .val (.int mm), .val (.ref a21), .val (.int ac), .val (.int (1 : Int32)), .val (.int (1 : Int32))]) rfl hr) ?_
          refine own_go (B := T23.setTop (mkF m 87 #[.val (.int ri), .val (.int fi), .val (.int mi), .val (.int oi), .val (.int bu), .val (.int mm), .val (.ref a21), .val (.int ac), .val (.int (1 : Int32)), .val (.int (1 : Int32))] [(.int ac)])) (fun _ hr => XS.iload X23.here hx rfl (hb hby at_85) rfl hr) ?_
          refine own_go (B := T23.setTop (mkF m 89 #[.val (.int ri), .val (.int fi), .val (.int mi), .val (.int oi), .val (.int bu), .val (.int mm), .val (.ref a21), .val (.int ac), .val (.int (1 : Int32)), .val (.int (1 : Int32))] [(.int (1 : Int32)), (.int ac)])) (fun _ hr => XS.iload X23.here hx rfl (hb hby at_87) rfl hr) ?_
          refine own_go (B := T23.setTop (mkF m 92 #[.val (.int ri), .val (.int fi), .val (.int mi), .val (.int oi), .val (.int bu), .val (.int mm), .val (.ref a21), .val (.int ac), .val (.int (1 : Int32)), .val (.int (1 : Int32))] [(.int ac)])) (fun _ hr => XS.ifNo X23.here hx rfl (hb hby at_89) rfl (XT.i0_eq_f (by decide)) hr) ?_
          refine own_go (B := T23.setTop (mkF m 94 #[.val (.int ri), .val (.int fi), .val (.int mi), .val (.int oi), .val (.int bu), .val (.int mm), .val (.ref a21), .val (.int ac), .val (.int (1 : Int32)), .val (.int (1 : Int32))] [(.int (1 : Int32)), (.int ac)])) (fun _ hr => XS.iload X23.here hx rfl (hb hby at_92) rfl hr) ?_
          refine own_go (B := T23.setTop (mkF m 97 #[.val (.int ri), .val (.int fi), .val (.int mi), .val (.int oi), .val (.int bu), .val (.int mm), .val (.ref a21), .val (.int ac), .val (.int (1 : Int32)), .val (.int (1 : Int32))] [(.int ac)])) (fun _ hr => XS.ifNo X23.here hx rfl (hb hby at_94) rfl (XT.i0_eq_f (by decide)) hr) ?_
          refine own_go (B := T23.setTop (mkF m 98 #[.val (.int ri), .val (.int fi), .val (.int mi), .val (.int oi), .val (.int bu), .val (.int mm), .val (.ref a21), .val (.int ac), .val (.int (1 : Int32)), .val (.int (1 : Int32))] [(.int (1 : Int32)), (.int ac)])) (fun _ hr => XT.iconstV X23.here hx rfl (1 : Int32) (hb hby at_97) (by decide) hr) ?_
          refine own_go (B := T23.setTop (mkF m 102 #[.val (.int ri), .val (.int fi), .val (.int mi), .val (.int oi), .val (.int bu), .val (.int mm), .val (.ref a21), .val (.int ac), .val (.int (1 : Int32)), .val (.int (1 : Int32))] [(.int (1 : Int32)), (.int ac)])) (fun _ hr => XS.goto X23.here hx rfl (pc0 := 98) (pc' := 102) rfl (hb hby at_98) (by decide) (by decide) hr) ?_
          by_cases c33 : ac = (1 : Int32)
          · refine own_go (B := T23.setTop (mkF m 105 #[.val (.int ri), .val (.int fi), .val (.int mi), .val (.int oi), .val (.int bu), .val (.int mm), .val (.ref a21), .val (.int ac), .val (.int (1 : Int32)), .val (.int (1 : Int32))] [])) (fun _ hr => XS.icmpNo X23.here hx rfl (hb hby at_102) rfl (XT.ii_ne_f c33) hr) ?_
            refine own_go (B := T23.setTop (mkF m 106 #[.val (.int ri), .val (.int fi), .val (.int mi), .val (.int oi), .val (.int bu), .val (.int mm), .val (.ref a21), .val (.int ac), .val (.int (1 : Int32)), .val (.int (1 : Int32))] [(.int (1 : Int32))])) (fun _ hr => XT.iconstV X23.here hx rfl (1 : Int32) (hb hby at_105) (by decide) hr) ?_
            refine own_go (B := T23.setTop (mkF m 110 #[.val (.int ri), .val (.int fi), .val (.int mi), .val (.int oi), .val (.int bu), .val (.int mm), .val (.ref a21), .val (.int ac), .val (.int (1 : Int32)), .val (.int (1 : Int32))] [(.int (1 : Int32))])) (fun _ hr => XS.goto X23.here hx rfl (pc0 := 106) (pc' := 110) rfl (hb hby at_106) (by decide) (by decide) hr) ?_
            exact own_retZ X23 hx hlk hret (by decide) (hb hby at_110) (by decide) (by decide) ⟨congrArg (fun z => some (Value.int z)) ((show (1 : Int32) = own_res ri fi mm ac from by simp only [own_res, if_pos c31, if_pos c32, if_pos c33]).trans (by rw [hac]; exact own_res_one ri fi mm)), M23⟩
          · refine own_go (B := T23.setTop (mkF m 109 #[.val (.int ri), .val (.int fi), .val (.int mi), .val (.int oi), .val (.int bu), .val (.int mm), .val (.ref a21), .val (.int ac), .val (.int (1 : Int32)), .val (.int (1 : Int32))] [])) (fun _ hr => XS.icmpYes X23.here hx rfl (pc0 := 102) (pc' := 109) rfl (hb hby at_102) rfl (XT.ii_ne_t c33) (by decide) (by decide) hr) ?_
            refine own_go (B := T23.setTop (mkF m 110 #[.val (.int ri), .val (.int fi), .val (.int mi), .val (.int oi), .val (.int bu), .val (.int mm), .val (.ref a21), .val (.int ac), .val (.int (1 : Int32)), .val (.int (1 : Int32))] [(.int (0 : Int32))])) (fun _ hr => XT.iconstV X23.here hx rfl (0 : Int32) (hb hby at_109) (by decide) hr) ?_
            exact own_retZ X23 hx hlk hret (by decide) (hb hby at_110) (by decide) (by decide) ⟨congrArg (fun z => some (Value.int z)) ((show (0 : Int32) = own_res ri fi mm ac from by simp only [own_res, if_pos c31, if_pos c32, if_neg c33]).trans (by rw [hac]; exact own_res_one ri fi mm)), M23⟩
        · refine own_go (B := T23.setTop (mkF m 82 #[.val (.int ri), .val (.int fi), .val (.int mi), .val (.int oi), .val (.int bu), .val (.int mm), .val (.ref a21), .val (.int ac), .val (.int (1 : Int32)), .unset] [])) (fun _ hr => XS.icmpYes X23.here hx rfl (pc0 := 75) (pc' := 82) rfl (hb hby at_75) rfl (XT.ii_ne_t c32) (by decide) (by decide) hr) ?_
          refine own_go (B := T23.setTop (mkF m 83 #[.val (.int ri), .val (.int fi), .val (.int mi), .val (.int oi), .val (.int bu), .val (.int mm), .val (.ref a21), .val (.int ac), .val (.int (1 : Int32)), .unset] [(.int (0 : Int32))])) (fun _ hr => XT.iconstV X23.here hx rfl (0 : Int32) (hb hby at_82) (by decide) hr) ?_
          refine own_go (B := T23.setTop (mkF m 85 #[.val (.int ri), .val (.int fi), .val (.int mi), .val (.int oi), .val (.int bu), .val (.int mm), .val (.ref a21), .val (.int ac), .val (.int (1 : Int32)), .val (.int (0 : Int32))] [])) (fun _ hr => XS.istore X23.here hx rfl (hb hby at_83) rfl (l' := #[.val (.int ri), .val (.int fi), .val (.int mi), .val (.int oi), .val (.int bu), .val (.int mm), .val (.ref a21), .val (.int ac), .val (.int (1 : Int32)), .val (.int (0 : Int32))]) rfl hr) ?_
          refine own_go (B := T23.setTop (mkF m 87 #[.val (.int ri), .val (.int fi), .val (.int mi), .val (.int oi), .val (.int bu), .val (.int mm), .val (.ref a21), .val (.int ac), .val (.int (1 : Int32)), .val (.int (0 : Int32))] [(.int ac)])) (fun _ hr => XS.iload X23.here hx rfl (hb hby at_85) rfl hr) ?_
          refine own_go (B := T23.setTop (mkF m 89 #[.val (.int ri), .val (.int fi), .val (.int mi), .val (.int oi), .val (.int bu), .val (.int mm), .val (.ref a21), .val (.int ac), .val (.int (1 : Int32)), .val (.int (0 : Int32))] [(.int (1 : Int32)), (.int ac)])) (fun _ hr => XS.iload X23.here hx rfl (hb hby at_87) rfl hr) ?_
          refine own_go (B := T23.setTop (mkF m 92 #[.val (.int ri), .val (.int fi), .val (.int mi), .val (.int oi), .val (.int bu), .val (.int mm), .val (.ref a21), .val (.int ac), .val (.int (1 : Int32)), .val (.int (0 : Int32))] [(.int ac)])) (fun _ hr => XS.ifNo X23.here hx rfl (hb hby at_89) rfl (XT.i0_eq_f (by decide)) hr) ?_
          refine own_go (B := T23.setTop (mkF m 94 #[.val (.int ri), .val (.int fi), .val (.int mi), .val (.int oi), .val (.int bu), .val (.int mm), .val (.ref a21), .val (.int ac), .val (.int (1 : Int32)), .val (.int (0 : Int32))] [(.int (0 : Int32)), (.int ac)])) (fun _ hr => XS.iload X23.here hx rfl (hb hby at_92) rfl hr) ?_
          refine own_go (B := T23.setTop (mkF m 101 #[.val (.int ri), .val (.int fi), .val (.int mi), .val (.int oi), .val (.int bu), .val (.int mm), .val (.ref a21), .val (.int ac), .val (.int (1 : Int32)), .val (.int (0 : Int32))] [(.int ac)])) (fun _ hr => XS.ifYes X23.here hx rfl (pc0 := 94) (pc' := 101) rfl (hb hby at_94) rfl (XT.i0_eq_t (by decide)) (by decide) (by decide) hr) ?_
          refine own_go (B := T23.setTop (mkF m 102 #[.val (.int ri), .val (.int fi), .val (.int mi), .val (.int oi), .val (.int bu), .val (.int mm), .val (.ref a21), .val (.int ac), .val (.int (1 : Int32)), .val (.int (0 : Int32))] [(.int (0 : Int32)), (.int ac)])) (fun _ hr => XT.iconstV X23.here hx rfl (0 : Int32) (hb hby at_101) (by decide) hr) ?_
          by_cases c34 : ac = (0 : Int32)
          · refine own_go (B := T23.setTop (mkF m 105 #[.val (.int ri), .val (.int fi), .val (.int mi), .val (.int oi), .val (.int bu), .val (.int mm), .val (.ref a21), .val (.int ac), .val (.int (1 : Int32)), .val (.int (0 : Int32))] [])) (fun _ hr => XS.icmpNo X23.here hx rfl (hb hby at_102) rfl (XT.ii_ne_f c34) hr) ?_
            refine own_go (B := T23.setTop (mkF m 106 #[.val (.int ri), .val (.int fi), .val (.int mi), .val (.int oi), .val (.int bu), .val (.int mm), .val (.ref a21), .val (.int ac), .val (.int (1 : Int32)), .val (.int (0 : Int32))] [(.int (1 : Int32))])) (fun _ hr => XT.iconstV X23.here hx rfl (1 : Int32) (hb hby at_105) (by decide) hr) ?_
            refine own_go (B := T23.setTop (mkF m 110 #[.val (.int ri), .val (.int fi), .val (.int mi), .val (.int oi), .val (.int bu), .val (.int mm), .val (.ref a21), .val (.int ac), .val (.int (1 : Int32)), .val (.int (0 : Int32))] [(.int (1 : Int32))])) (fun _ hr => XS.goto X23.here hx rfl (pc0 := 106) (pc' := 110) rfl (hb hby at_106) (by decide) (by decide) hr) ?_
            exact own_retZ X23 hx hlk hret (by decide) (hb hby at_110) (by decide) (by decide) ⟨congrArg (fun z => some (Value.int z)) ((show (1 : Int32) = own_res ri fi mm ac from by simp only [own_res, if_pos c31, if_neg c32, if_pos c34]).trans (by rw [hac]; exact own_res_one ri fi mm)), M23⟩
          · refine own_go (B := T23.setTop (mkF m 109 #[.val (.int ri), .val (.int fi), .val (.int mi), .val (.int oi), .val (.int bu), .val (.int mm), .val (.ref a21), .val (.int ac), .val (.int (1 : Int32)), .val (.int (0 : Int32))] [])) (fun _ hr => XS.icmpYes X23.here hx rfl (pc0 := 102) (pc' := 109) rfl (hb hby at_102) rfl (XT.ii_ne_t c34) (by decide) (by decide) hr) ?_
            refine own_go (B := T23.setTop (mkF m 110 #[.val (.int ri), .val (.int fi), .val (.int mi), .val (.int oi), .val (.int bu), .val (.int mm), .val (.ref a21), .val (.int ac), .val (.int (1 : Int32)), .val (.int (0 : Int32))] [(.int (0 : Int32))])) (fun _ hr => XT.iconstV X23.here hx rfl (0 : Int32) (hb hby at_109) (by decide) hr) ?_
            exact own_retZ X23 hx hlk hret (by decide) (hb hby at_110) (by decide) (by decide) ⟨congrArg (fun z => some (Value.int z)) ((show (0 : Int32) = own_res ri fi mm ac from by simp only [own_res, if_pos c31, if_neg c32, if_neg c34]).trans (by rw [hac]; exact own_res_one ri fi mm)), M23⟩
      · refine own_go (B := T23.setTop (mkF m 64 #[.val (.int ri), .val (.int fi), .val (.int mi), .val (.int oi), .val (.int bu), .val (.int mm), .val (.ref a21), .val (.int ac), .unset, .unset] [])) (fun _ hr => XS.icmpYes X23.here hx rfl (pc0 := 57) (pc' := 64) rfl (hb hby at_57) rfl (XT.ii_ne_t c31) (by decide) (by decide) hr) ?_
        refine own_go (B := T23.setTop (mkF m 65 #[.val (.int ri), .val (.int fi), .val (.int mi), .val (.int oi), .val (.int bu), .val (.int mm), .val (.ref a21), .val (.int ac), .unset, .unset] [(.int (0 : Int32))])) (fun _ hr => XT.iconstV X23.here hx rfl (0 : Int32) (hb hby at_64) (by decide) hr) ?_
        refine own_go (B := T23.setTop (mkF m 67 #[.val (.int ri), .val (.int fi), .val (.int mi), .val (.int oi), .val (.int bu), .val (.int mm), .val (.ref a21), .val (.int ac), .val (.int (0 : Int32)), .unset] [])) (fun _ hr => XS.istore X23.here hx rfl (hb hby at_65) rfl (l' := #[.val (.int ri), .val (.int fi), .val (.int mi), .val (.int oi), .val (.int bu), .val (.int mm), .val (.ref a21), .val (.int ac), .val (.int (0 : Int32)), .unset]) rfl hr) ?_
        refine own_go (B := T23.setTop (mkF m 69 #[.val (.int ri), .val (.int fi), .val (.int mi), .val (.int oi), .val (.int bu), .val (.int mm), .val (.ref a21), .val (.int ac), .val (.int (0 : Int32)), .unset] [(.int mm)])) (fun _ hr => XS.iload X23.here hx rfl (hb hby at_67) rfl hr) ?_
        refine own_go (B := T23.setTop (mkF m 70 #[.val (.int ri), .val (.int fi), .val (.int mi), .val (.int oi), .val (.int bu), .val (.int mm), .val (.ref a21), .val (.int ac), .val (.int (0 : Int32)), .unset] [(.int fi), (.int mm)])) (fun _ hr => XS.iloadN X23.here hx rfl (hb hby at_69) rfl hr) ?_
        refine own_go (B := T23.setTop (mkF m 71 #[.val (.int ri), .val (.int fi), .val (.int mi), .val (.int oi), .val (.int bu), .val (.int mm), .val (.ref a21), .val (.int ac), .val (.int (0 : Int32)), .unset] [(.int (-1 : Int32)), (.int fi), (.int mm)])) (fun _ hr => XT.iconstV X23.here hx rfl (-1 : Int32) (hb hby at_70) (by decide) hr) ?_
        refine own_go (B := T23.setTop (mkF m 72 #[.val (.int ri), .val (.int fi), .val (.int mi), .val (.int oi), .val (.int bu), .val (.int mm), .val (.ref a21), .val (.int ac), .val (.int (0 : Int32)), .unset] [(.int (fi ^^^ (-1 : Int32))), (.int mm)])) (fun _ hr => XT.ixor X23.here hx rfl (hb hby at_71) rfl hr) ?_
        refine own_go (B := T23.setTop (mkF m 73 #[.val (.int ri), .val (.int fi), .val (.int mi), .val (.int oi), .val (.int bu), .val (.int mm), .val (.ref a21), .val (.int ac), .val (.int (0 : Int32)), .unset] [(.int (mm &&& (fi ^^^ (-1 : Int32))))])) (fun _ hr => XS.iand X23.here hx rfl (hb hby at_72) rfl hr) ?_
        refine own_go (B := T23.setTop (mkF m 75 #[.val (.int ri), .val (.int fi), .val (.int mi), .val (.int oi), .val (.int bu), .val (.int mm), .val (.ref a21), .val (.int ac), .val (.int (0 : Int32)), .unset] [(.int mm), (.int (mm &&& (fi ^^^ (-1 : Int32))))])) (fun _ hr => XS.iload X23.here hx rfl (hb hby at_73) rfl hr) ?_
        by_cases c35 : (mm &&& (fi ^^^ (-1 : Int32))) = mm
        · refine own_go (B := T23.setTop (mkF m 78 #[.val (.int ri), .val (.int fi), .val (.int mi), .val (.int oi), .val (.int bu), .val (.int mm), .val (.ref a21), .val (.int ac), .val (.int (0 : Int32)), .unset] [])) (fun _ hr => XS.icmpNo X23.here hx rfl (hb hby at_75) rfl (XT.ii_ne_f c35) hr) ?_
          refine own_go (B := T23.setTop (mkF m 79 #[.val (.int ri), .val (.int fi), .val (.int mi), .val (.int oi), .val (.int bu), .val (.int mm), .val (.ref a21), .val (.int ac), .val (.int (0 : Int32)), .unset] [(.int (1 : Int32))])) (fun _ hr => XT.iconstV X23.here hx rfl (1 : Int32) (hb hby at_78) (by decide) hr) ?_
          refine own_go (B := T23.setTop (mkF m 83 #[.val (.int ri), .val (.int fi), .val (.int mi), .val (.int oi), .val (.int bu), .val (.int mm), .val (.ref a21), .val (.int ac), .val (.int (0 : Int32)), .unset] [(.int (1 : Int32))])) (fun _ hr => XS.goto X23.here hx rfl (pc0 := 79) (pc' := 83) rfl (hb hby at_79) (by decide) (by decide) hr) ?_
          refine own_go (B := T23.setTop (mkF m 85 #[.val (.int ri), .val (.int fi), .val (.int mi), .val (.int oi), .val (.int bu), .val (.int mm), .val (.ref a21), .val (.int ac), .val (.int (0 : Int32)), .val (.int (1 : Int32))] [])) (fun _ hr => XS.istore X23.here hx rfl (hb hby at_83) rfl (l' := #[.val (.int ri), .val (.int fi), .val (.int mi), .val (.int oi), .val (.int bu), .val (.int mm), .val (.ref a21), .val (.int ac), .val (.int (0 : Int32)), .val (.int (1 : Int32))]) rfl hr) ?_
          refine own_go (B := T23.setTop (mkF m 87 #[.val (.int ri), .val (.int fi), .val (.int mi), .val (.int oi), .val (.int bu), .val (.int mm), .val (.ref a21), .val (.int ac), .val (.int (0 : Int32)), .val (.int (1 : Int32))] [(.int ac)])) (fun _ hr => XS.iload X23.here hx rfl (hb hby at_85) rfl hr) ?_
          refine own_go (B := T23.setTop (mkF m 89 #[.val (.int ri), .val (.int fi), .val (.int mi), .val (.int oi), .val (.int bu), .val (.int mm), .val (.ref a21), .val (.int ac), .val (.int (0 : Int32)), .val (.int (1 : Int32))] [(.int (0 : Int32)), (.int ac)])) (fun _ hr => XS.iload X23.here hx rfl (hb hby at_87) rfl hr) ?_
          refine own_go (B := T23.setTop (mkF m 101 #[.val (.int ri), .val (.int fi), .val (.int mi), .val (.int oi), .val (.int bu), .val (.int mm), .val (.ref a21), .val (.int ac), .val (.int (0 : Int32)), .val (.int (1 : Int32))] [(.int ac)])) (fun _ hr => XS.ifYes X23.here hx rfl (pc0 := 89) (pc' := 101) rfl (hb hby at_89) rfl (XT.i0_eq_t (by decide)) (by decide) (by decide) hr) ?_
          refine own_go (B := T23.setTop (mkF m 102 #[.val (.int ri), .val (.int fi), .val (.int mi), .val (.int oi), .val (.int bu), .val (.int mm), .val (.ref a21), .val (.int ac), .val (.int (0 : Int32)), .val (.int (1 : Int32))] [(.int (0 : Int32)), (.int ac)])) (fun _ hr => XT.iconstV X23.here hx rfl (0 : Int32) (hb hby at_101) (by decide) hr) ?_
          by_cases c36 : ac = (0 : Int32)
          · refine own_go (B := T23.setTop (mkF m 105 #[.val (.int ri), .val (.int fi), .val (.int mi), .val (.int oi), .val (.int bu), .val (.int mm), .val (.ref a21), .val (.int ac), .val (.int (0 : Int32)), .val (.int (1 : Int32))] [])) (fun _ hr => XS.icmpNo X23.here hx rfl (hb hby at_102) rfl (XT.ii_ne_f c36) hr) ?_
            refine own_go (B := T23.setTop (mkF m 106 #[.val (.int ri), .val (.int fi), .val (.int mi), .val (.int oi), .val (.int bu), .val (.int mm), .val (.ref a21), .val (.int ac), .val (.int (0 : Int32)), .val (.int (1 : Int32))] [(.int (1 : Int32))])) (fun _ hr => XT.iconstV X23.here hx rfl (1 : Int32) (hb hby at_105) (by decide) hr) ?_
            refine own_go (B := T23.setTop (mkF m 110 #[.val (.int ri), .val (.int fi), .val (.int mi), .val (.int oi), .val (.int bu), .val (.int mm), .val (.ref a21), .val (.int ac), .val (.int (0 : Int32)), .val (.int (1 : Int32))] [(.int (1 : Int32))])) (fun _ hr => XS.goto X23.here hx rfl (pc0 := 106) (pc' := 110) rfl (hb hby at_106) (by decide) (by decide) hr) ?_
            exact own_retZ X23 hx hlk hret (by decide) (hb hby at_110) (by decide) (by decide) ⟨congrArg (fun z => some (Value.int z)) ((show (1 : Int32) = own_res ri fi mm ac from by simp only [own_res, if_neg c31, if_pos c35, if_pos c36]).trans (by rw [hac]; exact own_res_one ri fi mm)), M23⟩
          · refine own_go (B := T23.setTop (mkF m 109 #[.val (.int ri), .val (.int fi), .val (.int mi), .val (.int oi), .val (.int bu), .val (.int mm), .val (.ref a21), .val (.int ac), .val (.int (0 : Int32)), .val (.int (1 : Int32))] [])) (fun _ hr => XS.icmpYes X23.here hx rfl (pc0 := 102) (pc' := 109) rfl (hb hby at_102) rfl (XT.ii_ne_t c36) (by decide) (by decide) hr) ?_
            refine own_go (B := T23.setTop (mkF m 110 #[.val (.int ri), .val (.int fi), .val (.int mi), .val (.int oi), .val (.int bu), .val (.int mm), .val (.ref a21), .val (.int ac), .val (.int (0 : Int32)), .val (.int (1 : Int32))] [(.int (0 : Int32))])) (fun _ hr => XT.iconstV X23.here hx rfl (0 : Int32) (hb hby at_109) (by decide) hr) ?_
            exact own_retZ X23 hx hlk hret (by decide) (hb hby at_110) (by decide) (by decide) ⟨congrArg (fun z => some (Value.int z)) ((show (0 : Int32) = own_res ri fi mm ac from by simp only [own_res, if_neg c31, if_pos c35, if_neg c36]).trans (by rw [hac]; exact own_res_one ri fi mm)), M23⟩
        · refine own_go (B := T23.setTop (mkF m 82 #[.val (.int ri), .val (.int fi), .val (.int mi), .val (.int oi), .val (.int bu), .val (.int mm), .val (.ref a21), .val (.int ac), .val (.int (0 : Int32)), .unset] [])) (fun _ hr => XS.icmpYes X23.here hx rfl (pc0 := 75) (pc' := 82) rfl (hb hby at_75) rfl (XT.ii_ne_t c35) (by decide) (by decide) hr) ?_
          refine own_go (B := T23.setTop (mkF m 83 #[.val (.int ri), .val (.int fi), .val (.int mi), .val (.int oi), .val (.int bu), .val (.int mm), .val (.ref a21), .val (.int ac), .val (.int (0 : Int32)), .unset] [(.int (0 : Int32))])) (fun _ hr => XT.iconstV X23.here hx rfl (0 : Int32) (hb hby at_82) (by decide) hr) ?_
          refine own_go (B := T23.setTop (mkF m 85 #[.val (.int ri), .val (.int fi), .val (.int mi), .val (.int oi), .val (.int bu), .val (.int mm), .val (.ref a21), .val (.int ac), .val (.int (0 : Int32)), .val (.int (0 : Int32))] [])) (fun _ hr => XS.istore X23.here hx rfl (hb hby at_83) rfl (l' := #[.val (.int ri), .val (.int fi), .val (.int mi), .val (.int oi), .val (.int bu), .val (.int mm), .val (.ref a21), .val (.int ac), .val (.int (0 : Int32)), .val (.int (0 : Int32))]) rfl hr) ?_
          refine own_go (B := T23.setTop (mkF m 87 #[.val (.int ri), .val (.int fi), .val (.int mi), .val (.int oi), .val (.int bu), .val (.int mm), .val (.ref a21), .val (.int ac), .val (.int (0 : Int32)), .val (.int (0 : Int32))] [(.int ac)])) (fun _ hr => XS.iload X23.here hx rfl (hb hby at_85) rfl hr) ?_
          refine own_go (B := T23.setTop (mkF m 89 #[.val (.int ri), .val (.int fi), .val (.int mi), .val (.int oi), .val (.int bu), .val (.int mm), .val (.ref a21), .val (.int ac), .val (.int (0 : Int32)), .val (.int (0 : Int32))] [(.int (0 : Int32)), (.int ac)])) (fun _ hr => XS.iload X23.here hx rfl (hb hby at_87) rfl hr) ?_
          refine own_go (B := T23.setTop (mkF m 101 #[.val (.int ri), .val (.int fi), .val (.int mi), .val (.int oi), .val (.int bu), .val (.int mm), .val (.ref a21), .val (.int ac), .val (.int (0 : Int32)), .val (.int (0 : Int32))] [(.int ac)])) (fun _ hr => XS.ifYes X23.here hx rfl (pc0 := 89) (pc' := 101) rfl (hb hby at_89) rfl (XT.i0_eq_t (by decide)) (by decide) (by decide) hr) ?_
          refine own_go (B := T23.setTop (mkF m 102 #[.val (.int ri), .val (.int fi), .val (.int mi), .val (.int oi), .val (.int bu), .val (.int mm), .val (.ref a21), .val (.int ac), .val (.int (0 : Int32)), .val (.int (0 : Int32))] [(.int (0 : Int32)), (.int ac)])) (fun _ hr => XT.iconstV X23.here hx rfl (0 : Int32) (hb hby at_101) (by decide) hr) ?_
          by_cases c37 : ac = (0 : Int32)
          · refine own_go (B := T23.setTop (mkF m 105 #[.val (.int ri), .val (.int fi), .val (.int mi), .val (.int oi), .val (.int bu), .val (.int mm), .val (.ref a21), .val (.int ac), .val (.int (0 : Int32)), .val (.int (0 : Int32))] [])) (fun _ hr => XS.icmpNo X23.here hx rfl (hb hby at_102) rfl (XT.ii_ne_f c37) hr) ?_
            refine own_go (B := T23.setTop (mkF m 106 #[.val (.int ri), .val (.int fi), .val (.int mi), .val (.int oi), .val (.int bu), .val (.int mm), .val (.ref a21), .val (.int ac), .val (.int (0 : Int32)), .val (.int (0 : Int32))] [(.int (1 : Int32))])) (fun _ hr => XT.iconstV X23.here hx rfl (1 : Int32) (hb hby at_105) (by decide) hr) ?_
            refine own_go (B := T23.setTop (mkF m 110 #[.val (.int ri), .val (.int fi), .val (.int mi), .val (.int oi), .val (.int bu), .val (.int mm), .val (.ref a21), .val (.int ac), .val (.int (0 : Int32)), .val (.int (0 : Int32))] [(.int (1 : Int32))])) (fun _ hr => XS.goto X23.here hx rfl (pc0 := 106) (pc' := 110) rfl (hb hby at_106) (by decide) (by decide) hr) ?_
            exact own_retZ X23 hx hlk hret (by decide) (hb hby at_110) (by decide) (by decide) ⟨congrArg (fun z => some (Value.int z)) ((show (1 : Int32) = own_res ri fi mm ac from by simp only [own_res, if_neg c31, if_neg c35, if_pos c37]).trans (by rw [hac]; exact own_res_one ri fi mm)), M23⟩
          · refine own_go (B := T23.setTop (mkF m 109 #[.val (.int ri), .val (.int fi), .val (.int mi), .val (.int oi), .val (.int bu), .val (.int mm), .val (.ref a21), .val (.int ac), .val (.int (0 : Int32)), .val (.int (0 : Int32))] [])) (fun _ hr => XS.icmpYes X23.here hx rfl (pc0 := 102) (pc' := 109) rfl (hb hby at_102) rfl (XT.ii_ne_t c37) (by decide) (by decide) hr) ?_
            refine own_go (B := T23.setTop (mkF m 110 #[.val (.int ri), .val (.int fi), .val (.int mi), .val (.int oi), .val (.int bu), .val (.int mm), .val (.ref a21), .val (.int ac), .val (.int (0 : Int32)), .val (.int (0 : Int32))] [(.int (0 : Int32))])) (fun _ hr => XT.iconstV X23.here hx rfl (0 : Int32) (hb hby at_109) (by decide) hr) ?_
            exact own_retZ X23 hx hlk hret (by decide) (hb hby at_110) (by decide) (by decide) ⟨congrArg (fun z => some (Value.int z)) ((show (0 : Int32) = own_res ri fi mm ac from by simp only [own_res, if_neg c31, if_neg c35, if_neg c37]).trans (by rw [hac]; exact own_res_one ri fi mm)), M23⟩
    refine own_go (B := s₁.setTop (mkF m 15 #[.val (.int ri), .val (.int fi), .val (.int mi), .val (.int oi), .val (.int bu), .unset, .unset, .unset, .unset, .unset] [(.int bu)])) (fun _ hr => XS.iload X0.here hx rfl (hb hby at_13) rfl hr) ?_
    by_cases c38 : bu = 0
    · refine own_go (B := s₁.setTop (mkF m 28 #[.val (.int ri), .val (.int fi), .val (.int mi), .val (.int oi), .val (.int bu), .unset, .unset, .unset, .unset, .unset] [])) (fun _ hr => XS.ifYes X0.here hx rfl (pc0 := 15) (pc' := 28) rfl (hb hby at_15) rfl (XT.i0_eq_t c38) (by decide) (by decide) hr) ?_
      refine own_go (B := s₁.setTop (mkF m 29 #[.val (.int ri), .val (.int fi), .val (.int mi), .val (.int oi), .val (.int bu), .unset, .unset, .unset, .unset, .unset] [(.int mi)])) (fun _ hr => XS.iloadN X0.here hx rfl (hb hby at_28) rfl hr) ?_
      have q : (own_m ri fi mi bu) = mi := by simp only [own_m, if_pos c38]
      rw [q] at hk20
      exact hk20
    · refine own_go (B := s₁.setTop (mkF m 18 #[.val (.int ri), .val (.int fi), .val (.int mi), .val (.int oi), .val (.int bu), .unset, .unset, .unset, .unset, .unset] [])) (fun _ hr => XS.ifNo X0.here hx rfl (hb hby at_15) rfl (XT.i0_eq_f c38) hr) ?_
      refine own_go (B := s₁.setTop (mkF m 19 #[.val (.int ri), .val (.int fi), .val (.int mi), .val (.int oi), .val (.int bu), .unset, .unset, .unset, .unset, .unset] [(.int mi)])) (fun _ hr => XS.iloadN X0.here hx rfl (hb hby at_18) rfl hr) ?_
      refine own_go (B := s₁.setTop (mkF m 20 #[.val (.int ri), .val (.int fi), .val (.int mi), .val (.int oi), .val (.int bu), .unset, .unset, .unset, .unset, .unset] [(.int ri), (.int mi)])) (fun _ hr => XS.iloadN X0.here hx rfl (hb hby at_19) rfl hr) ?_
      refine own_go (B := s₁.setTop (mkF m 21 #[.val (.int ri), .val (.int fi), .val (.int mi), .val (.int oi), .val (.int bu), .unset, .unset, .unset, .unset, .unset] [(.int (mi ||| ri))])) (fun _ hr => XT.ior X0.here hx rfl (hb hby at_20) rfl hr) ?_
      refine own_go (B := s₁.setTop (mkF m 22 #[.val (.int ri), .val (.int fi), .val (.int mi), .val (.int oi), .val (.int bu), .unset, .unset, .unset, .unset, .unset] [(.int fi), (.int (mi ||| ri))])) (fun _ hr => XS.iloadN X0.here hx rfl (hb hby at_21) rfl hr) ?_
      refine own_go (B := s₁.setTop (mkF m 23 #[.val (.int ri), .val (.int fi), .val (.int mi), .val (.int oi), .val (.int bu), .unset, .unset, .unset, .unset, .unset] [(.int (-1 : Int32)), (.int fi), (.int (mi ||| ri))])) (fun _ hr => XT.iconstV X0.here hx rfl (-1 : Int32) (hb hby at_22) (by decide) hr) ?_
      refine own_go (B := s₁.setTop (mkF m 24 #[.val (.int ri), .val (.int fi), .val (.int mi), .val (.int oi), .val (.int bu), .unset, .unset, .unset, .unset, .unset] [(.int (fi ^^^ (-1 : Int32))), (.int (mi ||| ri))])) (fun _ hr => XT.ixor X0.here hx rfl (hb hby at_23) rfl hr) ?_
      refine own_go (B := s₁.setTop (mkF m 25 #[.val (.int ri), .val (.int fi), .val (.int mi), .val (.int oi), .val (.int bu), .unset, .unset, .unset, .unset, .unset] [(.int ((mi ||| ri) &&& (fi ^^^ (-1 : Int32))))])) (fun _ hr => XS.iand X0.here hx rfl (hb hby at_24) rfl hr) ?_
      refine own_go (B := s₁.setTop (mkF m 29 #[.val (.int ri), .val (.int fi), .val (.int mi), .val (.int oi), .val (.int bu), .unset, .unset, .unset, .unset, .unset] [(.int ((mi ||| ri) &&& (fi ^^^ (-1 : Int32))))])) (fun _ hr => XS.goto X0.here hx rfl (pc0 := 25) (pc' := 29) rfl (hb hby at_25) (by decide) (by decide) hr) ?_
      have q : (own_m ri fi mi bu) = ((mi ||| ri) &&& (fi ^^^ (-1 : Int32))) := by simp only [own_m, if_neg c38]
      rw [q] at hk20
      exact hk20
  refine own_go (B := s₁.setTop (mkF m 1 #[.val (.int ri), .val (.int fi), .val (.int mi), .val (.int oi), .unset, .unset, .unset, .unset, .unset, .unset] [(.int oi)])) (fun _ hr => XS.iloadN X0.here hx rfl (hb hby at_0) rfl hr) ?_
  refine own_go (B := s₁.setTop (mkF m 2 #[.val (.int ri), .val (.int fi), .val (.int mi), .val (.int oi), .unset, .unset, .unset, .unset, .unset, .unset] [(.int (1 : Int32)), (.int oi)])) (fun _ hr => XT.iconstV X0.here hx rfl (1 : Int32) (hb hby at_1) (by decide) hr) ?_
  refine own_go (B := s₁.setTop (mkF m 3 #[.val (.int ri), .val (.int fi), .val (.int mi), .val (.int oi), .unset, .unset, .unset, .unset, .unset, .unset] [(.int (oi &&& (1 : Int32)))])) (fun _ hr => XS.iand X0.here hx rfl (hb hby at_2) rfl hr) ?_
  by_cases c39 : (oi &&& (1 : Int32)) = 0
  · refine own_go (B := s₁.setTop (mkF m 10 #[.val (.int ri), .val (.int fi), .val (.int mi), .val (.int oi), .unset, .unset, .unset, .unset, .unset, .unset] [])) (fun _ hr => XS.ifYes X0.here hx rfl (pc0 := 3) (pc' := 10) rfl (hb hby at_3) rfl (XT.i0_eq_t c39) (by decide) (by decide) hr) ?_
    refine own_go (B := s₁.setTop (mkF m 11 #[.val (.int ri), .val (.int fi), .val (.int mi), .val (.int oi), .unset, .unset, .unset, .unset, .unset, .unset] [(.int (0 : Int32))])) (fun _ hr => XT.iconstV X0.here hx rfl (0 : Int32) (hb hby at_10) (by decide) hr) ?_
    have q : (own_built oi) = (0 : Int32) := by simp only [own_built, if_pos c39]
    rw [q] at hk17
    exact hk17
  · refine own_go (B := s₁.setTop (mkF m 6 #[.val (.int ri), .val (.int fi), .val (.int mi), .val (.int oi), .unset, .unset, .unset, .unset, .unset, .unset] [])) (fun _ hr => XS.ifNo X0.here hx rfl (hb hby at_3) rfl (XT.i0_eq_f c39) hr) ?_
    refine own_go (B := s₁.setTop (mkF m 7 #[.val (.int ri), .val (.int fi), .val (.int mi), .val (.int oi), .unset, .unset, .unset, .unset, .unset, .unset] [(.int (1 : Int32))])) (fun _ hr => XT.iconstV X0.here hx rfl (1 : Int32) (hb hby at_6) (by decide) hr) ?_
    refine own_go (B := s₁.setTop (mkF m 11 #[.val (.int ri), .val (.int fi), .val (.int mi), .val (.int oi), .unset, .unset, .unset, .unset, .unset, .unset] [(.int (1 : Int32))])) (fun _ hr => XS.goto X0.here hx rfl (pc0 := 7) (pc' := 11) rfl (hb hby at_7) (by decide) (by decide) hr) ?_
    have q : (own_built oi) = (1 : Int32) := by simp only [own_built, if_neg c39]
    rw [q] at hk17
    exact hk17
set_option maxRecDepth 65536 in
set_option maxHeartbeats 40000000 in
theorem comes_1 {Post : Tables → Env → Array Value → State → Outcome → State → Prop} (hpost : ∀ tb e args s v u, (limb_1_1.after args s (.returned v) u = true ∧ limb_1_2.after args s (.returned v) u = true ∧ True) → FrameEnd s (.returned v) u (Jvm.fieldLocs frame_1_writes args s ++ Jvm.arrayLocs frame_1_arrays args s ++ Jvm.staticLocs frame_1_statics s) 16 128 → Post tb e args s (.returned v) u) :
    ArmFor flags0 classFile x code maxLocals ret World_1 tables_1 room_1 Calls_1 rest_1 Pre_1 Post := by
  intro l hfl _ _ p e ha hc hk s m args below hf hA hF happ hP
  obtain ⟨hcalls, hrest, hpre⟩ := hP
  obtain ⟨-, -, -, hnamed, -, -, -, hat⟩ := (Spec.applies_iff hf).mp happ
  obtain ⟨hg, hn⟩ := and_e (Cond.before_iff.mp (show (Jvm.Cond.and given_1 narrow_1).before args s = true from hpre))
  obtain ⟨h1, g0⟩ := and_e hg
  obtain ⟨f0, g1⟩ := and_e g0
  obtain ⟨f1, g2⟩ := and_e g1
  obtain ⟨f2, g3⟩ := and_e g2
  obtain ⟨w0, w1, w2, w3, rfl⟩ : ∃ w0 w1 w2 w3 : Value, args = #[w0, w1, w2, w3] := by
    have hs : args.size = 4 := by simpa [Cond.value, given_1] using h1
    obtain ⟨L⟩ := args
    match L, hs with
    | [w0, w1, w2, w3], _ => exact ⟨w0, w1, w2, w3, rfl⟩
  have hw := fun d (hd : d ∈ tables_1) => atoms_spec (ws := Jvm.Cond.code x code maxLocals ret :: tables_1) hat d (List.mem_cons_of_mem _ hd)
  obtain ⟨i0, q0⟩ := is_v f0
  obtain rfl : w0 = (.int i0) := Option.some.inj q0
  obtain ⟨i1, q1⟩ := is_v f1
  obtain rfl : w1 = (.int i1) := Option.some.inj q1
  obtain ⟨i2, q2⟩ := is_v f2
  obtain rfl : w2 = (.int i2) := Option.some.inj q2
  obtain ⟨i3, q3⟩ := is_v g3
  obtain rfl : w3 = (.int i3) := Option.some.inj q3
  obtain ⟨n, o, h1, h2, h3, _, L, rfl, ⟨rfl, N⟩, hq⟩ := rm_law l s _ hw tables_1 i0 i1 i2 i3 s.heap s.heap.size (Nat.le_refl _) p e ha hc hk s m _ below hf ((Spec.applies_iff_loose hf).mp happ).1 ⟨rfl, State.Warmed39.refl s, rfl⟩ trivial
  refine ⟨n, _, h1, h2, h3, hpost _ _ _ _ _ _ ⟨Cond.after_iff.mpr rfl, Cond.after_iff.mpr (eq_i res_at (Term.int_eval (1)) rfl), trivial⟩ ⟨hq.1, hq.2.1, (hq.2.2.sift fun y hy => Or.inr (N y hy)).mono (by decide) (by decide)⟩⟩
theorem main_1_1 : Claimed_1_1 := comes_1 fun _ _ _ _ _ _ h hF => ⟨h.1, hF⟩
theorem main_1_2 : Claimed_1_2 := comes_1 fun _ _ _ _ _ _ h hF => ⟨h.2.1, hF⟩
end Jvm.Pilot.@@N@@
namespace Jvm.Pilot.@@N@@
open Jvm Jvm.ClassFile Sem Op Lib Jvm.Free Jvm.Stand Jvm.Pilot.@@N@@.Jvm.D
/-! MADE BY PROGRAM (witnessworld.py) out of the Statement's table words and the real class files: 10 classes; the members and pool entries that the words name. The judged class is class 1, her method 1. -/
namespace start1
open Jvm.ClassFile
def u (s : String) : CpInfo := .utf8 (stringToUtf16 s)
/-- a pool by its gaps: so many unusable entries, then the entry; so many at the end -/
def gap : Nat → List CpInfo → List CpInfo
  | 0, r => r
  | n + 1, r => .unusable :: gap n r
def poolList (es : List (Nat × CpInfo)) (last : Nat) : List CpInfo := es.foldr (fun e r => gap e.1 (e.2 :: r)) (gap last [])
def pool (es : List (Nat × CpInfo)) (last : Nat) : Array CpInfo := ⟨poolList es last⟩
def fileOf (pool : Array CpInfo) (this : Nat) (attrs : Array Attribute := #[]) (ms : Array MethodInfo := #[]) (fl : Nat := 33) (sup : Nat := 0) (ifs : Array Nat := #[]) (fds : Array FieldInfo := #[]) : ClassFile where
  minorVersion := 0
  majorVersion := 65
  constantPool := pool
  accessFlags := fl
  thisClass := this
  superClass := sup
  interfaces := ifs
  fields := fds
  methods := ms
  attributes := attrs
def plain (name : String) (sup : Option ClassId) : Class where
  name := name
  kind := .ordinary
  loader := none
  accessFlags := 33
  super := sup
  interfaces := #[]
  cf := none
  fields := #[]
  methods := #[]
  instanceTypes := #[]
  staticTypes := #[]
  resolved := #[]
  callSites := []
  init := .initialized
  statics := none
  mirror := none

def pool0 : Array CpInfo := pool [(5, u "<init>"), (0, u "()V"), (1, .class_ 10), (1, u "java/lang/Object")] 113

def k0c0 : Code := { maxStack := 0, maxLocals := 1, code := object_method_1_code, exceptionTable := #[], attributes := #[] }
def k0m0 : Method := { name := "<init>", desc := "()V", sig := { parameters := [], returnType := none }, accessFlags := 1, code := some k0c0 }
/-- java/lang/Object -/
def k0 : Class := { plain "java/lang/Object" none with
  accessFlags := 33
  interfaces := #[]
  cf := some (fileOf pool0 8 #[] #[{ accessFlags := 1, nameIndex := 5, descriptorIndex := 6, attributes := #[] }] 33 0 #[] #[])
  fields := #[]
  methods := #[k0m0]
  instanceTypes := #[]
  staticTypes := #[]
  resolved := Array.replicate 124 none
  statics := none }

def pool1 : Array CpInfo := pool [(2, .class_ 4), (1, u "java/lang/Object"), (0, u "<init>"), (0, u "()V"), (0, .class_ 8), (0, u "com/example/tangl/tangl/aop/pointcut/ExecutionPattern$Modifiers"), (0, .methodref 7 10), (0, .nameAndType 5 11), (0, u "(II)V"), (0, .methodref 7 13), (0, .nameAndType 14 15), (0, u "matches"), (0, u "(I)Z"), (0, .class_ 17), (0, u "com/example/tangl/tangl/aop/pointcut/ModifiersMatchesPinLaw"), (2, u "law"), (0, u "(IIII)Z")] 7

def k1m0 : Method := { name := "<init>", desc := "()V", sig := { parameters := [], returnType := none }, accessFlags := 2, code := none }
def k1c1 : Code := { maxStack := 4, maxLocals := 10, code := code, exceptionTable := #[], attributes := #[] }
def k1m1 : Method := { name := "law", desc := "(IIII)Z", sig := { parameters := [.int, .int, .int, .int], returnType := some .boolean }, accessFlags := 9, code := some k1c1 }
/-- com/example/tangl/tangl/aop/pointcut/ModifiersMatchesPinLaw -/
def k1 : Class := { plain "com/example/tangl/tangl/aop/pointcut/ModifiersMatchesPinLaw" (some 0) with
  accessFlags := 49
  interfaces := #[]
  cf := some (fileOf pool1 16 #[] #[{ accessFlags := 2, nameIndex := 5, descriptorIndex := 6, attributes := #[] }, { accessFlags := 9, nameIndex := 20, descriptorIndex := 21, attributes := #[] }] 49 2 #[] #[])
  fields := #[]
  methods := #[k1m0, k1m1]
  instanceTypes := #[]
  staticTypes := #[]
  resolved := Array.replicate 29 none
  statics := none }

def pool2 : Array CpInfo := pool [(1, .methodref 2 3), (0, .class_ 4), (0, .nameAndType 5 6), (0, u "java/lang/Object"), (0, u "<init>"), (0, u "()V"), (0, .class_ 8), (0, u "java/lang/Record")] 13

def k2c0 : Code := { maxStack := 1, maxLocals := 1, code := jdk_30_method_1_code, exceptionTable := #[], attributes := #[] }
def k2m0 : Method := { name := "<init>", desc := "()V", sig := { parameters := [], returnType := none }, accessFlags := 4, code := some k2c0 }
/-- java/lang/Record -/
def k2 : Class := { plain "java/lang/Record" (some 0) with
  accessFlags := 1057
  interfaces := #[]
  cf := some (fileOf pool2 7 #[] #[{ accessFlags := 4, nameIndex := 5, descriptorIndex := 6, attributes := #[] }] 1057 2 #[] #[])
  fields := #[]
  methods := #[k2m0]
  instanceTypes := #[]
  staticTypes := #[]
  resolved := Array.replicate 22 none
  statics := none }

def pool3 : Array CpInfo := pool [(1, .methodref 2 3), (0, .class_ 4), (0, .nameAndType 5 6), (0, u "java/lang/Record"), (0, u "<init>"), (0, u "()V"), (0, .fieldref 8 9), (0, .class_ 10), (0, .nameAndType 11 12), (0, u "com/example/tangl/tangl/aop/pointcut/ExecutionPattern$Modifiers"), (0, u "required"), (0, u "I"), (0, .fieldref 8 14), (0, .nameAndType 15 12), (0, u "forbidden"), (12, u "(II)V"), (3, u "matches"), (0, u "(I)Z"), (7, .class_ 42), (0, u "com/example/tangl/tangl/aop/pointcut/ExecutionPattern")] 20

def k3c0 : Code := { maxStack := 2, maxLocals := 3, code := prog_37_method_1_code, exceptionTable := #[], attributes := #[] }
def k3m0 : Method := { name := "<init>", desc := "(II)V", sig := { parameters := [.int, .int], returnType := none }, accessFlags := 0, code := some k3c0 }
def k3c1 : Code := { maxStack := 2, maxLocals := 2, code := prog_37_method_2_code, exceptionTable := #[], attributes := #[] }
def k3m1 : Method := { name := "matches", desc := "(I)Z", sig := { parameters := [.int], returnType := some .boolean }, accessFlags := 0, code := some k3c1 }
/-- com/example/tangl/tangl/aop/pointcut/ExecutionPattern$Modifiers -/
def k3 : Class := { plain "com/example/tangl/tangl/aop/pointcut/ExecutionPattern$Modifiers" (some 2) with
  accessFlags := 48
  interfaces := #[]
  cf := some (fileOf pool3 8 #[.nestHost 41] #[{ accessFlags := 0, nameIndex := 5, descriptorIndex := 28, attributes := #[] }, { accessFlags := 0, nameIndex := 32, descriptorIndex := 33, attributes := #[] }] 48 2 #[] #[{ accessFlags := 18, nameIndex := 11, descriptorIndex := 12, attributes := #[] }, { accessFlags := 18, nameIndex := 15, descriptorIndex := 12, attributes := #[] }])
  fields := #[{ name := "required", type := .int, accessFlags := 18, slot := 0, constantValue := 0 }, { name := "forbidden", type := .int, accessFlags := 18, slot := 1, constantValue := 0 }]
  methods := #[k3m0, k3m1]
  instanceTypes := #[.int, .int]
  staticTypes := #[]
  resolved := Array.replicate 63 none
  statics := none }

def pool4 : Array CpInfo := pool [(1, u "java/lang/Cloneable"), (0, .class_ 1), (0, u "java/lang/Object"), (0, .class_ 3)] 3

/-- java/lang/Cloneable -/
def k4 : Class := { plain "java/lang/Cloneable" (some 0) with
  accessFlags := 1537
  interfaces := #[]
  cf := some (fileOf pool4 2 #[] #[] 1537 4 #[] #[])
  fields := #[]
  methods := #[]
  instanceTypes := #[]
  staticTypes := #[]
  resolved := Array.replicate 8 none
  statics := none }

def pool5 : Array CpInfo := pool [(1, u "java/io/Serializable"), (0, .class_ 1), (0, u "java/lang/Object"), (0, .class_ 3)] 3

/-- java/io/Serializable -/
def k5 : Class := { plain "java/io/Serializable" (some 0) with
  accessFlags := 1537
  interfaces := #[]
  cf := some (fileOf pool5 2 #[] #[] 1537 4 #[] #[])
  fields := #[]
  methods := #[]
  instanceTypes := #[]
  staticTypes := #[]
  resolved := Array.replicate 8 none
  statics := none }

/-- the primitive byte -/
def k6 : Class := { plain "byte" none with kind := .primitive 'B', accessFlags := 0x411 }
/-- [B -/
def k7 : Class := { plain "[B" (some 0) with kind := .array 6 .byte, interfaces := #[4, 5], accessFlags := 1041 }

/-- the primitive int -/
def k8 : Class := { plain "int" none with kind := .primitive 'I', accessFlags := 0x411 }
/-- [I -/
def k9 : Class := { plain "[I" (some 0) with kind := .array 8 .int, interfaces := #[4, 5], accessFlags := 1041 }

def heap : Heap := #[]
def classes : Array Class := #[k0, k1, k2, k3, k4, k5, k6, k7, k8, k9]
def interned : List (Array UInt16 × Addr) := []
def slotsUsed : Nat := 0
def theMethod : MethodId := ⟨1, 1⟩
def args0 : Array Value := #[.int 5, .int 7, .int 1, .int 9]
def aboutOver (below : List Frame) : State where
  vm := { classes := classes, interned := interned.toArray }
  heap := heap
  slotsUsed := slotsUsed
  threads := #[{ frames := .invoking theMethod args0 :: below }]
def below0 : List Frame := [.native { method := ⟨0, 0⟩, args := #[] }]
def about1 : State := aboutOver below0
def p0 : Program := .bare "" "" ""
def e0 : Env := launch0.env 0 0 0
theorem w_frames : about1.frames = Frame.invoking theMethod args0 :: below0 := rfl
set_option maxRecDepth 65536 in
theorem w_args : argsFit about1.vm theMethod args0 = true := by decide +kernel
set_option maxRecDepth 65536 in
theorem w_heap : heapFits about1 = true := by decide +kernel
set_option maxRecDepth 65536 in
theorem w_runnable : about1.curStatus? = some .runnable := by decide +kernel
set_option maxRecDepth 65536 in
theorem w_alone : about1.alone = true := by decide +kernel
set_option maxRecDepth 65536 in
theorem w_named : about1.methodNamed? x = some theMethod := by decide +kernel
set_option maxRecDepth 65536 in
theorem w_hears : about1.hears theMethod below0 = true := by decide +kernel
set_option maxRecDepth 65536 in
theorem w_ripe : about1.ripe theMethod args0 below0 = true := by decide +kernel
theorem w_running : about1.status = .running := rfl
set_option maxRecDepth 65536 in
theorem w_room : about1.hasRoom e0.platform room_1 = true :=
  launch0.hasRoom_least _ room_1 (by decide +kernel) (by decide +kernel) (by decide +kernel) (by decide +kernel) (by decide +kernel) (by decide +kernel)
theorem allAtoms_all (ts : List Jvm.Cond) (a : Array Jvm.Value) (st : Jvm.State) : (allAtoms ts).before a st = ts.all (fun c => c.before a st) := by
  induction ts with
  | nil => rfl
  | cons c t ih =>
    show (Jvm.Cond.and c (allAtoms t)).before a st = _
    rw [Jvm.Cond.before_and, ih, List.all_cons]
def words1 : List Jvm.Cond := Jvm.Cond.code x code maxLocals ret :: tables_1
/-- a 'code' word, met by the world's own term for the bytes: nothing is compared byte by byte -/
theorem code_word {y : MethodName} {bytes : ByteArray} {mx : Nat} {rt : Option FieldType} {a : Array Value} {s : State} {m : MethodId} {meth : Method} {c : Code} (h1 : s.methodNamed? y = some m) (h2 : s.vm.method? m = some meth) (h3 : meth.code = some c) (h4 : c.code = bytes)
    (h5 : (c.maxLocals == mx && c.exceptionTable.isEmpty && decide (c.maxStack ≤ mostOperands) && decide (meth.sig.returnType = rt) && !meth.locks && decide (parseMethodDescriptor y.desc = some meth.sig)) = true) : (Jvm.Cond.code y bytes mx rt).before a s = true := by
  simp only [Bool.and_eq_true, beq_iff_eq, Bool.not_eq_true', decide_eq_true_eq] at h5
  obtain ⟨⟨⟨⟨⟨g1, g2⟩, g3⟩, g4⟩, g5⟩, g6⟩ := h5
  simp [Cond.before, Cond.holds, Cond.value, h1, h2, h3, h4, g1, g2, g3, g4, g5, g6]
def isCode : Jvm.Cond → Bool
  | .code _ _ _ _ => true
  | _ => false
theorem all_split {L : List Jvm.Cond} {P : Jvm.Cond → Bool} (h1 : L.all (fun c => isCode c || P c) = true) (h2 : ∀ c ∈ L.filter isCode, P c = true) : L.all P = true := by
  refine List.all_eq_true.mpr fun c hc => ?_
  have h := List.all_eq_true.mp h1 c hc
  rcases Bool.eq_false_or_eq_true (isCode c) with hi | hi
  · exact h2 c (List.mem_filter.mpr ⟨hc, hi⟩)
  · simpa [hi] using h
set_option maxRecDepth 65536 in
theorem w_c0 : (Jvm.Cond.code x code maxLocals ret).before args0 about1 = true := code_word (m := ⟨1, 1⟩) (meth := k1m1) (c := k1c1) (by decide +kernel) rfl rfl rfl (by decide +kernel)
set_option maxRecDepth 65536 in
theorem w_c1 : (Jvm.Cond.code ({ cls := "com/example/tangl/tangl/aop/pointcut/ExecutionPattern$Modifiers", name := "<init>", desc := "(II)V" } : Jvm.MethodName) prog_37_method_1_code (3 : Nat) (Option.none : Option Jvm.ClassFile.FieldType)).before args0 about1 = true := code_word (m := ⟨3, 0⟩) (meth := k3m0) (c := k3c0) (by decide +kernel) rfl rfl rfl (by decide +kernel)
set_option maxRecDepth 65536 in
theorem w_c2 : (Jvm.Cond.code ({ cls := "java/lang/Record", name := "<init>", desc := "()V" } : Jvm.MethodName) jdk_30_method_1_code (1 : Nat) (Option.none : Option Jvm.ClassFile.FieldType)).before args0 about1 = true := code_word (m := ⟨2, 0⟩) (meth := k2m0) (c := k2c0) (by decide +kernel) rfl rfl rfl (by decide +kernel)
set_option maxRecDepth 65536 in
theorem w_c3 : (Jvm.Cond.code ({ cls := "java/lang/Object", name := "<init>", desc := "()V" } : Jvm.MethodName) object_method_1_code (1 : Nat) (Option.none : Option Jvm.ClassFile.FieldType)).before args0 about1 = true := code_word (m := ⟨0, 0⟩) (meth := k0m0) (c := k0c0) (by decide +kernel) rfl rfl rfl (by decide +kernel)
set_option maxRecDepth 65536 in
theorem w_c4 : (Jvm.Cond.code ({ cls := "com/example/tangl/tangl/aop/pointcut/ExecutionPattern$Modifiers", name := "matches", desc := "(I)Z" } : Jvm.MethodName) prog_37_method_2_code (2 : Nat) (Option.some Jvm.ClassFile.FieldType.boolean)).before args0 about1 = true := code_word (m := ⟨3, 1⟩) (meth := k3m1) (c := k3c1) (by decide +kernel) rfl rfl rfl (by decide +kernel)
def codes1 : List Jvm.Cond := [Jvm.Cond.code x code maxLocals ret, Jvm.Cond.code ({ cls := "com/example/tangl/tangl/aop/pointcut/ExecutionPattern$Modifiers", name := "<init>", desc := "(II)V" } : Jvm.MethodName) prog_37_method_1_code (3 : Nat) (Option.none : Option Jvm.ClassFile.FieldType), Jvm.Cond.code ({ cls := "java/lang/Record", name := "<init>", desc := "()V" } : Jvm.MethodName) jdk_30_method_1_code (1 : Nat) (Option.none : Option Jvm.ClassFile.FieldType), Jvm.Cond.code ({ cls := "java/lang/Object", name := "<init>", desc := "()V" } : Jvm.MethodName) object_method_1_code (1 : Nat) (Option.none : Option Jvm.ClassFile.FieldType), Jvm.Cond.code ({ cls := "com/example/tangl/tangl/aop/pointcut/ExecutionPattern$Modifiers", name := "matches", desc := "(I)Z" } : Jvm.MethodName) prog_37_method_2_code (2 : Nat) (Option.some Jvm.ClassFile.FieldType.boolean)]
set_option maxRecDepth 65536 in
theorem codes_eq : words1.filter isCode = codes1 := rfl
theorem w_codes : ∀ c ∈ words1.filter isCode, c.before args0 about1 = true := by
  rw [codes_eq]
  intro c hc
  simp only [codes1, List.mem_cons, List.not_mem_nil, or_false] at hc
  rcases hc with rfl | rfl | rfl | rfl | rfl
  · exact w_c0
  · exact w_c1
  · exact w_c2
  · exact w_c3
  · exact w_c4
set_option maxRecDepth 65536 in
theorem w_t1 : words1.all (fun c => isCode c || c.before args0 about1) = true := by decide +kernel
theorem w_tables : (allAtoms (Jvm.Cond.code x code maxLocals ret :: tables_1)).before args0 about1 = true := by
  rw [allAtoms_all]
  show words1.all (fun c => c.before args0 about1) = true
  refine all_split ?_ w_codes
  rw [w_t1]
set_option maxRecDepth 65536 in
theorem w_case : (Jvm.Cond.and given_1 narrow_1).before args0 about1 = true := by decide +kernel
theorem w_applies : (headSpec (Jvm.Cond.code x code maxLocals ret :: tables_1) room_1).applies x e0.platform about1 = true :=
  (Spec.applies_iff w_frames).mpr ⟨w_running, w_runnable, w_alone, w_named, w_hears, w_ripe, w_room, w_tables⟩
theorem atStart : AtStart classFile x code maxLocals ret World_1 tables_1 room_1 Calls_1 rest_1 Pre_1 launch0 p0 e0 about1 theMethod args0 below0 :=
  ⟨lists_1, trivial, launch0.admits_env _ _ _, launch0.least_env, fairChoices_fair.cas, fairChoices_fair.clock, w_frames, w_args, w_heap, w_applies, trivial, trivial, w_case⟩
end start1
theorem witness_1 : WitnessClaimed_1 := ⟨start1.p0, start1.e0, start1.about1, start1.theMethod, start1.args0, start1.below0, start1.atStart⟩
end Jvm.Pilot.@@N@@
