import JvmDerived
import JvmDerived.Pilot.@@N@@Statement
import JvmDerived.Pilot.@@N@@Code
set_option linter.unusedVariables false
set_option linter.unusedSimpArgs false
@@BLOCK:NumsL.lean.txt@@
namespace Jvm.Pilot.@@N@@
open Jvm Jvm.ClassFile Sem Op Lib Jvm.Free Jvm.Stand Jvm.LawKit Jvm.RoadKit Bundle Jvm.Pilot.@@N@@.Jvm.D
section Own
variable {p : Program} {l : Launch} {e : Env} {R : Room} {s : State} {m : MethodId} {args : Array Value} {below : List Frame} {meth : Method} {c : Code} {T : State} {locs : List Loc} {cells slots : Nat}
/-- from A the run comes to an end of which P holds -/
def own_G (p : Program) (e : Env) (below : List Frame) (P : State → Outcome → Prop) (A : State) : Prop := ∃ s₂ o, Steps p.tables e below A s₂ ∧ P s₂ o
/-- the end of a body: it returned, Q holds of the answer, the heap and the places written, and the frame is kept -/
def own_P (s : State) (below : List Frame) (Q : Option Value → Heap → List Loc → Prop) (k n : Nat) (s₂ : State) (o : Outcome) : Prop := s₂.status = .running ∧ Ended s₂ below o ∧ ∃ v L, o = .returned v ∧ Q v s₂.heap L ∧ FrameEnd s o s₂ L k n
theorem own_go {P : State → Outcome → Prop} {A B : State} (k : ∀ t, Steps p.tables e below B t → Steps p.tables e below A t) (h : own_G p e below P B) : own_G p e below P A := by
  obtain ⟨s₂, o, h1, h2⟩ := h
  exact ⟨s₂, o, k _ h1, h2⟩
theorem own_gs {P : State → Outcome → Prop} {A B : State} (k : Steps p.tables e below A B) (h : own_G p e below P B) : own_G p e below P A := own_go (fun _ hr => k.trans hr) h
theorem own_end (X : Stand p l e R s m args below meth c T locs cells slots) (hlk : meth.locks = false) {v : Option Value} (hv : meth.sig.returnType = none → v = none) {A : State} {Q : Option Value → Heap → List Loc → Prop} {k n : Nat} (hk : cells ≤ k) (hn : slots ≤ n)
    (st : ∀ fs, (∀ (f : JFrame) (acts : List Action), f.method = m → f.locked = none → f.entered = [] → (doReturn e (T.setTop f) acts v).1 = T.setFrames fs) → Steps p.tables e below A (T.setFrames fs)) (q : Q v T.heap locs) : own_G p e below (own_P s below Q k n) A := by
  obtain ⟨fs, hr, hrun, hended, hW, hsame⟩ := X.leave (v := v) hv hlk
  exact ⟨_, _, st fs hr, hrun, hended, _, _, rfl, q, ⟨_, rfl⟩, hW, hsame.mono hk hn⟩
theorem own_retI (X : Stand p l e R s m args below meth c T locs cells slots) (hx : p.tables.exec = Jvm.exec) (hlk : meth.locks = false) {pc : Nat} {Ls : Array Slot} {z : Int32} {rest : List Value} {Q : Option Value → Heap → List Loc → Prop} {k n : Nat} (hret : meth.sig.returnType = some .int) (hd : decode c.code pc = .ok (.ireturn, 1)) (hk : cells ≤ k) (hn : slots ≤ n)
    (q : Q (some (.int z)) T.heap locs) : own_G p e below (own_P s below Q k n) (T.setTop (mkF m pc Ls (.int z :: rest))) :=
  own_end X hlk (fun h => by rw [hret] at h; cases h) hk hn (fun fs hr => retOut X hx hret rfl (Or.inl ⟨rfl, Or.inl rfl, z, rfl⟩) hd hr) q
theorem own_bit {z : Int32} (hz : z = 0 ∨ z = 1) : narrow .boolean (.int z) = .int z := by rcases hz with rfl | rfl <;> rfl
theorem own_retZ (X : Stand p l e R s m args below meth c T locs cells slots) (hx : p.tables.exec = Jvm.exec) (hlk : meth.locks = false) {pc : Nat} {Ls : Array Slot} {z : Int32} {rest : List Value} {Q : Option Value → Heap → List Loc → Prop} {k n : Nat} (hret : meth.sig.returnType = some .boolean) (hz : z = 0 ∨ z = 1) (hd : decode c.code pc = .ok (.ireturn, 1)) (hk : cells ≤ k) (hn : slots ≤ n)
    (q : Q (some (.int z)) T.heap locs) : own_G p e below (own_P s below Q k n) (T.setTop (mkF m pc Ls (.int z :: rest))) :=
  own_end X hlk (fun h => by rw [hret] at h; cases h) hk hn (fun fs hr => retOut X hx hret (own_bit hz) (Or.inl ⟨rfl, Or.inr (Or.inl rfl), z, rfl⟩) hd hr) q
theorem own_retJ (X : Stand p l e R s m args below meth c T locs cells slots) (hx : p.tables.exec = Jvm.exec) (hlk : meth.locks = false) {pc : Nat} {Ls : Array Slot} {z : Int64} {rest : List Value} {Q : Option Value → Heap → List Loc → Prop} {k n : Nat} (hret : meth.sig.returnType = some .long) (hd : decode c.code pc = .ok (.lreturn, 1)) (hk : cells ≤ k) (hn : slots ≤ n)
    (q : Q (some (.long z)) T.heap locs) : own_G p e below (own_P s below Q k n) (T.setTop (mkF m pc Ls (.long z :: rest))) :=
  own_end X hlk (fun h => by rw [hret] at h; cases h) hk hn (fun fs hr => retOut X hx hret rfl (Or.inr (Or.inl ⟨rfl, rfl, z, rfl⟩)) hd hr) q
theorem own_retA (X : Stand p l e R s m args below meth c T locs cells slots) (hx : p.tables.exec = Jvm.exec) (hlk : meth.locks = false) {pc : Nat} {Ls : Array Slot} {z : Addr} {t : FieldType} {rest : List Value} {Q : Option Value → Heap → List Loc → Prop} {k n : Nat} (hret : meth.sig.returnType = some t) (ht : t.isReference = true) (hn0 : narrow t (.ref z) = .ref z) (hd : decode c.code pc = .ok (.areturn, 1)) (hk : cells ≤ k) (hn : slots ≤ n)
    (q : Q (some (.ref z)) T.heap locs) : own_G p e below (own_P s below Q k n) (T.setTop (mkF m pc Ls (.ref z :: rest))) :=
  own_end X hlk (fun h => by rw [hret] at h; cases h) hk hn (fun fs hr => retOut X hx hret hn0 (Or.inr (Or.inr (Or.inr (Or.inr ⟨rfl, ht, rfl⟩)))) hd hr) q
theorem own_retV (X : Stand p l e R s m args below meth c T locs cells slots) (hx : p.tables.exec = Jvm.exec) (hlk : meth.locks = false) {pc : Nat} {Ls : Array Slot} {Q : Option Value → Heap → List Loc → Prop} {k n : Nat} (hret : meth.sig.returnType = none) (hd : decode c.code pc = .ok (.return_, 1)) (hk : cells ≤ k) (hn : slots ≤ n)
    (q : Q none T.heap locs) : own_G p e below (own_P s below Q k n) (T.setTop (mkF m pc Ls [])) :=
  own_end X hlk (fun _ => rfl) hk hn (fun fs hr => X.returnOut hx hret hd hr) q
end Own

def own_hex (x : Int32) : Int32 := (if x < (48 : Int32) then (if x < (97 : Int32) then (if x < (65 : Int32) then (-1 : Int32) else (if (70 : Int32) < x then (-1 : Int32) else ((x - (65 : Int32)) + (10 : Int32)))) else (if (102 : Int32) < x then (if x < (65 : Int32) then (-1 : Int32) else (if (70 : Int32) < x then (-1 : Int32) else ((x - (65 : Int32)) + (10 : Int32)))) else ((x - (97 : Int32)) + (10 : Int32)))) else (if (57 : Int32) < x then (if x < (97 : Int32) then (if x < (65 : Int32) then (-1 : Int32) else (if (70 : Int32) < x then (-1 : Int32) else ((x - (65 : Int32)) + (10 : Int32)))) else (if (102 : Int32) < x then (if x < (65 : Int32) then (-1 : Int32) else (if (70 : Int32) < x then (-1 : Int32) else ((x - (65 : Int32)) + (10 : Int32)))) else ((x - (97 : Int32)) + (10 : Int32)))) else (x - (48 : Int32))))
theorem own_hex_spec (x : Int32) : own_hex x = -1 ∨ (48 ≤ x.toInt ∧ x.toInt ≤ 57 ∧ own_hex x = x - 48) ∨ (97 ≤ x.toInt ∧ x.toInt ≤ 102 ∧ own_hex x = x - 97 + 10) ∨ (65 ≤ x.toInt ∧ x.toInt ≤ 70 ∧ own_hex x = x - 65 + 10) := by
  simp only [own_hex, Int32.lt_iff_toInt_lt]
  have e1 : (48 : Int32).toInt = 48 := rfl
  have e2 : (57 : Int32).toInt = 57 := rfl
  have e3 : (97 : Int32).toInt = 97 := rfl
  have e4 : (102 : Int32).toInt = 102 := rfl
  have e5 : (65 : Int32).toInt = 65 := rfl
  have e6 : (70 : Int32).toInt = 70 := rfl
  rw [e1, e2, e3, e4, e5, e6]
  repeat' split
  all_goals first | exact Or.inl rfl | exact Or.inr (Or.inl ⟨by omega, by omega, rfl⟩) | exact Or.inr (Or.inr (Or.inl ⟨by omega, by omega, rfl⟩)) | exact Or.inr (Or.inr (Or.inr ⟨by omega, by omega, rfl⟩))
theorem d1_0 : decode prog_51_method_4_code 0 = .ok (.iconst (-1), 1) := by decide +kernel
theorem d1_1 : decode prog_51_method_4_code 1 = .ok (.istore_n 1, 1) := by decide +kernel
theorem d1_2 : decode prog_51_method_4_code 2 = .ok (.iload_n 0, 1) := by decide +kernel
theorem d1_3 : decode prog_51_method_4_code 3 = .ok (.bipush 48, 2) := by decide +kernel
theorem d1_5 : decode prog_51_method_4_code 5 = .ok (.if_icmp .lt 17, 3) := by decide +kernel
theorem d1_8 : decode prog_51_method_4_code 8 = .ok (.iload_n 0, 1) := by decide +kernel
theorem d1_9 : decode prog_51_method_4_code 9 = .ok (.bipush 57, 2) := by decide +kernel
theorem d1_11 : decode prog_51_method_4_code 11 = .ok (.if_icmp .gt 11, 3) := by decide +kernel
theorem d1_14 : decode prog_51_method_4_code 14 = .ok (.iload_n 0, 1) := by decide +kernel
theorem d1_15 : decode prog_51_method_4_code 15 = .ok (.bipush 48, 2) := by decide +kernel
theorem d1_17 : decode prog_51_method_4_code 17 = .ok (.isub, 1) := by decide +kernel
theorem d1_18 : decode prog_51_method_4_code 18 = .ok (.istore_n 1, 1) := by decide +kernel
theorem d1_19 : decode prog_51_method_4_code 19 = .ok (.goto 46, 3) := by decide +kernel
theorem d1_22 : decode prog_51_method_4_code 22 = .ok (.iload_n 0, 1) := by decide +kernel
theorem d1_23 : decode prog_51_method_4_code 23 = .ok (.bipush 97, 2) := by decide +kernel
theorem d1_25 : decode prog_51_method_4_code 25 = .ok (.if_icmp .lt 20, 3) := by decide +kernel
theorem d1_28 : decode prog_51_method_4_code 28 = .ok (.iload_n 0, 1) := by decide +kernel
theorem d1_29 : decode prog_51_method_4_code 29 = .ok (.bipush 102, 2) := by decide +kernel
theorem d1_31 : decode prog_51_method_4_code 31 = .ok (.if_icmp .gt 14, 3) := by decide +kernel
theorem d1_34 : decode prog_51_method_4_code 34 = .ok (.iload_n 0, 1) := by decide +kernel
theorem d1_35 : decode prog_51_method_4_code 35 = .ok (.bipush 97, 2) := by decide +kernel
theorem d1_37 : decode prog_51_method_4_code 37 = .ok (.isub, 1) := by decide +kernel
theorem d1_38 : decode prog_51_method_4_code 38 = .ok (.bipush 10, 2) := by decide +kernel
theorem d1_40 : decode prog_51_method_4_code 40 = .ok (.iadd, 1) := by decide +kernel
theorem d1_41 : decode prog_51_method_4_code 41 = .ok (.istore_n 1, 1) := by decide +kernel
theorem d1_42 : decode prog_51_method_4_code 42 = .ok (.goto 23, 3) := by decide +kernel
theorem d1_45 : decode prog_51_method_4_code 45 = .ok (.iload_n 0, 1) := by decide +kernel
theorem d1_46 : decode prog_51_method_4_code 46 = .ok (.bipush 65, 2) := by decide +kernel
theorem d1_48 : decode prog_51_method_4_code 48 = .ok (.if_icmp .lt 17, 3) := by decide +kernel
theorem d1_51 : decode prog_51_method_4_code 51 = .ok (.iload_n 0, 1) := by decide +kernel
theorem d1_52 : decode prog_51_method_4_code 52 = .ok (.bipush 70, 2) := by decide +kernel
theorem d1_54 : decode prog_51_method_4_code 54 = .ok (.if_icmp .gt 11, 3) := by decide +kernel
theorem d1_57 : decode prog_51_method_4_code 57 = .ok (.iload_n 0, 1) := by decide +kernel
theorem d1_58 : decode prog_51_method_4_code 58 = .ok (.bipush 65, 2) := by decide +kernel
theorem d1_60 : decode prog_51_method_4_code 60 = .ok (.isub, 1) := by decide +kernel
theorem d1_61 : decode prog_51_method_4_code 61 = .ok (.bipush 10, 2) := by decide +kernel
theorem d1_63 : decode prog_51_method_4_code 63 = .ok (.iadd, 1) := by decide +kernel
theorem d1_64 : decode prog_51_method_4_code 64 = .ok (.istore_n 1, 1) := by decide +kernel
theorem d1_65 : decode prog_51_method_4_code 65 = .ok (.iload_n 1, 1) := by decide +kernel
theorem d1_66 : decode prog_51_method_4_code 66 = .ok (.ireturn, 1) := by decide +kernel
theorem pn_hex : plainName "com/example/vetted_values/vettedvalues/write/NumberGrammar" = true := by first | (simp [plainName, overriddenIn]; done) | decide +kernel
theorem pd_hex : parseMethodDescriptor "(I)I" = some ⟨[.int], some .int⟩ := by decide +kernel
theorem ef_hex (m : MethodId) (x0 : Int32) : entryFrame m #[(.int x0)] 2 = mkF m 0 #[.val (.int x0), .unset] [] := by first | (simp [entryFrame, mkF, argsToLocals, Value.category, maxLocals]; done) | rfl
def Q_hex (Z : State) (xi : Int32) (h0 : Heap) (n0 : Nat) (v : Option Value) (h : Heap) (L : List Loc) : Prop := v = some (.int (own_hex xi)) ∧ Fr n0 L ∧ h = h0
set_option maxRecDepth 65536 in
set_option maxHeartbeats 40000000 in
theorem rm_hex (l : Launch) (Z : State) (a0 : Array Value) (hw : ∀ d ∈ tables_1, d.before a0 Z = true) (ws : List Jvm.Cond) (xi : Int32) (h0 : Heap) (n0 : Nat) (Z0 : n0 ≤ h0.size)  :
    MetFree l (⟨"com/example/vetted_values/vettedvalues/write/NumberGrammar", "hexDigitValue", "(I)I"⟩ : MethodName) (head1 (Jvm.Cond.code (⟨"com/example/vetted_values/vettedvalues/write/NumberGrammar", "hexDigitValue", "(I)I"⟩ : MethodName) prog_51_method_4_code 2 (some .int) :: ws) ({ frames := 0, cells := 0, slots := 0, locals := 0 } : Room)) (fun as U => as = #[(.int xi)] ∧ Z.Warmed39 U.vm ∧ U.heap = h0) (fun _ _ _ _ _ => True) (fun _ U o U' => ∃ v L, o = .returned v ∧ Q_hex Z xi h0 n0 v U'.heap L ∧ FrameEnd U o U' L ({ frames := 0, cells := 0, slots := 0, locals := 0 } : Room).cells ({ frames := 0, cells := 0, slots := 0, locals := 0 } : Room).slots) := by
  refine MetFree.of_bodySF (plainFor_of_name pn_hex) hisR ?_
  intro p e s m args below meth c s₁ Bd hml0 hP hK
  obtain ⟨rfl, hZ, hh⟩ := hP
  have hx := Bd.exec
  have hby := Bd.bytes
  have hml : c.maxLocals = 2 := hml0
  have hown : s.vm.findClass "com/example/vetted_values/vettedvalues/write/NumberGrammar" = some m.cls := findClass_of_methodNamed Bd.named
  have hnm := (name_of_methodNamed Bd.named Bd.method).1
  have hlk := BodyLoose.notSynchronized Bd
  have hret := Bd.returns
  have X0 : Stand p l e ({ frames := 0, cells := 0, slots := 0, locals := 0 } : Room) s m #[(.int xi)] below meth c s₁ [] 0 0 := Stand.of_body Bd
  have e0 : s₁.heap = h0 := by rw [← hh, Bd.state]; rfl
  have N0 := Fr.nil n0
  show own_G p e below (own_P s below (Q_hex Z xi h0 n0) ({ frames := 0, cells := 0, slots := 0, locals := 0 } : Room).cells ({ frames := 0, cells := 0, slots := 0, locals := 0 } : Room).slots) _
  refine own_go (B := s₁.setTop (mkF m 0 #[.val (.int xi), .unset] [])) (fun t k => castTop (ef_hex m xi) k) ?_
  refine own_go (B := s₁.setTop (mkF m 1 #[.val (.int xi), .unset] [(.int (-1 : Int32))])) (fun _ hr => XT.iconstV X0.here hx rfl (-1 : Int32) (hb hby d1_0) (by decide) hr) ?_
  refine own_go (B := s₁.setTop (mkF m 2 #[.val (.int xi), .val (.int (-1 : Int32))] [])) (fun _ hr => XS.istoreN X0.here hx rfl (hb hby d1_1) rfl (l' := #[.val (.int xi), .val (.int (-1 : Int32))]) rfl hr) ?_
  refine own_go (B := s₁.setTop (mkF m 3 #[.val (.int xi), .val (.int (-1 : Int32))] [(.int xi)])) (fun _ hr => XS.iloadN X0.here hx rfl (hb hby d1_2) rfl hr) ?_
  refine own_go (B := s₁.setTop (mkF m 5 #[.val (.int xi), .val (.int (-1 : Int32))] [(.int (48 : Int32)), (.int xi)])) (fun _ hr => XT.bipushV X0.here hx rfl (48 : Int32) (hb hby d1_3) (by decide) hr) ?_
  by_cases c15 : xi < (48 : Int32)
  · refine own_go (B := s₁.setTop (mkF m 22 #[.val (.int xi), .val (.int (-1 : Int32))] [])) (fun _ hr => XS.icmpYes X0.here hx rfl (pc0 := 5) (pc' := 22) rfl (hb hby d1_5) rfl (XT.ii_lt_t c15) (by decide) (by decide) hr) ?_
    refine own_go (B := s₁.setTop (mkF m 23 #[.val (.int xi), .val (.int (-1 : Int32))] [(.int xi)])) (fun _ hr => XS.iloadN X0.here hx rfl (hb hby d1_22) rfl hr) ?_
    refine own_go (B := s₁.setTop (mkF m 25 #[.val (.int xi), .val (.int (-1 : Int32))] [(.int (97 : Int32)), (.int xi)])) (fun _ hr => XT.bipushV X0.here hx rfl (97 : Int32) (hb hby d1_23) (by decide) hr) ?_
    by_cases c16 : xi < (97 : Int32)
    · refine own_go (B := s₁.setTop (mkF m 45 #[.val (.int xi), .val (.int (-1 : Int32))] [])) (fun _ hr => XS.icmpYes X0.here hx rfl (pc0 := 25) (pc' := 45) rfl (hb hby d1_25) rfl (XT.ii_lt_t c16) (by decide) (by decide) hr) ?_
      refine own_go (B := s₁.setTop (mkF m 46 #[.val (.int xi), .val (.int (-1 : Int32))] [(.int xi)])) (fun _ hr => XS.iloadN X0.here hx rfl (hb hby d1_45) rfl hr) ?_
      refine own_go (B := s₁.setTop (mkF m 48 #[.val (.int xi), .val (.int (-1 : Int32))] [(.int (65 : Int32)), (.int xi)])) (fun _ hr => XT.bipushV X0.here hx rfl (65 : Int32) (hb hby d1_46) (by decide) hr) ?_
      by_cases c17 : xi < (65 : Int32)
      · refine own_go (B := s₁.setTop (mkF m 65 #[.val (.int xi), .val (.int (-1 : Int32))] [])) (fun _ hr => XS.icmpYes X0.here hx rfl (pc0 := 48) (pc' := 65) rfl (hb hby d1_48) rfl (XT.ii_lt_t c17) (by decide) (by decide) hr) ?_
        refine own_go (B := s₁.setTop (mkF m 66 #[.val (.int xi), .val (.int (-1 : Int32))] [(.int (-1 : Int32))])) (fun _ hr => XS.iloadN X0.here hx rfl (hb hby d1_65) rfl hr) ?_
        exact own_retI X0 hx hlk hret  (hb hby d1_66) (by decide) (by decide) ⟨by simp only [own_hex, if_pos c15, if_pos c16, if_pos c17], N0, e0⟩
      · refine own_go (B := s₁.setTop (mkF m 51 #[.val (.int xi), .val (.int (-1 : Int32))] [])) (fun _ hr => XS.icmpNo X0.here hx rfl (hb hby d1_48) rfl (XT.ii_lt_f c17) hr) ?_
        refine own_go (B := s₁.setTop (mkF m 52 #[.val (.int xi), .val (.int (-1 : Int32))] [(.int xi)])) (fun _ hr => XS.iloadN X0.here hx rfl (hb hby d1_51) rfl hr) ?_
        refine own_go (B := s₁.setTop (mkF m 54 #[.val (.int xi), .val (.int (-1 : Int32))] [(.int (70 : Int32)), (.int xi)])) (fun _ hr => XT.bipushV X0.here hx rfl (70 : Int32) (hb hby d1_52) (by decide) hr) ?_
        by_cases c18 : (70 : Int32) < xi
        · refine own_go (B := s₁.setTop (mkF m 65 #[.val (.int xi), .val (.int (-1 : Int32))] [])) (fun _ hr => XS.icmpYes X0.here hx rfl (pc0 := 54) (pc' := 65) rfl (hb hby d1_54) rfl (XT.ii_gt_t c18) (by decide) (by decide) hr) ?_
          refine own_go (B := s₁.setTop (mkF m 66 #[.val (.int xi), .val (.int (-1 : Int32))] [(.int (-1 : Int32))])) (fun _ hr => XS.iloadN X0.here hx rfl (hb hby d1_65) rfl hr) ?_
          exact own_retI X0 hx hlk hret  (hb hby d1_66) (by decide) (by decide) ⟨by simp only [own_hex, if_pos c15, if_pos c16, if_neg c17, if_pos c18], N0, e0⟩
        · refine own_go (B := s₁.setTop (mkF m 57 #[.val (.int xi), .val (.int (-1 : Int32))] [])) (fun _ hr => XS.icmpNo X0.here hx rfl (hb hby d1_54) rfl (XT.ii_gt_f c18) hr) ?_
          refine own_go (B := s₁.setTop (mkF m 58 #[.val (.int xi), .val (.int (-1 : Int32))] [(.int xi)])) (fun _ hr => XS.iloadN X0.here hx rfl (hb hby d1_57) rfl hr) ?_
          refine own_go (B := s₁.setTop (mkF m 60 #[.val (.int xi), .val (.int (-1 : Int32))] [(.int (65 : Int32)), (.int xi)])) (fun _ hr => XT.bipushV X0.here hx rfl (65 : Int32) (hb hby d1_58) (by decide) hr) ?_
          refine own_go (B := s₁.setTop (mkF m 61 #[.val (.int xi), .val (.int (-1 : Int32))] [(.int (xi - (65 : Int32)))])) (fun _ hr => XS.isub X0.here hx rfl (hb hby d1_60) rfl hr) ?_
          refine own_go (B := s₁.setTop (mkF m 63 #[.val (.int xi), .val (.int (-1 : Int32))] [(.int (10 : Int32)), (.int (xi - (65 : Int32)))])) (fun _ hr => XT.bipushV X0.here hx rfl (10 : Int32) (hb hby d1_61) (by decide) hr) ?_
          refine own_go (B := s₁.setTop (mkF m 64 #[.val (.int xi), .val (.int (-1 : Int32))] [(.int ((xi - (65 : Int32)) + (10 : Int32)))])) (fun _ hr => XS.iadd X0.here hx rfl (hb hby d1_63) rfl hr) ?_
          refine own_go (B := s₁.setTop (mkF m 65 #[.val (.int xi), .val (.int ((xi - (65 : Int32)) + (10 : Int32)))] [])) (fun _ hr => XS.istoreN X0.here hx rfl (hb hby d1_64) rfl (l' := #[.val (.int xi), .val (.int ((xi - (65 : Int32)) + (10 : Int32)))]) rfl hr) ?_
          refine own_go (B := s₁.setTop (mkF m 66 #[.val (.int xi), .val (.int ((xi - (65 : Int32)) + (10 : Int32)))] [(.int ((xi - (65 : Int32)) + (10 : Int32)))])) (fun _ hr => XS.iloadN X0.here hx rfl (hb hby d1_65) rfl hr) ?_
          exact own_retI X0 hx hlk hret  (hb hby d1_66) (by decide) (by decide) ⟨by simp only [own_hex, if_pos c15, if_pos c16, if_neg c17, if_neg c18], N0, e0⟩
    · refine own_go (B := s₁.setTop (mkF m 28 #[.val (.int xi), .val (.int (-1 : Int32))] [])) (fun _ hr => XS.icmpNo X0.here hx rfl (hb hby d1_25) rfl (XT.ii_lt_f c16) hr) ?_
      refine own_go (B := s₁.setTop (mkF m 29 #[.val (.int xi), .val (.int (-1 : Int32))] [(.int xi)])) (fun _ hr => XS.iloadN X0.here hx rfl (hb hby d1_28) rfl hr) ?_
      refine own_go (B := s₁.setTop (mkF m 31 #[.val (.int xi), .val (.int (-1 : Int32))] [(.int (102 : Int32)), (.int xi)])) (fun _ hr => XT.bipushV X0.here hx rfl (102 : Int32) (hb hby d1_29) (by decide) hr) ?_
      by_cases c19 : (102 : Int32) < xi
      · refine own_go (B := s₁.setTop (mkF m 45 #[.val (.int xi), .val (.int (-1 : Int32))] [])) (fun _ hr => XS.icmpYes X0.here hx rfl (pc0 := 31) (pc' := 45) rfl (hb hby d1_31) rfl (XT.ii_gt_t c19) (by decide) (by decide) hr) ?_
        refine own_go (B := s₁.setTop (mkF m 46 #[.val (.int xi), .val (.int (-1 : Int32))] [(.int xi)])) (fun _ hr => XS.iloadN X0.here hx rfl (hb hby d1_45) rfl hr) ?_
        refine own_go (B := s₁.setTop (mkF m 48 #[.val (.int xi), .val (.int (-1 : Int32))] [(.int (65 : Int32)), (.int xi)])) (fun _ hr => XT.bipushV X0.here hx rfl (65 : Int32) (hb hby d1_46) (by decide) hr) ?_
        by_cases c20 : xi < (65 : Int32)
        · refine own_go (B := s₁.setTop (mkF m 65 #[.val (.int xi), .val (.int (-1 : Int32))] [])) (fun _ hr => XS.icmpYes X0.here hx rfl (pc0 := 48) (pc' := 65) rfl (hb hby d1_48) rfl (XT.ii_lt_t c20) (by decide) (by decide) hr) ?_
          refine own_go (B := s₁.setTop (mkF m 66 #[.val (.int xi), .val (.int (-1 : Int32))] [(.int (-1 : Int32))])) (fun _ hr => XS.iloadN X0.here hx rfl (hb hby d1_65) rfl hr) ?_
          exact own_retI X0 hx hlk hret  (hb hby d1_66) (by decide) (by decide) ⟨by simp only [own_hex, if_pos c15, if_neg c16, if_pos c19, if_pos c20], N0, e0⟩
        · refine own_go (B := s₁.setTop (mkF m 51 #[.val (.int xi), .val (.int (-1 : Int32))] [])) (fun _ hr => XS.icmpNo X0.here hx rfl (hb hby d1_48) rfl (XT.ii_lt_f c20) hr) ?_
          refine own_go (B := s₁.setTop (mkF m 52 #[.val (.int xi), .val (.int (-1 : Int32))] [(.int xi)])) (fun _ hr => XS.iloadN X0.here hx rfl (hb hby d1_51) rfl hr) ?_
          refine own_go (B := s₁.setTop (mkF m 54 #[.val (.int xi), .val (.int (-1 : Int32))] [(.int (70 : Int32)), (.int xi)])) (fun _ hr => XT.bipushV X0.here hx rfl (70 : Int32) (hb hby d1_52) (by decide) hr) ?_
          by_cases c21 : (70 : Int32) < xi
          · refine own_go (B := s₁.setTop (mkF m 65 #[.val (.int xi), .val (.int (-1 : Int32))] [])) (fun _ hr => XS.icmpYes X0.here hx rfl (pc0 := 54) (pc' := 65) rfl (hb hby d1_54) rfl (XT.ii_gt_t c21) (by decide) (by decide) hr) ?_
            refine own_go (B := s₁.setTop (mkF m 66 #[.val (.int xi), .val (.int (-1 : Int32))] [(.int (-1 : Int32))])) (fun _ hr => XS.iloadN X0.here hx rfl (hb hby d1_65) rfl hr) ?_
            exact own_retI X0 hx hlk hret  (hb hby d1_66) (by decide) (by decide) ⟨by simp only [own_hex, if_pos c15, if_neg c16, if_pos c19, if_neg c20, if_pos c21], N0, e0⟩
          · refine own_go (B := s₁.setTop (mkF m 57 #[.val (.int xi), .val (.int (-1 : Int32))] [])) (fun _ hr => XS.icmpNo X0.here hx rfl (hb hby d1_54) rfl (XT.ii_gt_f c21) hr) ?_
            refine own_go (B := s₁.setTop (mkF m 58 #[.val (.int xi), .val (.int (-1 : Int32))] [(.int xi)])) (fun _ hr => XS.iloadN X0.here hx rfl (hb hby d1_57) rfl hr) ?_
            refine own_go (B := s₁.setTop (mkF m 60 #[.val (.int xi), .val (.int (-1 : Int32))] [(.int (65 : Int32)), (.int xi)])) (fun _ hr => XT.bipushV X0.here hx rfl (65 : Int32) (hb hby d1_58) (by decide) hr) ?_
            refine own_go (B := s₁.setTop (mkF m 61 #[.val (.int xi), .val (.int (-1 : Int32))] [(.int (xi - (65 : Int32)))])) (fun _ hr => XS.isub X0.here hx rfl (hb hby d1_60) rfl hr) ?_
            refine own_go (B := s₁.setTop (mkF m 63 #[.val (.int xi), .val (.int (-1 : Int32))] [(.int (10 : Int32)), (.int (xi - (65 : Int32)))])) (fun _ hr => XT.bipushV X0.here hx rfl (10 : Int32) (hb hby d1_61) (by decide) hr) ?_
            refine own_go (B := s₁.setTop (mkF m 64 #[.val (.int xi), .val (.int (-1 : Int32))] [(.int ((xi - (65 : Int32)) + (10 : Int32)))])) (fun _ hr => XS.iadd X0.here hx rfl (hb hby d1_63) rfl hr) ?_
            refine own_go (B := s₁.setTop (mkF m 65 #[.val (.int xi), .val (.int ((xi - (65 : Int32)) + (10 : Int32)))] [])) (fun _ hr => XS.istoreN X0.here hx rfl (hb hby d1_64) rfl (l' := #[.val (.int xi), .val (.int ((xi - (65 : Int32)) + (10 : Int32)))]) rfl hr) ?_
            refine own_go (B := s₁.setTop (mkF m 66 #[.val (.int xi), .val (.int ((xi - (65 : Int32)) + (10 : Int32)))] [(.int ((xi - (65 : Int32)) + (10 : Int32)))])) (fun _ hr => XS.iloadN X0.here hx rfl (hb hby d1_65) rfl hr) ?_
            exact own_retI X0 hx hlk hret  (hb hby d1_66) (by decide) (by decide) ⟨by simp only [own_hex, if_pos c15, if_neg c16, if_pos c19, if_neg c20, if_neg c21], N0, e0⟩
      · refine own_go (B := s₁.setTop (mkF m 34 #[.val (.int xi), .val (.int (-1 : Int32))] [])) (fun _ hr => XS.icmpNo X0.here hx rfl (hb hby d1_31) rfl (XT.ii_gt_f c19) hr) ?_
        refine own_go (B := s₁.setTop (mkF m 35 #[.val (.int xi), .val (.int (-1 : Int32))] [(.int xi)])) (fun _ hr => XS.iloadN X0.here hx rfl (hb hby d1_34) rfl hr) ?_
        refine own_go (B := s₁.setTop (mkF m 37 #[.val (.int xi), .val (.int (-1 : Int32))] [(.int (97 : Int32)), (.int xi)])) (fun _ hr => XT.bipushV X0.here hx rfl (97 : Int32) (hb hby d1_35) (by decide) hr) ?_
        refine own_go (B := s₁.setTop (mkF m 38 #[.val (.int xi), .val (.int (-1 : Int32))] [(.int (xi - (97 : Int32)))])) (fun _ hr => XS.isub X0.here hx rfl (hb hby d1_37) rfl hr) ?_
        refine own_go (B := s₁.setTop (mkF m 40 #[.val (.int xi), .val (.int (-1 : Int32))] [(.int (10 : Int32)), (.int (xi - (97 : Int32)))])) (fun _ hr => XT.bipushV X0.here hx rfl (10 : Int32) (hb hby d1_38) (by decide) hr) ?_
        refine own_go (B := s₁.setTop (mkF m 41 #[.val (.int xi), .val (.int (-1 : Int32))] [(.int ((xi - (97 : Int32)) + (10 : Int32)))])) (fun _ hr => XS.iadd X0.here hx rfl (hb hby d1_40) rfl hr) ?_
        refine own_go (B := s₁.setTop (mkF m 42 #[.val (.int xi), .val (.int ((xi - (97 : Int32)) + (10 : Int32)))] [])) (fun _ hr => XS.istoreN X0.here hx rfl (hb hby d1_41) rfl (l' := #[.val (.int xi), .val (.int ((xi - (97 : Int32)) + (10 : Int32)))]) rfl hr) ?_
        refine own_go (B := s₁.setTop (mkF m 65 #[.val (.int xi), .val (.int ((xi - (97 : Int32)) + (10 : Int32)))] [])) (fun _ hr => XS.goto X0.here hx rfl (pc0 := 42) (pc' := 65) rfl (hb hby d1_42) (by decide) (by decide) hr) ?_
        refine own_go (B := s₁.setTop (mkF m 66 #[.val (.int xi), .val (.int ((xi - (97 : Int32)) + (10 : Int32)))] [(.int ((xi - (97 : Int32)) + (10 : Int32)))])) (fun _ hr => XS.iloadN X0.here hx rfl (hb hby d1_65) rfl hr) ?_
        exact own_retI X0 hx hlk hret  (hb hby d1_66) (by decide) (by decide) ⟨by simp only [own_hex, if_pos c15, if_neg c16, if_neg c19], N0, e0⟩
  · refine own_go (B := s₁.setTop (mkF m 8 #[.val (.int xi), .val (.int (-1 : Int32))] [])) (fun _ hr => XS.icmpNo X0.here hx rfl (hb hby d1_5) rfl (XT.ii_lt_f c15) hr) ?_
    refine own_go (B := s₁.setTop (mkF m 9 #[.val (.int xi), .val (.int (-1 : Int32))] [(.int xi)])) (fun _ hr => XS.iloadN X0.here hx rfl (hb hby d1_8) rfl hr) ?_
    refine own_go (B := s₁.setTop (mkF m 11 #[.val (.int xi), .val (.int (-1 : Int32))] [(.int (57 : Int32)), (.int xi)])) (fun _ hr => XT.bipushV X0.here hx rfl (57 : Int32) (hb hby d1_9) (by decide) hr) ?_
    by_cases c22 : (57 : Int32) < xi
    · refine own_go (B := s₁.setTop (mkF m 22 #[.val (.int xi), .val (.int (-1 : Int32))] [])) (fun _ hr => XS.icmpYes X0.here hx rfl (pc0 := 11) (pc' := 22) rfl (hb hby d1_11) rfl (XT.ii_gt_t c22) (by decide) (by decide) hr) ?_
      refine own_go (B := s₁.setTop (mkF m 23 #[.val (.int xi), .val (.int (-1 : Int32))] [(.int xi)])) (fun _ hr => XS.iloadN X0.here hx rfl (hb hby d1_22) rfl hr) ?_
      refine own_go (B := s₁.setTop (mkF m 25 #[.val (.int xi), .val (.int (-1 : Int32))] [(.int (97 : Int32)), (.int xi)])) (fun _ hr => XT.bipushV X0.here hx rfl (97 : Int32) (hb hby d1_23) (by decide) hr) ?_
      by_cases c23 : xi < (97 : Int32)
      · refine own_go (B := s₁.setTop (mkF m 45 #[.val (.int xi), .val (.int (-1 : Int32))] [])) (fun _ hr => XS.icmpYes X0.here hx rfl (pc0 := 25) (pc' := 45) rfl (hb hby d1_25) rfl (XT.ii_lt_t c23) (by decide) (by decide) hr) ?_
        refine own_go (B := s₁.setTop (mkF m 46 #[.val (.int xi), .val (.int (-1 : Int32))] [(.int xi)])) (fun _ hr => XS.iloadN X0.here hx rfl (hb hby d1_45) rfl hr) ?_
        refine own_go (B := s₁.setTop (mkF m 48 #[.val (.int xi), .val (.int (-1 : Int32))] [(.int (65 : Int32)), (.int xi)])) (fun _ hr => XT.bipushV X0.here hx rfl (65 : Int32) (hb hby d1_46) (by decide) hr) ?_
        by_cases c24 : xi < (65 : Int32)
        · refine own_go (B := s₁.setTop (mkF m 65 #[.val (.int xi), .val (.int (-1 : Int32))] [])) (fun _ hr => XS.icmpYes X0.here hx rfl (pc0 := 48) (pc' := 65) rfl (hb hby d1_48) rfl (XT.ii_lt_t c24) (by decide) (by decide) hr) ?_
          refine own_go (B := s₁.setTop (mkF m 66 #[.val (.int xi), .val (.int (-1 : Int32))] [(.int (-1 : Int32))])) (fun _ hr => XS.iloadN X0.here hx rfl (hb hby d1_65) rfl hr) ?_
          exact own_retI X0 hx hlk hret  (hb hby d1_66) (by decide) (by decide) ⟨by simp only [own_hex, if_neg c15, if_pos c22, if_pos c23, if_pos c24], N0, e0⟩
        · refine own_go (B := s₁.setTop (mkF m 51 #[.val (.int xi), .val (.int (-1 : Int32))] [])) (fun _ hr => XS.icmpNo X0.here hx rfl (hb hby d1_48) rfl (XT.ii_lt_f c24) hr) ?_
          refine own_go (B := s₁.setTop (mkF m 52 #[.val (.int xi), .val (.int (-1 : Int32))] [(.int xi)])) (fun _ hr => XS.iloadN X0.here hx rfl (hb hby d1_51) rfl hr) ?_
          refine own_go (B := s₁.setTop (mkF m 54 #[.val (.int xi), .val (.int (-1 : Int32))] [(.int (70 : Int32)), (.int xi)])) (fun _ hr => XT.bipushV X0.here hx rfl (70 : Int32) (hb hby d1_52) (by decide) hr) ?_
          by_cases c25 : (70 : Int32) < xi
          · refine own_go (B := s₁.setTop (mkF m 65 #[.val (.int xi), .val (.int (-1 : Int32))] [])) (fun _ hr => XS.icmpYes X0.here hx rfl (pc0 := 54) (pc' := 65) rfl (hb hby d1_54) rfl (XT.ii_gt_t c25) (by decide) (by decide) hr) ?_
            refine own_go (B := s₁.setTop (mkF m 66 #[.val (.int xi), .val (.int (-1 : Int32))] [(.int (-1 : Int32))])) (fun _ hr => XS.iloadN X0.here hx rfl (hb hby d1_65) rfl hr) ?_
            exact own_retI X0 hx hlk hret  (hb hby d1_66) (by decide) (by decide) ⟨by simp only [own_hex, if_neg c15, if_pos c22, if_pos c23, if_neg c24, if_pos c25], N0, e0⟩
          · refine own_go (B := s₁.setTop (mkF m 57 #[.val (.int xi), .val (.int (-1 : Int32))] [])) (fun _ hr => XS.icmpNo X0.here hx rfl (hb hby d1_54) rfl (XT.ii_gt_f c25) hr) ?_
            refine own_go (B := s₁.setTop (mkF m 58 #[.val (.int xi), .val (.int (-1 : Int32))] [(.int xi)])) (fun _ hr => XS.iloadN X0.here hx rfl (hb hby d1_57) rfl hr) ?_
            refine own_go (B := s₁.setTop (mkF m 60 #[.val (.int xi), .val (.int (-1 : Int32))] [(.int (65 : Int32)), (.int xi)])) (fun _ hr => XT.bipushV X0.here hx rfl (65 : Int32) (hb hby d1_58) (by decide) hr) ?_
            refine own_go (B := s₁.setTop (mkF m 61 #[.val (.int xi), .val (.int (-1 : Int32))] [(.int (xi - (65 : Int32)))])) (fun _ hr => XS.isub X0.here hx rfl (hb hby d1_60) rfl hr) ?_
            refine own_go (B := s₁.setTop (mkF m 63 #[.val (.int xi), .val (.int (-1 : Int32))] [(.int (10 : Int32)), (.int (xi - (65 : Int32)))])) (fun _ hr => XT.bipushV X0.here hx rfl (10 : Int32) (hb hby d1_61) (by decide) hr) ?_
            refine own_go (B := s₁.setTop (mkF m 64 #[.val (.int xi), .val (.int (-1 : Int32))] [(.int ((xi - (65 : Int32)) + (10 : Int32)))])) (fun _ hr => XS.iadd X0.here hx rfl (hb hby d1_63) rfl hr) ?_
            refine own_go (B := s₁.setTop (mkF m 65 #[.val (.int xi), .val (.int ((xi - (65 : Int32)) + (10 : Int32)))] [])) (fun _ hr => XS.istoreN X0.here hx rfl (hb hby d1_64) rfl (l' := #[.val (.int xi), .val (.int ((xi - (65 : Int32)) + (10 : Int32)))]) rfl hr) ?_
            refine own_go (B := s₁.setTop (mkF m 66 #[.val (.int xi), .val (.int ((xi - (65 : Int32)) + (10 : Int32)))] [(.int ((xi - (65 : Int32)) + (10 : Int32)))])) (fun _ hr => XS.iloadN X0.here hx rfl (hb hby d1_65) rfl hr) ?_
            exact own_retI X0 hx hlk hret  (hb hby d1_66) (by decide) (by decide) ⟨by simp only [own_hex, if_neg c15, if_pos c22, if_pos c23, if_neg c24, if_neg c25], N0, e0⟩
      · refine own_go (B := s₁.setTop (mkF m 28 #[.val (.int xi), .val (.int (-1 : Int32))] [])) (fun _ hr => XS.icmpNo X0.here hx rfl (hb hby d1_25) rfl (XT.ii_lt_f c23) hr) ?_
        refine own_go (B := s₁.setTop (mkF m 29 #[.val (.int xi), .val (.int (-1 : Int32))] [(.int xi)])) (fun _ hr => XS.iloadN X0.here hx rfl (hb hby d1_28) rfl hr) ?_
        refine own_go (B := s₁.setTop (mkF m 31 #[.val (.int xi), .val (.int (-1 : Int32))] [(.int (102 : Int32)), (.int xi)])) (fun _ hr => XT.bipushV X0.here hx rfl (102 : Int32) (hb hby d1_29) (by decide) hr) ?_
        by_cases c26 : (102 : Int32) < xi
        · refine own_go (B := s₁.setTop (mkF m 45 #[.val (.int xi), .val (.int (-1 : Int32))] [])) (fun _ hr => XS.icmpYes X0.here hx rfl (pc0 := 31) (pc' := 45) rfl (hb hby d1_31) rfl (XT.ii_gt_t c26) (by decide) (by decide) hr) ?_
          refine own_go (B := s₁.setTop (mkF m 46 #[.val (.int xi), .val (.int (-1 : Int32))] [(.int xi)])) (fun _ hr => XS.iloadN X0.here hx rfl (hb hby d1_45) rfl hr) ?_
          refine own_go (B := s₁.setTop (mkF m 48 #[.val (.int xi), .val (.int (-1 : Int32))] [(.int (65 : Int32)), (.int xi)])) (fun _ hr => XT.bipushV X0.here hx rfl (65 : Int32) (hb hby d1_46) (by decide) hr) ?_
          by_cases c27 : xi < (65 : Int32)
          · refine own_go (B := s₁.setTop (mkF m 65 #[.val (.int xi), .val (.int (-1 : Int32))] [])) (fun _ hr => XS.icmpYes X0.here hx rfl (pc0 := 48) (pc' := 65) rfl (hb hby d1_48) rfl (XT.ii_lt_t c27) (by decide) (by decide) hr) ?_
            refine own_go (B := s₁.setTop (mkF m 66 #[.val (.int xi), .val (.int (-1 : Int32))] [(.int (-1 : Int32))])) (fun _ hr => XS.iloadN X0.here hx rfl (hb hby d1_65) rfl hr) ?_
            exact own_retI X0 hx hlk hret  (hb hby d1_66) (by decide) (by decide) ⟨by simp only [own_hex, if_neg c15, if_pos c22, if_neg c23, if_pos c26, if_pos c27], N0, e0⟩
          · refine own_go (B := s₁.setTop (mkF m 51 #[.val (.int xi), .val (.int (-1 : Int32))] [])) (fun _ hr => XS.icmpNo X0.here hx rfl (hb hby d1_48) rfl (XT.ii_lt_f c27) hr) ?_
            refine own_go (B := s₁.setTop (mkF m 52 #[.val (.int xi), .val (.int (-1 : Int32))] [(.int xi)])) (fun _ hr => XS.iloadN X0.here hx rfl (hb hby d1_51) rfl hr) ?_
            refine own_go (B := s₁.setTop (mkF m 54 #[.val (.int xi), .val (.int (-1 : Int32))] [(.int (70 : Int32)), (.int xi)])) (fun _ hr => XT.bipushV X0.here hx rfl (70 : Int32) (hb hby d1_52) (by decide) hr) ?_
            by_cases c28 : (70 : Int32) < xi
            · refine own_go (B := s₁.setTop (mkF m 65 #[.val (.int xi), .val (.int (-1 : Int32))] [])) (fun _ hr => XS.icmpYes X0.here hx rfl (pc0 := 54) (pc' := 65) rfl (hb hby d1_54) rfl (XT.ii_gt_t c28) (by decide) (by decide) hr) ?_
              refine own_go (B := s₁.setTop (mkF m 66 #[.val (.int xi), .val (.int (-1 : Int32))] [(.int (-1 : Int32))])) (fun _ hr => XS.iloadN X0.here hx rfl (hb hby d1_65) rfl hr) ?_
              exact own_retI X0 hx hlk hret  (hb hby d1_66) (by decide) (by decide) ⟨by simp only [own_hex, if_neg c15, if_pos c22, if_neg c23, if_pos c26, if_neg c27, if_pos c28], N0, e0⟩
            · refine own_go (B := s₁.setTop (mkF m 57 #[.val (.int xi), .val (.int (-1 : Int32))] [])) (fun _ hr => XS.icmpNo X0.here hx rfl (hb hby d1_54) rfl (XT.ii_gt_f c28) hr) ?_
              refine own_go (B := s₁.setTop (mkF m 58 #[.val (.int xi), .val (.int (-1 : Int32))] [(.int xi)])) (fun _ hr => XS.iloadN X0.here hx rfl (hb hby d1_57) rfl hr) ?_
              refine own_go (B := s₁.setTop (mkF m 60 #[.val (.int xi), .val (.int (-1 : Int32))] [(.int (65 : Int32)), (.int xi)])) (fun _ hr => XT.bipushV X0.here hx rfl (65 : Int32) (hb hby d1_58) (by decide) hr) ?_
              refine own_go (B := s₁.setTop (mkF m 61 #[.val (.int xi), .val (.int (-1 : Int32))] [(.int (xi - (65 : Int32)))])) (fun _ hr => XS.isub X0.here hx rfl (hb hby d1_60) rfl hr) ?_
              refine own_go (B := s₁.setTop (mkF m 63 #[.val (.int xi), .val (.int (-1 : Int32))] [(.int (10 : Int32)), (.int (xi - (65 : Int32)))])) (fun _ hr => XT.bipushV X0.here hx rfl (10 : Int32) (hb hby d1_61) (by decide) hr) ?_
              refine own_go (B := s₁.setTop (mkF m 64 #[.val (.int xi), .val (.int (-1 : Int32))] [(.int ((xi - (65 : Int32)) + (10 : Int32)))])) (fun _ hr => XS.iadd X0.here hx rfl (hb hby d1_63) rfl hr) ?_
              refine own_go (B := s₁.setTop (mkF m 65 #[.val (.int xi), .val (.int ((xi - (65 : Int32)) + (10 : Int32)))] [])) (fun _ hr => XS.istoreN X0.here hx rfl (hb hby d1_64) rfl (l' := #[.val (.int xi), .val (.int ((xi - (65 : Int32)) + (10 : Int32)))]) rfl hr) ?_
              refine own_go (B := s₁.setTop (mkF m 66 #[.val (.int xi), .val (.int ((xi - (65 : Int32)) + (10 : Int32)))] [(.int ((xi - (65 : Int32)) + (10 : Int32)))])) (fun _ hr => XS.iloadN X0.here hx rfl (hb hby d1_65) rfl hr) ?_
              exact own_retI X0 hx hlk hret  (hb hby d1_66) (by decide) (by decide) ⟨by simp only [own_hex, if_neg c15, if_pos c22, if_neg c23, if_pos c26, if_neg c27, if_neg c28], N0, e0⟩
        · refine own_go (B := s₁.setTop (mkF m 34 #[.val (.int xi), .val (.int (-1 : Int32))] [])) (fun _ hr => XS.icmpNo X0.here hx rfl (hb hby d1_31) rfl (XT.ii_gt_f c26) hr) ?_
          refine own_go (B := s₁.setTop (mkF m 35 #[.val (.int xi), .val (.int (-1 : Int32))] [(.int xi)])) (fun _ hr => XS.iloadN X0.here hx rfl (hb hby d1_34) rfl hr) ?_
          refine own_go (B := s₁.setTop (mkF m 37 #[.val (.int xi), .val (.int (-1 : Int32))] [(.int (97 : Int32)), (.int xi)])) (fun _ hr => XT.bipushV X0.here hx rfl (97 : Int32) (hb hby d1_35) (by decide) hr) ?_
          refine own_go (B := s₁.setTop (mkF m 38 #[.val (.int xi), .val (.int (-1 : Int32))] [(.int (xi - (97 : Int32)))])) (fun _ hr => XS.isub X0.here hx rfl (hb hby d1_37) rfl hr) ?_
          refine own_go (B := s₁.setTop (mkF m 40 #[.val (.int xi), .val (.int (-1 : Int32))] [(.int (10 : Int32)), (.int (xi - (97 : Int32)))])) (fun _ hr => XT.bipushV X0.here hx rfl (10 : Int32) (hb hby d1_38) (by decide) hr) ?_
          refine own_go (B := s₁.setTop (mkF m 41 #[.val (.int xi), .val (.int (-1 : Int32))] [(.int ((xi - (97 : Int32)) + (10 : Int32)))])) (fun _ hr => XS.iadd X0.here hx rfl (hb hby d1_40) rfl hr) ?_
          refine own_go (B := s₁.setTop (mkF m 42 #[.val (.int xi), .val (.int ((xi - (97 : Int32)) + (10 : Int32)))] [])) (fun _ hr => XS.istoreN X0.here hx rfl (hb hby d1_41) rfl (l' := #[.val (.int xi), .val (.int ((xi - (97 : Int32)) + (10 : Int32)))]) rfl hr) ?_
          refine own_go (B := s₁.setTop (mkF m 65 #[.val (.int xi), .val (.int ((xi - (97 : Int32)) + (10 : Int32)))] [])) (fun _ hr => XS.goto X0.here hx rfl (pc0 := 42) (pc' := 65) rfl (hb hby d1_42) (by decide) (by decide) hr) ?_
          refine own_go (B := s₁.setTop (mkF m 66 #[.val (.int xi), .val (.int ((xi - (97 : Int32)) + (10 : Int32)))] [(.int ((xi - (97 : Int32)) + (10 : Int32)))])) (fun _ hr => XS.iloadN X0.here hx rfl (hb hby d1_65) rfl hr) ?_
          exact own_retI X0 hx hlk hret  (hb hby d1_66) (by decide) (by decide) ⟨by simp only [own_hex, if_neg c15, if_pos c22, if_neg c23, if_neg c26], N0, e0⟩
    · refine own_go (B := s₁.setTop (mkF m 14 #[.val (.int xi), .val (.int (-1 : Int32))] [])) (fun _ hr => XS.icmpNo X0.here hx rfl (hb hby d1_11) rfl (XT.ii_gt_f c22) hr) ?_
      refine own_go (B := s₁.setTop (mkF m 15 #[.val (.int xi), .val (.int (-1 : Int32))] [(.int xi)])) (fun _ hr => XS.iloadN X0.here hx rfl (hb hby d1_14) rfl hr) ?_
      refine own_go (B := s₁.setTop (mkF m 17 #[.val (.int xi), .val (.int (-1 : Int32))] [(.int (48 : Int32)), (.int xi)])) (fun _ hr => XT.bipushV X0.here hx rfl (48 : Int32) (hb hby d1_15) (by decide) hr) ?_
      refine own_go (B := s₁.setTop (mkF m 18 #[.val (.int xi), .val (.int (-1 : Int32))] [(.int (xi - (48 : Int32)))])) (fun _ hr => XS.isub X0.here hx rfl (hb hby d1_17) rfl hr) ?_
      refine own_go (B := s₁.setTop (mkF m 19 #[.val (.int xi), .val (.int (xi - (48 : Int32)))] [])) (fun _ hr => XS.istoreN X0.here hx rfl (hb hby d1_18) rfl (l' := #[.val (.int xi), .val (.int (xi - (48 : Int32)))]) rfl hr) ?_
      refine own_go (B := s₁.setTop (mkF m 65 #[.val (.int xi), .val (.int (xi - (48 : Int32)))] [])) (fun _ hr => XS.goto X0.here hx rfl (pc0 := 19) (pc' := 65) rfl (hb hby d1_19) (by decide) (by decide) hr) ?_
      refine own_go (B := s₁.setTop (mkF m 66 #[.val (.int xi), .val (.int (xi - (48 : Int32)))] [(.int (xi - (48 : Int32)))])) (fun _ hr => XS.iloadN X0.here hx rfl (hb hby d1_65) rfl hr) ?_
      exact own_retI X0 hx hlk hret  (hb hby d1_66) (by decide) (by decide) ⟨by simp only [own_hex, if_neg c15, if_neg c22], N0, e0⟩
theorem pn_law : plainName "com/example/vetted_values/vettedvalues/write/NumberGrammarHexDigitValuePinLaw" = true := by first | (simp [plainName, overriddenIn]; done) | decide +kernel
theorem ef_law (m : MethodId) (x0 : Int32) (x1 : Int32) (x2 : Int32) : entryFrame m #[(.int x0), (.int x1), (.int x2)] maxLocals = mkF m 0 #[.val (.int x0), .val (.int x1), .val (.int x2), .unset, .unset, .unset, .unset, .unset, .unset] [] := by first | (simp [entryFrame, mkF, argsToLocals, Value.category, maxLocals]; done) | rfl
def Q_law (Z : State) (xi : Int32) (di : Int32) (fi : Int32) (h0 : Heap) (n0 : Nat) (v : Option Value) (h : Heap) (L : List Loc) : Prop := v = some (.int 1) ∧ Fr n0 L
def own_up (fi : Int32) : Int32 := (if (fi &&& (1 : Int32)) = 0 then (0 : Int32) else (1 : Int32))
def own_c (dd : Int32) (up : Int32) : Int32 := (if dd < (10 : Int32) then ((48 : Int32) + dd) else (if up = 0 then ((97 : Int32) + (dd - (10 : Int32))) else ((65 : Int32) + (dd - (10 : Int32)))))
def own_res (xi : Int32) (rr : Int32) : Int32 := (if rr < (-1 : Int32) then (0 : Int32) else (if (15 : Int32) < rr then (0 : Int32) else (if rr = (-1 : Int32) then (1 : Int32) else (if rr < (10 : Int32) then (if xi = ((48 : Int32) + rr) then (1 : Int32) else (0 : Int32)) else (if xi = ((97 : Int32) + (rr - (10 : Int32))) then (1 : Int32) else (if xi = ((65 : Int32) + (rr - (10 : Int32))) then (1 : Int32) else (0 : Int32)))))))
theorem own_first (di fi : Int32) : own_hex (own_c (di &&& 15) (own_up fi)) = di &&& 15 := by
  have h1 : (di &&& 15).toInt = di.toInt % 16 := Jvm.Kit.i32_mask di 15 (k := 4) (by decide) (by decide)
  generalize di &&& 15 = d at h1 ⊢
  have h2 : own_up fi = 0 ∨ own_up fi = 1 := by
    simp only [own_up]
    split
    · exact Or.inl rfl
    · exact Or.inr rfl
  have h3 : d.toInt = 0 ∨ d.toInt = 1 ∨ d.toInt = 2 ∨ d.toInt = 3 ∨ d.toInt = 4 ∨ d.toInt = 5 ∨ d.toInt = 6 ∨ d.toInt = 7 ∨ d.toInt = 8 ∨ d.toInt = 9 ∨ d.toInt = 10 ∨ d.toInt = 11 ∨ d.toInt = 12 ∨ d.toInt = 13 ∨ d.toInt = 14 ∨ d.toInt = 15 := by omega
  generalize own_up fi = u at h2 ⊢
  have k : ∀ z : Int32, d.toInt = z.toInt → d = z := fun z h => Int32.toInt_inj.mp h
  rcases h3 with h | h | h | h | h | h | h | h | h | h | h | h | h | h | h | h
  · obtain rfl := k 0 h; rcases h2 with rfl | rfl <;> decide
  · obtain rfl := k 1 h; rcases h2 with rfl | rfl <;> decide
  · obtain rfl := k 2 h; rcases h2 with rfl | rfl <;> decide
  · obtain rfl := k 3 h; rcases h2 with rfl | rfl <;> decide
  · obtain rfl := k 4 h; rcases h2 with rfl | rfl <;> decide
  · obtain rfl := k 5 h; rcases h2 with rfl | rfl <;> decide
  · obtain rfl := k 6 h; rcases h2 with rfl | rfl <;> decide
  · obtain rfl := k 7 h; rcases h2 with rfl | rfl <;> decide
  · obtain rfl := k 8 h; rcases h2 with rfl | rfl <;> decide
  · obtain rfl := k 9 h; rcases h2 with rfl | rfl <;> decide
  · obtain rfl := k 10 h; rcases h2 with rfl | rfl <;> decide
  · obtain rfl := k 11 h; rcases h2 with rfl | rfl <;> decide
  · obtain rfl := k 12 h; rcases h2 with rfl | rfl <;> decide
  · obtain rfl := k 13 h; rcases h2 with rfl | rfl <;> decide
  · obtain rfl := k 14 h; rcases h2 with rfl | rfl <;> decide
  · obtain rfl := k 15 h; rcases h2 with rfl | rfl <;> decide
theorem own_res_one (x : Int32) : own_res x (own_hex x) = 1 := by
  rcases own_hex_spec x with h | ⟨a, b, h⟩ | ⟨a, b, h⟩ | ⟨a, b, h⟩
  · rw [h]; rfl
  · rw [h]
    have c1 := c_isub x 48
    have e1 : (48 : Int32).toInt = 48 := rfl
    have r1 := rng32 (x - 48)
    have q : (x - 48).toInt = x.toInt - 48 := by omega
    have n1 : ¬ x - 48 < (-1 : Int32) := by rw [Int32.lt_iff_toInt_lt, q]; show ¬ (x.toInt - 48 < -1); omega
    have n2 : ¬ (15 : Int32) < x - 48 := by rw [Int32.lt_iff_toInt_lt, q]; show ¬ (15 < x.toInt - 48); omega
    have n3 : ¬ x - 48 = (-1 : Int32) := by rw [← Int32.toInt_inj, q]; show ¬ (x.toInt - 48 = -1); omega
    have n4 : x - 48 < (10 : Int32) := by rw [Int32.lt_iff_toInt_lt, q]; show x.toInt - 48 < 10; omega
    have n5 : x = 48 + (x - 48) := by
      have c2 := c_iadd 48 (x - 48)
      have r2 := rng32 (48 + (x - 48))
      rw [← Int32.toInt_inj]; omega
    simp only [own_res, if_neg n1, if_neg n2, if_neg n3, if_pos n4, if_pos n5]
  · rw [h]
    have c1 := c_isub x 97
    have e1 : (97 : Int32).toInt = 97 := rfl
    have e2 : (10 : Int32).toInt = 10 := rfl
    have r1 := rng32 (x - 97)
    have c3 := c_iadd (x - 97) 10
    have r3 := rng32 (x - 97 + 10)
    have q : (x - 97 + 10).toInt = x.toInt - 87 := by omega
    have n1 : ¬ x - 97 + 10 < (-1 : Int32) := by rw [Int32.lt_iff_toInt_lt, q]; show ¬ (x.toInt - 87 < -1); omega
    have n2 : ¬ (15 : Int32) < x - 97 + 10 := by rw [Int32.lt_iff_toInt_lt, q]; show ¬ (15 < x.toInt - 87); omega
    have n3 : ¬ x - 97 + 10 = (-1 : Int32) := by rw [← Int32.toInt_inj, q]; show ¬ (x.toInt - 87 = -1); omega
    have n4 : ¬ x - 97 + 10 < (10 : Int32) := by rw [Int32.lt_iff_toInt_lt, q]; show ¬ (x.toInt - 87 < 10); omega
    have n5 : x = 97 + (x - 97 + 10 - 10) := by
      have c4 := c_isub (x - 97 + 10) 10
      have r4 := rng32 (x - 97 + 10 - 10)
      have c2 := c_iadd 97 (x - 97 + 10 - 10)
      have r2 := rng32 (97 + (x - 97 + 10 - 10))
      rw [← Int32.toInt_inj]; omega
    simp only [own_res, if_neg n1, if_neg n2, if_neg n3, if_neg n4, if_pos n5]
  · rw [h]
    have c1 := c_isub x 65
    have e1 : (65 : Int32).toInt = 65 := rfl
    have e2 : (10 : Int32).toInt = 10 := rfl
    have e3 : (97 : Int32).toInt = 97 := rfl
    have r1 := rng32 (x - 65)
    have c3 := c_iadd (x - 65) 10
    have r3 := rng32 (x - 65 + 10)
    have q : (x - 65 + 10).toInt = x.toInt - 55 := by omega
    have n1 : ¬ x - 65 + 10 < (-1 : Int32) := by rw [Int32.lt_iff_toInt_lt, q]; show ¬ (x.toInt - 55 < -1); omega
    have n2 : ¬ (15 : Int32) < x - 65 + 10 := by rw [Int32.lt_iff_toInt_lt, q]; show ¬ (15 < x.toInt - 55); omega
    have n3 : ¬ x - 65 + 10 = (-1 : Int32) := by rw [← Int32.toInt_inj, q]; show ¬ (x.toInt - 55 = -1); omega
    have n4 : ¬ x - 65 + 10 < (10 : Int32) := by rw [Int32.lt_iff_toInt_lt, q]; show ¬ (x.toInt - 55 < 10); omega
    have c4 := c_isub (x - 65 + 10) 10
    have r4 := rng32 (x - 65 + 10 - 10)
    have n5 : ¬ x = 97 + (x - 65 + 10 - 10) := by
      have c2 := c_iadd 97 (x - 65 + 10 - 10)
      have r2 := rng32 (97 + (x - 65 + 10 - 10))
      rw [← Int32.toInt_inj]; omega
    have n6 : x = 65 + (x - 65 + 10 - 10) := by
      have c2 := c_iadd 65 (x - 65 + 10 - 10)
      have r2 := rng32 (65 + (x - 65 + 10 - 10))
      rw [← Int32.toInt_inj]; omega
    simp only [own_res, if_neg n1, if_neg n2, if_neg n3, if_neg n4, if_neg n5, if_pos n6]
set_option maxRecDepth 65536 in
set_option maxHeartbeats 40000000 in
theorem rm_law (l : Launch) (Z : State) (a0 : Array Value) (hw : ∀ d ∈ tables_1, d.before a0 Z = true) (ws : List Jvm.Cond) (xi : Int32) (di : Int32) (fi : Int32) (h0 : Heap) (n0 : Nat) (Z0 : n0 ≤ h0.size)  :
    MetFree l x (head1 (Jvm.Cond.code x code maxLocals ret :: ws) room_1) (fun as U => as = #[(.int xi), (.int di), (.int fi)] ∧ Z.Warmed39 U.vm ∧ U.heap = h0) (fun _ _ _ _ _ => True) (fun _ U o U' => ∃ v L, o = .returned v ∧ Q_law Z xi di fi h0 n0 v U'.heap L ∧ FrameEnd U o U' L 0 0) := by
  refine MetFree.of_bodySF (plainFor_of_name pn_law) hisR ?_
  intro p e s m args below meth c s₁ Bd hml0 hP hK
  obtain ⟨rfl, hZ, hh⟩ := hP
  have hx := Bd.exec
  have hby := Bd.bytes
  have hml : c.maxLocals = 9 := hml0
  have hown : s.vm.findClass "com/example/vetted_values/vettedvalues/write/NumberGrammarHexDigitValuePinLaw" = some m.cls := findClass_of_methodNamed Bd.named
  have hnm := (name_of_methodNamed Bd.named Bd.method).1
  have hlk := BodyLoose.notSynchronized Bd
  have hret := Bd.returns
  have X0 : Stand p l e room_1 s m #[(.int xi), (.int di), (.int fi)] below meth c s₁ [] 0 0 := Stand.of_body Bd
  have e0 : s₁.heap = h0 := by rw [← hh, Bd.state]; rfl
  have N0 := Fr.nil n0
  show own_G p e below (own_P s below (Q_law Z xi di fi h0 n0) 0 0) _
  refine own_go (B := s₁.setTop (mkF m 0 #[.val (.int xi), .val (.int di), .val (.int fi), .unset, .unset, .unset, .unset, .unset, .unset] [])) (fun t k => castTop (ef_law m xi di fi) k) ?_
  refine own_go (B := s₁.setTop (mkF m 1 #[.val (.int xi), .val (.int di), .val (.int fi), .unset, .unset, .unset, .unset, .unset, .unset] [(.int di)])) (fun _ hr => XS.iloadN X0.here hx rfl (hb hby at_0) rfl hr) ?_
  refine own_go (B := s₁.setTop (mkF m 3 #[.val (.int xi), .val (.int di), .val (.int fi), .unset, .unset, .unset, .unset, .unset, .unset] [(.int (15 : Int32)), (.int di)])) (fun _ hr => XT.bipushV X0.here hx rfl (15 : Int32) (hb hby at_1) (by decide) hr) ?_
  refine own_go (B := s₁.setTop (mkF m 4 #[.val (.int xi), .val (.int di), .val (.int fi), .unset, .unset, .unset, .unset, .unset, .unset] [(.int (di &&& (15 : Int32)))])) (fun _ hr => XS.iand X0.here hx rfl (hb hby at_3) rfl hr) ?_
  refine own_go (B := s₁.setTop (mkF m 5 #[.val (.int xi), .val (.int di), .val (.int fi), .val (.int (di &&& (15 : Int32))), .unset, .unset, .unset, .unset, .unset] [])) (fun _ hr => XS.istoreN X0.here hx rfl (hb hby at_4) rfl (l' := #[.val (.int xi), .val (.int di), .val (.int fi), .val (.int (di &&& (15 : Int32))), .unset, .unset, .unset, .unset, .unset]) rfl hr) ?_
  obtain ⟨dd, hdd⟩ : ∃ z, z = di &&& (15 : Int32) := ⟨_, rfl⟩
  rw [← hdd]
  have hk31 : own_G p e below (own_P s below (Q_law Z xi di fi h0 n0) 0 0) (s₁.setTop (mkF m 16 #[.val (.int xi), .val (.int di), .val (.int fi), .val (.int dd), .unset, .unset, .unset, .unset, .unset] [(.int (own_up fi))])) := by
    refine own_go (B := s₁.setTop (mkF m 18 #[.val (.int xi), .val (.int di), .val (.int fi), .val (.int dd), .val (.int (own_up fi)), .unset, .unset, .unset, .unset] [])) (fun _ hr => XS.istore X0.here hx rfl (hb hby at_16) rfl (l' := #[.val (.int xi), .val (.int di), .val (.int fi), .val (.int dd), .val (.int (own_up fi)), .unset, .unset, .unset, .unset]) rfl hr) ?_
    obtain ⟨up, hup⟩ : ∃ z, z = own_up fi := ⟨_, rfl⟩
    rw [← hup]
    have hk36 : own_G p e below (own_P s below (Q_law Z xi di fi h0 n0) 0 0) (s₁.setTop (mkF m 59 #[.val (.int xi), .val (.int di), .val (.int fi), .val (.int dd), .val (.int up), .val (.int (own_c dd up)), .unset, .unset, .unset] [])) := by
      refine own_go (B := s₁.setTop (mkF m 61 #[.val (.int xi), .val (.int di), .val (.int fi), .val (.int dd), .val (.int up), .val (.int (own_c dd up)), .unset, .unset, .unset] [(.int (own_c dd up))])) (fun _ hr => XS.iload X0.here hx rfl (hb hby at_59) rfl hr) ?_
      obtain ⟨_, _, ⟨T37, L37, k37, n37⟩, -, X37, ⟨Lc37, hQ37, l37, y37, z37⟩, st37⟩ := Jvm.LawKit.callS X0 hx (y := (⟨"com/example/vetted_values/vettedvalues/write/NumberGrammar", "hexDigitValue", "(I)I"⟩ : MethodName)) hown (mvT hZ (hw _ (List.mem_of_getElem? (i := 0) rfl))) (mvT hZ (hw _ (List.mem_of_getElem? (i := 1) rfl))) (mvT hZ (hw _ (List.mem_of_getElem? (i := 2) rfl))) (mvT hZ (hw _ (List.mem_of_getElem? (i := 3) rfl))) (by decide) (backOf (W := 0) (rm_hex l Z a0 hw [] (own_c dd up) h0 n0 Z0) hZ (hw _ (List.mem_of_getElem? (i := 3) rfl)) (hw _ (List.mem_of_getElem? (i := 2) rfl)) (by decide) (by decide)) (g := (mkF m 61 #[.val (.int xi), .val (.int di), .val (.int fi), .val (.int dd), .val (.int up), .val (.int (own_c dd up)), .unset, .unset, .unset] [(.int (own_c dd up))])) rfl (by rw [hml]; rfl) (argsL := [(.int (own_c dd up))]) (rest := []) (lenOf pd_hex rfl) rfl (by show 2 * 0 + _ ≤ _; exact Nat.le_of_eq rfl) (hb hby at_61) (fun _ _ => ⟨rfl, e0, (by decide : 0 + 0 ≤ _), (by decide : 0 + 0 ≤ _)⟩)
      dsimp only [Pt.U, Pt.locs, Pt.cells, Pt.slots] at X37 l37 y37 z37 st37 hQ37
      subst l37 y37 z37
      obtain ⟨rfl, N37, e37⟩ := hQ37
      have M37 := Fr.app N0 N37
      refine own_go (B := T37.setTop (mkF m 64 #[.val (.int xi), .val (.int di), .val (.int fi), .val (.int dd), .val (.int up), .val (.int (own_c dd up)), .unset, .unset, .unset] [(.int (own_hex (own_c dd up)))])) (fun t hr => st37 t hr) ?_
      refine own_go (B := T37.setTop (mkF m 65 #[.val (.int xi), .val (.int di), .val (.int fi), .val (.int dd), .val (.int up), .val (.int (own_c dd up)), .unset, .unset, .unset] [(.int dd), (.int (own_hex (own_c dd up)))])) (fun _ hr => XS.iloadN X37.here hx rfl (hb hby at_64) rfl hr) ?_
      refine own_go (B := T37.setTop (mkF m 70 #[.val (.int xi), .val (.int di), .val (.int fi), .val (.int dd), .val (.int up), .val (.int (own_c dd up)), .unset, .unset, .unset] [])) (fun _ hr => XS.icmpYes X37.here hx rfl (pc0 := 65) (pc' := 70) rfl (hb hby at_65) rfl (XT.ii_eq_t (by rw [hdd, hup]; exact own_first di fi)) (by decide) (by decide) hr) ?_
      refine own_go (B := T37.setTop (mkF m 71 #[.val (.int xi), .val (.int di), .val (.int fi), .val (.int dd), .val (.int up), .val (.int (own_c dd up)), .unset, .unset, .unset] [(.int xi)])) (fun _ hr => XS.iloadN X37.here hx rfl (hb hby at_70) rfl hr) ?_
      obtain ⟨_, _, ⟨T38, L38, k38, n38⟩, -, X38, ⟨Lc38, hQ38, l38, y38, z38⟩, st38⟩ := Jvm.LawKit.callS X37 hx (y := (⟨"com/example/vetted_values/vettedvalues/write/NumberGrammar", "hexDigitValue", "(I)I"⟩ : MethodName)) hown (mvT hZ (hw _ (List.mem_of_getElem? (i := 0) rfl))) (mvT hZ (hw _ (List.mem_of_getElem? (i := 1) rfl))) (mvT hZ (hw _ (List.mem_of_getElem? (i := 2) rfl))) (mvT hZ (hw _ (List.mem_of_getElem? (i := 3) rfl))) (by decide) (backOf (W := 0) (rm_hex l Z a0 hw [] xi h0 n0 Z0) hZ (hw _ (List.mem_of_getElem? (i := 3) rfl)) (hw _ (List.mem_of_getElem? (i := 2) rfl)) (by decide) (by decide)) (g := (mkF m 71 #[.val (.int xi), .val (.int di), .val (.int fi), .val (.int dd), .val (.int up), .val (.int (own_c dd up)), .unset, .unset, .unset] [(.int xi)])) rfl (by rw [hml]; rfl) (argsL := [(.int xi)]) (rest := []) (lenOf pd_hex rfl) rfl (by show 2 * 0 + _ ≤ _; exact Nat.le_of_eq rfl) (hb hby at_71) (fun _ _ => ⟨rfl, e37, (by decide : 0 + 0 ≤ _), (by decide : 0 + 0 ≤ _)⟩)
      dsimp only [Pt.U, Pt.locs, Pt.cells, Pt.slots] at X38 l38 y38 z38 st38 hQ38
      subst l38 y38 z38
      obtain ⟨rfl, N38, e38⟩ := hQ38
      have M38 := Fr.app M37 N38
      refine own_go (B := T38.setTop (mkF m 74 #[.val (.int xi), .val (.int di), .val (.int fi), .val (.int dd), .val (.int up), .val (.int (own_c dd up)), .unset, .unset, .unset] [(.int (own_hex xi))])) (fun t hr => st38 t hr) ?_
      refine own_go (B := T38.setTop (mkF m 76 #[.val (.int xi), .val (.int di), .val (.int fi), .val (.int dd), .val (.int up), .val (.int (own_c dd up)), .val (.int (own_hex xi)), .unset, .unset] [])) (fun _ hr => XS.istore X38.here hx rfl (hb hby at_74) rfl (l' := #[.val (.int xi), .val (.int di), .val (.int fi), .val (.int dd), .val (.int up), .val (.int (own_c dd up)), .val (.int (own_hex xi)), .unset, .unset]) rfl hr) ?_
      obtain ⟨rr, hrr⟩ : ∃ z, z = own_hex xi := ⟨_, rfl⟩
      rw [← hrr]
      refine own_go (B := T38.setTop (mkF m 78 #[.val (.int xi), .val (.int di), .val (.int fi), .val (.int dd), .val (.int up), .val (.int (own_c dd up)), .val (.int rr), .unset, .unset] [(.int rr)])) (fun _ hr => XS.iload X38.here hx rfl (hb hby at_76) rfl hr) ?_
      refine own_go (B := T38.setTop (mkF m 79 #[.val (.int xi), .val (.int di), .val (.int fi), .val (.int dd), .val (.int up), .val (.int (own_c dd up)), .val (.int rr), .unset, .unset] [(.int (-1 : Int32)), (.int rr)])) (fun _ hr => XT.iconstV X38.here hx rfl (-1 : Int32) (hb hby at_78) (by decide) hr) ?_
      by_cases c46 : rr < (-1 : Int32)
      · refine own_go (B := T38.setTop (mkF m 89 #[.val (.int xi), .val (.int di), .val (.int fi), .val (.int dd), .val (.int up), .val (.int (own_c dd up)), .val (.int rr), .unset, .unset] [])) (fun _ hr => XS.icmpYes X38.here hx rfl (pc0 := 79) (pc' := 89) rfl (hb hby at_79) rfl (XT.ii_lt_t c46) (by decide) (by decide) hr) ?_
        refine own_go (B := T38.setTop (mkF m 90 #[.val (.int xi), .val (.int di), .val (.int fi), .val (.int dd), .val (.int up), .val (.int (own_c dd up)), .val (.int rr), .unset, .unset] [(.int (0 : Int32))])) (fun _ hr => XT.iconstV X38.here hx rfl (0 : Int32) (hb hby at_89) (by decide) hr) ?_
        exact own_retZ X38 hx hlk hret (by decide) (hb hby at_90) (by decide) (by decide) ⟨congrArg (fun z => some (Value.int z)) ((show (0 : Int32) = own_res xi rr from by simp only [own_res, if_pos c46]).trans (by rw [hrr]; exact own_res_one xi)), M38⟩
      · refine own_go (B := T38.setTop (mkF m 82 #[.val (.int xi), .val (.int di), .val (.int fi), .val (.int dd), .val (.int up), .val (.int (own_c dd up)), .val (.int rr), .unset, .unset] [])) (fun _ hr => XS.icmpNo X38.here hx rfl (hb hby at_79) rfl (XT.ii_lt_f c46) hr) ?_
        refine own_go (B := T38.setTop (mkF m 84 #[.val (.int xi), .val (.int di), .val (.int fi), .val (.int dd), .val (.int up), .val (.int (own_c dd up)), .val (.int rr), .unset, .unset] [(.int rr)])) (fun _ hr => XS.iload X38.here hx rfl (hb hby at_82) rfl hr) ?_
        refine own_go (B := T38.setTop (mkF m 86 #[.val (.int xi), .val (.int di), .val (.int fi), .val (.int dd), .val (.int up), .val (.int (own_c dd up)), .val (.int rr), .unset, .unset] [(.int (15 : Int32)), (.int rr)])) (fun _ hr => XT.bipushV X38.here hx rfl (15 : Int32) (hb hby at_84) (by decide) hr) ?_
        by_cases c47 : (15 : Int32) < rr
        · refine own_go (B := T38.setTop (mkF m 89 #[.val (.int xi), .val (.int di), .val (.int fi), .val (.int dd), .val (.int up), .val (.int (own_c dd up)), .val (.int rr), .unset, .unset] [])) (fun _ hr => XS.icmpNo X38.here hx rfl (hb hby at_86) rfl (XT.ii_le_f c47) hr) ?_
          refine own_go (B := T38.setTop (mkF m 90 #[.val (.int xi), .val (.int di), .val (.int fi), .val (.int dd), .val (.int up), .val (.int (own_c dd up)), .val (.int rr), .unset, .unset] [(.int (0 : Int32))])) (fun _ hr => XT.iconstV X38.here hx rfl (0 : Int32) (hb hby at_89) (by decide) hr) ?_
          exact own_retZ X38 hx hlk hret (by decide) (hb hby at_90) (by decide) (by decide) ⟨congrArg (fun z => some (Value.int z)) ((show (0 : Int32) = own_res xi rr from by simp only [own_res, if_neg c46, if_pos c47]).trans (by rw [hrr]; exact own_res_one xi)), M38⟩
        · refine own_go (B := T38.setTop (mkF m 91 #[.val (.int xi), .val (.int di), .val (.int fi), .val (.int dd), .val (.int up), .val (.int (own_c dd up)), .val (.int rr), .unset, .unset] [])) (fun _ hr => XS.icmpYes X38.here hx rfl (pc0 := 86) (pc' := 91) rfl (hb hby at_86) rfl (XT.ii_le_t c47) (by decide) (by decide) hr) ?_
          refine own_go (B := T38.setTop (mkF m 93 #[.val (.int xi), .val (.int di), .val (.int fi), .val (.int dd), .val (.int up), .val (.int (own_c dd up)), .val (.int rr), .unset, .unset] [(.int rr)])) (fun _ hr => XS.iload X38.here hx rfl (hb hby at_91) rfl hr) ?_
          refine own_go (B := T38.setTop (mkF m 94 #[.val (.int xi), .val (.int di), .val (.int fi), .val (.int dd), .val (.int up), .val (.int (own_c dd up)), .val (.int rr), .unset, .unset] [(.int (-1 : Int32)), (.int rr)])) (fun _ hr => XT.iconstV X38.here hx rfl (-1 : Int32) (hb hby at_93) (by decide) hr) ?_
          by_cases c48 : rr = (-1 : Int32)
          · refine own_go (B := T38.setTop (mkF m 97 #[.val (.int xi), .val (.int di), .val (.int fi), .val (.int dd), .val (.int up), .val (.int (own_c dd up)), .val (.int rr), .unset, .unset] [])) (fun _ hr => XS.icmpNo X38.here hx rfl (hb hby at_94) rfl (XT.ii_ne_f c48) hr) ?_
            refine own_go (B := T38.setTop (mkF m 98 #[.val (.int xi), .val (.int di), .val (.int fi), .val (.int dd), .val (.int up), .val (.int (own_c dd up)), .val (.int rr), .unset, .unset] [(.int (1 : Int32))])) (fun _ hr => XT.iconstV X38.here hx rfl (1 : Int32) (hb hby at_97) (by decide) hr) ?_
            exact own_retZ X38 hx hlk hret (by decide) (hb hby at_98) (by decide) (by decide) ⟨congrArg (fun z => some (Value.int z)) ((show (1 : Int32) = own_res xi rr from by simp only [own_res, if_neg c46, if_neg c47, if_pos c48]).trans (by rw [hrr]; exact own_res_one xi)), M38⟩
          · refine own_go (B := T38.setTop (mkF m 99 #[.val (.int xi), .val (.int di), .val (.int fi), .val (.int dd), .val (.int up), .val (.int (own_c dd up)), .val (.int rr), .unset, .unset] [])) (fun _ hr => XS.icmpYes X38.here hx rfl (pc0 := 94) (pc' := 99) rfl (hb hby at_94) rfl (XT.ii_ne_t c48) (by decide) (by decide) hr) ?_
            refine own_go (B := T38.setTop (mkF m 101 #[.val (.int xi), .val (.int di), .val (.int fi), .val (.int dd), .val (.int up), .val (.int (own_c dd up)), .val (.int rr), .unset, .unset] [(.int rr)])) (fun _ hr => XS.iload X38.here hx rfl (hb hby at_99) rfl hr) ?_
            refine own_go (B := T38.setTop (mkF m 103 #[.val (.int xi), .val (.int di), .val (.int fi), .val (.int dd), .val (.int up), .val (.int (own_c dd up)), .val (.int rr), .unset, .unset] [(.int (10 : Int32)), (.int rr)])) (fun _ hr => XT.bipushV X38.here hx rfl (10 : Int32) (hb hby at_101) (by decide) hr) ?_
            by_cases c49 : rr < (10 : Int32)
            · refine own_go (B := T38.setTop (mkF m 106 #[.val (.int xi), .val (.int di), .val (.int fi), .val (.int dd), .val (.int up), .val (.int (own_c dd up)), .val (.int rr), .unset, .unset] [])) (fun _ hr => XS.icmpNo X38.here hx rfl (hb hby at_103) rfl (XT.ii_ge_f c49) hr) ?_
              refine own_go (B := T38.setTop (mkF m 108 #[.val (.int xi), .val (.int di), .val (.int fi), .val (.int dd), .val (.int up), .val (.int (own_c dd up)), .val (.int rr), .unset, .unset] [(.int (48 : Int32))])) (fun _ hr => XT.bipushV X38.here hx rfl (48 : Int32) (hb hby at_106) (by decide) hr) ?_
              refine own_go (B := T38.setTop (mkF m 110 #[.val (.int xi), .val (.int di), .val (.int fi), .val (.int dd), .val (.int up), .val (.int (own_c dd up)), .val (.int rr), .unset, .unset] [(.int rr), (.int (48 : Int32))])) (fun _ hr => XS.iload X38.here hx rfl (hb hby at_108) rfl hr) ?_
              refine own_go (B := T38.setTop (mkF m 111 #[.val (.int xi), .val (.int di), .val (.int fi), .val (.int dd), .val (.int up), .val (.int (own_c dd up)), .val (.int rr), .unset, .unset] [(.int ((48 : Int32) + rr))])) (fun _ hr => XS.iadd X38.here hx rfl (hb hby at_110) rfl hr) ?_
              refine own_go (B := T38.setTop (mkF m 113 #[.val (.int xi), .val (.int di), .val (.int fi), .val (.int dd), .val (.int up), .val (.int (own_c dd up)), .val (.int rr), .val (.int ((48 : Int32) + rr)), .unset] [])) (fun _ hr => XS.istore X38.here hx rfl (hb hby at_111) rfl (l' := #[.val (.int xi), .val (.int di), .val (.int fi), .val (.int dd), .val (.int up), .val (.int (own_c dd up)), .val (.int rr), .val (.int ((48 : Int32) + rr)), .unset]) rfl hr) ?_
              refine own_go (B := T38.setTop (mkF m 115 #[.val (.int xi), .val (.int di), .val (.int fi), .val (.int dd), .val (.int up), .val (.int (own_c dd up)), .val (.int rr), .val (.int ((48 : Int32) + rr)), .unset] [(.int (48 : Int32))])) (fun _ hr => XT.bipushV X38.here hx rfl (48 : Int32) (hb hby at_113) (by decide) hr) ?_
              refine own_go (B := T38.setTop (mkF m 117 #[.val (.int xi), .val (.int di), .val (.int fi), .val (.int dd), .val (.int up), .val (.int (own_c dd up)), .val (.int rr), .val (.int ((48 : Int32) + rr)), .unset] [(.int rr), (.int (48 : Int32))])) (fun _ hr => XS.iload X38.here hx rfl (hb hby at_115) rfl hr) ?_
              refine own_go (B := T38.setTop (mkF m 118 #[.val (.int xi), .val (.int di), .val (.int fi), .val (.int dd), .val (.int up), .val (.int (own_c dd up)), .val (.int rr), .val (.int ((48 : Int32) + rr)), .unset] [(.int ((48 : Int32) + rr))])) (fun _ hr => XS.iadd X38.here hx rfl (hb hby at_117) rfl hr) ?_
              refine own_go (B := T38.setTop (mkF m 120 #[.val (.int xi), .val (.int di), .val (.int fi), .val (.int dd), .val (.int up), .val (.int (own_c dd up)), .val (.int rr), .val (.int ((48 : Int32) + rr)), .val (.int ((48 : Int32) + rr))] [])) (fun _ hr => XS.istore X38.here hx rfl (hb hby at_118) rfl (l' := #[.val (.int xi), .val (.int di), .val (.int fi), .val (.int dd), .val (.int up), .val (.int (own_c dd up)), .val (.int rr), .val (.int ((48 : Int32) + rr)), .val (.int ((48 : Int32) + rr))]) rfl hr) ?_
              refine own_go (B := T38.setTop (mkF m 143 #[.val (.int xi), .val (.int di), .val (.int fi), .val (.int dd), .val (.int up), .val (.int (own_c dd up)), .val (.int rr), .val (.int ((48 : Int32) + rr)), .val (.int ((48 : Int32) + rr))] [])) (fun _ hr => XS.goto X38.here hx rfl (pc0 := 120) (pc' := 143) rfl (hb hby at_120) (by decide) (by decide) hr) ?_
              refine own_go (B := T38.setTop (mkF m 144 #[.val (.int xi), .val (.int di), .val (.int fi), .val (.int dd), .val (.int up), .val (.int (own_c dd up)), .val (.int rr), .val (.int ((48 : Int32) + rr)), .val (.int ((48 : Int32) + rr))] [(.int xi)])) (fun _ hr => XS.iloadN X38.here hx rfl (hb hby at_143) rfl hr) ?_
              refine own_go (B := T38.setTop (mkF m 146 #[.val (.int xi), .val (.int di), .val (.int fi), .val (.int dd), .val (.int up), .val (.int (own_c dd up)), .val (.int rr), .val (.int ((48 : Int32) + rr)), .val (.int ((48 : Int32) + rr))] [(.int ((48 : Int32) + rr)), (.int xi)])) (fun _ hr => XS.iload X38.here hx rfl (hb hby at_144) rfl hr) ?_
              by_cases c50 : xi = ((48 : Int32) + rr)
              · refine own_go (B := T38.setTop (mkF m 155 #[.val (.int xi), .val (.int di), .val (.int fi), .val (.int dd), .val (.int up), .val (.int (own_c dd up)), .val (.int rr), .val (.int ((48 : Int32) + rr)), .val (.int ((48 : Int32) + rr))] [])) (fun _ hr => XS.icmpYes X38.here hx rfl (pc0 := 146) (pc' := 155) rfl (hb hby at_146) rfl (XT.ii_eq_t c50) (by decide) (by decide) hr) ?_
                refine own_go (B := T38.setTop (mkF m 156 #[.val (.int xi), .val (.int di), .val (.int fi), .val (.int dd), .val (.int up), .val (.int (own_c dd up)), .val (.int rr), .val (.int ((48 : Int32) + rr)), .val (.int ((48 : Int32) + rr))] [(.int (1 : Int32))])) (fun _ hr => XT.iconstV X38.here hx rfl (1 : Int32) (hb hby at_155) (by decide) hr) ?_
                refine own_go (B := T38.setTop (mkF m 160 #[.val (.int xi), .val (.int di), .val (.int fi), .val (.int dd), .val (.int up), .val (.int (own_c dd up)), .val (.int rr), .val (.int ((48 : Int32) + rr)), .val (.int ((48 : Int32) + rr))] [(.int (1 : Int32))])) (fun _ hr => XS.goto X38.here hx rfl (pc0 := 156) (pc' := 160) rfl (hb hby at_156) (by decide) (by decide) hr) ?_
                exact own_retZ X38 hx hlk hret (by decide) (hb hby at_160) (by decide) (by decide) ⟨congrArg (fun z => some (Value.int z)) ((show (1 : Int32) = own_res xi rr from by simp only [own_res, if_neg c46, if_neg c47, if_neg c48, if_pos c49, if_pos c50]).trans (by rw [hrr]; exact own_res_one xi)), M38⟩
              · refine own_go (B := T38.setTop (mkF m 149 #[.val (.int xi), .val (.int di), .val (.int fi), .val (.int dd), .val (.int up), .val (.int (own_c dd up)), .val (.int rr), .val (.int ((48 : Int32) + rr)), .val (.int ((48 : Int32) + rr))] [])) (fun _ hr => XS.icmpNo X38.here hx rfl (hb hby at_146) rfl (XT.ii_eq_f c50) hr) ?_
                refine own_go (B := T38.setTop (mkF m 150 #[.val (.int xi), .val (.int di), .val (.int fi), .val (.int dd), .val (.int up), .val (.int (own_c dd up)), .val (.int rr), .val (.int ((48 : Int32) + rr)), .val (.int ((48 : Int32) + rr))] [(.int xi)])) (fun _ hr => XS.iloadN X38.here hx rfl (hb hby at_149) rfl hr) ?_
                refine own_go (B := T38.setTop (mkF m 152 #[.val (.int xi), .val (.int di), .val (.int fi), .val (.int dd), .val (.int up), .val (.int (own_c dd up)), .val (.int rr), .val (.int ((48 : Int32) + rr)), .val (.int ((48 : Int32) + rr))] [(.int ((48 : Int32) + rr)), (.int xi)])) (fun _ hr => XS.iload X38.here hx rfl (hb hby at_150) rfl hr) ?_
                refine own_go (B := T38.setTop (mkF m 159 #[.val (.int xi), .val (.int di), .val (.int fi), .val (.int dd), .val (.int up), .val (.int (own_c dd up)), .val (.int rr), .val (.int ((48 : Int32) + rr)), .val (.int ((48 : Int32) + rr))] [])) (fun _ hr => XS.icmpYes X38.here hx rfl (pc0 := 152) (pc' := 159) rfl (hb hby at_152) rfl (XT.ii_ne_t c50) (by decide) (by decide) hr) ?_
                refine own_go (B := T38.setTop (mkF m 160 #[.val (.int xi), .val (.int di), .val (.int fi), .val (.int dd), .val (.int up), .val (.int (own_c dd up)), .val (.int rr), .val (.int ((48 : Int32) + rr)), .val (.int ((48 : Int32) + rr))] [(.int (0 : Int32))])) (fun _ hr => XT.iconstV X38.here hx rfl (0 : Int32) (hb hby at_159) (by decide) hr) ?_
                exact own_retZ X38 hx hlk hret (by decide) (hb hby at_160) (by decide) (by decide) ⟨congrArg (fun z => some (Value.int z)) ((show (0 : Int32) = own_res xi rr from by simp only [own_res, if_neg c46, if_neg c47, if_neg c48, if_pos c49, if_neg c50]).trans (by rw [hrr]; exact own_res_one xi)), M38⟩
            · refine own_go (B := T38.setTop (mkF m 123 #[.val (.int xi), .val (.int di), .val (.int fi), .val (.int dd), .val (.int up), .val (.int (own_c dd up)), .val (.int rr), .unset, .unset] [])) (fun _ hr => XS.icmpYes X38.here hx rfl (pc0 := 103) (pc' := 123) rfl (hb hby at_103) rfl (XT.ii_ge_t c49) (by decide) (by decide) hr) ?_
              refine own_go (B := T38.setTop (mkF m 125 #[.val (.int xi), .val (.int di), .val (.int fi), .val (.int dd), .val (.int up), .val (.int (own_c dd up)), .val (.int rr), .unset, .unset] [(.int (97 : Int32))])) (fun _ hr => XT.bipushV X38.here hx rfl (97 : Int32) (hb hby at_123) (by decide) hr) ?_
              refine own_go (B := T38.setTop (mkF m 127 #[.val (.int xi), .val (.int di), .val (.int fi), .val (.int dd), .val (.int up), .val (.int (own_c dd up)), .val (.int rr), .unset, .unset] [(.int rr), (.int (97 : Int32))])) (fun _ hr => XS.iload X38.here hx rfl (hb hby at_125) rfl hr) ?_
              refine own_go (B := T38.setTop (mkF m 129 #[.val (.int xi), .val (.int di), .val (.int fi), .val (.int dd), .val (.int up), .val (.int (own_c dd up)), .val (.int rr), .unset, .unset] [(.int (10 : Int32)), (.int rr), (.int (97 : Int32))])) (fun _ hr => XT.bipushV X38.here hx rfl (10 : Int32) (hb hby at_127) (by decide) hr) ?_
              refine own_go (B := T38.setTop (mkF m 130 #[.val (.int xi), .val (.int di), .val (.int fi), .val (.int dd), .val (.int up), .val (.int (own_c dd up)), .val (.int rr), .unset, .unset] [(.int (rr - (10 : Int32))), (.int (97 : Int32))])) (fun _ hr => XS.isub X38.here hx rfl (hb hby at_129) rfl hr) ?_
              refine own_go (B := T38.setTop (mkF m 131 #[.val (.int xi), .val (.int di), .val (.int fi), .val (.int dd), .val (.int up), .val (.int (own_c dd up)), .val (.int rr), .unset, .unset] [(.int ((97 : Int32) + (rr - (10 : Int32))))])) (fun _ hr => XS.iadd X38.here hx rfl (hb hby at_130) rfl hr) ?_
              refine own_go (B := T38.setTop (mkF m 133 #[.val (.int xi), .val (.int di), .val (.int fi), .val (.int dd), .val (.int up), .val (.int (own_c dd up)), .val (.int rr), .val (.int ((97 : Int32) + (rr - (10 : Int32)))), .unset] [])) (fun _ hr => XS.istore X38.here hx rfl (hb hby at_131) rfl (l' := #[.val (.int xi), .val (.int di), .val (.int fi), .val (.int dd), .val (.int up), .val (.int (own_c dd up)), .val (.int rr), .val (.int ((97 : Int32) + (rr - (10 : Int32)))), .unset]) rfl hr) ?_
              refine own_go (B := T38.setTop (mkF m 135 #[.val (.int xi), .val (.int di), .val (.int fi), .val (.int dd), .val (.int up), .val (.int (own_c dd up)), .val (.int rr), .val (.int ((97 : Int32) + (rr - (10 : Int32)))), .unset] [(.int (65 : Int32))])) (fun _ hr => XT.bipushV X38.here hx rfl (65 : Int32) (hb hby at_133) (by decide) hr) ?_
              refine own_go (B := T38.setTop (mkF m 137 #[.val (.int xi), .val (.int di), .val (.int fi), .val (.int dd), .val (.int up), .val (.int (own_c dd up)), .val (.int rr), .val (.int ((97 : Int32) + (rr - (10 : Int32)))), .unset] [(.int rr), (.int (65 : Int32))])) (fun _ hr => XS.iload X38.here hx rfl (hb hby at_135) rfl hr) ?_
              refine own_go (B := T38.setTop (mkF m 139 #[.val (.int xi), .val (.int di), .val (.int fi), .val (.int dd), .val (.int up), .val (.int (own_c dd up)), .val (.int rr), .val (.int ((97 : Int32) + (rr - (10 : Int32)))), .unset] [(.int (10 : Int32)), (.int rr), (.int (65 : Int32))])) (fun _ hr => XT.bipushV X38.here hx rfl (10 : Int32) (hb hby at_137) (by decide) hr) ?_
              refine own_go (B := T38.setTop (mkF m 140 #[.val (.int xi), .val (.int di), .val (.int fi), .val (.int dd), .val (.int up), .val (.int (own_c dd up)), .val (.int rr), .val (.int ((97 : Int32) + (rr - (10 : Int32)))), .unset] [(.int (rr - (10 : Int32))), (.int (65 : Int32))])) (fun _ hr => XS.isub X38.here hx rfl (hb hby at_139) rfl hr) ?_
              refine own_go (B := T38.setTop (mkF m 141 #[.val (.int xi), .val (.int di), .val (.int fi), .val (.int dd), .val (.int up), .val (.int (own_c dd up)), .val (.int rr), .val (.int ((97 : Int32) + (rr - (10 : Int32)))), .unset] [(.int ((65 : Int32) + (rr - (10 : Int32))))])) (fun _ hr => XS.iadd X38.here hx rfl (hb hby at_140) rfl hr) ?_
              refine own_go (B := T38.setTop (mkF m 143 #[.val (.int xi), .val (.int di), .val (.int fi), .val (.int dd), .val (.int up), .val (.int (own_c dd up)), .val (.int rr), .val (.int ((97 : Int32) + (rr - (10 : Int32)))), .val (.int ((65 : Int32) + (rr - (10 : Int32))))] [])) (fun _ hr => XS.istore X38.here hx rfl (hb hby at_141) rfl (l' := #[.val (.int xi), .val (.int di), .val (.int fi), .val (.int dd), .val (.int up), .val (.int (own_c dd up)), .val (.int rr), .val (.int ((97 : Int32) + (rr - (10 : Int32)))), .val (.int ((65 : Int32) + (rr - (10 : Int32))))]) rfl hr) ?_
              refine own_go (B := T38.setTop (mkF m 144 #[.val (.int xi), .val (.int di), .val (.int fi), .val (.int dd), .val (.int up), .val (.int (own_c dd up)), .val (.int rr), .val (.int ((97 : Int32) + (rr - (10 : Int32)))), .val (.int ((65 : Int32) + (rr - (10 : Int32))))] [(.int xi)])) (fun _ hr => XS.iloadN X38.here hx rfl (hb hby at_143) rfl hr) ?_
              refine own_go (B := T38.setTop (mkF m 146 #[.val (.int xi), .val (.int di), .val (.int fi), .val (.int dd), .val (.int up), .val (.int (own_c dd up)), .val (.int rr), .val (.int ((97 : Int32) + (rr - (10 : Int32)))), .val (.int ((65 : Int32) + (rr - (10 : Int32))))] [(.int ((97 : Int32) + (rr - (10 : Int32)))), (.int xi)])) (fun _ hr => XS.iload X38.here hx rfl (hb hby at_144) rfl hr) ?_
              by_cases c51 : xi = ((97 : Int32) + (rr - (10 : Int32)))
              · refine own_go (B := T38.setTop (mkF m 155 #[.val (.int xi), .val (.int di), .val (.int fi), .val (.int dd), .val (.int up), .val (.int (own_c dd up)), .val (.int rr), .val (.int ((97 : Int32) + (rr - (10 : Int32)))), .val (.int ((65 : Int32) + (rr - (10 : Int32))))] [])) (fun _ hr => XS.icmpYes X38.here hx rfl (pc0 := 146) (pc' := 155) rfl (hb hby at_146) rfl (XT.ii_eq_t c51) (by decide) (by decide) hr) ?_
                refine own_go (B := T38.setTop (mkF m 156 #[.val (.int xi), .val (.int di), .val (.int fi), .val (.int dd), .val (.int up), .val (.int (own_c dd up)), .val (.int rr), .val (.int ((97 : Int32) + (rr - (10 : Int32)))), .val (.int ((65 : Int32) + (rr - (10 : Int32))))] [(.int (1 : Int32))])) (fun _ hr => XT.iconstV X38.here hx rfl (1 : Int32) (hb hby at_155) (by decide) hr) ?_
                refine own_go (B := T38.setTop (mkF m 160 #[.val (.int xi), .val (.int di), .val (.int fi), .val (.int dd), .val (.int up), .val (.int (own_c dd up)), .val (.int rr), .val (.int ((97 : Int32) + (rr - (10 : Int32)))), .val (.int ((65 : Int32) + (rr - (10 : Int32))))] [(.int (1 : Int32))])) (fun _ hr => XS.goto X38.here hx rfl (pc0 := 156) (pc' := 160) rfl (hb hby at_156) (by decide) (by decide) hr) ?_
                exact own_retZ X38 hx hlk hret (by decide) (hb hby at_160) (by decide) (by decide) ⟨congrArg (fun z => some (Value.int z)) ((show (1 : Int32) = own_res xi rr from by simp only [own_res, if_neg c46, if_neg c47, if_neg c48, if_neg c49, if_pos c51]).trans (by rw [hrr]; exact own_res_one xi)), M38⟩
              · refine own_go (B := T38.setTop (mkF m 149 #[.val (.int xi), .val (.int di), .val (.int fi), .val (.int dd), .val (.int up), .val (.int (own_c dd up)), .val (.int rr), .val (.int ((97 : Int32) + (rr - (10 : Int32)))), .val (.int ((65 : Int32) + (rr - (10 : Int32))))] [])) (fun _ hr => XS.icmpNo X38.here hx rfl (hb hby at_146) rfl (XT.ii_eq_f c51) hr) ?_
                refine own_go (B := T38.setTop (mkF m 150 #[.val (.int xi), .val (.int di), .val (.int fi), .val (.int dd), .val (.int up), .val (.int (own_c dd up)), .val (.int rr), .val (.int ((97 : Int32) + (rr - (10 : Int32)))), .val (.int ((65 : Int32) + (rr - (10 : Int32))))] [(.int xi)])) (fun _ hr => XS.iloadN X38.here hx rfl (hb hby at_149) rfl hr) ?_
                refine own_go (B := T38.setTop (mkF m 152 #[.val (.int xi), .val (.int di), .val (.int fi), .val (.int dd), .val (.int up), .val (.int (own_c dd up)), .val (.int rr), .val (.int ((97 : Int32) + (rr - (10 : Int32)))), .val (.int ((65 : Int32) + (rr - (10 : Int32))))] [(.int ((65 : Int32) + (rr - (10 : Int32)))), (.int xi)])) (fun _ hr => XS.iload X38.here hx rfl (hb hby at_150) rfl hr) ?_
                by_cases c52 : xi = ((65 : Int32) + (rr - (10 : Int32)))
                · refine own_go (B := T38.setTop (mkF m 155 #[.val (.int xi), .val (.int di), .val (.int fi), .val (.int dd), .val (.int up), .val (.int (own_c dd up)), .val (.int rr), .val (.int ((97 : Int32) + (rr - (10 : Int32)))), .val (.int ((65 : Int32) + (rr - (10 : Int32))))] [])) (fun _ hr => XS.icmpNo X38.here hx rfl (hb hby at_152) rfl (XT.ii_ne_f c52) hr) ?_
                  refine own_go (B := T38.setTop (mkF m 156 #[.val (.int xi), .val (.int di), .val (.int fi), .val (.int dd), .val (.int up), .val (.int (own_c dd up)), .val (.int rr), .val (.int ((97 : Int32) + (rr - (10 : Int32)))), .val (.int ((65 : Int32) + (rr - (10 : Int32))))] [(.int (1 : Int32))])) (fun _ hr => XT.iconstV X38.here hx rfl (1 : Int32) (hb hby at_155) (by decide) hr) ?_
                  refine own_go (B := T38.setTop (mkF m 160 #[.val (.int xi), .val (.int di), .val (.int fi), .val (.int dd), .val (.int up), .val (.int (own_c dd up)), .val (.int rr), .val (.int ((97 : Int32) + (rr - (10 : Int32)))), .val (.int ((65 : Int32) + (rr - (10 : Int32))))] [(.int (1 : Int32))])) (fun _ hr => XS.goto X38.here hx rfl (pc0 := 156) (pc' := 160) rfl (hb hby at_156) (by decide) (by decide) hr) ?_
                  exact own_retZ X38 hx hlk hret (by decide) (hb hby at_160) (by decide) (by decide) ⟨congrArg (fun z => some (Value.int z)) ((show (1 : Int32) = own_res xi rr from by simp only [own_res, if_neg c46, if_neg c47, if_neg c48, if_neg c49, if_neg c51, if_pos c52]).trans (by rw [hrr]; exact own_res_one xi)), M38⟩
                · refine own_go (B := T38.setTop (mkF m 159 #[.val (.int xi), .val (.int di), .val (.int fi), .val (.int dd), .val (.int up), .val (.int (own_c dd up)), .val (.int rr), .val (.int ((97 : Int32) + (rr - (10 : Int32)))), .val (.int ((65 : Int32) + (rr - (10 : Int32))))] [])) (fun _ hr => XS.icmpYes X38.here hx rfl (pc0 := 152) (pc' := 159) rfl (hb hby at_152) rfl (XT.ii_ne_t c52) (by decide) (by decide) hr) ?_
                  refine own_go (B := T38.setTop (mkF m 160 #[.val (.int xi), .val (.int di), .val (.int fi), .val (.int dd), .val (.int up), .val (.int (own_c dd up)), .val (.int rr), .val (.int ((97 : Int32) + (rr - (10 : Int32)))), .val (.int ((65 : Int32) + (rr - (10 : Int32))))] [(.int (0 : Int32))])) (fun _ hr => XT.iconstV X38.here hx rfl (0 : Int32) (hb hby at_159) (by decide) hr) ?_
                  exact own_retZ X38 hx hlk hret (by decide) (hb hby at_160) (by decide) (by decide) ⟨congrArg (fun z => some (Value.int z)) ((show (0 : Int32) = own_res xi rr from by simp only [own_res, if_neg c46, if_neg c47, if_neg c48, if_neg c49, if_neg c51, if_neg c52]).trans (by rw [hrr]; exact own_res_one xi)), M38⟩
    refine own_go (B := s₁.setTop (mkF m 19 #[.val (.int xi), .val (.int di), .val (.int fi), .val (.int dd), .val (.int up), .unset, .unset, .unset, .unset] [(.int dd)])) (fun _ hr => XS.iloadN X0.here hx rfl (hb hby at_18) rfl hr) ?_
    refine own_go (B := s₁.setTop (mkF m 21 #[.val (.int xi), .val (.int di), .val (.int fi), .val (.int dd), .val (.int up), .unset, .unset, .unset, .unset] [(.int (10 : Int32)), (.int dd)])) (fun _ hr => XT.bipushV X0.here hx rfl (10 : Int32) (hb hby at_19) (by decide) hr) ?_
    by_cases c53 : dd < (10 : Int32)
    · refine own_go (B := s₁.setTop (mkF m 24 #[.val (.int xi), .val (.int di), .val (.int fi), .val (.int dd), .val (.int up), .unset, .unset, .unset, .unset] [])) (fun _ hr => XS.icmpNo X0.here hx rfl (hb hby at_21) rfl (XT.ii_ge_f c53) hr) ?_
      refine own_go (B := s₁.setTop (mkF m 26 #[.val (.int xi), .val (.int di), .val (.int fi), .val (.int dd), .val (.int up), .unset, .unset, .unset, .unset] [(.int (48 : Int32))])) (fun _ hr => XT.bipushV X0.here hx rfl (48 : Int32) (hb hby at_24) (by decide) hr) ?_
      refine own_go (B := s₁.setTop (mkF m 27 #[.val (.int xi), .val (.int di), .val (.int fi), .val (.int dd), .val (.int up), .unset, .unset, .unset, .unset] [(.int dd), (.int (48 : Int32))])) (fun _ hr => XS.iloadN X0.here hx rfl (hb hby at_26) rfl hr) ?_
      refine own_go (B := s₁.setTop (mkF m 28 #[.val (.int xi), .val (.int di), .val (.int fi), .val (.int dd), .val (.int up), .unset, .unset, .unset, .unset] [(.int ((48 : Int32) + dd))])) (fun _ hr => XS.iadd X0.here hx rfl (hb hby at_27) rfl hr) ?_
      refine own_go (B := s₁.setTop (mkF m 30 #[.val (.int xi), .val (.int di), .val (.int fi), .val (.int dd), .val (.int up), .val (.int ((48 : Int32) + dd)), .unset, .unset, .unset] [])) (fun _ hr => XS.istore X0.here hx rfl (hb hby at_28) rfl (l' := #[.val (.int xi), .val (.int di), .val (.int fi), .val (.int dd), .val (.int up), .val (.int ((48 : Int32) + dd)), .unset, .unset, .unset]) rfl hr) ?_
      refine own_go (B := s₁.setTop (mkF m 59 #[.val (.int xi), .val (.int di), .val (.int fi), .val (.int dd), .val (.int up), .val (.int ((48 : Int32) + dd)), .unset, .unset, .unset] [])) (fun _ hr => XS.goto X0.here hx rfl (pc0 := 30) (pc' := 59) rfl (hb hby at_30) (by decide) (by decide) hr) ?_
      have q : (own_c dd up) = ((48 : Int32) + dd) := by simp only [own_c, if_pos c53]
      rw [q] at hk36
      exact hk36
    · refine own_go (B := s₁.setTop (mkF m 33 #[.val (.int xi), .val (.int di), .val (.int fi), .val (.int dd), .val (.int up), .unset, .unset, .unset, .unset] [])) (fun _ hr => XS.icmpYes X0.here hx rfl (pc0 := 21) (pc' := 33) rfl (hb hby at_21) rfl (XT.ii_ge_t c53) (by decide) (by decide) hr) ?_
      refine own_go (B := s₁.setTop (mkF m 35 #[.val (.int xi), .val (.int di), .val (.int fi), .val (.int dd), .val (.int up), .unset, .unset, .unset, .unset] [(.int up)])) (fun _ hr => XS.iload X0.here hx rfl (hb hby at_33) rfl hr) ?_
      by_cases c54 : up = 0
      · refine own_go (B := s₁.setTop (mkF m 50 #[.val (.int xi), .val (.int di), .val (.int fi), .val (.int dd), .val (.int up), .unset, .unset, .unset, .unset] [])) (fun _ hr => XS.ifYes X0.here hx rfl (pc0 := 35) (pc' := 50) rfl (hb hby at_35) rfl (XT.i0_eq_t c54) (by decide) (by decide) hr) ?_
        refine own_go (B := s₁.setTop (mkF m 52 #[.val (.int xi), .val (.int di), .val (.int fi), .val (.int dd), .val (.int up), .unset, .unset, .unset, .unset] [(.int (97 : Int32))])) (fun _ hr => XT.bipushV X0.here hx rfl (97 : Int32) (hb hby at_50) (by decide) hr) ?_
        refine own_go (B := s₁.setTop (mkF m 53 #[.val (.int xi), .val (.int di), .val (.int fi), .val (.int dd), .val (.int up), .unset, .unset, .unset, .unset] [(.int dd), (.int (97 : Int32))])) (fun _ hr => XS.iloadN X0.here hx rfl (hb hby at_52) rfl hr) ?_
        refine own_go (B := s₁.setTop (mkF m 55 #[.val (.int xi), .val (.int di), .val (.int fi), .val (.int dd), .val (.int up), .unset, .unset, .unset, .unset] [(.int (10 : Int32)), (.int dd), (.int (97 : Int32))])) (fun _ hr => XT.bipushV X0.here hx rfl (10 : Int32) (hb hby at_53) (by decide) hr) ?_
        refine own_go (B := s₁.setTop (mkF m 56 #[.val (.int xi), .val (.int di), .val (.int fi), .val (.int dd), .val (.int up), .unset, .unset, .unset, .unset] [(.int (dd - (10 : Int32))), (.int (97 : Int32))])) (fun _ hr => XS.isub X0.here hx rfl (hb hby at_55) rfl hr) ?_
        refine own_go (B := s₁.setTop (mkF m 57 #[.val (.int xi), .val (.int di), .val (.int fi), .val (.int dd), .val (.int up), .unset, .unset, .unset, .unset] [(.int ((97 : Int32) + (dd - (10 : Int32))))])) (fun _ hr => XS.iadd X0.here hx rfl (hb hby at_56) rfl hr) ?_
        refine own_go (B := s₁.setTop (mkF m 59 #[.val (.int xi), .val (.int di), .val (.int fi), .val (.int dd), .val (.int up), .val (.int ((97 : Int32) + (dd - (10 : Int32)))), .unset, .unset, .unset] [])) (fun _ hr => XS.istore X0.here hx rfl (hb hby at_57) rfl (l' := #[.val (.int xi), .val (.int di), .val (.int fi), .val (.int dd), .val (.int up), .val (.int ((97 : Int32) + (dd - (10 : Int32)))), .unset, .unset, .unset]) rfl hr) ?_
        have q : (own_c dd up) = ((97 : Int32) + (dd - (10 : Int32))) := by simp only [own_c, if_neg c53, if_pos c54]
        rw [q] at hk36
        exact hk36
      · refine own_go (B := s₁.setTop (mkF m 38 #[.val (.int xi), .val (.int di), .val (.int fi), .val (.int dd), .val (.int up), .unset, .unset, .unset, .unset] [])) (fun _ hr => XS.ifNo X0.here hx rfl (hb hby at_35) rfl (XT.i0_eq_f c54) hr) ?_
        refine own_go (B := s₁.setTop (mkF m 40 #[.val (.int xi), .val (.int di), .val (.int fi), .val (.int dd), .val (.int up), .unset, .unset, .unset, .unset] [(.int (65 : Int32))])) (fun _ hr => XT.bipushV X0.here hx rfl (65 : Int32) (hb hby at_38) (by decide) hr) ?_
        refine own_go (B := s₁.setTop (mkF m 41 #[.val (.int xi), .val (.int di), .val (.int fi), .val (.int dd), .val (.int up), .unset, .unset, .unset, .unset] [(.int dd), (.int (65 : Int32))])) (fun _ hr => XS.iloadN X0.here hx rfl (hb hby at_40) rfl hr) ?_
        refine own_go (B := s₁.setTop (mkF m 43 #[.val (.int xi), .val (.int di), .val (.int fi), .val (.int dd), .val (.int up), .unset, .unset, .unset, .unset] [(.int (10 : Int32)), (.int dd), (.int (65 : Int32))])) (fun _ hr => XT.bipushV X0.here hx rfl (10 : Int32) (hb hby at_41) (by decide) hr) ?_
        refine own_go (B := s₁.setTop (mkF m 44 #[.val (.int xi), .val (.int di), .val (.int fi), .val (.int dd), .val (.int up), .unset, .unset, .unset, .unset] [(.int (dd - (10 : Int32))), (.int (65 : Int32))])) (fun _ hr => XS.isub X0.here hx rfl (hb hby at_43) rfl hr) ?_
        refine own_go (B := s₁.setTop (mkF m 45 #[.val (.int xi), .val (.int di), .val (.int fi), .val (.int dd), .val (.int up), .unset, .unset, .unset, .unset] [(.int ((65 : Int32) + (dd - (10 : Int32))))])) (fun _ hr => XS.iadd X0.here hx rfl (hb hby at_44) rfl hr) ?_
        refine own_go (B := s₁.setTop (mkF m 47 #[.val (.int xi), .val (.int di), .val (.int fi), .val (.int dd), .val (.int up), .val (.int ((65 : Int32) + (dd - (10 : Int32)))), .unset, .unset, .unset] [])) (fun _ hr => XS.istore X0.here hx rfl (hb hby at_45) rfl (l' := #[.val (.int xi), .val (.int di), .val (.int fi), .val (.int dd), .val (.int up), .val (.int ((65 : Int32) + (dd - (10 : Int32)))), .unset, .unset, .unset]) rfl hr) ?_
        refine own_go (B := s₁.setTop (mkF m 59 #[.val (.int xi), .val (.int di), .val (.int fi), .val (.int dd), .val (.int up), .val (.int ((65 : Int32) + (dd - (10 : Int32)))), .unset, .unset, .unset] [])) (fun _ hr => XS.goto X0.here hx rfl (pc0 := 47) (pc' := 59) rfl (hb hby at_47) (by decide) (by decide) hr) ?_
        have q : (own_c dd up) = ((65 : Int32) + (dd - (10 : Int32))) := by simp only [own_c, if_neg c53, if_neg c54]
        rw [q] at hk36
        exact hk36
  refine own_go (B := s₁.setTop (mkF m 6 #[.val (.int xi), .val (.int di), .val (.int fi), .val (.int dd), .unset, .unset, .unset, .unset, .unset] [(.int fi)])) (fun _ hr => XS.iloadN X0.here hx rfl (hb hby at_5) rfl hr) ?_
  refine own_go (B := s₁.setTop (mkF m 7 #[.val (.int xi), .val (.int di), .val (.int fi), .val (.int dd), .unset, .unset, .unset, .unset, .unset] [(.int (1 : Int32)), (.int fi)])) (fun _ hr => XT.iconstV X0.here hx rfl (1 : Int32) (hb hby at_6) (by decide) hr) ?_
  refine own_go (B := s₁.setTop (mkF m 8 #[.val (.int xi), .val (.int di), .val (.int fi), .val (.int dd), .unset, .unset, .unset, .unset, .unset] [(.int (fi &&& (1 : Int32)))])) (fun _ hr => XS.iand X0.here hx rfl (hb hby at_7) rfl hr) ?_
  by_cases c55 : (fi &&& (1 : Int32)) = 0
  · refine own_go (B := s₁.setTop (mkF m 15 #[.val (.int xi), .val (.int di), .val (.int fi), .val (.int dd), .unset, .unset, .unset, .unset, .unset] [])) (fun _ hr => XS.ifYes X0.here hx rfl (pc0 := 8) (pc' := 15) rfl (hb hby at_8) rfl (XT.i0_eq_t c55) (by decide) (by decide) hr) ?_
    refine own_go (B := s₁.setTop (mkF m 16 #[.val (.int xi), .val (.int di), .val (.int fi), .val (.int dd), .unset, .unset, .unset, .unset, .unset] [(.int (0 : Int32))])) (fun _ hr => XT.iconstV X0.here hx rfl (0 : Int32) (hb hby at_15) (by decide) hr) ?_
    have q : (own_up fi) = (0 : Int32) := by simp only [own_up, if_pos c55]
    rw [q] at hk31
    exact hk31
  · refine own_go (B := s₁.setTop (mkF m 11 #[.val (.int xi), .val (.int di), .val (.int fi), .val (.int dd), .unset, .unset, .unset, .unset, .unset] [])) (fun _ hr => XS.ifNo X0.here hx rfl (hb hby at_8) rfl (XT.i0_eq_f c55) hr) ?_
    refine own_go (B := s₁.setTop (mkF m 12 #[.val (.int xi), .val (.int di), .val (.int fi), .val (.int dd), .unset, .unset, .unset, .unset, .unset] [(.int (1 : Int32))])) (fun _ hr => XT.iconstV X0.here hx rfl (1 : Int32) (hb hby at_11) (by decide) hr) ?_
    refine own_go (B := s₁.setTop (mkF m 16 #[.val (.int xi), .val (.int di), .val (.int fi), .val (.int dd), .unset, .unset, .unset, .unset, .unset] [(.int (1 : Int32))])) (fun _ hr => XS.goto X0.here hx rfl (pc0 := 12) (pc' := 16) rfl (hb hby at_12) (by decide) (by decide) hr) ?_
    have q : (own_up fi) = (1 : Int32) := by simp only [own_up, if_neg c55]
    rw [q] at hk31
    exact hk31
set_option maxRecDepth 65536 in
set_option maxHeartbeats 40000000 in
theorem comes_1 {Post : Tables → Env → Array Value → State → Outcome → State → Prop} (hpost : ∀ tb e args s v u, (limb_1_1.after args s (.returned v) u = true ∧ limb_1_2.after args s (.returned v) u = true ∧ True) → FrameEnd s (.returned v) u (Jvm.fieldLocs frame_1_writes args s ++ Jvm.arrayLocs frame_1_arrays args s ++ Jvm.staticLocs frame_1_statics s) 0 0 → Post tb e args s (.returned v) u) :
    ArmFor flags0 classFile x code maxLocals ret World_1 tables_1 room_1 Calls_1 rest_1 Pre_1 Post := by
  intro l hfl _ _ p e ha hc hk s m args below hf hA hF happ hP
  obtain ⟨hcalls, hrest, hpre⟩ := hP
  obtain ⟨-, -, -, hnamed, -, -, -, hat⟩ := (Spec.applies_iff hf).mp happ
  obtain ⟨hg, hn⟩ := and_e (Cond.before_iff.mp (show (Jvm.Cond.and given_1 narrow_1).before args s = true from hpre))
  obtain ⟨h1, g0⟩ := and_e hg
  obtain ⟨f0, g1⟩ := and_e g0
  obtain ⟨f1, g2⟩ := and_e g1
  obtain ⟨w0, w1, w2, rfl⟩ : ∃ w0 w1 w2 : Value, args = #[w0, w1, w2] := by
    have hs : args.size = 3 := by simpa [Cond.value, given_1] using h1
    obtain ⟨L⟩ := args
    match L, hs with
    | [w0, w1, w2], _ => exact ⟨w0, w1, w2, rfl⟩
  have hw := fun d (hd : d ∈ tables_1) => atoms_spec (ws := Jvm.Cond.code x code maxLocals ret :: tables_1) hat d (List.mem_cons_of_mem _ hd)
  obtain ⟨i0, q0⟩ := is_v f0
  obtain rfl : w0 = (.int i0) := Option.some.inj q0
  obtain ⟨i1, q1⟩ := is_v f1
  obtain rfl : w1 = (.int i1) := Option.some.inj q1
  obtain ⟨i2, q2⟩ := is_v g2
  obtain rfl : w2 = (.int i2) := Option.some.inj q2
  obtain ⟨n, o, h1, h2, h3, _, L, rfl, ⟨rfl, N⟩, hq⟩ := rm_law l s _ hw tables_1 i0 i1 i2 s.heap s.heap.size (Nat.le_refl _) p e ha hc hk s m _ below hf ((Spec.applies_iff_loose hf).mp happ).1 ⟨rfl, State.Warmed39.refl s, rfl⟩ trivial
  refine ⟨n, _, h1, h2, h3, hpost _ _ _ _ _ _ ⟨Cond.after_iff.mpr rfl, Cond.after_iff.mpr (eq_i res_at (Term.int_eval (1)) rfl), trivial⟩ ⟨hq.1, hq.2.1, (hq.2.2.sift fun y hy => Or.inr (N y hy)).mono (by decide) (by decide)⟩⟩
theorem main_1_1 : Claimed_1_1 := comes_1 fun _ _ _ _ _ _ h hF => ⟨h.1, hF⟩
theorem main_1_2 : Claimed_1_2 := comes_1 fun _ _ _ _ _ _ h hF => ⟨h.2.1, hF⟩
end Jvm.Pilot.@@N@@
namespace Jvm.Pilot.@@N@@
open Jvm Jvm.ClassFile Sem Op Lib Jvm.Free Jvm.Stand Jvm.Pilot.@@N@@.Jvm.D
/-! MADE BY PROGRAM (witnessworld.py) out of the Statement's table words and the real class files: 9 classes; the members and pool entries that the words name. The judged class is class 1, her method 1. -/
namespace start1
open Jvm.ClassFile
def u (s : String) : CpInfo := .utf8 (stringToUtf16 s)
/-- a pool by its gaps: so many unusable entries, then the entry; so many at the end -/
def gap : Nat → List CpInfo → List CpInfo
  | 0, r => r
  | n + 1, r => .unusable :: gap n r
def poolList (es : List (Nat × CpInfo)) (last : Nat) : List CpInfo := es.foldr (fun e r => gap e.1 (e.2 :: r)) (gap last [])
def pool (es : List (Nat × CpInfo)) (last : Nat) : Array CpInfo := ⟨poolList es last⟩
def fileOf (pool : Array CpInfo) (this : Nat) (attrs : Array Attribute := #[]) (ms : Array MethodInfo := #[]) (fl : Nat := 33) (sup : Nat := 0) (ifs : Array Nat := #[]) (fds : Array FieldInfo := #[]) : ClassFile where
  minorVersion := 0
  majorVersion := 65
  constantPool := pool
  accessFlags := fl
  thisClass := this
  superClass := sup
  interfaces := ifs
  fields := fds
  methods := ms
  attributes := attrs
def plain (name : String) (sup : Option ClassId) : Class where
  name := name
  kind := .ordinary
  loader := none
  accessFlags := 33
  super := sup
  interfaces := #[]
  cf := none
  fields := #[]
  methods := #[]
  instanceTypes := #[]
  staticTypes := #[]
  resolved := #[]
  callSites := []
  init := .initialized
  statics := none
  mirror := none

def pool0 : Array CpInfo := pool [(5, u "<init>"), (0, u "()V"), (1, .class_ 10), (1, u "java/lang/Object")] 113

def k0m0 : Method := { name := "<init>", desc := "()V", sig := { parameters := [], returnType := none }, accessFlags := 1, code := none }
/-- java/lang/Object -/
def k0 : Class := { plain "java/lang/Object" none with
  accessFlags := 33
  interfaces := #[]
  cf := some (fileOf pool0 8 #[] #[{ accessFlags := 1, nameIndex := 5, descriptorIndex := 6, attributes := #[] }] 33 0 #[] #[])
  fields := #[]
  methods := #[k0m0]
  instanceTypes := #[]
  staticTypes := #[]
  resolved := Array.replicate 124 none
  statics := none }

def pool1 : Array CpInfo := pool [(2, .class_ 4), (1, u "java/lang/Object"), (0, u "<init>"), (0, u "()V"), (0, .methodref 8 9), (0, .class_ 10), (0, .nameAndType 11 12), (0, u "com/example/vetted_values/vettedvalues/write/NumberGrammar"), (0, u "hexDigitValue"), (0, u "(I)I"), (0, .class_ 14), (0, u "com/example/vetted_values/vettedvalues/write/NumberGrammarHexDigitValuePinLaw"), (2, u "law"), (0, u "(III)Z")] 3

def k1m0 : Method := { name := "<init>", desc := "()V", sig := { parameters := [], returnType := none }, accessFlags := 2, code := none }
def k1c1 : Code := { maxStack := 3, maxLocals := 9, code := code, exceptionTable := #[], attributes := #[] }
def k1m1 : Method := { name := "law", desc := "(III)Z", sig := { parameters := [.int, .int, .int], returnType := some .boolean }, accessFlags := 9, code := some k1c1 }
/-- com/example/vetted_values/vettedvalues/write/NumberGrammarHexDigitValuePinLaw -/
def k1 : Class := { plain "com/example/vetted_values/vettedvalues/write/NumberGrammarHexDigitValuePinLaw" (some 0) with
  accessFlags := 49
  interfaces := #[]
  cf := some (fileOf pool1 13 #[] #[{ accessFlags := 2, nameIndex := 5, descriptorIndex := 6, attributes := #[] }, { accessFlags := 9, nameIndex := 17, descriptorIndex := 18, attributes := #[] }] 49 2 #[] #[])
  fields := #[]
  methods := #[k1m0, k1m1]
  instanceTypes := #[]
  staticTypes := #[]
  resolved := Array.replicate 22 none
  statics := none }

def pool2 : Array CpInfo := pool [(2, .class_ 4), (1, u "java/lang/Object"), (0, u "<init>"), (0, u "()V"), (25, .class_ 34), (1, u "com/example/vetted_values/vettedvalues/write/NumberGrammar"), (28, u "hexDigitValue"), (0, u "(I)I"), (0, u "INFINITY"), (0, u "Ljava/lang/String;"), (1, u "NAN")] 7

def k2m0 : Method := { name := "<init>", desc := "()V", sig := { parameters := [], returnType := none }, accessFlags := 2, code := none }
def k2c1 : Code := { maxStack := 2, maxLocals := 2, code := prog_51_method_4_code, exceptionTable := #[], attributes := #[] }
def k2m1 : Method := { name := "hexDigitValue", desc := "(I)I", sig := { parameters := [.int], returnType := some .int }, accessFlags := 9, code := some k2c1 }
/-- com/example/vetted_values/vettedvalues/write/NumberGrammar -/
def k2 : Class := { plain "com/example/vetted_values/vettedvalues/write/NumberGrammar" (some 0) with
  accessFlags := 49
  interfaces := #[]
  cf := some (fileOf pool2 32 #[] #[{ accessFlags := 2, nameIndex := 5, descriptorIndex := 6, attributes := #[] }, { accessFlags := 9, nameIndex := 63, descriptorIndex := 64, attributes := #[] }] 49 2 #[] #[{ accessFlags := 25, nameIndex := 65, descriptorIndex := 66, attributes := #[] }, { accessFlags := 25, nameIndex := 68, descriptorIndex := 66, attributes := #[] }])
  fields := #[{ name := "INFINITY", type := (.object "java/lang/String"), accessFlags := 25, slot := 0, constantValue := 0 }, { name := "NAN", type := (.object "java/lang/String"), accessFlags := 25, slot := 1, constantValue := 0 }]
  methods := #[k2m0, k2m1]
  instanceTypes := #[]
  staticTypes := #[(.object "java/lang/String"), (.object "java/lang/String")]
  resolved := Array.replicate 76 none
  statics := none }

def pool3 : Array CpInfo := pool [(1, u "java/lang/Cloneable"), (0, .class_ 1), (0, u "java/lang/Object"), (0, .class_ 3)] 3

/-- java/lang/Cloneable -/
def k3 : Class := { plain "java/lang/Cloneable" (some 0) with
  accessFlags := 1537
  interfaces := #[]
  cf := some (fileOf pool3 2 #[] #[] 1537 4 #[] #[])
  fields := #[]
  methods := #[]
  instanceTypes := #[]
  staticTypes := #[]
  resolved := Array.replicate 8 none
  statics := none }

def pool4 : Array CpInfo := pool [(1, u "java/io/Serializable"), (0, .class_ 1), (0, u "java/lang/Object"), (0, .class_ 3)] 3

/-- java/io/Serializable -/
def k4 : Class := { plain "java/io/Serializable" (some 0) with
  accessFlags := 1537
  interfaces := #[]
  cf := some (fileOf pool4 2 #[] #[] 1537 4 #[] #[])
  fields := #[]
  methods := #[]
  instanceTypes := #[]
  staticTypes := #[]
  resolved := Array.replicate 8 none
  statics := none }

/-- the primitive byte -/
def k5 : Class := { plain "byte" none with kind := .primitive 'B', accessFlags := 0x411 }
/-- [B -/
def k6 : Class := { plain "[B" (some 0) with kind := .array 5 .byte, interfaces := #[3, 4], accessFlags := 1041 }

/-- the primitive int -/
def k7 : Class := { plain "int" none with kind := .primitive 'I', accessFlags := 0x411 }
/-- [I -/
def k8 : Class := { plain "[I" (some 0) with kind := .array 7 .int, interfaces := #[3, 4], accessFlags := 1041 }

def heap : Heap := #[]
def classes : Array Class := #[k0, k1, k2, k3, k4, k5, k6, k7, k8]
def interned : List (Array UInt16 × Addr) := []
def slotsUsed : Nat := 0
def theMethod : MethodId := ⟨1, 1⟩
def args0 : Array Value := #[.int 5, .int 7, .int 1]
def aboutOver (below : List Frame) : State where
  vm := { classes := classes, interned := interned.toArray }
  heap := heap
  slotsUsed := slotsUsed
  threads := #[{ frames := .invoking theMethod args0 :: below }]
def below0 : List Frame := [.native { method := ⟨0, 0⟩, args := #[] }]
def about1 : State := aboutOver below0
def p0 : Program := .bare "" "" ""
def e0 : Env := launch0.env 0 0 0
theorem w_frames : about1.frames = Frame.invoking theMethod args0 :: below0 := rfl
set_option maxRecDepth 65536 in
theorem w_args : argsFit about1.vm theMethod args0 = true := by decide +kernel
set_option maxRecDepth 65536 in
theorem w_heap : heapFits about1 = true := by decide +kernel
set_option maxRecDepth 65536 in
theorem w_runnable : about1.curStatus? = some .runnable := by decide +kernel
set_option maxRecDepth 65536 in
theorem w_alone : about1.alone = true := by decide +kernel
set_option maxRecDepth 65536 in
theorem w_named : about1.methodNamed? x = some theMethod := by decide +kernel
set_option maxRecDepth 65536 in
theorem w_hears : about1.hears theMethod below0 = true := by decide +kernel
set_option maxRecDepth 65536 in
theorem w_ripe : about1.ripe theMethod args0 below0 = true := by decide +kernel
theorem w_running : about1.status = .running := rfl
set_option maxRecDepth 65536 in
theorem w_room : about1.hasRoom e0.platform room_1 = true :=
  launch0.hasRoom_least _ room_1 (by decide +kernel) (by decide +kernel) (by decide +kernel) (by decide +kernel) (by decide +kernel) (by decide +kernel)
theorem allAtoms_all (ts : List Jvm.Cond) (a : Array Jvm.Value) (st : Jvm.State) : (allAtoms ts).before a st = ts.all (fun c => c.before a st) := by
  induction ts with
  | nil => rfl
  | cons c t ih =>
    show (Jvm.Cond.and c (allAtoms t)).before a st = _
    rw [Jvm.Cond.before_and, ih, List.all_cons]
def words1 : List Jvm.Cond := Jvm.Cond.code x code maxLocals ret :: tables_1
/-- a 'code' word, met by the world's own term for the bytes: nothing is compared byte by byte -/
theorem code_word {y : MethodName} {bytes : ByteArray} {mx : Nat} {rt : Option FieldType} {a : Array Value} {s : State} {m : MethodId} {meth : Method} {c : Code} (h1 : s.methodNamed? y = some m) (h2 : s.vm.method? m = some meth) (h3 : meth.code = some c) (h4 : c.code = bytes)
    (h5 : (c.maxLocals == mx && c.exceptionTable.isEmpty && decide (c.maxStack ≤ mostOperands) && decide (meth.sig.returnType = rt) && !meth.locks && decide (parseMethodDescriptor y.desc = some meth.sig)) = true) : (Jvm.Cond.code y bytes mx rt).before a s = true := by
  simp only [Bool.and_eq_true, beq_iff_eq, Bool.not_eq_true', decide_eq_true_eq] at h5
  obtain ⟨⟨⟨⟨⟨g1, g2⟩, g3⟩, g4⟩, g5⟩, g6⟩ := h5
  simp [Cond.before, Cond.holds, Cond.value, h1, h2, h3, h4, g1, g2, g3, g4, g5, g6]
def isCode : Jvm.Cond → Bool
  | .code _ _ _ _ => true
  | _ => false
theorem all_split {L : List Jvm.Cond} {P : Jvm.Cond → Bool} (h1 : L.all (fun c => isCode c || P c) = true) (h2 : ∀ c ∈ L.filter isCode, P c = true) : L.all P = true := by
  refine List.all_eq_true.mpr fun c hc => ?_
  have h := List.all_eq_true.mp h1 c hc
  rcases Bool.eq_false_or_eq_true (isCode c) with hi | hi
  · exact h2 c (List.mem_filter.mpr ⟨hc, hi⟩)
  · simpa [hi] using h
set_option maxRecDepth 65536 in
theorem w_c0 : (Jvm.Cond.code x code maxLocals ret).before args0 about1 = true := code_word (m := ⟨1, 1⟩) (meth := k1m1) (c := k1c1) (by decide +kernel) rfl rfl rfl (by decide +kernel)
set_option maxRecDepth 65536 in
theorem w_c1 : (Jvm.Cond.code ({ cls := "com/example/vetted_values/vettedvalues/write/NumberGrammar", name := "hexDigitValue", desc := "(I)I" } : Jvm.MethodName) prog_51_method_4_code (2 : Nat) (Option.some Jvm.ClassFile.FieldType.int)).before args0 about1 = true := code_word (m := ⟨2, 1⟩) (meth := k2m1) (c := k2c1) (by decide +kernel) rfl rfl rfl (by decide +kernel)
def codes1 : List Jvm.Cond := [Jvm.Cond.code x code maxLocals ret, Jvm.Cond.code ({ cls := "com/example/vetted_values/vettedvalues/write/NumberGrammar", name := "hexDigitValue", desc := "(I)I" } : Jvm.MethodName) prog_51_method_4_code (2 : Nat) (Option.some Jvm.ClassFile.FieldType.int)]
set_option maxRecDepth 65536 in
theorem codes_eq : words1.filter isCode = codes1 := rfl
theorem w_codes : ∀ c ∈ words1.filter isCode, c.before args0 about1 = true := by
  rw [codes_eq]
  intro c hc
  simp only [codes1, List.mem_cons, List.not_mem_nil, or_false] at hc
  rcases hc with rfl | rfl
  · exact w_c0
  · exact w_c1
set_option maxRecDepth 65536 in
theorem w_t1 : words1.all (fun c => isCode c || c.before args0 about1) = true := by decide +kernel
theorem w_tables : (allAtoms (Jvm.Cond.code x code maxLocals ret :: tables_1)).before args0 about1 = true := by
  rw [allAtoms_all]
  show words1.all (fun c => c.before args0 about1) = true
  refine all_split ?_ w_codes
  rw [w_t1]
set_option maxRecDepth 65536 in
theorem w_case : (Jvm.Cond.and given_1 narrow_1).before args0 about1 = true := by decide +kernel
theorem w_applies : (headSpec (Jvm.Cond.code x code maxLocals ret :: tables_1) room_1).applies x e0.platform about1 = true :=
  (Spec.applies_iff w_frames).mpr ⟨w_running, w_runnable, w_alone, w_named, w_hears, w_ripe, w_room, w_tables⟩
theorem atStart : AtStart classFile x code maxLocals ret World_1 tables_1 room_1 Calls_1 rest_1 Pre_1 launch0 p0 e0 about1 theMethod args0 below0 :=
  ⟨lists_1, trivial, launch0.admits_env _ _ _, launch0.least_env, fairChoices_fair.cas, fairChoices_fair.clock, w_frames, w_args, w_heap, w_applies, trivial, trivial, w_case⟩
end start1
theorem witness_1 : WitnessClaimed_1 := ⟨start1.p0, start1.e0, start1.about1, start1.theMethod, start1.args0, start1.below0, start1.atStart⟩
end Jvm.Pilot.@@N@@
