import JvmDerived
import JvmDerived.Pilot.@@N@@Statement
import JvmDerived.Pilot.@@N@@Code
set_option linter.unusedVariables false
set_option linter.unusedSimpArgs false
@@BLOCK:NumsL.lean.txt@@
namespace Jvm.Pilot.@@N@@
open Jvm Jvm.ClassFile Sem Op Lib Jvm.Free Jvm.Stand Jvm.LawKit Jvm.RoadKit Bundle Jvm.Pilot.@@N@@.Jvm.D
section Own
variable {p : Program} {l : Launch} {e : Env} {R : Room} {s : State} {m : MethodId} {args : Array Value} {below : List Frame} {meth : Method} {c : Code} {T : State} {locs : List Loc} {cells slots : Nat}
/-- from A the run comes to an end of which P holds -/
def own_G (p : Program) (e : Env) (below : List Frame) (P : State → Outcome → Prop) (A : State) : Prop := ∃ s₂ o, Steps p.tables e below A s₂ ∧ P s₂ o
/-- the end of a body: it returned, Q holds of the answer, the heap and the places written, and the frame is kept -/
def own_P (s : State) (below : List Frame) (Q : Option Value → Heap → List Loc → Prop) (k n : Nat) (s₂ : State) (o : Outcome) : Prop := s₂.status = .running ∧ Ended s₂ below o ∧ ∃ v L, o = .returned v ∧ Q v s₂.heap L ∧ FrameEnd s o s₂ L k n
theorem own_go {P : State → Outcome → Prop} {A B : State} (k : ∀ t, Steps p.tables e below B t → Steps p.tables e below A t) (h : own_G p e below P B) : own_G p e below P A := by
  obtain ⟨s₂, o, h1, h2⟩ := h
  exact ⟨s₂, o, k _ h1, h2⟩
theorem own_gs {P : State → Outcome → Prop} {A B : State} (k : Steps p.tables e below A B) (h : own_G p e below P B) : own_G p e below P A := own_go (fun _ hr => k.trans hr) h
theorem own_end (X : Stand p l e R s m args below meth c T locs cells slots) (hlk : meth.locks = false) {v : Option Value} (hv : meth.sig.returnType = none → v = none) {A : State} {Q : Option Value → Heap → List Loc → Prop} {k n : Nat} (hk : cells ≤ k) (hn : slots ≤ n)
    (st : ∀ fs, (∀ (f : JFrame) (acts : List Action), f.method = m → f.locked = none → f.entered = [] → (doReturn e (T.setTop f) acts v).1 = T.setFrames fs) → Steps p.tables e below A (T.setFrames fs)) (q : Q v T.heap locs) : own_G p e below (own_P s below Q k n) A := by
  obtain ⟨fs, hr, hrun, hended, hW, hsame⟩ := X.leave (v := v) hv hlk
  exact ⟨_, _, st fs hr, hrun, hended, _, _, rfl, q, ⟨_, rfl⟩, hW, hsame.mono hk hn⟩
theorem own_retI (X : Stand p l e R s m args below meth c T locs cells slots) (hx : p.tables.exec = Jvm.exec) (hlk : meth.locks = false) {pc : Nat} {Ls : Array Slot} {z : Int32} {rest : List Value} {Q : Option Value → Heap → List Loc → Prop} {k n : Nat} (hret : meth.sig.returnType = some .int) (hd : decode c.code pc = .ok (.ireturn, 1)) (hk : cells ≤ k) (hn : slots ≤ n)
    (q : Q (some (.int z)) T.heap locs) : own_G p e below (own_P s below Q k n) (T.setTop (mkF m pc Ls (.int z :: rest))) :=
  own_end X hlk (fun h => by rw [hret] at h; cases h) hk hn (fun fs hr => retOut X hx hret rfl (Or.inl ⟨rfl, Or.inl rfl, z, rfl⟩) hd hr) q
theorem own_bit {z : Int32} (hz : z = 0 ∨ z = 1) : narrow .boolean (.int z) = .int z := by rcases hz with rfl | rfl <;> rfl
theorem own_retZ (X : Stand p l e R s m args below meth c T locs cells slots) (hx : p.tables.exec = Jvm.exec) (hlk : meth.locks = false) {pc : Nat} {Ls : Array Slot} {z : Int32} {rest : List Value} {Q : Option Value → Heap → List Loc → Prop} {k n : Nat} (hret : meth.sig.returnType = some .boolean) (hz : z = 0 ∨ z = 1) (hd : decode c.code pc = .ok (.ireturn, 1)) (hk : cells ≤ k) (hn : slots ≤ n)
    (q : Q (some (.int z)) T.heap locs) : own_G p e below (own_P s below Q k n) (T.setTop (mkF m pc Ls (.int z :: rest))) :=
  own_end X hlk (fun h => by rw [hret] at h; cases h) hk hn (fun fs hr => retOut X hx hret (own_bit hz) (Or.inl ⟨rfl, Or.inr (Or.inl rfl), z, rfl⟩) hd hr) q
theorem own_retJ (X : Stand p l e R s m args below meth c T locs cells slots) (hx : p.tables.exec = Jvm.exec) (hlk : meth.locks = false) {pc : Nat} {Ls : Array Slot} {z : Int64} {rest : List Value} {Q : Option Value → Heap → List Loc → Prop} {k n : Nat} (hret : meth.sig.returnType = some .long) (hd : decode c.code pc = .ok (.lreturn, 1)) (hk : cells ≤ k) (hn : slots ≤ n)
    (q : Q (some (.long z)) T.heap locs) : own_G p e below (own_P s below Q k n) (T.setTop (mkF m pc Ls (.long z :: rest))) :=
  own_end X hlk (fun h => by rw [hret] at h; cases h) hk hn (fun fs hr => retOut X hx hret rfl (Or.inr (Or.inl ⟨rfl, rfl, z, rfl⟩)) hd hr) q
theorem own_retA (X : Stand p l e R s m args below meth c T locs cells slots) (hx : p.tables.exec = Jvm.exec) (hlk : meth.locks = false) {pc : Nat} {Ls : Array Slot} {z : Addr} {t : FieldType} {rest : List Value} {Q : Option Value → Heap → List Loc → Prop} {k n : Nat} (hret : meth.sig.returnType = some t) (ht : t.isReference = true) (hn0 : narrow t (.ref z) = .ref z) (hd : decode c.code pc = .ok (.areturn, 1)) (hk : cells ≤ k) (hn : slots ≤ n)
    (q : Q (some (.ref z)) T.heap locs) : own_G p e below (own_P s below Q k n) (T.setTop (mkF m pc Ls (.ref z :: rest))) :=
  own_end X hlk (fun h => by rw [hret] at h; cases h) hk hn (fun fs hr => retOut X hx hret hn0 (Or.inr (Or.inr (Or.inr (Or.inr ⟨rfl, ht, rfl⟩)))) hd hr) q
theorem own_retV (X : Stand p l e R s m args below meth c T locs cells slots) (hx : p.tables.exec = Jvm.exec) (hlk : meth.locks = false) {pc : Nat} {Ls : Array Slot} {Q : Option Value → Heap → List Loc → Prop} {k n : Nat} (hret : meth.sig.returnType = none) (hd : decode c.code pc = .ok (.return_, 1)) (hk : cells ≤ k) (hn : slots ≤ n)
    (q : Q none T.heap locs) : own_G p e below (own_P s below Q k n) (T.setTop (mkF m pc Ls [])) :=
  own_end X hlk (fun _ => rfl) hk hn (fun fs hr => X.returnOut hx hret hd hr) q
end Own

def own_carries (x : Int32) : Int32 := (if x < (32 : Int32) then (if x = (9 : Int32) then (1 : Int32) else (if x = (10 : Int32) then (1 : Int32) else (if x = (13 : Int32) then (1 : Int32) else (0 : Int32)))) else (if x = (65534 : Int32) then (0 : Int32) else (if x = (65535 : Int32) then (0 : Int32) else (1 : Int32))))
def own_exp (v : Int32) : Int32 := (if v = (9 : Int32) then (1 : Int32) else (if v = (10 : Int32) then (1 : Int32) else (if v = (13 : Int32) then (1 : Int32) else (if v < (32 : Int32) then (if v < (55296 : Int32) then (if v < (57344 : Int32) then (0 : Int32) else (if (65533 : Int32) < v then (0 : Int32) else (1 : Int32))) else (if (57343 : Int32) < v then (if v < (57344 : Int32) then (0 : Int32) else (if (65533 : Int32) < v then (0 : Int32) else (1 : Int32))) else (1 : Int32))) else (if (55295 : Int32) < v then (if v < (55296 : Int32) then (if v < (57344 : Int32) then (0 : Int32) else (if (65533 : Int32) < v then (0 : Int32) else (1 : Int32))) else (if (57343 : Int32) < v then (if v < (57344 : Int32) then (0 : Int32) else (if (65533 : Int32) < v then (0 : Int32) else (1 : Int32))) else (1 : Int32))) else (1 : Int32))))))
theorem own_char (x : Int32) : 0 ≤ ((x &&& 65535).toUInt32.toUInt16.toUInt32.toInt32).toInt ∧ ((x &&& 65535).toUInt32.toUInt16.toUInt32.toInt32).toInt < 65536 := by
  generalize (x &&& 65535).toUInt32.toUInt16 = u
  have h := u.toNat_lt
  have e : u.toUInt32.toInt32.toInt = (u.toNat : Int) := by
    have h1 : u.toUInt32.toInt32.toInt = ((u.toNat : Int)).bmod (2 ^ 32) := by
      rw [← Int32.toInt_toBitVec, UInt32.toBitVec_toInt32, BitVec.toInt_eq_toNat_bmod]; rfl
    rw [h1]; exact Int.bmod_eq_of_le (by omega) (by omega)
  omega
theorem own_same (v : Int32) (h1 : 0 ≤ v.toInt) (h2 : v.toInt < 65536) : own_carries v = own_exp v := by
  simp only [own_carries, own_exp, Int32.lt_iff_toInt_lt, ← Int32.toInt_inj, Int32.reduceToInt]
  repeat' split
  all_goals first | rfl | omega
theorem own_carries01 (v : Int32) : own_carries v = 0 ∨ own_carries v = 1 := by
  simp only [own_carries]
  repeat' split
  all_goals first | exact Or.inl rfl | exact Or.inr rfl
theorem d1_0 : decode prog_90_method_2_code 0 = .ok (.iload_n 0, 1) := by decide +kernel
theorem d1_1 : decode prog_90_method_2_code 1 = .ok (.bipush 32, 2) := by decide +kernel
theorem d1_3 : decode prog_90_method_2_code 3 = .ok (.if_icmp .lt 23, 3) := by decide +kernel
theorem d1_6 : decode prog_90_method_2_code 6 = .ok (.iload_n 0, 1) := by decide +kernel
theorem d1_7 : decode prog_90_method_2_code 7 = .ok (.ldc 7, 2) := by decide +kernel
theorem d1_9 : decode prog_90_method_2_code 9 = .ok (.if_icmp .eq 13, 3) := by decide +kernel
theorem d1_12 : decode prog_90_method_2_code 12 = .ok (.iload_n 0, 1) := by decide +kernel
theorem d1_13 : decode prog_90_method_2_code 13 = .ok (.ldc 8, 2) := by decide +kernel
theorem d1_15 : decode prog_90_method_2_code 15 = .ok (.if_icmp .eq 7, 3) := by decide +kernel
theorem d1_18 : decode prog_90_method_2_code 18 = .ok (.iconst 1, 1) := by decide +kernel
theorem d1_19 : decode prog_90_method_2_code 19 = .ok (.goto 30, 3) := by decide +kernel
theorem d1_22 : decode prog_90_method_2_code 22 = .ok (.iconst 0, 1) := by decide +kernel
theorem d1_23 : decode prog_90_method_2_code 23 = .ok (.goto 26, 3) := by decide +kernel
theorem d1_26 : decode prog_90_method_2_code 26 = .ok (.iload_n 0, 1) := by decide +kernel
theorem d1_27 : decode prog_90_method_2_code 27 = .ok (.bipush 9, 2) := by decide +kernel
theorem d1_29 : decode prog_90_method_2_code 29 = .ok (.if_icmp .eq 15, 3) := by decide +kernel
theorem d1_32 : decode prog_90_method_2_code 32 = .ok (.iload_n 0, 1) := by decide +kernel
theorem d1_33 : decode prog_90_method_2_code 33 = .ok (.bipush 10, 2) := by decide +kernel
theorem d1_35 : decode prog_90_method_2_code 35 = .ok (.if_icmp .eq 9, 3) := by decide +kernel
theorem d1_38 : decode prog_90_method_2_code 38 = .ok (.iload_n 0, 1) := by decide +kernel
theorem d1_39 : decode prog_90_method_2_code 39 = .ok (.bipush 13, 2) := by decide +kernel
theorem d1_41 : decode prog_90_method_2_code 41 = .ok (.if_icmp .ne 7, 3) := by decide +kernel
theorem d1_44 : decode prog_90_method_2_code 44 = .ok (.iconst 1, 1) := by decide +kernel
theorem d1_45 : decode prog_90_method_2_code 45 = .ok (.goto 4, 3) := by decide +kernel
theorem d1_48 : decode prog_90_method_2_code 48 = .ok (.iconst 0, 1) := by decide +kernel
theorem d1_49 : decode prog_90_method_2_code 49 = .ok (.ireturn, 1) := by decide +kernel
theorem pn_carries : plainName "com/example/rosterline/rosterline/core/XmlText" = true := by first | (simp [plainName, overriddenIn]; done) | decide +kernel
theorem pd_carries : parseMethodDescriptor "(C)Z" = some ⟨[.char], some .boolean⟩ := by decide +kernel
theorem ef_carries (m : MethodId) (x0 : Int32) : entryFrame m #[(.int x0)] 1 = mkF m 0 #[.val (.int x0)] [] := by first | (simp [entryFrame, mkF, argsToLocals, Value.category, maxLocals]; done) | rfl
def Q_carries (Z : State) (x : Int32) (h0 : Heap) (n0 : Nat) (v : Option Value) (h : Heap) (L : List Loc) : Prop := v = some (.int (own_carries x)) ∧ Fr n0 L ∧ h = h0
set_option maxRecDepth 65536 in
set_option maxHeartbeats 40000000 in
theorem rm_carries (l : Launch) (Z : State) (a0 : Array Value) (hw : ∀ d ∈ tables_1, d.before a0 Z = true) (ws : List Jvm.Cond) (x : Int32) (h0 : Heap) (n0 : Nat) (Z0 : n0 ≤ h0.size)  :
    MetFree l (⟨"com/example/rosterline/rosterline/core/XmlText", "carries", "(C)Z"⟩ : MethodName) (head1 (Jvm.Cond.code (⟨"com/example/rosterline/rosterline/core/XmlText", "carries", "(C)Z"⟩ : MethodName) prog_90_method_2_code 1 (some .boolean) :: ws) ({ frames := 0, cells := 0, slots := 0, locals := 0 } : Room)) (fun a U => a = #[(.int x)] ∧ Z.Warmed39 U.vm ∧ U.heap = h0) (fun _ _ _ _ _ => True) (fun _ U o U' => ∃ v L, o = .returned v ∧ Q_carries Z x h0 n0 v U'.heap L ∧ FrameEnd U o U' L ({ frames := 0, cells := 0, slots := 0, locals := 0 } : Room).cells ({ frames := 0, cells := 0, slots := 0, locals := 0 } : Room).slots) := by
  refine MetFree.of_bodySF (plainFor_of_name pn_carries) hisR ?_
  intro p e s m args below meth c s₁ Bd hml0 hP hK
  obtain ⟨rfl, hZ, hh⟩ := hP
  have hx := Bd.exec
  have hby := Bd.bytes
  have hml : c.maxLocals = 1 := hml0
  have hown : s.vm.findClass "com/example/rosterline/rosterline/core/XmlText" = some m.cls := findClass_of_methodNamed Bd.named
  have hnm := (name_of_methodNamed Bd.named Bd.method).1
  have hlk := BodyLoose.notSynchronized Bd
  have hret := Bd.returns
  have X0 : Stand p l e ({ frames := 0, cells := 0, slots := 0, locals := 0 } : Room) s m #[(.int x)] below meth c s₁ [] 0 0 := Stand.of_body Bd
  have e0 : s₁.heap = h0 := by rw [← hh, Bd.state]; rfl
  have N0 := Fr.nil n0
  show own_G p e below (own_P s below (Q_carries Z x h0 n0) ({ frames := 0, cells := 0, slots := 0, locals := 0 } : Room).cells ({ frames := 0, cells := 0, slots := 0, locals := 0 } : Room).slots) _
  refine own_go (B := s₁.setTop (mkF m 0 #[.val (.int x)] [])) (fun t k => castTop (ef_carries m x) k) ?_
  refine own_go (B := s₁.setTop (mkF m 1 #[.val (.int x)] [(.int x)])) (fun _ hr => XS.iloadN X0.here hx rfl (hb hby d1_0) rfl hr) ?_
  refine own_go (B := s₁.setTop (mkF m 3 #[.val (.int x)] [(.int (32 : Int32)), (.int x)])) (fun _ hr => XT.bipushV X0.here hx rfl (32 : Int32) (hb hby d1_1) (by decide) hr) ?_
  by_cases c24 : x < (32 : Int32)
  · refine own_go (B := s₁.setTop (mkF m 26 #[.val (.int x)] [])) (fun _ hr => XS.icmpYes X0.here hx rfl (pc0 := 3) (pc' := 26) rfl (hb hby d1_3) rfl (XT.ii_lt_t c24) (by decide) (by decide) hr) ?_
    refine own_go (B := s₁.setTop (mkF m 27 #[.val (.int x)] [(.int x)])) (fun _ hr => XS.iloadN X0.here hx rfl (hb hby d1_26) rfl hr) ?_
    refine own_go (B := s₁.setTop (mkF m 29 #[.val (.int x)] [(.int (9 : Int32)), (.int x)])) (fun _ hr => XT.bipushV X0.here hx rfl (9 : Int32) (hb hby d1_27) (by decide) hr) ?_
    by_cases c25 : x = (9 : Int32)
    · refine own_go (B := s₁.setTop (mkF m 44 #[.val (.int x)] [])) (fun _ hr => XS.icmpYes X0.here hx rfl (pc0 := 29) (pc' := 44) rfl (hb hby d1_29) rfl (XT.ii_eq_t c25) (by decide) (by decide) hr) ?_
      refine own_go (B := s₁.setTop (mkF m 45 #[.val (.int x)] [(.int (1 : Int32))])) (fun _ hr => XT.iconstV X0.here hx rfl (1 : Int32) (hb hby d1_44) (by decide) hr) ?_
      refine own_go (B := s₁.setTop (mkF m 49 #[.val (.int x)] [(.int (1 : Int32))])) (fun _ hr => XS.goto X0.here hx rfl (pc0 := 45) (pc' := 49) rfl (hb hby d1_45) (by decide) (by decide) hr) ?_
      exact own_retZ X0 hx hlk hret (by decide) (hb hby d1_49) (by decide) (by decide) ⟨by simp only [own_carries, if_pos c24, if_pos c25], N0, e0⟩
    · refine own_go (B := s₁.setTop (mkF m 32 #[.val (.int x)] [])) (fun _ hr => XS.icmpNo X0.here hx rfl (hb hby d1_29) rfl (XT.ii_eq_f c25) hr) ?_
      refine own_go (B := s₁.setTop (mkF m 33 #[.val (.int x)] [(.int x)])) (fun _ hr => XS.iloadN X0.here hx rfl (hb hby d1_32) rfl hr) ?_
      refine own_go (B := s₁.setTop (mkF m 35 #[.val (.int x)] [(.int (10 : Int32)), (.int x)])) (fun _ hr => XT.bipushV X0.here hx rfl (10 : Int32) (hb hby d1_33) (by decide) hr) ?_
      by_cases c26 : x = (10 : Int32)
      · refine own_go (B := s₁.setTop (mkF m 44 #[.val (.int x)] [])) (fun _ hr => XS.icmpYes X0.here hx rfl (pc0 := 35) (pc' := 44) rfl (hb hby d1_35) rfl (XT.ii_eq_t c26) (by decide) (by decide) hr) ?_
        refine own_go (B := s₁.setTop (mkF m 45 #[.val (.int x)] [(.int (1 : Int32))])) (fun _ hr => XT.iconstV X0.here hx rfl (1 : Int32) (hb hby d1_44) (by decide) hr) ?_
        refine own_go (B := s₁.setTop (mkF m 49 #[.val (.int x)] [(.int (1 : Int32))])) (fun _ hr => XS.goto X0.here hx rfl (pc0 := 45) (pc' := 49) rfl (hb hby d1_45) (by decide) (by decide) hr) ?_
        exact own_retZ X0 hx hlk hret (by decide) (hb hby d1_49) (by decide) (by decide) ⟨by simp only [own_carries, if_pos c24, if_neg c25, if_pos c26], N0, e0⟩
      · refine own_go (B := s₁.setTop (mkF m 38 #[.val (.int x)] [])) (fun _ hr => XS.icmpNo X0.here hx rfl (hb hby d1_35) rfl (XT.ii_eq_f c26) hr) ?_
        refine own_go (B := s₁.setTop (mkF m 39 #[.val (.int x)] [(.int x)])) (fun _ hr => XS.iloadN X0.here hx rfl (hb hby d1_38) rfl hr) ?_
        refine own_go (B := s₁.setTop (mkF m 41 #[.val (.int x)] [(.int (13 : Int32)), (.int x)])) (fun _ hr => XT.bipushV X0.here hx rfl (13 : Int32) (hb hby d1_39) (by decide) hr) ?_
        by_cases c27 : x = (13 : Int32)
        · refine own_go (B := s₁.setTop (mkF m 44 #[.val (.int x)] [])) (fun _ hr => XS.icmpNo X0.here hx rfl (hb hby d1_41) rfl (XT.ii_ne_f c27) hr) ?_
          refine own_go (B := s₁.setTop (mkF m 45 #[.val (.int x)] [(.int (1 : Int32))])) (fun _ hr => XT.iconstV X0.here hx rfl (1 : Int32) (hb hby d1_44) (by decide) hr) ?_
          refine own_go (B := s₁.setTop (mkF m 49 #[.val (.int x)] [(.int (1 : Int32))])) (fun _ hr => XS.goto X0.here hx rfl (pc0 := 45) (pc' := 49) rfl (hb hby d1_45) (by decide) (by decide) hr) ?_
          exact own_retZ X0 hx hlk hret (by decide) (hb hby d1_49) (by decide) (by decide) ⟨by simp only [own_carries, if_pos c24, if_neg c25, if_neg c26, if_pos c27], N0, e0⟩
        · refine own_go (B := s₁.setTop (mkF m 48 #[.val (.int x)] [])) (fun _ hr => XS.icmpYes X0.here hx rfl (pc0 := 41) (pc' := 48) rfl (hb hby d1_41) rfl (XT.ii_ne_t c27) (by decide) (by decide) hr) ?_
          refine own_go (B := s₁.setTop (mkF m 49 #[.val (.int x)] [(.int (0 : Int32))])) (fun _ hr => XT.iconstV X0.here hx rfl (0 : Int32) (hb hby d1_48) (by decide) hr) ?_
          exact own_retZ X0 hx hlk hret (by decide) (hb hby d1_49) (by decide) (by decide) ⟨by simp only [own_carries, if_pos c24, if_neg c25, if_neg c26, if_neg c27], N0, e0⟩
  · refine own_go (B := s₁.setTop (mkF m 6 #[.val (.int x)] [])) (fun _ hr => XS.icmpNo X0.here hx rfl (hb hby d1_3) rfl (XT.ii_lt_f c24) hr) ?_
    refine own_go (B := s₁.setTop (mkF m 7 #[.val (.int x)] [(.int x)])) (fun _ hr => XS.iloadN X0.here hx rfl (hb hby d1_6) rfl hr) ?_
    refine own_go (B := s₁.setTop (mkF m 9 #[.val (.int x)] [(.int (65534 : Int32)), (.int x)])) (fun _ hr => X0.ldcI hx hown (mvT hZ (hw _ (List.mem_of_getElem? (i := 8) rfl))) rfl (hb hby d1_7) hr) ?_
    by_cases c28 : x = (65534 : Int32)
    · refine own_go (B := s₁.setTop (mkF m 22 #[.val (.int x)] [])) (fun _ hr => XS.icmpYes X0.here hx rfl (pc0 := 9) (pc' := 22) rfl (hb hby d1_9) rfl (XT.ii_eq_t c28) (by decide) (by decide) hr) ?_
      refine own_go (B := s₁.setTop (mkF m 23 #[.val (.int x)] [(.int (0 : Int32))])) (fun _ hr => XT.iconstV X0.here hx rfl (0 : Int32) (hb hby d1_22) (by decide) hr) ?_
      refine own_go (B := s₁.setTop (mkF m 49 #[.val (.int x)] [(.int (0 : Int32))])) (fun _ hr => XS.goto X0.here hx rfl (pc0 := 23) (pc' := 49) rfl (hb hby d1_23) (by decide) (by decide) hr) ?_
      exact own_retZ X0 hx hlk hret (by decide) (hb hby d1_49) (by decide) (by decide) ⟨by simp only [own_carries, if_neg c24, if_pos c28], N0, e0⟩
    · refine own_go (B := s₁.setTop (mkF m 12 #[.val (.int x)] [])) (fun _ hr => XS.icmpNo X0.here hx rfl (hb hby d1_9) rfl (XT.ii_eq_f c28) hr) ?_
      refine own_go (B := s₁.setTop (mkF m 13 #[.val (.int x)] [(.int x)])) (fun _ hr => XS.iloadN X0.here hx rfl (hb hby d1_12) rfl hr) ?_
      refine own_go (B := s₁.setTop (mkF m 15 #[.val (.int x)] [(.int (65535 : Int32)), (.int x)])) (fun _ hr => X0.ldcI hx hown (mvT hZ (hw _ (List.mem_of_getElem? (i := 9) rfl))) rfl (hb hby d1_13) hr) ?_
      by_cases c29 : x = (65535 : Int32)
      · refine own_go (B := s₁.setTop (mkF m 22 #[.val (.int x)] [])) (fun _ hr => XS.icmpYes X0.here hx rfl (pc0 := 15) (pc' := 22) rfl (hb hby d1_15) rfl (XT.ii_eq_t c29) (by decide) (by decide) hr) ?_
        refine own_go (B := s₁.setTop (mkF m 23 #[.val (.int x)] [(.int (0 : Int32))])) (fun _ hr => XT.iconstV X0.here hx rfl (0 : Int32) (hb hby d1_22) (by decide) hr) ?_
        refine own_go (B := s₁.setTop (mkF m 49 #[.val (.int x)] [(.int (0 : Int32))])) (fun _ hr => XS.goto X0.here hx rfl (pc0 := 23) (pc' := 49) rfl (hb hby d1_23) (by decide) (by decide) hr) ?_
        exact own_retZ X0 hx hlk hret (by decide) (hb hby d1_49) (by decide) (by decide) ⟨by simp only [own_carries, if_neg c24, if_neg c28, if_pos c29], N0, e0⟩
      · refine own_go (B := s₁.setTop (mkF m 18 #[.val (.int x)] [])) (fun _ hr => XS.icmpNo X0.here hx rfl (hb hby d1_15) rfl (XT.ii_eq_f c29) hr) ?_
        refine own_go (B := s₁.setTop (mkF m 19 #[.val (.int x)] [(.int (1 : Int32))])) (fun _ hr => XT.iconstV X0.here hx rfl (1 : Int32) (hb hby d1_18) (by decide) hr) ?_
        refine own_go (B := s₁.setTop (mkF m 49 #[.val (.int x)] [(.int (1 : Int32))])) (fun _ hr => XS.goto X0.here hx rfl (pc0 := 19) (pc' := 49) rfl (hb hby d1_19) (by decide) (by decide) hr) ?_
        exact own_retZ X0 hx hlk hret (by decide) (hb hby d1_49) (by decide) (by decide) ⟨by simp only [own_carries, if_neg c24, if_neg c28, if_neg c29], N0, e0⟩
theorem pn_law : plainName "com/example/rosterline/rosterline/core/XmlTextCarriesPinLaw" = true := by first | (simp [plainName, overriddenIn]; done) | decide +kernel
theorem ef_law (m : MethodId) (x0 : Int32) : entryFrame m #[(.int x0)] maxLocals = mkF m 0 #[.val (.int x0), .unset, .unset, .unset] [] := by first | (simp [entryFrame, mkF, argsToLocals, Value.category, maxLocals]; done) | rfl
def Q_law (Z : State) (xi : Int32) (h0 : Heap) (n0 : Nat) (v : Option Value) (h : Heap) (L : List Loc) : Prop := v = some (.int 1) ∧ Fr n0 L
set_option maxRecDepth 65536 in
set_option maxHeartbeats 40000000 in
theorem rm_law (l : Launch) (Z : State) (a0 : Array Value) (hw : ∀ d ∈ tables_1, d.before a0 Z = true) (ws : List Jvm.Cond) (xi : Int32) (h0 : Heap) (n0 : Nat) (Z0 : n0 ≤ h0.size)  :
    MetFree l x (head1 (Jvm.Cond.code x code maxLocals ret :: ws) room_1) (fun a U => a = #[(.int xi)] ∧ Z.Warmed39 U.vm ∧ U.heap = h0) (fun _ _ _ _ _ => True) (fun _ U o U' => ∃ v L, o = .returned v ∧ Q_law Z xi h0 n0 v U'.heap L ∧ FrameEnd U o U' L 0 0) := by
  refine MetFree.of_bodySF (plainFor_of_name pn_law) hisR ?_
  intro p e s m args below meth c s₁ Bd hml0 hP hK
  obtain ⟨rfl, hZ, hh⟩ := hP
  have hx := Bd.exec
  have hby := Bd.bytes
  have hml : c.maxLocals = 4 := hml0
  have hown : s.vm.findClass "com/example/rosterline/rosterline/core/XmlTextCarriesPinLaw" = some m.cls := findClass_of_methodNamed Bd.named
  have hnm := (name_of_methodNamed Bd.named Bd.method).1
  have hlk := BodyLoose.notSynchronized Bd
  have hret := Bd.returns
  have X0 : Stand p l e room_1 s m #[(.int xi)] below meth c s₁ [] 0 0 := Stand.of_body Bd
  have e0 : s₁.heap = h0 := by rw [← hh, Bd.state]; rfl
  have N0 := Fr.nil n0
  show own_G p e below (own_P s below (Q_law Z xi h0 n0) 0 0) _
  refine own_go (B := s₁.setTop (mkF m 0 #[.val (.int xi), .unset, .unset, .unset] [])) (fun t k => castTop (ef_law m xi) k) ?_
  refine own_go (B := s₁.setTop (mkF m 1 #[.val (.int xi), .unset, .unset, .unset] [(.int xi)])) (fun _ hr => XS.iloadN X0.here hx rfl (hb hby at_0) rfl hr) ?_
  refine own_go (B := s₁.setTop (mkF m 3 #[.val (.int xi), .unset, .unset, .unset] [(.int (65535 : Int32)), (.int xi)])) (fun _ hr => X0.ldcI hx hown (mvT hZ (hw _ (List.mem_of_getElem? (i := 0) rfl))) rfl (hb hby at_1) hr) ?_
  refine own_go (B := s₁.setTop (mkF m 4 #[.val (.int xi), .unset, .unset, .unset] [(.int (xi &&& (65535 : Int32)))])) (fun _ hr => XS.iand X0.here hx rfl (hb hby at_3) rfl hr) ?_
  refine own_go (B := s₁.setTop (mkF m 5 #[.val (.int xi), .unset, .unset, .unset] [(.int ((xi &&& (65535 : Int32)).toUInt32.toUInt16.toUInt32.toInt32))])) (fun _ hr => XT.i2c X0.here hx rfl (hb hby at_4) rfl hr) ?_
  refine own_go (B := s₁.setTop (mkF m 6 #[.val (.int xi), .val (.int ((xi &&& (65535 : Int32)).toUInt32.toUInt16.toUInt32.toInt32)), .unset, .unset] [])) (fun _ hr => XS.istoreN X0.here hx rfl (hb hby at_5) rfl (l' := #[.val (.int xi), .val (.int ((xi &&& (65535 : Int32)).toUInt32.toUInt16.toUInt32.toInt32)), .unset, .unset]) rfl hr) ?_
  have hch := own_char xi
  generalize ((xi &&& (65535 : Int32)).toUInt32.toUInt16.toUInt32.toInt32) = v at hch ⊢
  refine own_go (B := s₁.setTop (mkF m 7 #[.val (.int xi), .val (.int v), .unset, .unset] [(.int v)])) (fun _ hr => XS.iloadN X0.here hx rfl (hb hby at_6) rfl hr) ?_
  refine own_go (B := s₁.setTop (mkF m 8 #[.val (.int xi), .val (.int v), .val (.int v), .unset] [])) (fun _ hr => XS.istoreN X0.here hx rfl (hb hby at_7) rfl (l' := #[.val (.int xi), .val (.int v), .val (.int v), .unset]) rfl hr) ?_
  have hk : own_G p e below (own_P s below (Q_law Z xi h0 n0) 0 0) (s₁.setTop (mkF m 67 #[.val (.int xi), .val (.int v), .val (.int v), .unset] [(.int (own_exp v))])) := by
    refine own_go (B := s₁.setTop (mkF m 68 #[.val (.int xi), .val (.int v), .val (.int v), .val (.int (own_exp v))] [])) (fun _ hr => XS.istoreN X0.here hx rfl (hb hby at_67) rfl (l' := #[.val (.int xi), .val (.int v), .val (.int v), .val (.int (own_exp v))]) rfl hr) ?_
    refine own_go (B := s₁.setTop (mkF m 69 #[.val (.int xi), .val (.int v), .val (.int v), .val (.int (own_exp v))] [(.int v)])) (fun _ hr => XS.iloadN X0.here hx rfl (hb hby at_68) rfl hr) ?_
    obtain ⟨_, _, ⟨T30, L30, k30, n30⟩, -, X30, ⟨Lc30, hQ30, l30, y30, z30⟩, st30⟩ := Jvm.LawKit.callS X0 hx (y := (⟨"com/example/rosterline/rosterline/core/XmlText", "carries", "(C)Z"⟩ : MethodName)) hown (mvT hZ (hw _ (List.mem_of_getElem? (i := 3) rfl))) (mvT hZ (hw _ (List.mem_of_getElem? (i := 4) rfl))) (mvT hZ (hw _ (List.mem_of_getElem? (i := 5) rfl))) (mvT hZ (hw _ (List.mem_of_getElem? (i := 6) rfl))) (by decide) (backOf (W := 0) (rm_carries l Z a0 hw [] v h0 n0 Z0) hZ (hw _ (List.mem_of_getElem? (i := 6) rfl)) (hw _ (List.mem_of_getElem? (i := 5) rfl)) (by decide) (by decide)) (g := (mkF m 69 #[.val (.int xi), .val (.int v), .val (.int v), .val (.int (own_exp v))] [(.int v)])) rfl (by rw [hml]; rfl) (argsL := [(.int v)]) (rest := []) (lenOf pd_carries rfl) rfl (by show 2 * 0 + _ ≤ _; exact Nat.le_of_eq rfl) (hb hby at_69) (fun _ _ => ⟨rfl, e0, (by decide : 0 + 0 ≤ _), (by decide : 0 + 0 ≤ _)⟩)
    dsimp only [Pt.U, Pt.locs, Pt.cells, Pt.slots] at X30 l30 y30 z30 st30 hQ30
    subst l30 y30 z30
    obtain ⟨rfl, N30, e30⟩ := hQ30
    have M30 := Fr.app N0 N30
    refine own_go (B := T30.setTop (mkF m 72 #[.val (.int xi), .val (.int v), .val (.int v), .val (.int (own_exp v))] [(.int (own_carries v))])) (fun t hr => st30 t hr) ?_
    refine own_go (B := T30.setTop (mkF m 73 #[.val (.int xi), .val (.int v), .val (.int v), .val (.int (own_exp v))] [(.int (own_exp v)), (.int (own_carries v))])) (fun _ hr => XS.iloadN X30.here hx rfl (hb hby at_72) rfl hr) ?_
    refine own_go (B := T30.setTop (mkF m 76 #[.val (.int xi), .val (.int v), .val (.int v), .val (.int (own_exp v))] [])) (fun _ hr => XS.icmpNo X30.here hx rfl (hb hby at_73) rfl (XT.ii_ne_f (own_same v hch.1 hch.2)) hr) ?_
    refine own_go (B := T30.setTop (mkF m 77 #[.val (.int xi), .val (.int v), .val (.int v), .val (.int (own_exp v))] [(.int (1 : Int32))])) (fun _ hr => XT.iconstV X30.here hx rfl (1 : Int32) (hb hby at_76) (by decide) hr) ?_
    refine own_go (B := T30.setTop (mkF m 81 #[.val (.int xi), .val (.int v), .val (.int v), .val (.int (own_exp v))] [(.int (1 : Int32))])) (fun _ hr => XS.goto X30.here hx rfl (pc0 := 77) (pc' := 81) rfl (hb hby at_77) (by decide) (by decide) hr) ?_
    exact own_retZ X30 hx hlk hret (by decide) (hb hby at_81) (by decide) (by decide) ⟨rfl, M30⟩
  refine own_go (B := s₁.setTop (mkF m 9 #[.val (.int xi), .val (.int v), .val (.int v), .unset] [(.int v)])) (fun _ hr => XS.iloadN X0.here hx rfl (hb hby at_8) rfl hr) ?_
  refine own_go (B := s₁.setTop (mkF m 11 #[.val (.int xi), .val (.int v), .val (.int v), .unset] [(.int (9 : Int32)), (.int v)])) (fun _ hr => XT.bipushV X0.here hx rfl (9 : Int32) (hb hby at_9) (by decide) hr) ?_
  by_cases c31 : v = (9 : Int32)
  · refine own_go (B := s₁.setTop (mkF m 62 #[.val (.int xi), .val (.int v), .val (.int v), .unset] [])) (fun _ hr => XS.icmpYes X0.here hx rfl (pc0 := 11) (pc' := 62) rfl (hb hby at_11) rfl (XT.ii_eq_t c31) (by decide) (by decide) hr) ?_
    refine own_go (B := s₁.setTop (mkF m 63 #[.val (.int xi), .val (.int v), .val (.int v), .unset] [(.int (1 : Int32))])) (fun _ hr => XT.iconstV X0.here hx rfl (1 : Int32) (hb hby at_62) (by decide) hr) ?_
    refine own_go (B := s₁.setTop (mkF m 67 #[.val (.int xi), .val (.int v), .val (.int v), .unset] [(.int (1 : Int32))])) (fun _ hr => XS.goto X0.here hx rfl (pc0 := 63) (pc' := 67) rfl (hb hby at_63) (by decide) (by decide) hr) ?_
    have q : own_exp v = (1 : Int32) := by simp only [own_exp, if_pos c31]
    rw [q] at hk
    exact hk
  · refine own_go (B := s₁.setTop (mkF m 14 #[.val (.int xi), .val (.int v), .val (.int v), .unset] [])) (fun _ hr => XS.icmpNo X0.here hx rfl (hb hby at_11) rfl (XT.ii_eq_f c31) hr) ?_
    refine own_go (B := s₁.setTop (mkF m 15 #[.val (.int xi), .val (.int v), .val (.int v), .unset] [(.int v)])) (fun _ hr => XS.iloadN X0.here hx rfl (hb hby at_14) rfl hr) ?_
    refine own_go (B := s₁.setTop (mkF m 17 #[.val (.int xi), .val (.int v), .val (.int v), .unset] [(.int (10 : Int32)), (.int v)])) (fun _ hr => XT.bipushV X0.here hx rfl (10 : Int32) (hb hby at_15) (by decide) hr) ?_
    by_cases c32 : v = (10 : Int32)
    · refine own_go (B := s₁.setTop (mkF m 62 #[.val (.int xi), .val (.int v), .val (.int v), .unset] [])) (fun _ hr => XS.icmpYes X0.here hx rfl (pc0 := 17) (pc' := 62) rfl (hb hby at_17) rfl (XT.ii_eq_t c32) (by decide) (by decide) hr) ?_
      refine own_go (B := s₁.setTop (mkF m 63 #[.val (.int xi), .val (.int v), .val (.int v), .unset] [(.int (1 : Int32))])) (fun _ hr => XT.iconstV X0.here hx rfl (1 : Int32) (hb hby at_62) (by decide) hr) ?_
      refine own_go (B := s₁.setTop (mkF m 67 #[.val (.int xi), .val (.int v), .val (.int v), .unset] [(.int (1 : Int32))])) (fun _ hr => XS.goto X0.here hx rfl (pc0 := 63) (pc' := 67) rfl (hb hby at_63) (by decide) (by decide) hr) ?_
      have q : own_exp v = (1 : Int32) := by simp only [own_exp, if_neg c31, if_pos c32]
      rw [q] at hk
      exact hk
    · refine own_go (B := s₁.setTop (mkF m 20 #[.val (.int xi), .val (.int v), .val (.int v), .unset] [])) (fun _ hr => XS.icmpNo X0.here hx rfl (hb hby at_17) rfl (XT.ii_eq_f c32) hr) ?_
      refine own_go (B := s₁.setTop (mkF m 21 #[.val (.int xi), .val (.int v), .val (.int v), .unset] [(.int v)])) (fun _ hr => XS.iloadN X0.here hx rfl (hb hby at_20) rfl hr) ?_
      refine own_go (B := s₁.setTop (mkF m 23 #[.val (.int xi), .val (.int v), .val (.int v), .unset] [(.int (13 : Int32)), (.int v)])) (fun _ hr => XT.bipushV X0.here hx rfl (13 : Int32) (hb hby at_21) (by decide) hr) ?_
      by_cases c33 : v = (13 : Int32)
      · refine own_go (B := s₁.setTop (mkF m 62 #[.val (.int xi), .val (.int v), .val (.int v), .unset] [])) (fun _ hr => XS.icmpYes X0.here hx rfl (pc0 := 23) (pc' := 62) rfl (hb hby at_23) rfl (XT.ii_eq_t c33) (by decide) (by decide) hr) ?_
        refine own_go (B := s₁.setTop (mkF m 63 #[.val (.int xi), .val (.int v), .val (.int v), .unset] [(.int (1 : Int32))])) (fun _ hr => XT.iconstV X0.here hx rfl (1 : Int32) (hb hby at_62) (by decide) hr) ?_
        refine own_go (B := s₁.setTop (mkF m 67 #[.val (.int xi), .val (.int v), .val (.int v), .unset] [(.int (1 : Int32))])) (fun _ hr => XS.goto X0.here hx rfl (pc0 := 63) (pc' := 67) rfl (hb hby at_63) (by decide) (by decide) hr) ?_
        have q : own_exp v = (1 : Int32) := by simp only [own_exp, if_neg c31, if_neg c32, if_pos c33]
        rw [q] at hk
        exact hk
      · refine own_go (B := s₁.setTop (mkF m 26 #[.val (.int xi), .val (.int v), .val (.int v), .unset] [])) (fun _ hr => XS.icmpNo X0.here hx rfl (hb hby at_23) rfl (XT.ii_eq_f c33) hr) ?_
        refine own_go (B := s₁.setTop (mkF m 27 #[.val (.int xi), .val (.int v), .val (.int v), .unset] [(.int v)])) (fun _ hr => XS.iloadN X0.here hx rfl (hb hby at_26) rfl hr) ?_
        refine own_go (B := s₁.setTop (mkF m 29 #[.val (.int xi), .val (.int v), .val (.int v), .unset] [(.int (32 : Int32)), (.int v)])) (fun _ hr => XT.bipushV X0.here hx rfl (32 : Int32) (hb hby at_27) (by decide) hr) ?_
        by_cases c34 : v < (32 : Int32)
        · refine own_go (B := s₁.setTop (mkF m 38 #[.val (.int xi), .val (.int v), .val (.int v), .unset] [])) (fun _ hr => XS.icmpYes X0.here hx rfl (pc0 := 29) (pc' := 38) rfl (hb hby at_29) rfl (XT.ii_lt_t c34) (by decide) (by decide) hr) ?_
          refine own_go (B := s₁.setTop (mkF m 39 #[.val (.int xi), .val (.int v), .val (.int v), .unset] [(.int v)])) (fun _ hr => XS.iloadN X0.here hx rfl (hb hby at_38) rfl hr) ?_
          refine own_go (B := s₁.setTop (mkF m 41 #[.val (.int xi), .val (.int v), .val (.int v), .unset] [(.int (55296 : Int32)), (.int v)])) (fun _ hr => X0.ldcI hx hown (mvT hZ (hw _ (List.mem_of_getElem? (i := 1) rfl))) rfl (hb hby at_39) hr) ?_
          by_cases c35 : v < (55296 : Int32)
          · refine own_go (B := s₁.setTop (mkF m 50 #[.val (.int xi), .val (.int v), .val (.int v), .unset] [])) (fun _ hr => XS.icmpYes X0.here hx rfl (pc0 := 41) (pc' := 50) rfl (hb hby at_41) rfl (XT.ii_lt_t c35) (by decide) (by decide) hr) ?_
            refine own_go (B := s₁.setTop (mkF m 51 #[.val (.int xi), .val (.int v), .val (.int v), .unset] [(.int v)])) (fun _ hr => XS.iloadN X0.here hx rfl (hb hby at_50) rfl hr) ?_
            refine own_go (B := s₁.setTop (mkF m 53 #[.val (.int xi), .val (.int v), .val (.int v), .unset] [(.int (57344 : Int32)), (.int v)])) (fun _ hr => X0.ldcI hx hown (mvT hZ (hw _ (List.mem_of_getElem? (i := 2) rfl))) rfl (hb hby at_51) hr) ?_
            by_cases c36 : v < (57344 : Int32)
            · refine own_go (B := s₁.setTop (mkF m 66 #[.val (.int xi), .val (.int v), .val (.int v), .unset] [])) (fun _ hr => XS.icmpYes X0.here hx rfl (pc0 := 53) (pc' := 66) rfl (hb hby at_53) rfl (XT.ii_lt_t c36) (by decide) (by decide) hr) ?_
              refine own_go (B := s₁.setTop (mkF m 67 #[.val (.int xi), .val (.int v), .val (.int v), .unset] [(.int (0 : Int32))])) (fun _ hr => XT.iconstV X0.here hx rfl (0 : Int32) (hb hby at_66) (by decide) hr) ?_
              have q : own_exp v = (0 : Int32) := by simp only [own_exp, if_neg c31, if_neg c32, if_neg c33, if_pos c34, if_pos c35, if_pos c36]
              rw [q] at hk
              exact hk
            · refine own_go (B := s₁.setTop (mkF m 56 #[.val (.int xi), .val (.int v), .val (.int v), .unset] [])) (fun _ hr => XS.icmpNo X0.here hx rfl (hb hby at_53) rfl (XT.ii_lt_f c36) hr) ?_
              refine own_go (B := s₁.setTop (mkF m 57 #[.val (.int xi), .val (.int v), .val (.int v), .unset] [(.int v)])) (fun _ hr => XS.iloadN X0.here hx rfl (hb hby at_56) rfl hr) ?_
              refine own_go (B := s₁.setTop (mkF m 59 #[.val (.int xi), .val (.int v), .val (.int v), .unset] [(.int (65533 : Int32)), (.int v)])) (fun _ hr => X0.ldcI hx hown (mvT hZ (hw _ (List.mem_of_getElem? (i := 11) rfl))) rfl (hb hby at_57) hr) ?_
              by_cases c37 : (65533 : Int32) < v
              · refine own_go (B := s₁.setTop (mkF m 66 #[.val (.int xi), .val (.int v), .val (.int v), .unset] [])) (fun _ hr => XS.icmpYes X0.here hx rfl (pc0 := 59) (pc' := 66) rfl (hb hby at_59) rfl (XT.ii_gt_t c37) (by decide) (by decide) hr) ?_
                refine own_go (B := s₁.setTop (mkF m 67 #[.val (.int xi), .val (.int v), .val (.int v), .unset] [(.int (0 : Int32))])) (fun _ hr => XT.iconstV X0.here hx rfl (0 : Int32) (hb hby at_66) (by decide) hr) ?_
                have q : own_exp v = (0 : Int32) := by simp only [own_exp, if_neg c31, if_neg c32, if_neg c33, if_pos c34, if_pos c35, if_neg c36, if_pos c37]
                rw [q] at hk
                exact hk
              · refine own_go (B := s₁.setTop (mkF m 62 #[.val (.int xi), .val (.int v), .val (.int v), .unset] [])) (fun _ hr => XS.icmpNo X0.here hx rfl (hb hby at_59) rfl (XT.ii_gt_f c37) hr) ?_
                refine own_go (B := s₁.setTop (mkF m 63 #[.val (.int xi), .val (.int v), .val (.int v), .unset] [(.int (1 : Int32))])) (fun _ hr => XT.iconstV X0.here hx rfl (1 : Int32) (hb hby at_62) (by decide) hr) ?_
                refine own_go (B := s₁.setTop (mkF m 67 #[.val (.int xi), .val (.int v), .val (.int v), .unset] [(.int (1 : Int32))])) (fun _ hr => XS.goto X0.here hx rfl (pc0 := 63) (pc' := 67) rfl (hb hby at_63) (by decide) (by decide) hr) ?_
                have q : own_exp v = (1 : Int32) := by simp only [own_exp, if_neg c31, if_neg c32, if_neg c33, if_pos c34, if_pos c35, if_neg c36, if_neg c37]
                rw [q] at hk
                exact hk
          · refine own_go (B := s₁.setTop (mkF m 44 #[.val (.int xi), .val (.int v), .val (.int v), .unset] [])) (fun _ hr => XS.icmpNo X0.here hx rfl (hb hby at_41) rfl (XT.ii_lt_f c35) hr) ?_
            refine own_go (B := s₁.setTop (mkF m 45 #[.val (.int xi), .val (.int v), .val (.int v), .unset] [(.int v)])) (fun _ hr => XS.iloadN X0.here hx rfl (hb hby at_44) rfl hr) ?_
            refine own_go (B := s₁.setTop (mkF m 47 #[.val (.int xi), .val (.int v), .val (.int v), .unset] [(.int (57343 : Int32)), (.int v)])) (fun _ hr => X0.ldcI hx hown (mvT hZ (hw _ (List.mem_of_getElem? (i := 10) rfl))) rfl (hb hby at_45) hr) ?_
            by_cases c38 : (57343 : Int32) < v
            · refine own_go (B := s₁.setTop (mkF m 50 #[.val (.int xi), .val (.int v), .val (.int v), .unset] [])) (fun _ hr => XS.icmpNo X0.here hx rfl (hb hby at_47) rfl (XT.ii_le_f c38) hr) ?_
              refine own_go (B := s₁.setTop (mkF m 51 #[.val (.int xi), .val (.int v), .val (.int v), .unset] [(.int v)])) (fun _ hr => XS.iloadN X0.here hx rfl (hb hby at_50) rfl hr) ?_
              refine own_go (B := s₁.setTop (mkF m 53 #[.val (.int xi), .val (.int v), .val (.int v), .unset] [(.int (57344 : Int32)), (.int v)])) (fun _ hr => X0.ldcI hx hown (mvT hZ (hw _ (List.mem_of_getElem? (i := 2) rfl))) rfl (hb hby at_51) hr) ?_
              by_cases c39 : v < (57344 : Int32)
              · refine own_go (B := s₁.setTop (mkF m 66 #[.val (.int xi), .val (.int v), .val (.int v), .unset] [])) (fun _ hr => XS.icmpYes X0.here hx rfl (pc0 := 53) (pc' := 66) rfl (hb hby at_53) rfl (XT.ii_lt_t c39) (by decide) (by decide) hr) ?_
                refine own_go (B := s₁.setTop (mkF m 67 #[.val (.int xi), .val (.int v), .val (.int v), .unset] [(.int (0 : Int32))])) (fun _ hr => XT.iconstV X0.here hx rfl (0 : Int32) (hb hby at_66) (by decide) hr) ?_
                have q : own_exp v = (0 : Int32) := by simp only [own_exp, if_neg c31, if_neg c32, if_neg c33, if_pos c34, if_neg c35, if_pos c38, if_pos c39]
                rw [q] at hk
                exact hk
              · refine own_go (B := s₁.setTop (mkF m 56 #[.val (.int xi), .val (.int v), .val (.int v), .unset] [])) (fun _ hr => XS.icmpNo X0.here hx rfl (hb hby at_53) rfl (XT.ii_lt_f c39) hr) ?_
                refine own_go (B := s₁.setTop (mkF m 57 #[.val (.int xi), .val (.int v), .val (.int v), .unset] [(.int v)])) (fun _ hr => XS.iloadN X0.here hx rfl (hb hby at_56) rfl hr) ?_
                refine own_go (B := s₁.setTop (mkF m 59 #[.val (.int xi), .val (.int v), .val (.int v), .unset] [(.int (65533 : Int32)), (.int v)])) (fun _ hr => X0.ldcI hx hown (mvT hZ (hw _ (List.mem_of_getElem? (i := 11) rfl))) rfl (hb hby at_57) hr) ?_
                by_cases c40 : (65533 : Int32) < v
                · refine own_go (B := s₁.setTop (mkF m 66 #[.val (.int xi), .val (.int v), .val (.int v), .unset] [])) (fun _ hr => XS.icmpYes X0.here hx rfl (pc0 := 59) (pc' := 66) rfl (hb hby at_59) rfl (XT.ii_gt_t c40) (by decide) (by decide) hr) ?_
                  refine own_go (B := s₁.setTop (mkF m 67 #[.val (.int xi), .val (.int v), .val (.int v), .unset] [(.int (0 : Int32))])) (fun _ hr => XT.iconstV X0.here hx rfl (0 : Int32) (hb hby at_66) (by decide) hr) ?_
                  have q : own_exp v = (0 : Int32) := by simp only [own_exp, if_neg c31, if_neg c32, if_neg c33, if_pos c34, if_neg c35, if_pos c38, if_neg c39, if_pos c40]
                  rw [q] at hk
                  exact hk
                · refine own_go (B := s₁.setTop (mkF m 62 #[.val (.int xi), .val (.int v), .val (.int v), .unset] [])) (fun _ hr => XS.icmpNo X0.here hx rfl (hb hby at_59) rfl (XT.ii_gt_f c40) hr) ?_
                  refine own_go (B := s₁.setTop (mkF m 63 #[.val (.int xi), .val (.int v), .val (.int v), .unset] [(.int (1 : Int32))])) (fun _ hr => XT.iconstV X0.here hx rfl (1 : Int32) (hb hby at_62) (by decide) hr) ?_
                  refine own_go (B := s₁.setTop (mkF m 67 #[.val (.int xi), .val (.int v), .val (.int v), .unset] [(.int (1 : Int32))])) (fun _ hr => XS.goto X0.here hx rfl (pc0 := 63) (pc' := 67) rfl (hb hby at_63) (by decide) (by decide) hr) ?_
                  have q : own_exp v = (1 : Int32) := by simp only [own_exp, if_neg c31, if_neg c32, if_neg c33, if_pos c34, if_neg c35, if_pos c38, if_neg c39, if_neg c40]
                  rw [q] at hk
                  exact hk
            · refine own_go (B := s₁.setTop (mkF m 62 #[.val (.int xi), .val (.int v), .val (.int v), .unset] [])) (fun _ hr => XS.icmpYes X0.here hx rfl (pc0 := 47) (pc' := 62) rfl (hb hby at_47) rfl (XT.ii_le_t c38) (by decide) (by decide) hr) ?_
              refine own_go (B := s₁.setTop (mkF m 63 #[.val (.int xi), .val (.int v), .val (.int v), .unset] [(.int (1 : Int32))])) (fun _ hr => XT.iconstV X0.here hx rfl (1 : Int32) (hb hby at_62) (by decide) hr) ?_
              refine own_go (B := s₁.setTop (mkF m 67 #[.val (.int xi), .val (.int v), .val (.int v), .unset] [(.int (1 : Int32))])) (fun _ hr => XS.goto X0.here hx rfl (pc0 := 63) (pc' := 67) rfl (hb hby at_63) (by decide) (by decide) hr) ?_
              have q : own_exp v = (1 : Int32) := by simp only [own_exp, if_neg c31, if_neg c32, if_neg c33, if_pos c34, if_neg c35, if_neg c38]
              rw [q] at hk
              exact hk
        · refine own_go (B := s₁.setTop (mkF m 32 #[.val (.int xi), .val (.int v), .val (.int v), .unset] [])) (fun _ hr => XS.icmpNo X0.here hx rfl (hb hby at_29) rfl (XT.ii_lt_f c34) hr) ?_
          refine own_go (B := s₁.setTop (mkF m 33 #[.val (.int xi), .val (.int v), .val (.int v), .unset] [(.int v)])) (fun _ hr => XS.iloadN X0.here hx rfl (hb hby at_32) rfl hr) ?_
          refine own_go (B := s₁.setTop (mkF m 35 #[.val (.int xi), .val (.int v), .val (.int v), .unset] [(.int (55295 : Int32)), (.int v)])) (fun _ hr => X0.ldcI hx hown (mvT hZ (hw _ (List.mem_of_getElem? (i := 7) rfl))) rfl (hb hby at_33) hr) ?_
          by_cases c41 : (55295 : Int32) < v
          · refine own_go (B := s₁.setTop (mkF m 38 #[.val (.int xi), .val (.int v), .val (.int v), .unset] [])) (fun _ hr => XS.icmpNo X0.here hx rfl (hb hby at_35) rfl (XT.ii_le_f c41) hr) ?_
            refine own_go (B := s₁.setTop (mkF m 39 #[.val (.int xi), .val (.int v), .val (.int v), .unset] [(.int v)])) (fun _ hr => XS.iloadN X0.here hx rfl (hb hby at_38) rfl hr) ?_
            refine own_go (B := s₁.setTop (mkF m 41 #[.val (.int xi), .val (.int v), .val (.int v), .unset] [(.int (55296 : Int32)), (.int v)])) (fun _ hr => X0.ldcI hx hown (mvT hZ (hw _ (List.mem_of_getElem? (i := 1) rfl))) rfl (hb hby at_39) hr) ?_
            by_cases c42 : v < (55296 : Int32)
            · refine own_go (B := s₁.setTop (mkF m 50 #[.val (.int xi), .val (.int v), .val (.int v), .unset] [])) (fun _ hr => XS.icmpYes X0.here hx rfl (pc0 := 41) (pc' := 50) rfl (hb hby at_41) rfl (XT.ii_lt_t c42) (by decide) (by decide) hr) ?_
              refine own_go (B := s₁.setTop (mkF m 51 #[.val (.int xi), .val (.int v), .val (.int v), .unset] [(.int v)])) (fun _ hr => XS.iloadN X0.here hx rfl (hb hby at_50) rfl hr) ?_
              refine own_go (B := s₁.setTop (mkF m 53 #[.val (.int xi), .val (.int v), .val (.int v), .unset] [(.int (57344 : Int32)), (.int v)])) (fun _ hr => X0.ldcI hx hown (mvT hZ (hw _ (List.mem_of_getElem? (i := 2) rfl))) rfl (hb hby at_51) hr) ?_
              by_cases c43 : v < (57344 : Int32)
              · refine own_go (B := s₁.setTop (mkF m 66 #[.val (.int xi), .val (.int v), .val (.int v), .unset] [])) (fun _ hr => XS.icmpYes X0.here hx rfl (pc0 := 53) (pc' := 66) rfl (hb hby at_53) rfl (XT.ii_lt_t c43) (by decide) (by decide) hr) ?_
                refine own_go (B := s₁.setTop (mkF m 67 #[.val (.int xi), .val (.int v), .val (.int v), .unset] [(.int (0 : Int32))])) (fun _ hr => XT.iconstV X0.here hx rfl (0 : Int32) (hb hby at_66) (by decide) hr) ?_
                have q : own_exp v = (0 : Int32) := by simp only [own_exp, if_neg c31, if_neg c32, if_neg c33, if_neg c34, if_pos c41, if_pos c42, if_pos c43]
                rw [q] at hk
                exact hk
              · refine own_go (B := s₁.setTop (mkF m 56 #[.val (.int xi), .val (.int v), .val (.int v), .unset] [])) (fun _ hr => XS.icmpNo X0.here hx rfl (hb hby at_53) rfl (XT.ii_lt_f c43) hr) ?_
                refine own_go (B := s₁.setTop (mkF m 57 #[.val (.int xi), .val (.int v), .val (.int v), .unset] [(.int v)])) (fun _ hr => XS.iloadN X0.here hx rfl (hb hby at_56) rfl hr) ?_
                refine own_go (B := s₁.setTop (mkF m 59 #[.val (.int xi), .val (.int v), .val (.int v), .unset] [(.int (65533 : Int32)), (.int v)])) (fun _ hr => X0.ldcI hx hown (mvT hZ (hw _ (List.mem_of_getElem? (i := 11) rfl))) rfl (hb hby at_57) hr) ?_
                by_cases c44 : (65533 : Int32) < v
                · refine own_go (B := s₁.setTop (mkF m 66 #[.val (.int xi), .val (.int v), .val (.int v), .unset] [])) (fun _ hr => XS.icmpYes X0.here hx rfl (pc0 := 59) (pc' := 66) rfl (hb hby at_59) rfl (XT.ii_gt_t c44) (by decide) (by decide) hr) ?_
                  refine own_go (B := s₁.setTop (mkF m 67 #[.val (.int xi), .val (.int v), .val (.int v), .unset] [(.int (0 : Int32))])) (fun _ hr => XT.iconstV X0.here hx rfl (0 : Int32) (hb hby at_66) (by decide) hr) ?_
                  have q : own_exp v = (0 : Int32) := by simp only [own_exp, if_neg c31, if_neg c32, if_neg c33, if_neg c34, if_pos c41, if_pos c42, if_neg c43, if_pos c44]
                  rw [q] at hk
                  exact hk
                · refine own_go (B := s₁.setTop (mkF m 62 #[.val (.int xi), .val (.int v), .val (.int v), .unset] [])) (fun _ hr => XS.icmpNo X0.here hx rfl (hb hby at_59) rfl (XT.ii_gt_f c44) hr) ?_
                  refine own_go (B := s₁.setTop (mkF m 63 #[.val (.int xi), .val (.int v), .val (.int v), .unset] [(.int (1 : Int32))])) (fun _ hr => XT.iconstV X0.here hx rfl (1 : Int32) (hb hby at_62) (by decide) hr) ?_
                  refine own_go (B := s₁.setTop (mkF m 67 #[.val (.int xi), .val (.int v), .val (.int v), .unset] [(.int (1 : Int32))])) (fun _ hr => XS.goto X0.here hx rfl (pc0 := 63) (pc' := 67) rfl (hb hby at_63) (by decide) (by decide) hr) ?_
                  have q : own_exp v = (1 : Int32) := by simp only [own_exp, if_neg c31, if_neg c32, if_neg c33, if_neg c34, if_pos c41, if_pos c42, if_neg c43, if_neg c44]
                  rw [q] at hk
                  exact hk
            · refine own_go (B := s₁.setTop (mkF m 44 #[.val (.int xi), .val (.int v), .val (.int v), .unset] [])) (fun _ hr => XS.icmpNo X0.here hx rfl (hb hby at_41) rfl (XT.ii_lt_f c42) hr) ?_
              refine own_go (B := s₁.setTop (mkF m 45 #[.val (.int xi), .val (.int v), .val (.int v), .unset] [(.int v)])) (fun _ hr => XS.iloadN X0.here hx rfl (hb hby at_44) rfl hr) ?_
              refine own_go (B := s₁.setTop (mkF m 47 #[.val (.int xi), .val (.int v), .val (.int v), .unset] [(.int (57343 : Int32)), (.int v)])) (fun _ hr => X0.ldcI hx hown (mvT hZ (hw _ (List.mem_of_getElem? (i := 10) rfl))) rfl (hb hby at_45) hr) ?_
              by_cases c45 : (57343 : Int32) < v
              · refine own_go (B := s₁.setTop (mkF m 50 #[.val (.int xi), .val (.int v), .val (.int v), .unset] [])) (fun _ hr => XS.icmpNo X0.here hx rfl (hb hby at_47) rfl (XT.ii_le_f c45) hr) ?_
                refine own_go (B := s₁.setTop (mkF m 51 #[.val (.int xi), .val (.int v), .val (.int v), .unset] [(.int v)])) (fun _ hr => XS.iloadN X0.here hx rfl (hb hby at_50) rfl hr) ?_
                refine own_go (B := s₁.setTop (mkF m 53 #[.val (.int xi), .val (.int v), .val (.int v), .unset] [(.int (57344 : Int32)), (.int v)])) (fun _ hr => X0.ldcI hx hown (mvT hZ (hw _ (List.mem_of_getElem? (i := 2) rfl))) rfl (hb hby at_51) hr) ?_
                by_cases c46 : v < (57344 : Int32)
                · refine own_go (B := s₁.setTop (mkF m 66 #[.val (.int xi), .val (.int v), .val (.int v), .unset] [])) (fun _ hr => XS.icmpYes X0.here hx rfl (pc0 := 53) (pc' := 66) rfl (hb hby at_53) rfl (XT.ii_lt_t c46) (by decide) (by decide) hr) ?_
                  refine own_go (B := s₁.setTop (mkF m 67 #[.val (.int xi), .val (.int v), .val (.int v), .unset] [(.int (0 : Int32))])) (fun _ hr => XT.iconstV X0.here hx rfl (0 : Int32) (hb hby at_66) (by decide) hr) ?_
                  have q : own_exp v = (0 : Int32) := by simp only [own_exp, if_neg c31, if_neg c32, if_neg c33, if_neg c34, if_pos c41, if_neg c42, if_pos c45, if_pos c46]
                  rw [q] at hk
                  exact hk
                · refine own_go (B := s₁.setTop (mkF m 56 #[.val (.int xi), .val (.int v), .val (.int v), .unset] [])) (fun _ hr => XS.icmpNo X0.here hx rfl (hb hby at_53) rfl (XT.ii_lt_f c46) hr) ?_
                  refine own_go (B := s₁.setTop (mkF m 57 #[.val (.int xi), .val (.int v), .val (.int v), .unset] [(.int v)])) (fun _ hr => XS.iloadN X0.here hx rfl (hb hby at_56) rfl hr) ?_
                  refine own_go (B := s₁.setTop (mkF m 59 #[.val (.int xi), .val (.int v), .val (.int v), .unset] [(.int (65533 : Int32)), (.int v)])) (fun _ hr => X0.ldcI hx hown (mvT hZ (hw _ (List.mem_of_getElem? (i := 11) rfl))) rfl (hb hby at_57) hr) ?_
                  by_cases c47 : (65533 : Int32) < v
                  · refine own_go (B := s₁.setTop (mkF m 66 #[.val (.int xi), .val (.int v), .val (.int v), .unset] [])) (fun _ hr => XS.icmpYes X0.here hx rfl (pc0 := 59) (pc' := 66) rfl (hb hby at_59) rfl (XT.ii_gt_t c47) (by decide) (by decide) hr) ?_
                    refine own_go (B := s₁.setTop (mkF m 67 #[.val (.int xi), .val (.int v), .val (.int v), .unset] [(.int (0 : Int32))])) (fun _ hr => XT.iconstV X0.here hx rfl (0 : Int32) (hb hby at_66) (by decide) hr) ?_
                    have q : own_exp v = (0 : Int32) := by simp only [own_exp, if_neg c31, if_neg c32, if_neg c33, if_neg c34, if_pos c41, if_neg c42, if_pos c45, if_neg c46, if_pos c47]
                    rw [q] at hk
                    exact hk
                  · refine own_go (B := s₁.setTop (mkF m 62 #[.val (.int xi), .val (.int v), .val (.int v), .unset] [])) (fun _ hr => XS.icmpNo X0.here hx rfl (hb hby at_59) rfl (XT.ii_gt_f c47) hr) ?_
                    refine own_go (B := s₁.setTop (mkF m 63 #[.val (.int xi), .val (.int v), .val (.int v), .unset] [(.int (1 : Int32))])) (fun _ hr => XT.iconstV X0.here hx rfl (1 : Int32) (hb hby at_62) (by decide) hr) ?_
                    refine own_go (B := s₁.setTop (mkF m 67 #[.val (.int xi), .val (.int v), .val (.int v), .unset] [(.int (1 : Int32))])) (fun _ hr => XS.goto X0.here hx rfl (pc0 := 63) (pc' := 67) rfl (hb hby at_63) (by decide) (by decide) hr) ?_
                    have q : own_exp v = (1 : Int32) := by simp only [own_exp, if_neg c31, if_neg c32, if_neg c33, if_neg c34, if_pos c41, if_neg c42, if_pos c45, if_neg c46, if_neg c47]
                    rw [q] at hk
                    exact hk
              · refine own_go (B := s₁.setTop (mkF m 62 #[.val (.int xi), .val (.int v), .val (.int v), .unset] [])) (fun _ hr => XS.icmpYes X0.here hx rfl (pc0 := 47) (pc' := 62) rfl (hb hby at_47) rfl (XT.ii_le_t c45) (by decide) (by decide) hr) ?_
                refine own_go (B := s₁.setTop (mkF m 63 #[.val (.int xi), .val (.int v), .val (.int v), .unset] [(.int (1 : Int32))])) (fun _ hr => XT.iconstV X0.here hx rfl (1 : Int32) (hb hby at_62) (by decide) hr) ?_
                refine own_go (B := s₁.setTop (mkF m 67 #[.val (.int xi), .val (.int v), .val (.int v), .unset] [(.int (1 : Int32))])) (fun _ hr => XS.goto X0.here hx rfl (pc0 := 63) (pc' := 67) rfl (hb hby at_63) (by decide) (by decide) hr) ?_
                have q : own_exp v = (1 : Int32) := by simp only [own_exp, if_neg c31, if_neg c32, if_neg c33, if_neg c34, if_pos c41, if_neg c42, if_neg c45]
                rw [q] at hk
                exact hk
          · refine own_go (B := s₁.setTop (mkF m 62 #[.val (.int xi), .val (.int v), .val (.int v), .unset] [])) (fun _ hr => XS.icmpYes X0.here hx rfl (pc0 := 35) (pc' := 62) rfl (hb hby at_35) rfl (XT.ii_le_t c41) (by decide) (by decide) hr) ?_
            refine own_go (B := s₁.setTop (mkF m 63 #[.val (.int xi), .val (.int v), .val (.int v), .unset] [(.int (1 : Int32))])) (fun _ hr => XT.iconstV X0.here hx rfl (1 : Int32) (hb hby at_62) (by decide) hr) ?_
            refine own_go (B := s₁.setTop (mkF m 67 #[.val (.int xi), .val (.int v), .val (.int v), .unset] [(.int (1 : Int32))])) (fun _ hr => XS.goto X0.here hx rfl (pc0 := 63) (pc' := 67) rfl (hb hby at_63) (by decide) (by decide) hr) ?_
            have q : own_exp v = (1 : Int32) := by simp only [own_exp, if_neg c31, if_neg c32, if_neg c33, if_neg c34, if_neg c41]
            rw [q] at hk
            exact hk
set_option maxRecDepth 65536 in
set_option maxHeartbeats 40000000 in
theorem comes_1 {Post : Tables → Env → Array Value → State → Outcome → State → Prop} (hpost : ∀ tb e args s v u, (limb_1_1.after args s (.returned v) u = true ∧ limb_1_2.after args s (.returned v) u = true ∧ True) → FrameEnd s (.returned v) u (Jvm.fieldLocs frame_1_writes args s ++ Jvm.arrayLocs frame_1_arrays args s ++ Jvm.staticLocs frame_1_statics s) 0 0 → Post tb e args s (.returned v) u) :
    ArmFor flags0 classFile x code maxLocals ret World_1 tables_1 room_1 Calls_1 rest_1 Pre_1 Post := by
  intro l hfl _ _ p e ha hc hk s m args below hf hA hF happ hP
  obtain ⟨hcalls, hrest, hpre⟩ := hP
  obtain ⟨-, -, -, hnamed, -, -, -, hat⟩ := (Spec.applies_iff hf).mp happ
  obtain ⟨hg, hn⟩ := and_e (Cond.before_iff.mp (show (Jvm.Cond.and given_1 narrow_1).before args s = true from hpre))
  obtain ⟨h1, g0⟩ := and_e hg
  obtain ⟨w0, rfl⟩ : ∃ w0 : Value, args = #[w0] := by
    have hs : args.size = 1 := by simpa [Cond.value, given_1] using h1
    obtain ⟨L⟩ := args
    match L, hs with
    | [w0], _ => exact ⟨w0, rfl⟩
  have hw := fun d (hd : d ∈ tables_1) => atoms_spec (ws := Jvm.Cond.code x code maxLocals ret :: tables_1) hat d (List.mem_cons_of_mem _ hd)
  obtain ⟨i0, q0⟩ := is_v g0
  obtain rfl : w0 = (.int i0) := Option.some.inj q0
  obtain ⟨n, o, h1, h2, h3, _, L, rfl, ⟨rfl, N⟩, hq⟩ := rm_law l s _ hw tables_1 i0 s.heap s.heap.size (Nat.le_refl _) p e ha hc hk s m _ below hf ((Spec.applies_iff_loose hf).mp happ).1 ⟨rfl, State.Warmed39.refl s, rfl⟩ trivial
  refine ⟨n, _, h1, h2, h3, hpost _ _ _ _ _ _ ⟨Cond.after_iff.mpr rfl, Cond.after_iff.mpr (eq_i res_at (Term.int_eval (1)) rfl), trivial⟩ ⟨hq.1, hq.2.1, (hq.2.2.sift fun y hy => Or.inr (N y hy)).mono (by decide) (by decide)⟩⟩
theorem main_1_1 : Claimed_1_1 := comes_1 fun _ _ _ _ _ _ h hF => ⟨h.1, hF⟩
theorem main_1_2 : Claimed_1_2 := comes_1 fun _ _ _ _ _ _ h hF => ⟨h.2.1, hF⟩
end Jvm.Pilot.@@N@@
namespace Jvm.Pilot.@@N@@
open Jvm Jvm.ClassFile Sem Op Lib Jvm.Free Jvm.Stand Jvm.Pilot.@@N@@.Jvm.D
/-! MADE BY PROGRAM (witnessworld.py) out of the Statement's table words and the real class files: 7 classes; the members and pool entries that the words name. The judged class is class 1, her method 1. -/
namespace start1
open Jvm.ClassFile
def u (s : String) : CpInfo := .utf8 (stringToUtf16 s)
/-- a pool by its gaps: so many unusable entries, then the entry; so many at the end -/
def gap : Nat → List CpInfo → List CpInfo
  | 0, r => r
  | n + 1, r => .unusable :: gap n r
def poolList (es : List (Nat × CpInfo)) (last : Nat) : List CpInfo := es.foldr (fun e r => gap e.1 (e.2 :: r)) (gap last [])
def pool (es : List (Nat × CpInfo)) (last : Nat) : Array CpInfo := ⟨poolList es last⟩
def fileOf (pool : Array CpInfo) (this : Nat) (attrs : Array Attribute := #[]) (ms : Array MethodInfo := #[]) (fl : Nat := 33) (sup : Nat := 0) (ifs : Array Nat := #[]) (fds : Array FieldInfo := #[]) : ClassFile where
  minorVersion := 0
  majorVersion := 65
  constantPool := pool
  accessFlags := fl
  thisClass := this
  superClass := sup
  interfaces := ifs
  fields := fds
  methods := ms
  attributes := attrs
def plain (name : String) (sup : Option ClassId) : Class where
  name := name
  kind := .ordinary
  loader := none
  accessFlags := 33
  super := sup
  interfaces := #[]
  cf := none
  fields := #[]
  methods := #[]
  instanceTypes := #[]
  staticTypes := #[]
  resolved := #[]
  callSites := []
  init := .initialized
  statics := none
  mirror := none

def pool0 : Array CpInfo := pool [(5, u "<init>"), (0, u "()V"), (1, .class_ 10), (1, u "java/lang/Object")] 113

def k0m0 : Method := { name := "<init>", desc := "()V", sig := { parameters := [], returnType := none }, accessFlags := 1, code := none }
/-- java/lang/Object -/
def k0 : Class := { plain "java/lang/Object" none with
  accessFlags := 33
  interfaces := #[]
  cf := some (fileOf pool0 8 #[] #[{ accessFlags := 1, nameIndex := 5, descriptorIndex := 6, attributes := #[] }] 33 0 #[] #[])
  fields := #[]
  methods := #[k0m0]
  instanceTypes := #[]
  staticTypes := #[]
  resolved := Array.replicate 124 none
  statics := none }

def pool1 : Array CpInfo := pool [(2, .class_ 4), (1, u "java/lang/Object"), (0, u "<init>"), (0, u "()V"), (0, .integer 65535), (0, .integer 55295), (0, .integer 55296), (0, .integer 57343), (0, .integer 57344), (0, .integer 65533), (0, .methodref 14 15), (0, .class_ 16), (0, .nameAndType 17 18), (0, u "com/example/rosterline/rosterline/core/XmlText"), (0, u "carries"), (0, u "(C)Z"), (0, .class_ 20), (0, u "com/example/rosterline/rosterline/core/XmlTextCarriesPinLaw"), (2, u "law"), (0, u "(I)Z")] 3

def k1m0 : Method := { name := "<init>", desc := "()V", sig := { parameters := [], returnType := none }, accessFlags := 2, code := none }
def k1c1 : Code := { maxStack := 2, maxLocals := 4, code := code, exceptionTable := #[], attributes := #[] }
def k1m1 : Method := { name := "law", desc := "(I)Z", sig := { parameters := [.int], returnType := some .boolean }, accessFlags := 9, code := some k1c1 }
/-- com/example/rosterline/rosterline/core/XmlTextCarriesPinLaw -/
def k1 : Class := { plain "com/example/rosterline/rosterline/core/XmlTextCarriesPinLaw" (some 0) with
  accessFlags := 49
  interfaces := #[]
  cf := some (fileOf pool1 19 #[] #[{ accessFlags := 2, nameIndex := 5, descriptorIndex := 6, attributes := #[] }, { accessFlags := 9, nameIndex := 23, descriptorIndex := 24, attributes := #[] }] 49 2 #[] #[])
  fields := #[]
  methods := #[k1m0, k1m1]
  instanceTypes := #[]
  staticTypes := #[]
  resolved := Array.replicate 28 none
  statics := none }

def pool2 : Array CpInfo := pool [(2, .class_ 4), (1, u "java/lang/Object"), (0, u "<init>"), (0, u "()V"), (0, .integer 65534), (0, .integer 65535), (11, .class_ 22), (1, u "com/example/rosterline/rosterline/core/XmlText"), (0, u "carries"), (0, u "(C)Z")] 43

def k2m0 : Method := { name := "<init>", desc := "()V", sig := { parameters := [], returnType := none }, accessFlags := 2, code := none }
def k2c1 : Code := { maxStack := 2, maxLocals := 1, code := prog_90_method_2_code, exceptionTable := #[], attributes := #[] }
def k2m1 : Method := { name := "carries", desc := "(C)Z", sig := { parameters := [.char], returnType := some .boolean }, accessFlags := 9, code := some k2c1 }
/-- com/example/rosterline/rosterline/core/XmlText -/
def k2 : Class := { plain "com/example/rosterline/rosterline/core/XmlText" (some 0) with
  accessFlags := 49
  interfaces := #[]
  cf := some (fileOf pool2 20 #[] #[{ accessFlags := 2, nameIndex := 5, descriptorIndex := 6, attributes := #[] }, { accessFlags := 9, nameIndex := 23, descriptorIndex := 24, attributes := #[] }] 49 2 #[] #[])
  fields := #[]
  methods := #[k2m0, k2m1]
  instanceTypes := #[]
  staticTypes := #[]
  resolved := Array.replicate 68 none
  statics := none }

def pool3 : Array CpInfo := pool [(1, u "java/lang/Cloneable"), (0, .class_ 1), (0, u "java/lang/Object"), (0, .class_ 3)] 3

/-- java/lang/Cloneable -/
def k3 : Class := { plain "java/lang/Cloneable" (some 0) with
  accessFlags := 1537
  interfaces := #[]
  cf := some (fileOf pool3 2 #[] #[] 1537 4 #[] #[])
  fields := #[]
  methods := #[]
  instanceTypes := #[]
  staticTypes := #[]
  resolved := Array.replicate 8 none
  statics := none }

def pool4 : Array CpInfo := pool [(1, u "java/io/Serializable"), (0, .class_ 1), (0, u "java/lang/Object"), (0, .class_ 3)] 3

/-- java/io/Serializable -/
def k4 : Class := { plain "java/io/Serializable" (some 0) with
  accessFlags := 1537
  interfaces := #[]
  cf := some (fileOf pool4 2 #[] #[] 1537 4 #[] #[])
  fields := #[]
  methods := #[]
  instanceTypes := #[]
  staticTypes := #[]
  resolved := Array.replicate 8 none
  statics := none }

/-- the primitive byte -/
def k5 : Class := { plain "byte" none with kind := .primitive 'B', accessFlags := 0x411 }
/-- [B -/
def k6 : Class := { plain "[B" (some 0) with kind := .array 5 .byte, interfaces := #[3, 4], accessFlags := 1041 }

def heap : Heap := #[]
def classes : Array Class := #[k0, k1, k2, k3, k4, k5, k6]
def interned : List (Array UInt16 × Addr) := []
def slotsUsed : Nat := 0
def theMethod : MethodId := ⟨1, 1⟩
def args0 : Array Value := #[.int 5]
def aboutOver (below : List Frame) : State where
  vm := { classes := classes, interned := interned.toArray }
  heap := heap
  slotsUsed := slotsUsed
  threads := #[{ frames := .invoking theMethod args0 :: below }]
def below0 : List Frame := [.native { method := ⟨0, 0⟩, args := #[] }]
def about1 : State := aboutOver below0
def p0 : Program := .bare "" "" ""
def e0 : Env := launch0.env 0 0 0
theorem w_frames : about1.frames = Frame.invoking theMethod args0 :: below0 := rfl
set_option maxRecDepth 65536 in
theorem w_args : argsFit about1.vm theMethod args0 = true := by decide +kernel
set_option maxRecDepth 65536 in
theorem w_heap : heapFits about1 = true := by decide +kernel
set_option maxRecDepth 65536 in
theorem w_runnable : about1.curStatus? = some .runnable := by decide +kernel
set_option maxRecDepth 65536 in
theorem w_alone : about1.alone = true := by decide +kernel
set_option maxRecDepth 65536 in
theorem w_named : about1.methodNamed? x = some theMethod := by decide +kernel
set_option maxRecDepth 65536 in
theorem w_hears : about1.hears theMethod below0 = true := by decide +kernel
set_option maxRecDepth 65536 in
theorem w_ripe : about1.ripe theMethod args0 below0 = true := by decide +kernel
theorem w_running : about1.status = .running := rfl
set_option maxRecDepth 65536 in
theorem w_room : about1.hasRoom e0.platform room_1 = true :=
  launch0.hasRoom_least _ room_1 (by decide +kernel) (by decide +kernel) (by decide +kernel) (by decide +kernel) (by decide +kernel) (by decide +kernel)
theorem allAtoms_all (ts : List Jvm.Cond) (a : Array Jvm.Value) (st : Jvm.State) : (allAtoms ts).before a st = ts.all (fun c => c.before a st) := by
  induction ts with
  | nil => rfl
  | cons c t ih =>
    show (Jvm.Cond.and c (allAtoms t)).before a st = _
    rw [Jvm.Cond.before_and, ih, List.all_cons]
def words1 : List Jvm.Cond := Jvm.Cond.code x code maxLocals ret :: tables_1
/-- a 'code' word, met by the world's own term for the bytes: nothing is compared byte by byte -/
theorem code_word {y : MethodName} {bytes : ByteArray} {mx : Nat} {rt : Option FieldType} {a : Array Value} {s : State} {m : MethodId} {meth : Method} {c : Code} (h1 : s.methodNamed? y = some m) (h2 : s.vm.method? m = some meth) (h3 : meth.code = some c) (h4 : c.code = bytes)
    (h5 : (c.maxLocals == mx && c.exceptionTable.isEmpty && decide (c.maxStack ≤ mostOperands) && decide (meth.sig.returnType = rt) && !meth.locks && decide (parseMethodDescriptor y.desc = some meth.sig)) = true) : (Jvm.Cond.code y bytes mx rt).before a s = true := by
  simp only [Bool.and_eq_true, beq_iff_eq, Bool.not_eq_true', decide_eq_true_eq] at h5
  obtain ⟨⟨⟨⟨⟨g1, g2⟩, g3⟩, g4⟩, g5⟩, g6⟩ := h5
  simp [Cond.before, Cond.holds, Cond.value, h1, h2, h3, h4, g1, g2, g3, g4, g5, g6]
def isCode : Jvm.Cond → Bool
  | .code _ _ _ _ => true
  | _ => false
theorem all_split {L : List Jvm.Cond} {P : Jvm.Cond → Bool} (h1 : L.all (fun c => isCode c || P c) = true) (h2 : ∀ c ∈ L.filter isCode, P c = true) : L.all P = true := by
  refine List.all_eq_true.mpr fun c hc => ?_
  have h := List.all_eq_true.mp h1 c hc
  rcases Bool.eq_false_or_eq_true (isCode c) with hi | hi
  · exact h2 c (List.mem_filter.mpr ⟨hc, hi⟩)
  · simpa [hi] using h
set_option maxRecDepth 65536 in
theorem w_c0 : (Jvm.Cond.code x code maxLocals ret).before args0 about1 = true := code_word (m := ⟨1, 1⟩) (meth := k1m1) (c := k1c1) (by decide +kernel) rfl rfl rfl (by decide +kernel)
set_option maxRecDepth 65536 in
theorem w_c1 : (Jvm.Cond.code ({ cls := "com/example/rosterline/rosterline/core/XmlText", name := "carries", desc := "(C)Z" } : Jvm.MethodName) prog_90_method_2_code (1 : Nat) (Option.some Jvm.ClassFile.FieldType.boolean)).before args0 about1 = true := code_word (m := ⟨2, 1⟩) (meth := k2m1) (c := k2c1) (by decide +kernel) rfl rfl rfl (by decide +kernel)
def codes1 : List Jvm.Cond := [Jvm.Cond.code x code maxLocals ret, Jvm.Cond.code ({ cls := "com/example/rosterline/rosterline/core/XmlText", name := "carries", desc := "(C)Z" } : Jvm.MethodName) prog_90_method_2_code (1 : Nat) (Option.some Jvm.ClassFile.FieldType.boolean)]
set_option maxRecDepth 65536 in
theorem codes_eq : words1.filter isCode = codes1 := rfl
theorem w_codes : ∀ c ∈ words1.filter isCode, c.before args0 about1 = true := by
  rw [codes_eq]
  intro c hc
  simp only [codes1, List.mem_cons, List.not_mem_nil, or_false] at hc
  rcases hc with rfl | rfl
  · exact w_c0
  · exact w_c1
set_option maxRecDepth 65536 in
theorem w_t1 : words1.all (fun c => isCode c || c.before args0 about1) = true := by decide +kernel
theorem w_tables : (allAtoms (Jvm.Cond.code x code maxLocals ret :: tables_1)).before args0 about1 = true := by
  rw [allAtoms_all]
  show words1.all (fun c => c.before args0 about1) = true
  refine all_split ?_ w_codes
  rw [w_t1]
set_option maxRecDepth 65536 in
theorem w_case : (Jvm.Cond.and given_1 narrow_1).before args0 about1 = true := by decide +kernel
theorem w_applies : (headSpec (Jvm.Cond.code x code maxLocals ret :: tables_1) room_1).applies x e0.platform about1 = true :=
  (Spec.applies_iff w_frames).mpr ⟨w_running, w_runnable, w_alone, w_named, w_hears, w_ripe, w_room, w_tables⟩
theorem atStart : AtStart classFile x code maxLocals ret World_1 tables_1 room_1 Calls_1 rest_1 Pre_1 launch0 p0 e0 about1 theMethod args0 below0 :=
  ⟨lists_1, trivial, launch0.admits_env _ _ _, launch0.least_env, fairChoices_fair.cas, fairChoices_fair.clock, w_frames, w_args, w_heap, w_applies, trivial, trivial, w_case⟩
end start1
theorem witness_1 : WitnessClaimed_1 := ⟨start1.p0, start1.e0, start1.about1, start1.theMethod, start1.args0, start1.below0, start1.atStart⟩
end Jvm.Pilot.@@N@@
