import JvmDerived
import JvmDerived.Pilot.@@N@@Statement
import JvmDerived.Pilot.@@N@@Code
set_option linter.unusedVariables false
set_option linter.unusedSimpArgs false
@@BLOCK:NumsL.lean.txt@@
namespace Jvm.Pilot.@@N@@
open Jvm Jvm.ClassFile Sem Op Lib Jvm.Free Jvm.Stand Jvm.LawKit Jvm.RoadKit Bundle Jvm.Pilot.@@N@@.Jvm.D
section Own
variable {p : Program} {l : Launch} {e : Env} {R : Room} {s : State} {m : MethodId} {args : Array Value} {below : List Frame} {meth : Method} {c : Code} {T : State} {locs : List Loc} {cells slots : Nat}
/-- from A the run comes to an end of which P holds -/
def own_G (p : Program) (e : Env) (below : List Frame) (P : State → Outcome → Prop) (A : State) : Prop := ∃ s₂ o, Steps p.tables e below A s₂ ∧ P s₂ o
/-- the end of a body: it returned, Q holds of the answer, the heap and the places written, and the frame is kept -/
def own_P (s : State) (below : List Frame) (Q : Option Value → Heap → List Loc → Prop) (k n : Nat) (s₂ : State) (o : Outcome) : Prop := s₂.status = .running ∧ Ended s₂ below o ∧ ∃ v L, o = .returned v ∧ Q v s₂.heap L ∧ FrameEnd s o s₂ L k n
theorem own_go {P : State → Outcome → Prop} {A B : State} (k : ∀ t, Steps p.tables e below B t → Steps p.tables e below A t) (h : own_G p e below P B) : own_G p e below P A := by
  obtain ⟨s₂, o, h1, h2⟩ := h
  exact ⟨s₂, o, k _ h1, h2⟩
theorem own_gs {P : State → Outcome → Prop} {A B : State} (k : Steps p.tables e below A B) (h : own_G p e below P B) : own_G p e below P A := own_go (fun _ hr => k.trans hr) h
theorem own_end (X : Stand p l e R s m args below meth c T locs cells slots) (hlk : meth.locks = false) {v : Option Value} (hv : meth.sig.returnType = none → v = none) {A : State} {Q : Option Value → Heap → List Loc → Prop} {k n : Nat} (hk : cells ≤ k) (hn : slots ≤ n)
    (st : ∀ fs, (∀ (f : JFrame) (acts : List Action), f.method = m → f.locked = none → f.entered = [] → (doReturn e (T.setTop f) acts v).1 = T.setFrames fs) → Steps p.tables e below A (T.setFrames fs)) (q : Q v T.heap locs) : own_G p e below (own_P s below Q k n) A := by
  obtain ⟨fs, hr, hrun, hended, hW, hsame⟩ := X.leave (v := v) hv hlk
  exact ⟨_, _, st fs hr, hrun, hended, _, _, rfl, q, ⟨_, rfl⟩, hW, hsame.mono hk hn⟩
theorem own_retI (X : Stand p l e R s m args below meth c T locs cells slots) (hx : p.tables.exec = Jvm.exec) (hlk : meth.locks = false) {pc : Nat} {Ls : Array Slot} {z : Int32} {rest : List Value} {Q : Option Value → Heap → List Loc → Prop} {k n : Nat} (hret : meth.sig.returnType = some .int) (hd : decode c.code pc = .ok (.ireturn, 1)) (hk : cells ≤ k) (hn : slots ≤ n)
    (q : Q (some (.int z)) T.heap locs) : own_G p e below (own_P s below Q k n) (T.setTop (mkF m pc Ls (.int z :: rest))) :=
  own_end X hlk (fun h => by rw [hret] at h; cases h) hk hn (fun fs hr => retOut X hx hret rfl (Or.inl ⟨rfl, Or.inl rfl, z, rfl⟩) hd hr) q
theorem own_bit {z : Int32} (hz : z = 0 ∨ z = 1) : narrow .boolean (.int z) = .int z := by rcases hz with rfl | rfl <;> rfl
theorem own_retZ (X : Stand p l e R s m args below meth c T locs cells slots) (hx : p.tables.exec = Jvm.exec) (hlk : meth.locks = false) {pc : Nat} {Ls : Array Slot} {z : Int32} {rest : List Value} {Q : Option Value → Heap → List Loc → Prop} {k n : Nat} (hret : meth.sig.returnType = some .boolean) (hz : z = 0 ∨ z = 1) (hd : decode c.code pc = .ok (.ireturn, 1)) (hk : cells ≤ k) (hn : slots ≤ n)
    (q : Q (some (.int z)) T.heap locs) : own_G p e below (own_P s below Q k n) (T.setTop (mkF m pc Ls (.int z :: rest))) :=
  own_end X hlk (fun h => by rw [hret] at h; cases h) hk hn (fun fs hr => retOut X hx hret (own_bit hz) (Or.inl ⟨rfl, Or.inr (Or.inl rfl), z, rfl⟩) hd hr) q
theorem own_retJ (X : Stand p l e R s m args below meth c T locs cells slots) (hx : p.tables.exec = Jvm.exec) (hlk : meth.locks = false) {pc : Nat} {Ls : Array Slot} {z : Int64} {rest : List Value} {Q : Option Value → Heap → List Loc → Prop} {k n : Nat} (hret : meth.sig.returnType = some .long) (hd : decode c.code pc = .ok (.lreturn, 1)) (hk : cells ≤ k) (hn : slots ≤ n)
    (q : Q (some (.long z)) T.heap locs) : own_G p e below (own_P s below Q k n) (T.setTop (mkF m pc Ls (.long z :: rest))) :=
  own_end X hlk (fun h => by rw [hret] at h; cases h) hk hn (fun fs hr => retOut X hx hret rfl (Or.inr (Or.inl ⟨rfl, rfl, z, rfl⟩)) hd hr) q
theorem own_retA (X : Stand p l e R s m args below meth c T locs cells slots) (hx : p.tables.exec = Jvm.exec) (hlk : meth.locks = false) {pc : Nat} {Ls : Array Slot} {z : Addr} {t : FieldType} {rest : List Value} {Q : Option Value → Heap → List Loc → Prop} {k n : Nat} (hret : meth.sig.returnType = some t) (ht : t.isReference = true) (hn0 : narrow t (.ref z) = .ref z) (hd : decode c.code pc = .ok (.areturn, 1)) (hk : cells ≤ k) (hn : slots ≤ n)
    (q : Q (some (.ref z)) T.heap locs) : own_G p e below (own_P s below Q k n) (T.setTop (mkF m pc Ls (.ref z :: rest))) :=
  own_end X hlk (fun h => by rw [hret] at h; cases h) hk hn (fun fs hr => retOut X hx hret hn0 (Or.inr (Or.inr (Or.inr (Or.inr ⟨rfl, ht, rfl⟩)))) hd hr) q
theorem own_retV (X : Stand p l e R s m args below meth c T locs cells slots) (hx : p.tables.exec = Jvm.exec) (hlk : meth.locks = false) {pc : Nat} {Ls : Array Slot} {Q : Option Value → Heap → List Loc → Prop} {k n : Nat} (hret : meth.sig.returnType = none) (hd : decode c.code pc = .ok (.return_, 1)) (hk : cells ≤ k) (hn : slots ≤ n)
    (q : Q none T.heap locs) : own_G p e below (own_P s below Q k n) (T.setTop (mkF m pc Ls [])) :=
  own_end X hlk (fun _ => rfl) hk hn (fun fs hr => X.returnOut hx hret hd hr) q
end Own

section OwnArr
variable {p : Program} {l : Launch} {e : Env} {R : Room} {s : State} {m : MethodId} {args : Array Value} {below : List Frame} {meth : Method} {c : Code} {T : State} {locs : List Loc} {cells slots : Nat} {Z : State} {h h' : Heap} {a b : Addr} {ty : FieldType} {n : Nat} {f : Nat → Value}
/-- an array of n places, place i holds f i -/
def own_Ar (Z : State) (h : Heap) (a : Addr) (ty : FieldType) (n : Nat) (f : Nat → Value) : Prop := ∃ cl : Cell, Arr Z h a cl ty ∧ cl.slots.size = n ∧ ∀ i, i < n → cl.slots[i]? = some (f i)
theorem own_Ar.lt (F : own_Ar Z h a ty n f) : a < h.size := by obtain ⟨cl, A, -⟩ := F; exact A.lt
theorem own_Ar.ext (F : own_Ar Z h a ty n f) (E : Ext h h') : own_Ar Z h' a ty n f := by obtain ⟨cl, A, r⟩ := F; exact ⟨cl, A.ext E, r⟩
theorem own_Ar.keep {ws : List Addr} (F : own_Ar Z h a ty n f) (K : Keep h h' ws) (q : a ∉ ws) : own_Ar Z h' a ty n f := by obtain ⟨cl, A, r⟩ := F; exact ⟨cl, ⟨K.2.1 a cl A.1 q, A.2⟩, r⟩
theorem own_Ar.other {sl : Nat} {v : Value} (F : own_Ar Z h b ty n f) (W : Wr h h' a sl v) (q : b ≠ a) : own_Ar Z h' b ty n f := by obtain ⟨cl, A, r⟩ := F; exact ⟨cl, A.other W q, r⟩
theorem own_Ar.set {j : Nat} {v : Value} (F : own_Ar Z h a ty n f) (W : Wr h h' a j v) : own_Ar Z h' a ty n (fun i => if i = j then v else f i) := by
  obtain ⟨cl, A, S, H⟩ := F
  refine ⟨_, A.same W, by rw [sz_set]; exact S, fun i hi => ?_⟩
  have hs : i < cl.slots.size := by rw [S]; exact hi
  show (cl.slots.setIfInBounds j v)[i]? = _
  rw [Array.getElem?_setIfInBounds]
  by_cases q : j = i
  · subst q; simp [hs]
  · have r : ¬ i = j := fun r => q r.symm
    show (if j = i then _ else cl.slots[i]?) = some (if i = j then v else f i)
    rw [if_neg q, if_neg r]; exact H i hi
theorem own_Ar.new {cA : ClassId} {nn : Int32} (A : Arr Z h a (newA cA ty nn) ty) (hn : nn.toInt = (n : Int)) : own_Ar Z h a ty n (fun _ => defaultValue ty) := by
  have hn' : nn.toNatClampNeg = n := by show nn.toInt.toNat = n; omega
  exact ⟨_, A, by rw [sz_new]; exact hn', fun i hi => by simp [newA, hn', hi]⟩
theorem own_Ar.congr {f' : Nat → Value} (F : own_Ar Z h a ty n f) (q : ∀ i, i < n → f i = f' i) : own_Ar Z h a ty n f' := by obtain ⟨cl, A, S, H⟩ := F; exact ⟨cl, A, S, fun i hi => by rw [← q i hi]; exact H i hi⟩
theorem own_Ar.setJ {j : Nat} {x : Int64} {g : Nat → Int64} (F : own_Ar Z h a ty n (fun i => .long (g i))) (W : Wr h h' a j (.long x)) : own_Ar Z h' a ty n (fun i => .long (if i = j then x else g i)) := (F.set W).congr fun i _ => by by_cases q : i = j <;> simp [q]
theorem own_Ar.setI {j : Nat} {x : Int32} {g : Nat → Int32} (F : own_Ar Z h a ty n (fun i => .int (g i))) (W : Wr h h' a j (.int x)) : own_Ar Z h' a ty n (fun i => .int (if i = j then x else g i)) := (F.set W).congr fun i _ => by by_cases q : i = j <;> simp [q]
theorem own_at {j : Int32} {i : Nat} (hj : j.toInt = (i : Int)) : ¬ j < 0 ∧ j.toNatClampNeg = i := ⟨by rw [Int32.lt_iff_toInt_lt, hj]; show ¬ ((i : Int) < 0); omega, by show j.toInt.toNat = i; omega⟩
theorem own_in {j : Int32} {i : Nat} (hj : j.toInt = (i : Int)) (hi : i < n) : ¬ (j < 0 ∨ n ≤ j.toNatClampNeg) := by
  obtain ⟨q1, q2⟩ := own_at hj
  rw [q2]
  rintro (r | r)
  · exact q1 r
  · omega
theorem own_plus {j k : Int32} {i q : Nat} (hj : j.toInt = (i : Int)) (hk : k.toInt = (q : Int)) (hb : i + q < 2147483648) : (j + k).toInt = ((i + q : Nat) : Int) := by
  have c := c_iadd j k
  have r := rng32 (j + k)
  omega
theorem own_minus {j k : Int32} {i q : Nat} (hj : j.toInt = (i : Int)) (hk : k.toInt = (q : Int)) (hb : q ≤ i) : (j - k).toInt = ((i - q : Nat) : Int) := by
  have c := c_isub j k
  have r := rng32 (j - k)
  have r2 := rng32 j
  omega
theorem own_stB (X : Stand p l e R s m args below meth c T locs cells slots) (hx : p.tables.exec = Jvm.exec) (hZ : Z.Warmed39 s.vm) (eT : T.heap = h) (F : own_Ar Z h a .byte n f) {j x y : Int32} {i : Nat} (hj : j.toInt = (i : Int)) (hi : i < n) (hy : x.toInt8.toInt32 = y) {g : JFrame} (hg : g.method = m) {rest : List Value} (hs : g.stack = .int x :: .int j :: .ref a :: rest) (hd : decode c.code g.pc = .ok (.bastore, 1)) :
    ∃ T' h', Stand p l e R s m args below meth c T' (locs ++ [⟨a, j.toNatClampNeg⟩]) cells slots ∧ T'.heap = h' ∧ Wr h h' a i (.int y) ∧ own_Ar Z h' a .byte n (fun k => if k = i then .int y else f k) ∧ ∀ target, Steps p.tables e below (T'.setTop { g with pc := g.pc + 1, stack := rest }) target → Steps p.tables e below (T.setTop g) target := by
  obtain ⟨cl, A, S, H⟩ := F
  obtain ⟨T', h', X', e', W', st⟩ := stB X hx hZ eT A (by rw [S]; exact own_in hj hi) hg hs hd
  have W2 : Wr h h' a i (.int y) := by
    have w := W'
    rw [(own_at hj).2] at w
    exact hy ▸ w
  exact ⟨T', h', X', e', W2, own_Ar.set ⟨cl, A, S, H⟩ W2, st⟩
theorem own_stI (X : Stand p l e R s m args below meth c T locs cells slots) (hx : p.tables.exec = Jvm.exec) (hZ : Z.Warmed39 s.vm) (eT : T.heap = h) (F : own_Ar Z h a .int n f) {j x : Int32} {i : Nat} (hj : j.toInt = (i : Int)) (hi : i < n) {g : JFrame} (hg : g.method = m) {rest : List Value} (hs : g.stack = .int x :: .int j :: .ref a :: rest) (hd : decode c.code g.pc = .ok (.iastore, 1)) :
    ∃ T' h', Stand p l e R s m args below meth c T' (locs ++ [⟨a, j.toNatClampNeg⟩]) cells slots ∧ T'.heap = h' ∧ Wr h h' a i (.int x) ∧ own_Ar Z h' a .int n (fun k => if k = i then .int x else f k) ∧ ∀ target, Steps p.tables e below (T'.setTop { g with pc := g.pc + 1, stack := rest }) target → Steps p.tables e below (T.setTop g) target := by
  obtain ⟨cl, A, S, H⟩ := F
  obtain ⟨T', h', X', e', W', st⟩ := stI X hx hZ eT A (by rw [S]; exact own_in hj hi) hg hs hd
  rw [(own_at hj).2] at W'
  exact ⟨T', h', X', e', W', own_Ar.set ⟨cl, A, S, H⟩ W', st⟩
theorem own_stJ (X : Stand p l e R s m args below meth c T locs cells slots) (hx : p.tables.exec = Jvm.exec) (hZ : Z.Warmed39 s.vm) (eT : T.heap = h) (F : own_Ar Z h a .long n f) {j : Int32} {x : Int64} {i : Nat} (hj : j.toInt = (i : Int)) (hi : i < n) {g : JFrame} (hg : g.method = m) {rest : List Value} (hs : g.stack = .long x :: .int j :: .ref a :: rest) (hd : decode c.code g.pc = .ok (.lastore, 1)) :
    ∃ T' h', Stand p l e R s m args below meth c T' (locs ++ [⟨a, j.toNatClampNeg⟩]) cells slots ∧ T'.heap = h' ∧ Wr h h' a i (.long x) ∧ own_Ar Z h' a .long n (fun k => if k = i then .long x else f k) ∧ ∀ target, Steps p.tables e below (T'.setTop { g with pc := g.pc + 1, stack := rest }) target → Steps p.tables e below (T.setTop g) target := by
  obtain ⟨cl, A, S, H⟩ := F
  obtain ⟨T', h', X', e', W', st⟩ := stJ X hx hZ eT A (by rw [S]; exact own_in hj hi) hg hs hd
  rw [(own_at hj).2] at W'
  exact ⟨T', h', X', e', W', own_Ar.set ⟨cl, A, S, H⟩ W', st⟩
theorem own_ldB (X : Stand p l e R s m args below meth c T locs cells slots) (hx : p.tables.exec = Jvm.exec) (hZ : Z.Warmed39 s.vm) (eT : T.heap = h) (F : own_Ar Z h a .byte n f) {j : Int32} {i : Nat} {v : Value} (hj : j.toInt = (i : Int)) (hi : i < n) (hv : f i = v) {g : JFrame} (hg : g.method = m) {rest : List Value} (hs : g.stack = .int j :: .ref a :: rest) (hd : decode c.code g.pc = .ok (.baload, 1)) (target : State)
    (hr : Steps p.tables e below (T.setTop { g with pc := g.pc + 1, stack := v :: rest }) target) : Steps p.tables e below (T.setTop g) target := by
  obtain ⟨cl, A, S, H⟩ := F
  exact X.baloadBytes hx (j := j) (v := v) (by rw [eT]; exact A.1) (State.isArrayOf_alike hZ.alike A.2.1) A.2.2 (by rw [S]; exact own_in hj hi) (by rw [(own_at hj).2, H i hi, hv]) hg hs hd _ hr
theorem own_ldI (X : Stand p l e R s m args below meth c T locs cells slots) (hx : p.tables.exec = Jvm.exec) (hZ : Z.Warmed39 s.vm) (eT : T.heap = h) (F : own_Ar Z h a .int n f) {j : Int32} {i : Nat} {v : Value} (hj : j.toInt = (i : Int)) (hi : i < n) (hv : f i = v) {g : JFrame} (hg : g.method = m) {rest : List Value} (hs : g.stack = .int j :: .ref a :: rest) (hd : decode c.code g.pc = .ok (.iaload, 1)) (target : State)
    (hr : Steps p.tables e below (T.setTop { g with pc := g.pc + 1, stack := v :: rest }) target) : Steps p.tables e below (T.setTop g) target := by
  obtain ⟨cl, A, S, H⟩ := F
  exact X.iaload hx (j := j) (v := v) (by rw [eT]; exact A.1) (State.isArrayOf_alike hZ.alike A.2.1) A.2.2 (by rw [S]; exact own_in hj hi) (by rw [(own_at hj).2, H i hi, hv]) hg hs hd _ hr
theorem own_ldJ (X : Stand p l e R s m args below meth c T locs cells slots) (hx : p.tables.exec = Jvm.exec) (hZ : Z.Warmed39 s.vm) (eT : T.heap = h) (F : own_Ar Z h a .long n f) {j : Int32} {i : Nat} {v : Value} (hj : j.toInt = (i : Int)) (hi : i < n) (hv : f i = v) {g : JFrame} (hg : g.method = m) {rest : List Value} (hs : g.stack = .int j :: .ref a :: rest) (hd : decode c.code g.pc = .ok (.laload, 1)) (target : State)
    (hr : Steps p.tables e below (T.setTop { g with pc := g.pc + 1, stack := v :: rest }) target) : Steps p.tables e below (T.setTop g) target := by
  obtain ⟨cl, A, S, H⟩ := F
  exact X.laload hx (j := j) (v := v) (by rw [eT]; exact A.1) (State.isArrayOf_alike hZ.alike A.2.1) A.2.2 (by rw [S]; exact own_in hj hi) (by rw [(own_at hj).2, H i hi, hv]) hg hs hd _ hr
theorem own_len (X : Stand p l e R s m args below meth c T locs cells slots) (hx : p.tables.exec = Jvm.exec) (hZ : Z.Warmed39 s.vm) (eT : T.heap = h) (F : own_Ar Z h a ty n f) {N : Int32} (hN : N.toInt = (n : Int)) {g : JFrame} (hg : g.method = m) {rest : List Value} (hs : g.stack = .ref a :: rest) (hd : decode c.code g.pc = .ok (.arraylength, 1)) (target : State)
    (hr : Steps p.tables e below (T.setTop { g with pc := g.pc + 1, stack := .int N :: rest }) target) : Steps p.tables e below (T.setTop g) target := by
  obtain ⟨cl, A, S, H⟩ := F
  have q : cl.slots.size.toInt32 = N := by
    have b := rng32 N
    rw [← Int32.toInt_inj, S, hN]
    exact len_toInt (by omega)
  exact X.arraylength hx (by rw [eT]; exact A.1) (State.isArrayOf_alike hZ.alike A.2.1) hg hs hd _ (by rw [q]; exact hr)
end OwnArr

theorem d1_0 : decode prog_28_method_2_code 0 = .ok (.aload_n 0, 1) := by decide +kernel
theorem d1_1 : decode prog_28_method_2_code 1 = .ok (.arraylength, 1) := by decide +kernel
theorem d1_2 : decode prog_28_method_2_code 2 = .ok (.bipush 10, 2) := by decide +kernel
theorem d1_4 : decode prog_28_method_2_code 4 = .ok (.if_icmp .ge 5, 3) := by decide +kernel
theorem d1_7 : decode prog_28_method_2_code 7 = .ok (.iconst (-1), 1) := by decide +kernel
theorem d1_8 : decode prog_28_method_2_code 8 = .ok (.ireturn, 1) := by decide +kernel
theorem d1_9 : decode prog_28_method_2_code 9 = .ok (.aload_n 0, 1) := by decide +kernel
theorem d1_10 : decode prog_28_method_2_code 10 = .ok (.arraylength, 1) := by decide +kernel
theorem d1_11 : decode prog_28_method_2_code 11 = .ok (.bipush 10, 2) := by decide +kernel
theorem d1_13 : decode prog_28_method_2_code 13 = .ok (.isub, 1) := by decide +kernel
theorem d1_14 : decode prog_28_method_2_code 14 = .ok (.istore_n 1, 1) := by decide +kernel
theorem d1_15 : decode prog_28_method_2_code 15 = .ok (.lconst 0, 1) := by decide +kernel
theorem d1_16 : decode prog_28_method_2_code 16 = .ok (.lstore_n 2, 1) := by decide +kernel
theorem d1_17 : decode prog_28_method_2_code 17 = .ok (.iload_n 1, 1) := by decide +kernel
theorem d1_18 : decode prog_28_method_2_code 18 = .ok (.iconst 1, 1) := by decide +kernel
theorem d1_19 : decode prog_28_method_2_code 19 = .ok (.iadd, 1) := by decide +kernel
theorem d1_20 : decode prog_28_method_2_code 20 = .ok (.istore 4, 2) := by decide +kernel
theorem d1_22 : decode prog_28_method_2_code 22 = .ok (.iload 4, 2) := by decide +kernel
theorem d1_24 : decode prog_28_method_2_code 24 = .ok (.aload_n 0, 1) := by decide +kernel
theorem d1_25 : decode prog_28_method_2_code 25 = .ok (.arraylength, 1) := by decide +kernel
theorem d1_26 : decode prog_28_method_2_code 26 = .ok (.if_icmp .ge 16, 3) := by decide +kernel
theorem d1_29 : decode prog_28_method_2_code 29 = .ok (.lload_n 2, 1) := by decide +kernel
theorem d1_30 : decode prog_28_method_2_code 30 = .ok (.aload_n 0, 1) := by decide +kernel
theorem d1_31 : decode prog_28_method_2_code 31 = .ok (.iload 4, 2) := by decide +kernel
theorem d1_33 : decode prog_28_method_2_code 33 = .ok (.laload, 1) := by decide +kernel
theorem d1_34 : decode prog_28_method_2_code 34 = .ok (.ladd, 1) := by decide +kernel
theorem d1_35 : decode prog_28_method_2_code 35 = .ok (.lstore_n 2, 1) := by decide +kernel
theorem d1_36 : decode prog_28_method_2_code 36 = .ok (.iinc 4 1, 3) := by decide +kernel
theorem d1_39 : decode prog_28_method_2_code 39 = .ok (.goto (-17), 3) := by decide +kernel
theorem d1_42 : decode prog_28_method_2_code 42 = .ok (.aload_n 0, 1) := by decide +kernel
theorem d1_43 : decode prog_28_method_2_code 43 = .ok (.iload_n 1, 1) := by decide +kernel
theorem d1_44 : decode prog_28_method_2_code 44 = .ok (.laload, 1) := by decide +kernel
theorem d1_45 : decode prog_28_method_2_code 45 = .ok (.lload_n 2, 1) := by decide +kernel
theorem d1_46 : decode prog_28_method_2_code 46 = .ok (.ladd, 1) := by decide +kernel
theorem d1_47 : decode prog_28_method_2_code 47 = .ok (.ldc2_w 9, 3) := by decide +kernel
theorem d1_50 : decode prog_28_method_2_code 50 = .ok (.lcmp, 1) := by decide +kernel
theorem d1_51 : decode prog_28_method_2_code 51 = .ok (.ifCond .gt 7, 3) := by decide +kernel
theorem d1_54 : decode prog_28_method_2_code 54 = .ok (.iconst 1, 1) := by decide +kernel
theorem d1_55 : decode prog_28_method_2_code 55 = .ok (.goto 4, 3) := by decide +kernel
theorem d1_58 : decode prog_28_method_2_code 58 = .ok (.iconst 0, 1) := by decide +kernel
theorem d1_59 : decode prog_28_method_2_code 59 = .ok (.istore 4, 2) := by decide +kernel
theorem d1_61 : decode prog_28_method_2_code 61 = .ok (.iload 4, 2) := by decide +kernel
theorem d1_63 : decode prog_28_method_2_code 63 = .ok (.ifCond .eq 19, 3) := by decide +kernel
theorem d1_66 : decode prog_28_method_2_code 66 = .ok (.aload_n 0, 1) := by decide +kernel
theorem d1_67 : decode prog_28_method_2_code 67 = .ok (.iload_n 1, 1) := by decide +kernel
theorem d1_68 : decode prog_28_method_2_code 68 = .ok (.laload, 1) := by decide +kernel
theorem d1_69 : decode prog_28_method_2_code 69 = .ok (.ldc2_w 11, 3) := by decide +kernel
theorem d1_72 : decode prog_28_method_2_code 72 = .ok (.lload_n 2, 1) := by decide +kernel
theorem d1_73 : decode prog_28_method_2_code 73 = .ok (.lmul, 1) := by decide +kernel
theorem d1_74 : decode prog_28_method_2_code 74 = .ok (.lcmp, 1) := by decide +kernel
theorem d1_75 : decode prog_28_method_2_code 75 = .ok (.ifCond .gt 7, 3) := by decide +kernel
theorem d1_78 : decode prog_28_method_2_code 78 = .ok (.iload_n 1, 1) := by decide +kernel
theorem d1_79 : decode prog_28_method_2_code 79 = .ok (.goto 4, 3) := by decide +kernel
theorem d1_82 : decode prog_28_method_2_code 82 = .ok (.iconst (-1), 1) := by decide +kernel
theorem d1_83 : decode prog_28_method_2_code 83 = .ok (.ireturn, 1) := by decide +kernel
/-- S and k of the longs from place i on -/
def own_sum (g : Nat → Int64) : Int64 → Nat → Nat → Int64
  | S, _, 0 => S
  | S, i, k + 1 => own_sum g (S + g i) (i + 1) k
def own_t3 (A S : Int64) (F : Int32) : Int32 := if (1073741824 : Int64) < A + S then (-1 : Int32) else (if (10 : Int64) * S < A then (-1 : Int32) else F)
def own_t (nn : Nat) (N : Int32) (g : Nat → Int64) : Int32 := if N < (10 : Int32) then (-1 : Int32) else own_t3 (g (nn - 10)) (own_sum g 0 (nn - 9) 9) (N - (10 : Int32))
set_option maxRecDepth 65536 in
theorem own_loop {p : Program} {l : Launch} {e : Env} {R : Room} {s : State} {m : MethodId} {args : Array Value} {below : List Frame} {meth : Method} {c : Code} {T : State} {locs : List Loc} {cells slots : Nat} {Z : State} {h : Heap} (X : Stand p l e R s m args below meth c T locs cells slots) (hx : p.tables.exec = Jvm.exec) (hby : c.code = prog_28_method_2_code) (hZ : Z.Warmed39 s.vm) (eT : T.heap = h) {a : Addr} {nn : Nat} {g : Nat → Int64} (V : own_Ar Z h a .long nn (fun i => .long (g i))) {N F : Int32} (hN : N.toInt = (nn : Int)) {P : State → Outcome → Prop} :
    ∀ (k i : Nat) (S : Int64) (Ii : Int32), Ii.toInt = (i : Int) → i + k = nn → own_G p e below P (T.setTop (mkF m 42 #[.val (.ref a), .val (.int F), .val (.long (own_sum g S i k)), .second, .val (.int N)] [])) → own_G p e below P (T.setTop (mkF m 22 #[.val (.ref a), .val (.int F), .val (.long S), .second, .val (.int Ii)] [])) := by
  intro k
  induction k with
  | zero =>
    intro i S Ii hi hk H
    obtain rfl : Ii = N := Int32.toInt_inj.mp (by omega)
    refine own_go (B := T.setTop (mkF m 24 #[.val (.ref a), .val (.int F), .val (.long S), .second, .val (.int Ii)] [(.int Ii)])) (fun _ hr => XS.iload X.here hx rfl (hb hby d1_22) rfl hr) ?_
    refine own_go (B := T.setTop (mkF m 25 #[.val (.ref a), .val (.int F), .val (.long S), .second, .val (.int Ii)] [(.ref a), (.int Ii)])) (fun _ hr => XS.aloadN X.here hx rfl (hb hby d1_24) rfl rfl hr) ?_
    refine own_go (B := T.setTop (mkF m 26 #[.val (.ref a), .val (.int F), .val (.long S), .second, .val (.int Ii)] [(.int Ii), (.int Ii)])) (fun _ hr => own_len X hx hZ eT V hN (g := (mkF m 25 #[.val (.ref a), .val (.int F), .val (.long S), .second, .val (.int Ii)] [(.ref a), (.int Ii)])) rfl rfl (hb hby d1_25) _ hr) ?_
    refine own_go (B := T.setTop (mkF m 42 #[.val (.ref a), .val (.int F), .val (.long S), .second, .val (.int Ii)] [])) (fun _ hr => XS.icmpYes X.here hx rfl (pc0 := 26) (pc' := 42) rfl (hb hby d1_26) rfl (XT.ii_ge_t (by rw [Int32.lt_iff_toInt_lt]; omega)) (by decide) (by decide) hr) ?_
    exact H
  | succ k ih =>
    intro i S Ii hi hk H
    refine own_go (B := T.setTop (mkF m 24 #[.val (.ref a), .val (.int F), .val (.long S), .second, .val (.int Ii)] [(.int Ii)])) (fun _ hr => XS.iload X.here hx rfl (hb hby d1_22) rfl hr) ?_
    refine own_go (B := T.setTop (mkF m 25 #[.val (.ref a), .val (.int F), .val (.long S), .second, .val (.int Ii)] [(.ref a), (.int Ii)])) (fun _ hr => XS.aloadN X.here hx rfl (hb hby d1_24) rfl rfl hr) ?_
    refine own_go (B := T.setTop (mkF m 26 #[.val (.ref a), .val (.int F), .val (.long S), .second, .val (.int Ii)] [(.int N), (.int Ii)])) (fun _ hr => own_len X hx hZ eT V hN (g := (mkF m 25 #[.val (.ref a), .val (.int F), .val (.long S), .second, .val (.int Ii)] [(.ref a), (.int Ii)])) rfl rfl (hb hby d1_25) _ hr) ?_
    refine own_go (B := T.setTop (mkF m 29 #[.val (.ref a), .val (.int F), .val (.long S), .second, .val (.int Ii)] [])) (fun _ hr => XS.icmpNo X.here hx rfl (hb hby d1_26) rfl (XT.ii_ge_f (by rw [Int32.lt_iff_toInt_lt]; omega)) hr) ?_
    refine own_go (B := T.setTop (mkF m 30 #[.val (.ref a), .val (.int F), .val (.long S), .second, .val (.int Ii)] [(.long S)])) (fun _ hr => XT.lloadN X.here hx rfl (hb hby d1_29) rfl hr) ?_
    refine own_go (B := T.setTop (mkF m 31 #[.val (.ref a), .val (.int F), .val (.long S), .second, .val (.int Ii)] [(.ref a), (.long S)])) (fun _ hr => XS.aloadN X.here hx rfl (hb hby d1_30) rfl rfl hr) ?_
    refine own_go (B := T.setTop (mkF m 33 #[.val (.ref a), .val (.int F), .val (.long S), .second, .val (.int Ii)] [(.int Ii), (.ref a), (.long S)])) (fun _ hr => XS.iload X.here hx rfl (hb hby d1_31) rfl hr) ?_
    refine own_go (B := T.setTop (mkF m 34 #[.val (.ref a), .val (.int F), .val (.long S), .second, .val (.int Ii)] [(.long (g i)), (.long S)])) (fun _ hr => own_ldJ X hx hZ eT V hi (by omega) rfl (g := (mkF m 33 #[.val (.ref a), .val (.int F), .val (.long S), .second, .val (.int Ii)] [(.int Ii), (.ref a), (.long S)])) rfl rfl (hb hby d1_33) _ hr) ?_
    refine own_go (B := T.setTop (mkF m 35 #[.val (.ref a), .val (.int F), .val (.long S), .second, .val (.int Ii)] [(.long (S + (g i)))])) (fun _ hr => XT.ladd X.here hx rfl (hb hby d1_34) rfl hr) ?_
    refine own_go (B := T.setTop (mkF m 36 #[.val (.ref a), .val (.int F), .val (.long (S + (g i))), .second, .val (.int Ii)] [])) (fun _ hr => XT.lstoreN X.here hx rfl (hb hby d1_35) rfl (l' := #[.val (.ref a), .val (.int F), .val (.long (S + (g i))), .second, .val (.int Ii)]) rfl hr) ?_
    refine own_go (B := T.setTop (mkF m 39 #[.val (.ref a), .val (.int F), .val (.long (S + (g i))), .second, .val (.int (Ii + (1 : Int32)))] [])) (fun _ hr => XT.iincV X.here hx rfl (1 : Int32) (hb hby d1_36) (by decide) rfl (l' := #[.val (.ref a), .val (.int F), .val (.long (S + (g i))), .second, .val (.int (Ii + (1 : Int32)))]) rfl hr) ?_
    refine own_go (B := T.setTop (mkF m 22 #[.val (.ref a), .val (.int F), .val (.long (S + (g i))), .second, .val (.int (Ii + (1 : Int32)))] [])) (fun _ hr => XS.goto X.here hx rfl (pc0 := 39) (pc' := 22) rfl (hb hby d1_39) (by decide) (by decide) hr) ?_
    exact ih (i + 1) _ _ (own_plus (q := 1) hi (by decide) (by have := rng32 N; omega)) (by omega) H
theorem pn_tail : plainName "com/example/cosine/cosine/index/MergePolicy" = true := by first | (simp [plainName, overriddenIn]; done) | decide +kernel
theorem pd_tail : parseMethodDescriptor "([J)I" = some ⟨[(.array .long)], some .int⟩ := by decide +kernel
theorem ef_tail (m : MethodId) (x0 : Addr) : entryFrame m #[(.ref x0)] 5 = mkF m 0 #[.val (.ref x0), .unset, .unset, .unset, .unset] [] := by first | (simp [entryFrame, mkF, argsToLocals, Value.category, maxLocals]; done) | rfl
def Q_tail (Z : State) (a : Addr) (nn : Nat) (N : Int32) (g : Nat → Int64) (rv : Int32) (h0 : Heap) (n0 : Nat) (v : Option Value) (h : Heap) (L : List Loc) : Prop := v = some (.int rv) ∧ Fr n0 L ∧ h = h0
set_option maxRecDepth 65536 in
set_option maxHeartbeats 40000000 in
theorem rm_tail (l : Launch) (Z : State) (a0 : Array Value) (hw : ∀ d ∈ tables_1, d.before a0 Z = true) (ws : List Jvm.Cond) (a : Addr) (nn : Nat) (N : Int32) (g : Nat → Int64) (rv : Int32) (h0 : Heap) (n0 : Nat) (Z0 : n0 ≤ h0.size) (V : own_Ar Z h0 a .long nn (fun i => .long (g i))) (hN : N.toInt = (nn : Int)) (hrv : own_t nn N g = rv) :
    MetFree l (⟨"com/example/cosine/cosine/index/MergePolicy", "tail", "([J)I"⟩ : MethodName) (head1 (Jvm.Cond.code (⟨"com/example/cosine/cosine/index/MergePolicy", "tail", "([J)I"⟩ : MethodName) prog_28_method_2_code 5 (some .int) :: ws) ({ frames := 0, cells := 0, slots := 0, locals := 0 } : Room)) (fun as U => as = #[(.ref a)] ∧ Z.Warmed39 U.vm ∧ U.heap = h0) (fun _ _ _ _ _ => True) (fun _ U o U' => ∃ v L, o = .returned v ∧ Q_tail Z a nn N g rv h0 n0 v U'.heap L ∧ FrameEnd U o U' L ({ frames := 0, cells := 0, slots := 0, locals := 0 } : Room).cells ({ frames := 0, cells := 0, slots := 0, locals := 0 } : Room).slots) := by
  refine MetFree.of_bodySF (plainFor_of_name pn_tail) hisR ?_
  intro p e s m args below meth c s₁ Bd hml0 hP hK
  obtain ⟨rfl, hZ, hh⟩ := hP
  have hx := Bd.exec
  have hby := Bd.bytes
  have hml : c.maxLocals = 5 := hml0
  have hown : s.vm.findClass "com/example/cosine/cosine/index/MergePolicy" = some m.cls := findClass_of_methodNamed Bd.named
  have hnm := (name_of_methodNamed Bd.named Bd.method).1
  have hlk := BodyLoose.notSynchronized Bd
  have hret := Bd.returns
  have X0 : Stand p l e ({ frames := 0, cells := 0, slots := 0, locals := 0 } : Room) s m #[(.ref a)] below meth c s₁ [] 0 0 := Stand.of_body Bd
  have e0 : s₁.heap = h0 := by rw [← hh, Bd.state]; rfl
  have N0 := Fr.nil n0
  show own_G p e below (own_P s below (Q_tail Z a nn N g rv h0 n0) ({ frames := 0, cells := 0, slots := 0, locals := 0 } : Room).cells ({ frames := 0, cells := 0, slots := 0, locals := 0 } : Room).slots) _
  refine own_go (B := s₁.setTop (mkF m 0 #[.val (.ref a), .unset, .unset, .unset, .unset] [])) (fun t k => castTop (ef_tail m a) k) ?_
  refine own_go (B := s₁.setTop (mkF m 1 #[.val (.ref a), .unset, .unset, .unset, .unset] [(.ref a)])) (fun _ hr => XS.aloadN X0.here hx rfl (hb hby d1_0) rfl rfl hr) ?_
  refine own_go (B := s₁.setTop (mkF m 2 #[.val (.ref a), .unset, .unset, .unset, .unset] [(.int N)])) (fun _ hr => own_len X0 hx hZ e0 V hN (g := (mkF m 1 #[.val (.ref a), .unset, .unset, .unset, .unset] [(.ref a)])) rfl rfl (hb hby d1_1) _ hr) ?_
  refine own_go (B := s₁.setTop (mkF m 4 #[.val (.ref a), .unset, .unset, .unset, .unset] [(.int (10 : Int32)), (.int N)])) (fun _ hr => XT.bipushV X0.here hx rfl (10 : Int32) (hb hby d1_2) (by decide) hr) ?_
  by_cases c1 : N < (10 : Int32)
  · refine own_go (B := s₁.setTop (mkF m 7 #[.val (.ref a), .unset, .unset, .unset, .unset] [])) (fun _ hr => XS.icmpNo X0.here hx rfl (hb hby d1_4) rfl (XT.ii_ge_f c1) hr) ?_
    refine own_go (B := s₁.setTop (mkF m 8 #[.val (.ref a), .unset, .unset, .unset, .unset] [(.int (-1 : Int32))])) (fun _ hr => XT.iconstV X0.here hx rfl (-1 : Int32) (hb hby d1_7) (by decide) hr) ?_
    exact own_retI X0 hx hlk hret  (hb hby d1_8) (by decide) (by decide) ⟨by rw [← hrv]; simp only [own_t, if_pos c1], N0, e0⟩
  · refine own_go (B := s₁.setTop (mkF m 9 #[.val (.ref a), .unset, .unset, .unset, .unset] [])) (fun _ hr => XS.icmpYes X0.here hx rfl (pc0 := 4) (pc' := 9) rfl (hb hby d1_4) rfl (XT.ii_ge_t c1) (by decide) (by decide) hr) ?_
    have h10 : 10 ≤ nn := by have q := c1; rw [Int32.lt_iff_toInt_lt, hN] at q; have : (10 : Int32).toInt = 10 := rfl; omega
    have hF : (N - (10 : Int32)).toInt = ((nn - 10 : Nat) : Int) := own_minus hN (by decide) h10
    refine own_go (B := s₁.setTop (mkF m 10 #[.val (.ref a), .unset, .unset, .unset, .unset] [(.ref a)])) (fun _ hr => XS.aloadN X0.here hx rfl (hb hby d1_9) rfl rfl hr) ?_
    refine own_go (B := s₁.setTop (mkF m 11 #[.val (.ref a), .unset, .unset, .unset, .unset] [(.int N)])) (fun _ hr => own_len X0 hx hZ e0 V hN (g := (mkF m 10 #[.val (.ref a), .unset, .unset, .unset, .unset] [(.ref a)])) rfl rfl (hb hby d1_10) _ hr) ?_
    refine own_go (B := s₁.setTop (mkF m 13 #[.val (.ref a), .unset, .unset, .unset, .unset] [(.int (10 : Int32)), (.int N)])) (fun _ hr => XT.bipushV X0.here hx rfl (10 : Int32) (hb hby d1_11) (by decide) hr) ?_
    refine own_go (B := s₁.setTop (mkF m 14 #[.val (.ref a), .unset, .unset, .unset, .unset] [(.int (N - (10 : Int32)))])) (fun _ hr => XS.isub X0.here hx rfl (hb hby d1_13) rfl hr) ?_
    refine own_go (B := s₁.setTop (mkF m 15 #[.val (.ref a), .val (.int (N - (10 : Int32))), .unset, .unset, .unset] [])) (fun _ hr => XS.istoreN X0.here hx rfl (hb hby d1_14) rfl (l' := #[.val (.ref a), .val (.int (N - (10 : Int32))), .unset, .unset, .unset]) rfl hr) ?_
    refine own_go (B := s₁.setTop (mkF m 16 #[.val (.ref a), .val (.int (N - (10 : Int32))), .unset, .unset, .unset] [(.long (0 : Int64))])) (fun _ hr => XT.lconstV X0.here hx rfl (0 : Int64) (hb hby d1_15) (by decide) hr) ?_
    refine own_go (B := s₁.setTop (mkF m 17 #[.val (.ref a), .val (.int (N - (10 : Int32))), .val (.long (0 : Int64)), .second, .unset] [])) (fun _ hr => XT.lstoreN X0.here hx rfl (hb hby d1_16) rfl (l' := #[.val (.ref a), .val (.int (N - (10 : Int32))), .val (.long (0 : Int64)), .second, .unset]) rfl hr) ?_
    refine own_go (B := s₁.setTop (mkF m 18 #[.val (.ref a), .val (.int (N - (10 : Int32))), .val (.long (0 : Int64)), .second, .unset] [(.int (N - (10 : Int32)))])) (fun _ hr => XS.iloadN X0.here hx rfl (hb hby d1_17) rfl hr) ?_
    refine own_go (B := s₁.setTop (mkF m 19 #[.val (.ref a), .val (.int (N - (10 : Int32))), .val (.long (0 : Int64)), .second, .unset] [(.int (1 : Int32)), (.int (N - (10 : Int32)))])) (fun _ hr => XT.iconstV X0.here hx rfl (1 : Int32) (hb hby d1_18) (by decide) hr) ?_
    refine own_go (B := s₁.setTop (mkF m 20 #[.val (.ref a), .val (.int (N - (10 : Int32))), .val (.long (0 : Int64)), .second, .unset] [(.int ((N - (10 : Int32)) + (1 : Int32)))])) (fun _ hr => XS.iadd X0.here hx rfl (hb hby d1_19) rfl hr) ?_
    refine own_go (B := s₁.setTop (mkF m 22 #[.val (.ref a), .val (.int (N - (10 : Int32))), .val (.long (0 : Int64)), .second, .val (.int ((N - (10 : Int32)) + (1 : Int32)))] [])) (fun _ hr => XS.istore X0.here hx rfl (hb hby d1_20) rfl (l' := #[.val (.ref a), .val (.int (N - (10 : Int32))), .val (.long (0 : Int64)), .second, .val (.int ((N - (10 : Int32)) + (1 : Int32)))]) rfl hr) ?_
    refine own_loop X0 hx hby hZ e0 V hN 9 (nn - 9) _ _ ?_ (by omega) ?_
    · have q := own_plus (k := (1 : Int32)) (q := 1) hF (by decide) (by have := rng32 N; omega)
      rw [q]; omega
    obtain ⟨S, hS⟩ : ∃ z, z = own_sum g (0 : Int64) (nn - 9) 9 := ⟨_, rfl⟩
    rw [← hS]
    refine own_go (B := s₁.setTop (mkF m 43 #[.val (.ref a), .val (.int (N - (10 : Int32))), .val (.long S), .second, .val (.int N)] [(.ref a)])) (fun _ hr => XS.aloadN X0.here hx rfl (hb hby d1_42) rfl rfl hr) ?_
    refine own_go (B := s₁.setTop (mkF m 44 #[.val (.ref a), .val (.int (N - (10 : Int32))), .val (.long S), .second, .val (.int N)] [(.int (N - (10 : Int32))), (.ref a)])) (fun _ hr => XS.iloadN X0.here hx rfl (hb hby d1_43) rfl hr) ?_
    refine own_go (B := s₁.setTop (mkF m 45 #[.val (.ref a), .val (.int (N - (10 : Int32))), .val (.long S), .second, .val (.int N)] [(.long (g (nn - 10)))])) (fun _ hr => own_ldJ X0 hx hZ e0 V hF (by omega) rfl (g := (mkF m 44 #[.val (.ref a), .val (.int (N - (10 : Int32))), .val (.long S), .second, .val (.int N)] [(.int (N - (10 : Int32))), (.ref a)])) rfl rfl (hb hby d1_44) _ hr) ?_
    refine own_go (B := s₁.setTop (mkF m 46 #[.val (.ref a), .val (.int (N - (10 : Int32))), .val (.long S), .second, .val (.int N)] [(.long S), (.long (g (nn - 10)))])) (fun _ hr => XT.lloadN X0.here hx rfl (hb hby d1_45) rfl hr) ?_
    refine own_go (B := s₁.setTop (mkF m 47 #[.val (.ref a), .val (.int (N - (10 : Int32))), .val (.long S), .second, .val (.int N)] [(.long ((g (nn - 10)) + S))])) (fun _ hr => XT.ladd X0.here hx rfl (hb hby d1_46) rfl hr) ?_
    refine own_go (B := s₁.setTop (mkF m 50 #[.val (.ref a), .val (.int (N - (10 : Int32))), .val (.long S), .second, .val (.int N)] [(.long (1073741824 : Int64)), (.long ((g (nn - 10)) + S))])) (fun _ hr => X0.ldc2J hx hown (mvT hZ (hw _ (List.mem_of_getElem? (i := 8) rfl))) rfl (hb hby d1_47) hr) ?_
    refine own_go (B := s₁.setTop (mkF m 51 #[.val (.ref a), .val (.int (N - (10 : Int32))), .val (.long S), .second, .val (.int N)] [(.int (XT.cmpL ((g (nn - 10)) + S) (1073741824 : Int64)))])) (fun _ hr => XT.lcmp X0.here hx rfl (hb hby d1_50) rfl hr) ?_
    by_cases c2 : (1073741824 : Int64) < ((g (nn - 10)) + S)
    · refine own_go (B := s₁.setTop (mkF m 58 #[.val (.ref a), .val (.int (N - (10 : Int32))), .val (.long S), .second, .val (.int N)] [])) (fun _ hr => XS.ifYes X0.here hx rfl (pc0 := 51) (pc' := 58) rfl (hb hby d1_51) rfl (XT.ll_gt_t c2) (by decide) (by decide) hr) ?_
      refine own_go (B := s₁.setTop (mkF m 59 #[.val (.ref a), .val (.int (N - (10 : Int32))), .val (.long S), .second, .val (.int N)] [(.int (0 : Int32))])) (fun _ hr => XT.iconstV X0.here hx rfl (0 : Int32) (hb hby d1_58) (by decide) hr) ?_
      refine own_go (B := s₁.setTop (mkF m 61 #[.val (.ref a), .val (.int (N - (10 : Int32))), .val (.long S), .second, .val (.int (0 : Int32))] [])) (fun _ hr => XS.istore X0.here hx rfl (hb hby d1_59) rfl (l' := #[.val (.ref a), .val (.int (N - (10 : Int32))), .val (.long S), .second, .val (.int (0 : Int32))]) rfl hr) ?_
      refine own_go (B := s₁.setTop (mkF m 63 #[.val (.ref a), .val (.int (N - (10 : Int32))), .val (.long S), .second, .val (.int (0 : Int32))] [(.int (0 : Int32))])) (fun _ hr => XS.iload X0.here hx rfl (hb hby d1_61) rfl hr) ?_
      refine own_go (B := s₁.setTop (mkF m 82 #[.val (.ref a), .val (.int (N - (10 : Int32))), .val (.long S), .second, .val (.int (0 : Int32))] [])) (fun _ hr => XS.ifYes X0.here hx rfl (pc0 := 63) (pc' := 82) rfl (hb hby d1_63) rfl (XT.i0_eq_t (by decide)) (by decide) (by decide) hr) ?_
      refine own_go (B := s₁.setTop (mkF m 83 #[.val (.ref a), .val (.int (N - (10 : Int32))), .val (.long S), .second, .val (.int (0 : Int32))] [(.int (-1 : Int32))])) (fun _ hr => XT.iconstV X0.here hx rfl (-1 : Int32) (hb hby d1_82) (by decide) hr) ?_
      exact own_retI X0 hx hlk hret  (hb hby d1_83) (by decide) (by decide) ⟨by rw [← hrv]; simp only [own_t, own_t3, ← hS, if_neg c1, if_pos c2], N0, e0⟩
    · refine own_go (B := s₁.setTop (mkF m 54 #[.val (.ref a), .val (.int (N - (10 : Int32))), .val (.long S), .second, .val (.int N)] [])) (fun _ hr => XS.ifNo X0.here hx rfl (hb hby d1_51) rfl (XT.ll_gt_f c2) hr) ?_
      refine own_go (B := s₁.setTop (mkF m 55 #[.val (.ref a), .val (.int (N - (10 : Int32))), .val (.long S), .second, .val (.int N)] [(.int (1 : Int32))])) (fun _ hr => XT.iconstV X0.here hx rfl (1 : Int32) (hb hby d1_54) (by decide) hr) ?_
      refine own_go (B := s₁.setTop (mkF m 59 #[.val (.ref a), .val (.int (N - (10 : Int32))), .val (.long S), .second, .val (.int N)] [(.int (1 : Int32))])) (fun _ hr => XS.goto X0.here hx rfl (pc0 := 55) (pc' := 59) rfl (hb hby d1_55) (by decide) (by decide) hr) ?_
      refine own_go (B := s₁.setTop (mkF m 61 #[.val (.ref a), .val (.int (N - (10 : Int32))), .val (.long S), .second, .val (.int (1 : Int32))] [])) (fun _ hr => XS.istore X0.here hx rfl (hb hby d1_59) rfl (l' := #[.val (.ref a), .val (.int (N - (10 : Int32))), .val (.long S), .second, .val (.int (1 : Int32))]) rfl hr) ?_
      refine own_go (B := s₁.setTop (mkF m 63 #[.val (.ref a), .val (.int (N - (10 : Int32))), .val (.long S), .second, .val (.int (1 : Int32))] [(.int (1 : Int32))])) (fun _ hr => XS.iload X0.here hx rfl (hb hby d1_61) rfl hr) ?_
      refine own_go (B := s₁.setTop (mkF m 66 #[.val (.ref a), .val (.int (N - (10 : Int32))), .val (.long S), .second, .val (.int (1 : Int32))] [])) (fun _ hr => XS.ifNo X0.here hx rfl (hb hby d1_63) rfl (XT.i0_eq_f (by decide)) hr) ?_
      refine own_go (B := s₁.setTop (mkF m 67 #[.val (.ref a), .val (.int (N - (10 : Int32))), .val (.long S), .second, .val (.int (1 : Int32))] [(.ref a)])) (fun _ hr => XS.aloadN X0.here hx rfl (hb hby d1_66) rfl rfl hr) ?_
      refine own_go (B := s₁.setTop (mkF m 68 #[.val (.ref a), .val (.int (N - (10 : Int32))), .val (.long S), .second, .val (.int (1 : Int32))] [(.int (N - (10 : Int32))), (.ref a)])) (fun _ hr => XS.iloadN X0.here hx rfl (hb hby d1_67) rfl hr) ?_
      refine own_go (B := s₁.setTop (mkF m 69 #[.val (.ref a), .val (.int (N - (10 : Int32))), .val (.long S), .second, .val (.int (1 : Int32))] [(.long (g (nn - 10)))])) (fun _ hr => own_ldJ X0 hx hZ e0 V hF (by omega) rfl (g := (mkF m 68 #[.val (.ref a), .val (.int (N - (10 : Int32))), .val (.long S), .second, .val (.int (1 : Int32))] [(.int (N - (10 : Int32))), (.ref a)])) rfl rfl (hb hby d1_68) _ hr) ?_
      refine own_go (B := s₁.setTop (mkF m 72 #[.val (.ref a), .val (.int (N - (10 : Int32))), .val (.long S), .second, .val (.int (1 : Int32))] [(.long (10 : Int64)), (.long (g (nn - 10)))])) (fun _ hr => X0.ldc2J hx hown (mvT hZ (hw _ (List.mem_of_getElem? (i := 9) rfl))) rfl (hb hby d1_69) hr) ?_
      refine own_go (B := s₁.setTop (mkF m 73 #[.val (.ref a), .val (.int (N - (10 : Int32))), .val (.long S), .second, .val (.int (1 : Int32))] [(.long S), (.long (10 : Int64)), (.long (g (nn - 10)))])) (fun _ hr => XT.lloadN X0.here hx rfl (hb hby d1_72) rfl hr) ?_
      refine own_go (B := s₁.setTop (mkF m 74 #[.val (.ref a), .val (.int (N - (10 : Int32))), .val (.long S), .second, .val (.int (1 : Int32))] [(.long ((10 : Int64) * S)), (.long (g (nn - 10)))])) (fun _ hr => XT.lmul X0.here hx rfl (hb hby d1_73) rfl hr) ?_
      refine own_go (B := s₁.setTop (mkF m 75 #[.val (.ref a), .val (.int (N - (10 : Int32))), .val (.long S), .second, .val (.int (1 : Int32))] [(.int (XT.cmpL (g (nn - 10)) ((10 : Int64) * S)))])) (fun _ hr => XT.lcmp X0.here hx rfl (hb hby d1_74) rfl hr) ?_
      by_cases c3 : ((10 : Int64) * S) < (g (nn - 10))
      · refine own_go (B := s₁.setTop (mkF m 82 #[.val (.ref a), .val (.int (N - (10 : Int32))), .val (.long S), .second, .val (.int (1 : Int32))] [])) (fun _ hr => XS.ifYes X0.here hx rfl (pc0 := 75) (pc' := 82) rfl (hb hby d1_75) rfl (XT.ll_gt_t c3) (by decide) (by decide) hr) ?_
        refine own_go (B := s₁.setTop (mkF m 83 #[.val (.ref a), .val (.int (N - (10 : Int32))), .val (.long S), .second, .val (.int (1 : Int32))] [(.int (-1 : Int32))])) (fun _ hr => XT.iconstV X0.here hx rfl (-1 : Int32) (hb hby d1_82) (by decide) hr) ?_
        exact own_retI X0 hx hlk hret  (hb hby d1_83) (by decide) (by decide) ⟨by rw [← hrv]; simp only [own_t, own_t3, ← hS, if_neg c1, if_neg c2, if_pos c3], N0, e0⟩
      · refine own_go (B := s₁.setTop (mkF m 78 #[.val (.ref a), .val (.int (N - (10 : Int32))), .val (.long S), .second, .val (.int (1 : Int32))] [])) (fun _ hr => XS.ifNo X0.here hx rfl (hb hby d1_75) rfl (XT.ll_gt_f c3) hr) ?_
        refine own_go (B := s₁.setTop (mkF m 79 #[.val (.ref a), .val (.int (N - (10 : Int32))), .val (.long S), .second, .val (.int (1 : Int32))] [(.int (N - (10 : Int32)))])) (fun _ hr => XS.iloadN X0.here hx rfl (hb hby d1_78) rfl hr) ?_
        refine own_go (B := s₁.setTop (mkF m 83 #[.val (.ref a), .val (.int (N - (10 : Int32))), .val (.long S), .second, .val (.int (1 : Int32))] [(.int (N - (10 : Int32)))])) (fun _ hr => XS.goto X0.here hx rfl (pc0 := 79) (pc' := 83) rfl (hb hby d1_79) (by decide) (by decide) hr) ?_
        exact own_retI X0 hx hlk hret  (hb hby d1_83) (by decide) (by decide) ⟨by rw [← hrv]; simp only [own_t, own_t3, ← hS, if_neg c1, if_neg c2, if_neg c3], N0, e0⟩
theorem pn_law : plainName "com/example/cosine/cosine/index/MergePolicyTailPinLaw" = true := by first | (simp [plainName, overriddenIn]; done) | decide +kernel
theorem ef_law (m : MethodId) (x0 : Int32) (x1 : Int64) (x2 : Int64) (x3 : Int64) (x4 : Int64) (x5 : Int32) : entryFrame m #[(.int x0), (.long x1), (.long x2), (.long x3), (.long x4), (.int x5)] maxLocals = mkF m 0 #[.val (.int x0), .val (.long x1), .second, .val (.long x2), .second, .val (.long x3), .second, .val (.long x4), .second, .val (.int x5), .unset, .unset, .unset, .unset, .unset, .unset, .unset, .unset, .unset, .unset, .unset, .unset, .unset, .unset, .unset, .unset] [] := by first | (simp [entryFrame, mkF, argsToLocals, Value.category, maxLocals]; done) | rfl
def Q_law (Z : State) (ni : Int32) (la : Int64) (lb : Int64) (lc : Int64) (ld : Int64) (pi : Int32) (h0 : Heap) (n0 : Nat) (v : Option Value) (h : Heap) (L : List Loc) : Prop := v = some (.int 1) ∧ Fr n0 L
def own_exp (ka : Int64) (kb : Int64) (kc : Int64) (fi : Int32) : Int32 := (if (1073741824 : Int64) < (ka + (kb + kc)) then (-1 : Int32) else (if ((10 : Int64) * (kb + kc)) < ka then (-1 : Int32) else fi))
theorem own_len15 (x : Int32) : ∃ t : Nat, (x &&& (15 : Int32)).toInt = (t : Int) ∧ t ≤ 15 := by
  have h1 : (x &&& (15 : Int32)).toInt = x.toInt % 2 ^ 4 := Jvm.Kit.i32_mask x 15 (k := 4) (by decide) (by decide)
  exact ⟨(x &&& (15 : Int32)).toInt.toNat, by omega, by omega⟩
theorem own_mod9 (x : Int32) : ∃ t : Nat, ((x &&& (255 : Int32)) % (9 : Int32)).toInt = (t : Int) ∧ t ≤ 8 := by
  have h1 : (x &&& (255 : Int32)).toInt = x.toInt % 2 ^ 8 := Jvm.Kit.i32_mask x 255 (k := 8) (by decide) (by decide)
  have h2 : ((x &&& (255 : Int32)) % (9 : Int32)).toInt = (x &&& (255 : Int32)).toInt % (9 : Int32).toInt := Jvm.Kit.i32_rem_nonneg (by omega)
  have h3 : (9 : Int32).toInt = 9 := rfl
  rw [h3] at h2
  exact ⟨((x &&& (255 : Int32)) % (9 : Int32)).toInt.toNat, by omega, by omega⟩
theorem own_sum2 (g : Nat → Int64) (J I : Nat) (x y : Int64) : ∀ (k i : Nat) (S : Int64), (∀ q, i ≤ q → q < i + k → g q = (if q = J then x else 0) + (if q = I then y else 0)) → own_sum g S i k = S + ((if i ≤ J ∧ J < i + k then x else 0) + (if i ≤ I ∧ I < i + k then y else 0)) := by
  intro k
  induction k with
  | zero =>
    intro i S _
    rw [if_neg (by omega), if_neg (by omega)]
    simp [own_sum]
  | succ k ih =>
    intro i S hg
    rw [own_sum, ih (i + 1) _ (fun q h1 h2 => hg q (by omega) (by omega)), hg i (by omega) (by omega)]
    by_cases a1 : i = J
    · rw [if_pos a1, if_neg (by omega : ¬ (i + 1 ≤ J ∧ J < i + 1 + k)), if_pos (by omega : i ≤ J ∧ J < i + (k + 1))]
      by_cases a2 : i = I
      · rw [if_pos a2, if_neg (by omega : ¬ (i + 1 ≤ I ∧ I < i + 1 + k)), if_pos (by omega : i ≤ I ∧ I < i + (k + 1))]
        simp
      · rw [if_neg a2]
        by_cases a3 : i + 1 ≤ I ∧ I < i + 1 + k
        · rw [if_pos a3, if_pos (by omega : i ≤ I ∧ I < i + (k + 1))]
          simp [Int64.add_assoc]
        · rw [if_neg a3, if_neg (by omega : ¬ (i ≤ I ∧ I < i + (k + 1)))]
          simp
    · rw [if_neg a1]
      by_cases b1 : i + 1 ≤ J ∧ J < i + 1 + k
      · rw [if_pos b1, if_pos (by omega : i ≤ J ∧ J < i + (k + 1))]
        by_cases a2 : i = I
        · rw [if_pos a2, if_neg (by omega : ¬ (i + 1 ≤ I ∧ I < i + 1 + k)), if_pos (by omega : i ≤ I ∧ I < i + (k + 1))]
          simp; ac_rfl
        · rw [if_neg a2]
          by_cases a3 : i + 1 ≤ I ∧ I < i + 1 + k
          · rw [if_pos a3, if_pos (by omega : i ≤ I ∧ I < i + (k + 1))]
            simp [Int64.add_assoc]
          · rw [if_neg a3, if_neg (by omega : ¬ (i ≤ I ∧ I < i + (k + 1)))]
            simp
      · rw [if_neg b1, if_neg (by omega : ¬ (i ≤ J ∧ J < i + (k + 1)))]
        by_cases a2 : i = I
        · rw [if_pos a2, if_neg (by omega : ¬ (i + 1 ≤ I ∧ I < i + 1 + k)), if_pos (by omega : i ≤ I ∧ I < i + (k + 1))]
          simp
        · rw [if_neg a2]
          by_cases a3 : i + 1 ≤ I ∧ I < i + 1 + k
          · rw [if_pos a3, if_pos (by omega : i ≤ I ∧ I < i + (k + 1))]
            simp
          · rw [if_neg a3, if_neg (by omega : ¬ (i ≤ I ∧ I < i + (k + 1)))]
            simp
theorem own_ans {nn F ti tj : Nat} {N fi : Int32} {ka kb kc wj : Int64} {g : Nat → Int64} (hF : F = nn - 10) (hfi : fi = N - (10 : Int32)) (h10 : 10 ≤ nn) (hc : ¬ N < (10 : Int32)) (hwj : (if F + 1 + tj = F + 1 + ti then (0 : Int64) + kb else (if F + 1 + tj = F then ka else (fun _ => (0 : Int64)) (F + 1 + tj))) = wj) (hti : ti ≤ 8) (htj : tj ≤ 8)
    (gF : g F = ka) (gq : ∀ q, q < 9 → g (F + 1 + q) = if q = tj then wj + kc else if q = ti then (0 : Int64) + kb else 0) : own_t nn N g = own_exp ka kb kc fi := by
  have e1 : nn - 9 = F + 1 := by omega
  have hs : own_sum g 0 (nn - 9) 9 = kb + kc := by
    rw [e1, own_sum2 g (F + 1 + tj) (F + 1 + ti) kc kb 9 (F + 1) 0 (fun q h1 h2 => ?_)]
    · rw [if_pos (by omega), if_pos (by omega)]
      simp [Int64.add_comm]
    · obtain ⟨r, rfl⟩ : ∃ r, q = F + 1 + r := ⟨q - (F + 1), by omega⟩
      rw [gq r (by omega)]
      by_cases b1 : r = tj
      · rw [if_pos b1, if_pos (by omega : F + 1 + r = F + 1 + tj), ← hwj]
        by_cases b2 : r = ti
        · rw [if_pos (by omega : F + 1 + tj = F + 1 + ti), if_pos (by omega : F + 1 + r = F + 1 + ti)]
          simp [Int64.add_comm]
        · rw [if_neg (by omega : ¬ (F + 1 + tj = F + 1 + ti)), if_neg (by omega : ¬ (F + 1 + tj = F)), if_neg (by omega : ¬ (F + 1 + r = F + 1 + ti))]
          simp
      · rw [if_neg b1, if_neg (by omega : ¬ (F + 1 + r = F + 1 + tj))]
        by_cases b2 : r = ti
        · rw [if_pos b2, if_pos (by omega : F + 1 + r = F + 1 + ti)]
        · rw [if_neg b2, if_neg (by omega : ¬ (F + 1 + r = F + 1 + ti))]
          simp
  rw [own_t, if_neg hc, ← hF, hs, gF, ← hfi]
  rfl
set_option maxRecDepth 65536 in
set_option maxHeartbeats 40000000 in
theorem rm_law (l : Launch) (Z : State) (a0 : Array Value) (hw : ∀ d ∈ tables_1, d.before a0 Z = true) (ws : List Jvm.Cond) (ni : Int32) (la : Int64) (lb : Int64) (lc : Int64) (ld : Int64) (pi : Int32) (h0 : Heap) (n0 : Nat) (Z0 : n0 ≤ h0.size)  :
    MetFree l x (head1 (Jvm.Cond.code x code maxLocals ret :: ws) room_1) (fun as U => as = #[(.int ni), (.long la), (.long lb), (.long lc), (.long ld), (.int pi)] ∧ Z.Warmed39 U.vm ∧ U.heap = h0) (fun _ _ _ _ _ => True) (fun _ U o U' => ∃ v L, o = .returned v ∧ Q_law Z ni la lb lc ld pi h0 n0 v U'.heap L ∧ FrameEnd U o U' L 16 128) := by
  refine MetFree.of_bodySF (plainFor_of_name pn_law) hisR ?_
  intro p e s m args below meth c s₁ Bd hml0 hP hK
  obtain ⟨rfl, hZ, hh⟩ := hP
  have hx := Bd.exec
  have hby := Bd.bytes
  have hml : c.maxLocals = 26 := hml0
  have hown : s.vm.findClass "com/example/cosine/cosine/index/MergePolicyTailPinLaw" = some m.cls := findClass_of_methodNamed Bd.named
  have hnm := (name_of_methodNamed Bd.named Bd.method).1
  have hlk := BodyLoose.notSynchronized Bd
  have hret := Bd.returns
  have X0 : Stand p l e room_1 s m #[(.int ni), (.long la), (.long lb), (.long lc), (.long ld), (.int pi)] below meth c s₁ [] 0 0 := Stand.of_body Bd
  have e0 : s₁.heap = h0 := by rw [← hh, Bd.state]; rfl
  have N0 := Fr.nil n0
  show own_G p e below (own_P s below (Q_law Z ni la lb lc ld pi h0 n0) 16 128) _
  refine own_go (B := s₁.setTop (mkF m 0 #[.val (.int ni), .val (.long la), .second, .val (.long lb), .second, .val (.long lc), .second, .val (.long ld), .second, .val (.int pi), .unset, .unset, .unset, .unset, .unset, .unset, .unset, .unset, .unset, .unset, .unset, .unset, .unset, .unset, .unset, .unset] [])) (fun t k => castTop (ef_law m ni la lb lc ld pi) k) ?_
  refine own_go (B := s₁.setTop (mkF m 1 #[.val (.int ni), .val (.long la), .second, .val (.long lb), .second, .val (.long lc), .second, .val (.long ld), .second, .val (.int pi), .unset, .unset, .unset, .unset, .unset, .unset, .unset, .unset, .unset, .unset, .unset, .unset, .unset, .unset, .unset, .unset] [(.long la)])) (fun _ hr => XT.lloadN X0.here hx rfl (hb hby at_0) rfl hr) ?_
  refine own_go (B := s₁.setTop (mkF m 4 #[.val (.int ni), .val (.long la), .second, .val (.long lb), .second, .val (.long lc), .second, .val (.long ld), .second, .val (.int pi), .unset, .unset, .unset, .unset, .unset, .unset, .unset, .unset, .unset, .unset, .unset, .unset, .unset, .unset, .unset, .unset] [(.long (288230376151711743 : Int64)), (.long la)])) (fun _ hr => X0.ldc2J hx hown (mvT hZ (hw _ (List.mem_of_getElem? (i := 0) rfl))) rfl (hb hby at_1) hr) ?_
  refine own_go (B := s₁.setTop (mkF m 5 #[.val (.int ni), .val (.long la), .second, .val (.long lb), .second, .val (.long lc), .second, .val (.long ld), .second, .val (.int pi), .unset, .unset, .unset, .unset, .unset, .unset, .unset, .unset, .unset, .unset, .unset, .unset, .unset, .unset, .unset, .unset] [(.long (la &&& (288230376151711743 : Int64)))])) (fun _ hr => XT.land X0.here hx rfl (hb hby at_4) rfl hr) ?_
  refine own_go (B := s₁.setTop (mkF m 7 #[.val (.int ni), .val (.long la), .second, .val (.long lb), .second, .val (.long lc), .second, .val (.long ld), .second, .val (.int pi), .val (.long (la &&& (288230376151711743 : Int64))), .second, .unset, .unset, .unset, .unset, .unset, .unset, .unset, .unset, .unset, .unset, .unset, .unset, .unset, .unset] [])) (fun _ hr => XT.lstore X0.here hx rfl (hb hby at_5) rfl (l' := #[.val (.int ni), .val (.long la), .second, .val (.long lb), .second, .val (.long lc), .second, .val (.long ld), .second, .val (.int pi), .val (.long (la &&& (288230376151711743 : Int64))), .second, .unset, .unset, .unset, .unset, .unset, .unset, .unset, .unset, .unset, .unset, .unset, .unset, .unset, .unset]) rfl hr) ?_
  generalize (la &&& (288230376151711743 : Int64)) = ka
  refine own_go (B := s₁.setTop (mkF m 8 #[.val (.int ni), .val (.long la), .second, .val (.long lb), .second, .val (.long lc), .second, .val (.long ld), .second, .val (.int pi), .val (.long ka), .second, .unset, .unset, .unset, .unset, .unset, .unset, .unset, .unset, .unset, .unset, .unset, .unset, .unset, .unset] [(.long lb)])) (fun _ hr => XT.lloadN X0.here hx rfl (hb hby at_7) rfl hr) ?_
  refine own_go (B := s₁.setTop (mkF m 11 #[.val (.int ni), .val (.long la), .second, .val (.long lb), .second, .val (.long lc), .second, .val (.long ld), .second, .val (.int pi), .val (.long ka), .second, .unset, .unset, .unset, .unset, .unset, .unset, .unset, .unset, .unset, .unset, .unset, .unset, .unset, .unset] [(.long (288230376151711743 : Int64)), (.long lb)])) (fun _ hr => X0.ldc2J hx hown (mvT hZ (hw _ (List.mem_of_getElem? (i := 0) rfl))) rfl (hb hby at_8) hr) ?_
  refine own_go (B := s₁.setTop (mkF m 12 #[.val (.int ni), .val (.long la), .second, .val (.long lb), .second, .val (.long lc), .second, .val (.long ld), .second, .val (.int pi), .val (.long ka), .second, .unset, .unset, .unset, .unset, .unset, .unset, .unset, .unset, .unset, .unset, .unset, .unset, .unset, .unset] [(.long (lb &&& (288230376151711743 : Int64)))])) (fun _ hr => XT.land X0.here hx rfl (hb hby at_11) rfl hr) ?_
  refine own_go (B := s₁.setTop (mkF m 14 #[.val (.int ni), .val (.long la), .second, .val (.long lb), .second, .val (.long lc), .second, .val (.long ld), .second, .val (.int pi), .val (.long ka), .second, .val (.long (lb &&& (288230376151711743 : Int64))), .second, .unset, .unset, .unset, .unset, .unset, .unset, .unset, .unset, .unset, .unset, .unset, .unset] [])) (fun _ hr => XT.lstore X0.here hx rfl (hb hby at_12) rfl (l' := #[.val (.int ni), .val (.long la), .second, .val (.long lb), .second, .val (.long lc), .second, .val (.long ld), .second, .val (.int pi), .val (.long ka), .second, .val (.long (lb &&& (288230376151711743 : Int64))), .second, .unset, .unset, .unset, .unset, .unset, .unset, .unset, .unset, .unset, .unset, .unset, .unset]) rfl hr) ?_
  generalize (lb &&& (288230376151711743 : Int64)) = kb
  refine own_go (B := s₁.setTop (mkF m 16 #[.val (.int ni), .val (.long la), .second, .val (.long lb), .second, .val (.long lc), .second, .val (.long ld), .second, .val (.int pi), .val (.long ka), .second, .val (.long kb), .second, .unset, .unset, .unset, .unset, .unset, .unset, .unset, .unset, .unset, .unset, .unset, .unset] [(.long lc)])) (fun _ hr => XT.lload X0.here hx rfl (hb hby at_14) rfl hr) ?_
  refine own_go (B := s₁.setTop (mkF m 19 #[.val (.int ni), .val (.long la), .second, .val (.long lb), .second, .val (.long lc), .second, .val (.long ld), .second, .val (.int pi), .val (.long ka), .second, .val (.long kb), .second, .unset, .unset, .unset, .unset, .unset, .unset, .unset, .unset, .unset, .unset, .unset, .unset] [(.long (288230376151711743 : Int64)), (.long lc)])) (fun _ hr => X0.ldc2J hx hown (mvT hZ (hw _ (List.mem_of_getElem? (i := 0) rfl))) rfl (hb hby at_16) hr) ?_
  refine own_go (B := s₁.setTop (mkF m 20 #[.val (.int ni), .val (.long la), .second, .val (.long lb), .second, .val (.long lc), .second, .val (.long ld), .second, .val (.int pi), .val (.long ka), .second, .val (.long kb), .second, .unset, .unset, .unset, .unset, .unset, .unset, .unset, .unset, .unset, .unset, .unset, .unset] [(.long (lc &&& (288230376151711743 : Int64)))])) (fun _ hr => XT.land X0.here hx rfl (hb hby at_19) rfl hr) ?_
  refine own_go (B := s₁.setTop (mkF m 22 #[.val (.int ni), .val (.long la), .second, .val (.long lb), .second, .val (.long lc), .second, .val (.long ld), .second, .val (.int pi), .val (.long ka), .second, .val (.long kb), .second, .val (.long (lc &&& (288230376151711743 : Int64))), .second, .unset, .unset, .unset, .unset, .unset, .unset, .unset, .unset, .unset, .unset] [])) (fun _ hr => XT.lstore X0.here hx rfl (hb hby at_20) rfl (l' := #[.val (.int ni), .val (.long la), .second, .val (.long lb), .second, .val (.long lc), .second, .val (.long ld), .second, .val (.int pi), .val (.long ka), .second, .val (.long kb), .second, .val (.long (lc &&& (288230376151711743 : Int64))), .second, .unset, .unset, .unset, .unset, .unset, .unset, .unset, .unset, .unset, .unset]) rfl hr) ?_
  generalize (lc &&& (288230376151711743 : Int64)) = kc
  refine own_go (B := s₁.setTop (mkF m 24 #[.val (.int ni), .val (.long la), .second, .val (.long lb), .second, .val (.long lc), .second, .val (.long ld), .second, .val (.int pi), .val (.long ka), .second, .val (.long kb), .second, .val (.long kc), .second, .unset, .unset, .unset, .unset, .unset, .unset, .unset, .unset, .unset, .unset] [(.long ld)])) (fun _ hr => XT.lload X0.here hx rfl (hb hby at_22) rfl hr) ?_
  refine own_go (B := s₁.setTop (mkF m 27 #[.val (.int ni), .val (.long la), .second, .val (.long lb), .second, .val (.long lc), .second, .val (.long ld), .second, .val (.int pi), .val (.long ka), .second, .val (.long kb), .second, .val (.long kc), .second, .unset, .unset, .unset, .unset, .unset, .unset, .unset, .unset, .unset, .unset] [(.long (288230376151711743 : Int64)), (.long ld)])) (fun _ hr => X0.ldc2J hx hown (mvT hZ (hw _ (List.mem_of_getElem? (i := 0) rfl))) rfl (hb hby at_24) hr) ?_
  refine own_go (B := s₁.setTop (mkF m 28 #[.val (.int ni), .val (.long la), .second, .val (.long lb), .second, .val (.long lc), .second, .val (.long ld), .second, .val (.int pi), .val (.long ka), .second, .val (.long kb), .second, .val (.long kc), .second, .unset, .unset, .unset, .unset, .unset, .unset, .unset, .unset, .unset, .unset] [(.long (ld &&& (288230376151711743 : Int64)))])) (fun _ hr => XT.land X0.here hx rfl (hb hby at_27) rfl hr) ?_
  refine own_go (B := s₁.setTop (mkF m 30 #[.val (.int ni), .val (.long la), .second, .val (.long lb), .second, .val (.long lc), .second, .val (.long ld), .second, .val (.int pi), .val (.long ka), .second, .val (.long kb), .second, .val (.long kc), .second, .val (.long (ld &&& (288230376151711743 : Int64))), .second, .unset, .unset, .unset, .unset, .unset, .unset, .unset, .unset] [])) (fun _ hr => XT.lstore X0.here hx rfl (hb hby at_28) rfl (l' := #[.val (.int ni), .val (.long la), .second, .val (.long lb), .second, .val (.long lc), .second, .val (.long ld), .second, .val (.int pi), .val (.long ka), .second, .val (.long kb), .second, .val (.long kc), .second, .val (.long (ld &&& (288230376151711743 : Int64))), .second, .unset, .unset, .unset, .unset, .unset, .unset, .unset, .unset]) rfl hr) ?_
  generalize (ld &&& (288230376151711743 : Int64)) = kd
  refine own_go (B := s₁.setTop (mkF m 31 #[.val (.int ni), .val (.long la), .second, .val (.long lb), .second, .val (.long lc), .second, .val (.long ld), .second, .val (.int pi), .val (.long ka), .second, .val (.long kb), .second, .val (.long kc), .second, .val (.long kd), .second, .unset, .unset, .unset, .unset, .unset, .unset, .unset, .unset] [(.int ni)])) (fun _ hr => XS.iloadN X0.here hx rfl (hb hby at_30) rfl hr) ?_
  refine own_go (B := s₁.setTop (mkF m 33 #[.val (.int ni), .val (.long la), .second, .val (.long lb), .second, .val (.long lc), .second, .val (.long ld), .second, .val (.int pi), .val (.long ka), .second, .val (.long kb), .second, .val (.long kc), .second, .val (.long kd), .second, .unset, .unset, .unset, .unset, .unset, .unset, .unset, .unset] [(.int (15 : Int32)), (.int ni)])) (fun _ hr => XT.bipushV X0.here hx rfl (15 : Int32) (hb hby at_31) (by decide) hr) ?_
  refine own_go (B := s₁.setTop (mkF m 34 #[.val (.int ni), .val (.long la), .second, .val (.long lb), .second, .val (.long lc), .second, .val (.long ld), .second, .val (.int pi), .val (.long ka), .second, .val (.long kb), .second, .val (.long kc), .second, .val (.long kd), .second, .unset, .unset, .unset, .unset, .unset, .unset, .unset, .unset] [(.int (ni &&& (15 : Int32)))])) (fun _ hr => XS.iand X0.here hx rfl (hb hby at_33) rfl hr) ?_
  refine own_go (B := s₁.setTop (mkF m 36 #[.val (.int ni), .val (.long la), .second, .val (.long lb), .second, .val (.long lc), .second, .val (.long ld), .second, .val (.int pi), .val (.long ka), .second, .val (.long kb), .second, .val (.long kc), .second, .val (.long kd), .second, .val (.int (ni &&& (15 : Int32))), .unset, .unset, .unset, .unset, .unset, .unset, .unset] [])) (fun _ hr => XS.istore X0.here hx rfl (hb hby at_34) rfl (l' := #[.val (.int ni), .val (.long la), .second, .val (.long lb), .second, .val (.long lc), .second, .val (.long ld), .second, .val (.int pi), .val (.long ka), .second, .val (.long kb), .second, .val (.long kc), .second, .val (.long kd), .second, .val (.int (ni &&& (15 : Int32))), .unset, .unset, .unset, .unset, .unset, .unset, .unset]) rfl hr) ?_
  obtain ⟨nn, hN, hn15⟩ := own_len15 ni
  generalize (ni &&& (15 : Int32)) = N at hN ⊢
  refine own_go (B := s₁.setTop (mkF m 38 #[.val (.int ni), .val (.long la), .second, .val (.long lb), .second, .val (.long lc), .second, .val (.long ld), .second, .val (.int pi), .val (.long ka), .second, .val (.long kb), .second, .val (.long kc), .second, .val (.long kd), .second, .val (.int N), .unset, .unset, .unset, .unset, .unset, .unset, .unset] [(.int N)])) (fun _ hr => XS.iload X0.here hx rfl (hb hby at_36) rfl hr) ?_
  obtain ⟨T4, h4, cA4, X4, e4, E4, A4, st4⟩ := newP X0 hx hZ (hw _ (List.mem_of_getElem? (i := 1) rfl)) e0 (g := (mkF m 38 #[.val (.int ni), .val (.long la), .second, .val (.long lb), .second, .val (.long lc), .second, .val (.long ld), .second, .val (.int pi), .val (.long ka), .second, .val (.long kb), .second, .val (.long kc), .second, .val (.long kd), .second, .val (.int N), .unset, .unset, .unset, .unset, .unset, .unset, .unset] [(.int N)])) rfl (hb hby at_38) rfl (own_at hN).1 (cap := 15) (by rw [(own_at hN).2]; omega) (by decide) (by decide) (by decide)
  obtain ⟨a4, g4⟩ : ∃ z, z = h0.size := ⟨_, rfl⟩
  rw [← g4] at A4 st4
  have V4 := own_Ar.new A4 hN
  refine own_go (B := T4.setTop (mkF m 40 #[.val (.int ni), .val (.long la), .second, .val (.long lb), .second, .val (.long lc), .second, .val (.long ld), .second, .val (.int pi), .val (.long ka), .second, .val (.long kb), .second, .val (.long kc), .second, .val (.long kd), .second, .val (.int N), .unset, .unset, .unset, .unset, .unset, .unset, .unset] [(.ref a4)])) (fun t hr => st4 t hr) ?_
  have ge : n0 ≤ a4 := Nat.le_trans Z0 (Nat.le_of_eq g4.symm)
  have U4 : own_Ar Z h4 a4 .long nn (fun i => .long ((fun _ => (0 : Int64)) i)) := V4
  refine own_go (B := T4.setTop (mkF m 42 #[.val (.int ni), .val (.long la), .second, .val (.long lb), .second, .val (.long lc), .second, .val (.long ld), .second, .val (.int pi), .val (.long ka), .second, .val (.long kb), .second, .val (.long kc), .second, .val (.long kd), .second, .val (.int N), .val (.ref a4), .unset, .unset, .unset, .unset, .unset, .unset] [])) (fun _ hr => XS.astore X4.here hx rfl (hb hby at_40) rfl rfl (l' := #[.val (.int ni), .val (.long la), .second, .val (.long lb), .second, .val (.long lc), .second, .val (.long ld), .second, .val (.int pi), .val (.long ka), .second, .val (.long kb), .second, .val (.long kc), .second, .val (.long kd), .second, .val (.int N), .val (.ref a4), .unset, .unset, .unset, .unset, .unset, .unset]) rfl hr) ?_
  refine own_go (B := T4.setTop (mkF m 44 #[.val (.int ni), .val (.long la), .second, .val (.long lb), .second, .val (.long lc), .second, .val (.long ld), .second, .val (.int pi), .val (.long ka), .second, .val (.long kb), .second, .val (.long kc), .second, .val (.long kd), .second, .val (.int N), .val (.ref a4), .unset, .unset, .unset, .unset, .unset, .unset] [(.int pi)])) (fun _ hr => XS.iload X4.here hx rfl (hb hby at_42) rfl hr) ?_
  refine own_go (B := T4.setTop (mkF m 47 #[.val (.int ni), .val (.long la), .second, .val (.long lb), .second, .val (.long lc), .second, .val (.long ld), .second, .val (.int pi), .val (.long ka), .second, .val (.long kb), .second, .val (.long kc), .second, .val (.long kd), .second, .val (.int N), .val (.ref a4), .unset, .unset, .unset, .unset, .unset, .unset] [(.int (255 : Int32)), (.int pi)])) (fun _ hr => XT.sipushV X4.here hx rfl (255 : Int32) (hb hby at_44) (by decide) hr) ?_
  refine own_go (B := T4.setTop (mkF m 48 #[.val (.int ni), .val (.long la), .second, .val (.long lb), .second, .val (.long lc), .second, .val (.long ld), .second, .val (.int pi), .val (.long ka), .second, .val (.long kb), .second, .val (.long kc), .second, .val (.long kd), .second, .val (.int N), .val (.ref a4), .unset, .unset, .unset, .unset, .unset, .unset] [(.int (pi &&& (255 : Int32)))])) (fun _ hr => XS.iand X4.here hx rfl (hb hby at_47) rfl hr) ?_
  refine own_go (B := T4.setTop (mkF m 50 #[.val (.int ni), .val (.long la), .second, .val (.long lb), .second, .val (.long lc), .second, .val (.long ld), .second, .val (.int pi), .val (.long ka), .second, .val (.long kb), .second, .val (.long kc), .second, .val (.long kd), .second, .val (.int N), .val (.ref a4), .unset, .unset, .unset, .unset, .unset, .unset] [(.int (9 : Int32)), (.int (pi &&& (255 : Int32)))])) (fun _ hr => XT.bipushV X4.here hx rfl (9 : Int32) (hb hby at_48) (by decide) hr) ?_
  refine own_go (B := T4.setTop (mkF m 51 #[.val (.int ni), .val (.long la), .second, .val (.long lb), .second, .val (.long lc), .second, .val (.long ld), .second, .val (.int pi), .val (.long ka), .second, .val (.long kb), .second, .val (.long kc), .second, .val (.long kd), .second, .val (.int N), .val (.ref a4), .unset, .unset, .unset, .unset, .unset, .unset] [(.int ((pi &&& (255 : Int32)) % (9 : Int32)))])) (fun _ hr => iremM X4 hx rfl (hb hby at_50) rfl (by decide) hr) ?_
  refine own_go (B := T4.setTop (mkF m 53 #[.val (.int ni), .val (.long la), .second, .val (.long lb), .second, .val (.long lc), .second, .val (.long ld), .second, .val (.int pi), .val (.long ka), .second, .val (.long kb), .second, .val (.long kc), .second, .val (.long kd), .second, .val (.int N), .val (.ref a4), .val (.int ((pi &&& (255 : Int32)) % (9 : Int32))), .unset, .unset, .unset, .unset, .unset] [])) (fun _ hr => XS.istore X4.here hx rfl (hb hby at_51) rfl (l' := #[.val (.int ni), .val (.long la), .second, .val (.long lb), .second, .val (.long lc), .second, .val (.long ld), .second, .val (.int pi), .val (.long ka), .second, .val (.long kb), .second, .val (.long kc), .second, .val (.long kd), .second, .val (.int N), .val (.ref a4), .val (.int ((pi &&& (255 : Int32)) % (9 : Int32))), .unset, .unset, .unset, .unset, .unset]) rfl hr) ?_
  obtain ⟨ti, hti, hti8⟩ := own_mod9 pi
  generalize ((pi &&& (255 : Int32)) % (9 : Int32)) = mi at hti ⊢
  refine own_go (B := T4.setTop (mkF m 55 #[.val (.int ni), .val (.long la), .second, .val (.long lb), .second, .val (.long lc), .second, .val (.long ld), .second, .val (.int pi), .val (.long ka), .second, .val (.long kb), .second, .val (.long kc), .second, .val (.long kd), .second, .val (.int N), .val (.ref a4), .val (.int mi), .unset, .unset, .unset, .unset, .unset] [(.int pi)])) (fun _ hr => XS.iload X4.here hx rfl (hb hby at_53) rfl hr) ?_
  refine own_go (B := T4.setTop (mkF m 57 #[.val (.int ni), .val (.long la), .second, .val (.long lb), .second, .val (.long lc), .second, .val (.long ld), .second, .val (.int pi), .val (.long ka), .second, .val (.long kb), .second, .val (.long kc), .second, .val (.long kd), .second, .val (.int N), .val (.ref a4), .val (.int mi), .unset, .unset, .unset, .unset, .unset] [(.int (8 : Int32)), (.int pi)])) (fun _ hr => XT.bipushV X4.here hx rfl (8 : Int32) (hb hby at_55) (by decide) hr) ?_
  refine own_go (B := T4.setTop (mkF m 58 #[.val (.int ni), .val (.long la), .second, .val (.long lb), .second, .val (.long lc), .second, .val (.long ld), .second, .val (.int pi), .val (.long ka), .second, .val (.long kb), .second, .val (.long kc), .second, .val (.long kd), .second, .val (.int N), .val (.ref a4), .val (.int mi), .unset, .unset, .unset, .unset, .unset] [(.int (XT.ushr pi (8 : Int32)))])) (fun _ hr => XT.iushr X4.here hx rfl (hb hby at_57) rfl hr) ?_
  refine own_go (B := T4.setTop (mkF m 61 #[.val (.int ni), .val (.long la), .second, .val (.long lb), .second, .val (.long lc), .second, .val (.long ld), .second, .val (.int pi), .val (.long ka), .second, .val (.long kb), .second, .val (.long kc), .second, .val (.long kd), .second, .val (.int N), .val (.ref a4), .val (.int mi), .unset, .unset, .unset, .unset, .unset] [(.int (255 : Int32)), (.int (XT.ushr pi (8 : Int32)))])) (fun _ hr => XT.sipushV X4.here hx rfl (255 : Int32) (hb hby at_58) (by decide) hr) ?_
  refine own_go (B := T4.setTop (mkF m 62 #[.val (.int ni), .val (.long la), .second, .val (.long lb), .second, .val (.long lc), .second, .val (.long ld), .second, .val (.int pi), .val (.long ka), .second, .val (.long kb), .second, .val (.long kc), .second, .val (.long kd), .second, .val (.int N), .val (.ref a4), .val (.int mi), .unset, .unset, .unset, .unset, .unset] [(.int ((XT.ushr pi (8 : Int32)) &&& (255 : Int32)))])) (fun _ hr => XS.iand X4.here hx rfl (hb hby at_61) rfl hr) ?_
  refine own_go (B := T4.setTop (mkF m 64 #[.val (.int ni), .val (.long la), .second, .val (.long lb), .second, .val (.long lc), .second, .val (.long ld), .second, .val (.int pi), .val (.long ka), .second, .val (.long kb), .second, .val (.long kc), .second, .val (.long kd), .second, .val (.int N), .val (.ref a4), .val (.int mi), .unset, .unset, .unset, .unset, .unset] [(.int (9 : Int32)), (.int ((XT.ushr pi (8 : Int32)) &&& (255 : Int32)))])) (fun _ hr => XT.bipushV X4.here hx rfl (9 : Int32) (hb hby at_62) (by decide) hr) ?_
  refine own_go (B := T4.setTop (mkF m 65 #[.val (.int ni), .val (.long la), .second, .val (.long lb), .second, .val (.long lc), .second, .val (.long ld), .second, .val (.int pi), .val (.long ka), .second, .val (.long kb), .second, .val (.long kc), .second, .val (.long kd), .second, .val (.int N), .val (.ref a4), .val (.int mi), .unset, .unset, .unset, .unset, .unset] [(.int (((XT.ushr pi (8 : Int32)) &&& (255 : Int32)) % (9 : Int32)))])) (fun _ hr => iremM X4 hx rfl (hb hby at_64) rfl (by decide) hr) ?_
  refine own_go (B := T4.setTop (mkF m 67 #[.val (.int ni), .val (.long la), .second, .val (.long lb), .second, .val (.long lc), .second, .val (.long ld), .second, .val (.int pi), .val (.long ka), .second, .val (.long kb), .second, .val (.long kc), .second, .val (.long kd), .second, .val (.int N), .val (.ref a4), .val (.int mi), .val (.int (((XT.ushr pi (8 : Int32)) &&& (255 : Int32)) % (9 : Int32))), .unset, .unset, .unset, .unset] [])) (fun _ hr => XS.istore X4.here hx rfl (hb hby at_65) rfl (l' := #[.val (.int ni), .val (.long la), .second, .val (.long lb), .second, .val (.long lc), .second, .val (.long ld), .second, .val (.int pi), .val (.long ka), .second, .val (.long kb), .second, .val (.long kc), .second, .val (.long kd), .second, .val (.int N), .val (.ref a4), .val (.int mi), .val (.int (((XT.ushr pi (8 : Int32)) &&& (255 : Int32)) % (9 : Int32))), .unset, .unset, .unset, .unset]) rfl hr) ?_
  obtain ⟨tj, htj, htj8⟩ := own_mod9 (XT.ushr pi (8 : Int32))
  generalize (((XT.ushr pi (8 : Int32)) &&& (255 : Int32)) % (9 : Int32)) = mj at htj ⊢
  refine own_go (B := T4.setTop (mkF m 69 #[.val (.int ni), .val (.long la), .second, .val (.long lb), .second, .val (.long lc), .second, .val (.long ld), .second, .val (.int pi), .val (.long ka), .second, .val (.long kb), .second, .val (.long kc), .second, .val (.long kd), .second, .val (.int N), .val (.ref a4), .val (.int mi), .val (.int mj), .unset, .unset, .unset, .unset] [(.int N)])) (fun _ hr => XS.iload X4.here hx rfl (hb hby at_67) rfl hr) ?_
  refine own_go (B := T4.setTop (mkF m 71 #[.val (.int ni), .val (.long la), .second, .val (.long lb), .second, .val (.long lc), .second, .val (.long ld), .second, .val (.int pi), .val (.long ka), .second, .val (.long kb), .second, .val (.long kc), .second, .val (.long kd), .second, .val (.int N), .val (.ref a4), .val (.int mi), .val (.int mj), .unset, .unset, .unset, .unset] [(.int (10 : Int32)), (.int N)])) (fun _ hr => XT.bipushV X4.here hx rfl (10 : Int32) (hb hby at_69) (by decide) hr) ?_
  by_cases c5 : N < (10 : Int32)
  · refine own_go (B := T4.setTop (mkF m 74 #[.val (.int ni), .val (.long la), .second, .val (.long lb), .second, .val (.long lc), .second, .val (.long ld), .second, .val (.int pi), .val (.long ka), .second, .val (.long kb), .second, .val (.long kc), .second, .val (.long kd), .second, .val (.int N), .val (.ref a4), .val (.int mi), .val (.int mj), .unset, .unset, .unset, .unset] [])) (fun _ hr => XS.icmpNo X4.here hx rfl (hb hby at_71) rfl (XT.ii_ge_f c5) hr) ?_
    refine own_go (B := T4.setTop (mkF m 76 #[.val (.int ni), .val (.long la), .second, .val (.long lb), .second, .val (.long lc), .second, .val (.long ld), .second, .val (.int pi), .val (.long ka), .second, .val (.long kb), .second, .val (.long kc), .second, .val (.long kd), .second, .val (.int N), .val (.ref a4), .val (.int mi), .val (.int mj), .unset, .unset, .unset, .unset] [(.int N)])) (fun _ hr => XS.iload X4.here hx rfl (hb hby at_74) rfl hr) ?_
    by_cases c6 : 0 < N
    · refine own_go (B := T4.setTop (mkF m 79 #[.val (.int ni), .val (.long la), .second, .val (.long lb), .second, .val (.long lc), .second, .val (.long ld), .second, .val (.int pi), .val (.long ka), .second, .val (.long kb), .second, .val (.long kc), .second, .val (.long kd), .second, .val (.int N), .val (.ref a4), .val (.int mi), .val (.int mj), .unset, .unset, .unset, .unset] [])) (fun _ hr => XS.ifNo X4.here hx rfl (hb hby at_76) rfl (XT.i0_le_f c6) hr) ?_
      have hp : 0 < nn := by have q := c6; rw [Int32.lt_iff_toInt_lt, hN] at q; have : (0 : Int32).toInt = 0 := rfl; omega
      refine own_go (B := T4.setTop (mkF m 81 #[.val (.int ni), .val (.long la), .second, .val (.long lb), .second, .val (.long lc), .second, .val (.long ld), .second, .val (.int pi), .val (.long ka), .second, .val (.long kb), .second, .val (.long kc), .second, .val (.long kd), .second, .val (.int N), .val (.ref a4), .val (.int mi), .val (.int mj), .unset, .unset, .unset, .unset] [(.ref a4)])) (fun _ hr => XS.aload X4.here hx rfl (hb hby at_79) rfl rfl hr) ?_
      refine own_go (B := T4.setTop (mkF m 82 #[.val (.int ni), .val (.long la), .second, .val (.long lb), .second, .val (.long lc), .second, .val (.long ld), .second, .val (.int pi), .val (.long ka), .second, .val (.long kb), .second, .val (.long kc), .second, .val (.long kd), .second, .val (.int N), .val (.ref a4), .val (.int mi), .val (.int mj), .unset, .unset, .unset, .unset] [(.int (0 : Int32)), (.ref a4)])) (fun _ hr => XT.iconstV X4.here hx rfl (0 : Int32) (hb hby at_81) (by decide) hr) ?_
      refine own_go (B := T4.setTop (mkF m 84 #[.val (.int ni), .val (.long la), .second, .val (.long lb), .second, .val (.long lc), .second, .val (.long ld), .second, .val (.int pi), .val (.long ka), .second, .val (.long kb), .second, .val (.long kc), .second, .val (.long kd), .second, .val (.int N), .val (.ref a4), .val (.int mi), .val (.int mj), .unset, .unset, .unset, .unset] [(.long ka), (.int (0 : Int32)), (.ref a4)])) (fun _ hr => XT.lload X4.here hx rfl (hb hby at_82) rfl hr) ?_
      obtain ⟨T7, h7, X7, e7, W7, V7, st7⟩ := own_stJ X4 hx hZ e4 U4 (by decide : (0 : Int32).toInt = ((0 : Nat) : Int)) hp (g := (mkF m 84 #[.val (.int ni), .val (.long la), .second, .val (.long lb), .second, .val (.long lc), .second, .val (.long ld), .second, .val (.int pi), .val (.long ka), .second, .val (.long kb), .second, .val (.long kc), .second, .val (.long kd), .second, .val (.int N), .val (.ref a4), .val (.int mi), .val (.int mj), .unset, .unset, .unset, .unset] [(.long ka), (.int (0 : Int32)), (.ref a4)])) rfl rfl (hb hby at_84)
      have N7 := Fr.snoc X7 N0 ge
      refine own_go (B := T7.setTop (mkF m 85 #[.val (.int ni), .val (.long la), .second, .val (.long lb), .second, .val (.long lc), .second, .val (.long ld), .second, .val (.int pi), .val (.long ka), .second, .val (.long kb), .second, .val (.long kc), .second, .val (.long kd), .second, .val (.int N), .val (.ref a4), .val (.int mi), .val (.int mj), .unset, .unset, .unset, .unset] [])) (fun t hr => st7 t hr) ?_
      have U7 := U4.setJ W7
      refine own_go (B := T7.setTop (mkF m 87 #[.val (.int ni), .val (.long la), .second, .val (.long lb), .second, .val (.long lc), .second, .val (.long ld), .second, .val (.int pi), .val (.long ka), .second, .val (.long kb), .second, .val (.long kc), .second, .val (.long kd), .second, .val (.int N), .val (.ref a4), .val (.int mi), .val (.int mj), .unset, .unset, .unset, .unset] [(.ref a4)])) (fun _ hr => XS.aload X7.here hx rfl (hb hby at_85) rfl rfl hr) ?_
      refine own_go (B := T7.setTop (mkF m 89 #[.val (.int ni), .val (.long la), .second, .val (.long lb), .second, .val (.long lc), .second, .val (.long ld), .second, .val (.int pi), .val (.long ka), .second, .val (.long kb), .second, .val (.long kc), .second, .val (.long kd), .second, .val (.int N), .val (.ref a4), .val (.int mi), .val (.int mj), .unset, .unset, .unset, .unset] [(.int N), (.ref a4)])) (fun _ hr => XS.iload X7.here hx rfl (hb hby at_87) rfl hr) ?_
      refine own_go (B := T7.setTop (mkF m 90 #[.val (.int ni), .val (.long la), .second, .val (.long lb), .second, .val (.long lc), .second, .val (.long ld), .second, .val (.int pi), .val (.long ka), .second, .val (.long kb), .second, .val (.long kc), .second, .val (.long kd), .second, .val (.int N), .val (.ref a4), .val (.int mi), .val (.int mj), .unset, .unset, .unset, .unset] [(.int (1 : Int32)), (.int N), (.ref a4)])) (fun _ hr => XT.iconstV X7.here hx rfl (1 : Int32) (hb hby at_89) (by decide) hr) ?_
      refine own_go (B := T7.setTop (mkF m 91 #[.val (.int ni), .val (.long la), .second, .val (.long lb), .second, .val (.long lc), .second, .val (.long ld), .second, .val (.int pi), .val (.long ka), .second, .val (.long kb), .second, .val (.long kc), .second, .val (.long kd), .second, .val (.int N), .val (.ref a4), .val (.int mi), .val (.int mj), .unset, .unset, .unset, .unset] [(.int (N - (1 : Int32))), (.ref a4)])) (fun _ hr => XS.isub X7.here hx rfl (hb hby at_90) rfl hr) ?_
      refine own_go (B := T7.setTop (mkF m 93 #[.val (.int ni), .val (.long la), .second, .val (.long lb), .second, .val (.long lc), .second, .val (.long ld), .second, .val (.int pi), .val (.long ka), .second, .val (.long kb), .second, .val (.long kc), .second, .val (.long kd), .second, .val (.int N), .val (.ref a4), .val (.int mi), .val (.int mj), .unset, .unset, .unset, .unset] [(.long kb), (.int (N - (1 : Int32))), (.ref a4)])) (fun _ hr => XT.lload X7.here hx rfl (hb hby at_91) rfl hr) ?_
      obtain ⟨T8, h8, X8, e8, W8, V8, st8⟩ := own_stJ X7 hx hZ e7 U7 (own_minus (q := 1) hN (by decide) hp) (by omega) (g := (mkF m 93 #[.val (.int ni), .val (.long la), .second, .val (.long lb), .second, .val (.long lc), .second, .val (.long ld), .second, .val (.int pi), .val (.long ka), .second, .val (.long kb), .second, .val (.long kc), .second, .val (.long kd), .second, .val (.int N), .val (.ref a4), .val (.int mi), .val (.int mj), .unset, .unset, .unset, .unset] [(.long kb), (.int (N - (1 : Int32))), (.ref a4)])) rfl rfl (hb hby at_93)
      have N8 := Fr.snoc X8 N7 ge
      refine own_go (B := T8.setTop (mkF m 94 #[.val (.int ni), .val (.long la), .second, .val (.long lb), .second, .val (.long lc), .second, .val (.long ld), .second, .val (.int pi), .val (.long ka), .second, .val (.long kb), .second, .val (.long kc), .second, .val (.long kd), .second, .val (.int N), .val (.ref a4), .val (.int mi), .val (.int mj), .unset, .unset, .unset, .unset] [])) (fun t hr => st8 t hr) ?_
      have U8 := U7.setJ W8
      refine own_go (B := T8.setTop (mkF m 96 #[.val (.int ni), .val (.long la), .second, .val (.long lb), .second, .val (.long lc), .second, .val (.long ld), .second, .val (.int pi), .val (.long ka), .second, .val (.long kb), .second, .val (.long kc), .second, .val (.long kd), .second, .val (.int N), .val (.ref a4), .val (.int mi), .val (.int mj), .unset, .unset, .unset, .unset] [(.ref a4)])) (fun _ hr => XS.aload X8.here hx rfl (hb hby at_94) rfl rfl hr) ?_
      have Zk : n0 ≤ h8.size := Nat.le_trans ge (Nat.le_of_lt U8.lt)
      obtain ⟨_, _, ⟨T9, L9, k9, n9⟩, -, X9, ⟨Lc9, hQ9, l9, y9, z9⟩, st9⟩ := Jvm.LawKit.callS X8 hx (y := (⟨"com/example/cosine/cosine/index/MergePolicy", "tail", "([J)I"⟩ : MethodName)) hown (mvT hZ (hw _ (List.mem_of_getElem? (i := 2) rfl))) (mvT hZ (hw _ (List.mem_of_getElem? (i := 3) rfl))) (mvT hZ (hw _ (List.mem_of_getElem? (i := 4) rfl))) (mvT hZ (hw _ (List.mem_of_getElem? (i := 5) rfl))) (by decide) (backOf (W := 0) (rm_tail l Z a0 hw [] a4 nn N _ (-1 : Int32) h8 n0 Zk U8 hN (by simp only [own_t, if_pos c5])) hZ (hw _ (List.mem_of_getElem? (i := 5) rfl)) (hw _ (List.mem_of_getElem? (i := 4) rfl)) (by decide) (by decide)) (g := (mkF m 96 #[.val (.int ni), .val (.long la), .second, .val (.long lb), .second, .val (.long lc), .second, .val (.long ld), .second, .val (.int pi), .val (.long ka), .second, .val (.long kb), .second, .val (.long kc), .second, .val (.long kd), .second, .val (.int N), .val (.ref a4), .val (.int mi), .val (.int mj), .unset, .unset, .unset, .unset] [(.ref a4)])) rfl (by rw [hml]; rfl) (argsL := [(.ref a4)]) (rest := []) (lenOf pd_tail rfl) rfl (by show 2 * 0 + _ ≤ _; exact Nat.le_of_eq rfl) (hb hby at_96) (fun _ _ => ⟨rfl, e8, (by decide : 1 + 0 ≤ _), (by decide : 15 + 0 ≤ _)⟩)
      dsimp only [Pt.U, Pt.locs, Pt.cells, Pt.slots] at X9 l9 y9 z9 st9 hQ9
      subst l9 y9 z9
      obtain ⟨rfl, N9, e9⟩ := hQ9
      have M9 := Fr.app N8 N9
      refine own_go (B := T9.setTop (mkF m 99 #[.val (.int ni), .val (.long la), .second, .val (.long lb), .second, .val (.long lc), .second, .val (.long ld), .second, .val (.int pi), .val (.long ka), .second, .val (.long kb), .second, .val (.long kc), .second, .val (.long kd), .second, .val (.int N), .val (.ref a4), .val (.int mi), .val (.int mj), .unset, .unset, .unset, .unset] [(.int (-1 : Int32))])) (fun t hr => st9 t hr) ?_
      refine own_go (B := T9.setTop (mkF m 100 #[.val (.int ni), .val (.long la), .second, .val (.long lb), .second, .val (.long lc), .second, .val (.long ld), .second, .val (.int pi), .val (.long ka), .second, .val (.long kb), .second, .val (.long kc), .second, .val (.long kd), .second, .val (.int N), .val (.ref a4), .val (.int mi), .val (.int mj), .unset, .unset, .unset, .unset] [(.int (-1 : Int32)), (.int (-1 : Int32))])) (fun _ hr => XT.iconstV X9.here hx rfl (-1 : Int32) (hb hby at_99) (by decide) hr) ?_
      refine own_go (B := T9.setTop (mkF m 103 #[.val (.int ni), .val (.long la), .second, .val (.long lb), .second, .val (.long lc), .second, .val (.long ld), .second, .val (.int pi), .val (.long ka), .second, .val (.long kb), .second, .val (.long kc), .second, .val (.long kd), .second, .val (.int N), .val (.ref a4), .val (.int mi), .val (.int mj), .unset, .unset, .unset, .unset] [])) (fun _ hr => XS.icmpNo X9.here hx rfl (hb hby at_100) rfl (XT.ii_ne_f rfl) hr) ?_
      refine own_go (B := T9.setTop (mkF m 104 #[.val (.int ni), .val (.long la), .second, .val (.long lb), .second, .val (.long lc), .second, .val (.long ld), .second, .val (.int pi), .val (.long ka), .second, .val (.long kb), .second, .val (.long kc), .second, .val (.long kd), .second, .val (.int N), .val (.ref a4), .val (.int mi), .val (.int mj), .unset, .unset, .unset, .unset] [(.int (1 : Int32))])) (fun _ hr => XT.iconstV X9.here hx rfl (1 : Int32) (hb hby at_103) (by decide) hr) ?_
      refine own_go (B := T9.setTop (mkF m 108 #[.val (.int ni), .val (.long la), .second, .val (.long lb), .second, .val (.long lc), .second, .val (.long ld), .second, .val (.int pi), .val (.long ka), .second, .val (.long kb), .second, .val (.long kc), .second, .val (.long kd), .second, .val (.int N), .val (.ref a4), .val (.int mi), .val (.int mj), .unset, .unset, .unset, .unset] [(.int (1 : Int32))])) (fun _ hr => XS.goto X9.here hx rfl (pc0 := 104) (pc' := 108) rfl (hb hby at_104) (by decide) (by decide) hr) ?_
      exact own_retZ X9 hx hlk hret (by decide) (hb hby at_108) (by decide) (by decide) ⟨rfl, M9⟩
    · refine own_go (B := T4.setTop (mkF m 94 #[.val (.int ni), .val (.long la), .second, .val (.long lb), .second, .val (.long lc), .second, .val (.long ld), .second, .val (.int pi), .val (.long ka), .second, .val (.long kb), .second, .val (.long kc), .second, .val (.long kd), .second, .val (.int N), .val (.ref a4), .val (.int mi), .val (.int mj), .unset, .unset, .unset, .unset] [])) (fun _ hr => XS.ifYes X4.here hx rfl (pc0 := 76) (pc' := 94) rfl (hb hby at_76) rfl (XT.i0_le_t c6) (by decide) (by decide) hr) ?_
      refine own_go (B := T4.setTop (mkF m 96 #[.val (.int ni), .val (.long la), .second, .val (.long lb), .second, .val (.long lc), .second, .val (.long ld), .second, .val (.int pi), .val (.long ka), .second, .val (.long kb), .second, .val (.long kc), .second, .val (.long kd), .second, .val (.int N), .val (.ref a4), .val (.int mi), .val (.int mj), .unset, .unset, .unset, .unset] [(.ref a4)])) (fun _ hr => XS.aload X4.here hx rfl (hb hby at_94) rfl rfl hr) ?_
      have Zk : n0 ≤ h4.size := Nat.le_trans ge (Nat.le_of_lt U4.lt)
      obtain ⟨_, _, ⟨T10, L10, k10, n10⟩, -, X10, ⟨Lc10, hQ10, l10, y10, z10⟩, st10⟩ := Jvm.LawKit.callS X4 hx (y := (⟨"com/example/cosine/cosine/index/MergePolicy", "tail", "([J)I"⟩ : MethodName)) hown (mvT hZ (hw _ (List.mem_of_getElem? (i := 2) rfl))) (mvT hZ (hw _ (List.mem_of_getElem? (i := 3) rfl))) (mvT hZ (hw _ (List.mem_of_getElem? (i := 4) rfl))) (mvT hZ (hw _ (List.mem_of_getElem? (i := 5) rfl))) (by decide) (backOf (W := 0) (rm_tail l Z a0 hw [] a4 nn N _ (-1 : Int32) h4 n0 Zk U4 hN (by simp only [own_t, if_pos c5])) hZ (hw _ (List.mem_of_getElem? (i := 5) rfl)) (hw _ (List.mem_of_getElem? (i := 4) rfl)) (by decide) (by decide)) (g := (mkF m 96 #[.val (.int ni), .val (.long la), .second, .val (.long lb), .second, .val (.long lc), .second, .val (.long ld), .second, .val (.int pi), .val (.long ka), .second, .val (.long kb), .second, .val (.long kc), .second, .val (.long kd), .second, .val (.int N), .val (.ref a4), .val (.int mi), .val (.int mj), .unset, .unset, .unset, .unset] [(.ref a4)])) rfl (by rw [hml]; rfl) (argsL := [(.ref a4)]) (rest := []) (lenOf pd_tail rfl) rfl (by show 2 * 0 + _ ≤ _; exact Nat.le_of_eq rfl) (hb hby at_96) (fun _ _ => ⟨rfl, e4, (by decide : 1 + 0 ≤ _), (by decide : 15 + 0 ≤ _)⟩)
      dsimp only [Pt.U, Pt.locs, Pt.cells, Pt.slots] at X10 l10 y10 z10 st10 hQ10
      subst l10 y10 z10
      obtain ⟨rfl, N10, e10⟩ := hQ10
      have M10 := Fr.app N0 N10
      refine own_go (B := T10.setTop (mkF m 99 #[.val (.int ni), .val (.long la), .second, .val (.long lb), .second, .val (.long lc), .second, .val (.long ld), .second, .val (.int pi), .val (.long ka), .second, .val (.long kb), .second, .val (.long kc), .second, .val (.long kd), .second, .val (.int N), .val (.ref a4), .val (.int mi), .val (.int mj), .unset, .unset, .unset, .unset] [(.int (-1 : Int32))])) (fun t hr => st10 t hr) ?_
      refine own_go (B := T10.setTop (mkF m 100 #[.val (.int ni), .val (.long la), .second, .val (.long lb), .second, .val (.long lc), .second, .val (.long ld), .second, .val (.int pi), .val (.long ka), .second, .val (.long kb), .second, .val (.long kc), .second, .val (.long kd), .second, .val (.int N), .val (.ref a4), .val (.int mi), .val (.int mj), .unset, .unset, .unset, .unset] [(.int (-1 : Int32)), (.int (-1 : Int32))])) (fun _ hr => XT.iconstV X10.here hx rfl (-1 : Int32) (hb hby at_99) (by decide) hr) ?_
      refine own_go (B := T10.setTop (mkF m 103 #[.val (.int ni), .val (.long la), .second, .val (.long lb), .second, .val (.long lc), .second, .val (.long ld), .second, .val (.int pi), .val (.long ka), .second, .val (.long kb), .second, .val (.long kc), .second, .val (.long kd), .second, .val (.int N), .val (.ref a4), .val (.int mi), .val (.int mj), .unset, .unset, .unset, .unset] [])) (fun _ hr => XS.icmpNo X10.here hx rfl (hb hby at_100) rfl (XT.ii_ne_f rfl) hr) ?_
      refine own_go (B := T10.setTop (mkF m 104 #[.val (.int ni), .val (.long la), .second, .val (.long lb), .second, .val (.long lc), .second, .val (.long ld), .second, .val (.int pi), .val (.long ka), .second, .val (.long kb), .second, .val (.long kc), .second, .val (.long kd), .second, .val (.int N), .val (.ref a4), .val (.int mi), .val (.int mj), .unset, .unset, .unset, .unset] [(.int (1 : Int32))])) (fun _ hr => XT.iconstV X10.here hx rfl (1 : Int32) (hb hby at_103) (by decide) hr) ?_
      refine own_go (B := T10.setTop (mkF m 108 #[.val (.int ni), .val (.long la), .second, .val (.long lb), .second, .val (.long lc), .second, .val (.long ld), .second, .val (.int pi), .val (.long ka), .second, .val (.long kb), .second, .val (.long kc), .second, .val (.long kd), .second, .val (.int N), .val (.ref a4), .val (.int mi), .val (.int mj), .unset, .unset, .unset, .unset] [(.int (1 : Int32))])) (fun _ hr => XS.goto X10.here hx rfl (pc0 := 104) (pc' := 108) rfl (hb hby at_104) (by decide) (by decide) hr) ?_
      exact own_retZ X10 hx hlk hret (by decide) (hb hby at_108) (by decide) (by decide) ⟨rfl, M10⟩
  · refine own_go (B := T4.setTop (mkF m 109 #[.val (.int ni), .val (.long la), .second, .val (.long lb), .second, .val (.long lc), .second, .val (.long ld), .second, .val (.int pi), .val (.long ka), .second, .val (.long kb), .second, .val (.long kc), .second, .val (.long kd), .second, .val (.int N), .val (.ref a4), .val (.int mi), .val (.int mj), .unset, .unset, .unset, .unset] [])) (fun _ hr => XS.icmpYes X4.here hx rfl (pc0 := 71) (pc' := 109) rfl (hb hby at_71) rfl (XT.ii_ge_t c5) (by decide) (by decide) hr) ?_
    have h10 : 10 ≤ nn := by have q := c5; rw [Int32.lt_iff_toInt_lt, hN] at q; have : (10 : Int32).toInt = 10 := rfl; omega
    refine own_go (B := T4.setTop (mkF m 111 #[.val (.int ni), .val (.long la), .second, .val (.long lb), .second, .val (.long lc), .second, .val (.long ld), .second, .val (.int pi), .val (.long ka), .second, .val (.long kb), .second, .val (.long kc), .second, .val (.long kd), .second, .val (.int N), .val (.ref a4), .val (.int mi), .val (.int mj), .unset, .unset, .unset, .unset] [(.int N)])) (fun _ hr => XS.iload X4.here hx rfl (hb hby at_109) rfl hr) ?_
    refine own_go (B := T4.setTop (mkF m 113 #[.val (.int ni), .val (.long la), .second, .val (.long lb), .second, .val (.long lc), .second, .val (.long ld), .second, .val (.int pi), .val (.long ka), .second, .val (.long kb), .second, .val (.long kc), .second, .val (.long kd), .second, .val (.int N), .val (.ref a4), .val (.int mi), .val (.int mj), .unset, .unset, .unset, .unset] [(.int (10 : Int32)), (.int N)])) (fun _ hr => XT.bipushV X4.here hx rfl (10 : Int32) (hb hby at_111) (by decide) hr) ?_
    refine own_go (B := T4.setTop (mkF m 114 #[.val (.int ni), .val (.long la), .second, .val (.long lb), .second, .val (.long lc), .second, .val (.long ld), .second, .val (.int pi), .val (.long ka), .second, .val (.long kb), .second, .val (.long kc), .second, .val (.long kd), .second, .val (.int N), .val (.ref a4), .val (.int mi), .val (.int mj), .unset, .unset, .unset, .unset] [(.int (N - (10 : Int32)))])) (fun _ hr => XS.isub X4.here hx rfl (hb hby at_113) rfl hr) ?_
    refine own_go (B := T4.setTop (mkF m 116 #[.val (.int ni), .val (.long la), .second, .val (.long lb), .second, .val (.long lc), .second, .val (.long ld), .second, .val (.int pi), .val (.long ka), .second, .val (.long kb), .second, .val (.long kc), .second, .val (.long kd), .second, .val (.int N), .val (.ref a4), .val (.int mi), .val (.int mj), .val (.int (N - (10 : Int32))), .unset, .unset, .unset] [])) (fun _ hr => XS.istore X4.here hx rfl (hb hby at_114) rfl (l' := #[.val (.int ni), .val (.long la), .second, .val (.long lb), .second, .val (.long lc), .second, .val (.long ld), .second, .val (.int pi), .val (.long ka), .second, .val (.long kb), .second, .val (.long kc), .second, .val (.long kd), .second, .val (.int N), .val (.ref a4), .val (.int mi), .val (.int mj), .val (.int (N - (10 : Int32))), .unset, .unset, .unset]) rfl hr) ?_
    obtain ⟨F, hF⟩ : ∃ z, z = nn - 10 := ⟨_, rfl⟩
    have hFi : (N - (10 : Int32)).toInt = (F : Int) := by rw [hF]; exact own_minus hN (by decide) h10
    obtain ⟨fi, hfi⟩ : ∃ z, z = N - (10 : Int32) := ⟨_, rfl⟩
    rw [← hfi] at hFi ⊢
    refine own_go (B := T4.setTop (mkF m 118 #[.val (.int ni), .val (.long la), .second, .val (.long lb), .second, .val (.long lc), .second, .val (.long ld), .second, .val (.int pi), .val (.long ka), .second, .val (.long kb), .second, .val (.long kc), .second, .val (.long kd), .second, .val (.int N), .val (.ref a4), .val (.int mi), .val (.int mj), .val (.int fi), .unset, .unset, .unset] [(.ref a4)])) (fun _ hr => XS.aload X4.here hx rfl (hb hby at_116) rfl rfl hr) ?_
    refine own_go (B := T4.setTop (mkF m 120 #[.val (.int ni), .val (.long la), .second, .val (.long lb), .second, .val (.long lc), .second, .val (.long ld), .second, .val (.int pi), .val (.long ka), .second, .val (.long kb), .second, .val (.long kc), .second, .val (.long kd), .second, .val (.int N), .val (.ref a4), .val (.int mi), .val (.int mj), .val (.int fi), .unset, .unset, .unset] [(.int fi), (.ref a4)])) (fun _ hr => XS.iload X4.here hx rfl (hb hby at_118) rfl hr) ?_
    refine own_go (B := T4.setTop (mkF m 122 #[.val (.int ni), .val (.long la), .second, .val (.long lb), .second, .val (.long lc), .second, .val (.long ld), .second, .val (.int pi), .val (.long ka), .second, .val (.long kb), .second, .val (.long kc), .second, .val (.long kd), .second, .val (.int N), .val (.ref a4), .val (.int mi), .val (.int mj), .val (.int fi), .unset, .unset, .unset] [(.long ka), (.int fi), (.ref a4)])) (fun _ hr => XT.lload X4.here hx rfl (hb hby at_120) rfl hr) ?_
    obtain ⟨T11, h11, X11, e11, W11, V11, st11⟩ := own_stJ X4 hx hZ e4 U4 hFi (by omega) (g := (mkF m 122 #[.val (.int ni), .val (.long la), .second, .val (.long lb), .second, .val (.long lc), .second, .val (.long ld), .second, .val (.int pi), .val (.long ka), .second, .val (.long kb), .second, .val (.long kc), .second, .val (.long kd), .second, .val (.int N), .val (.ref a4), .val (.int mi), .val (.int mj), .val (.int fi), .unset, .unset, .unset] [(.long ka), (.int fi), (.ref a4)])) rfl rfl (hb hby at_122)
    have N11 := Fr.snoc X11 N0 ge
    refine own_go (B := T11.setTop (mkF m 123 #[.val (.int ni), .val (.long la), .second, .val (.long lb), .second, .val (.long lc), .second, .val (.long ld), .second, .val (.int pi), .val (.long ka), .second, .val (.long kb), .second, .val (.long kc), .second, .val (.long kd), .second, .val (.int N), .val (.ref a4), .val (.int mi), .val (.int mj), .val (.int fi), .unset, .unset, .unset] [])) (fun t hr => st11 t hr) ?_
    have U11 := U4.setJ W11
    refine own_go (B := T11.setTop (mkF m 125 #[.val (.int ni), .val (.long la), .second, .val (.long lb), .second, .val (.long lc), .second, .val (.long ld), .second, .val (.int pi), .val (.long ka), .second, .val (.long kb), .second, .val (.long kc), .second, .val (.long kd), .second, .val (.int N), .val (.ref a4), .val (.int mi), .val (.int mj), .val (.int fi), .unset, .unset, .unset] [(.ref a4)])) (fun _ hr => XS.aload X11.here hx rfl (hb hby at_123) rfl rfl hr) ?_
    refine own_go (B := T11.setTop (mkF m 127 #[.val (.int ni), .val (.long la), .second, .val (.long lb), .second, .val (.long lc), .second, .val (.long ld), .second, .val (.int pi), .val (.long ka), .second, .val (.long kb), .second, .val (.long kc), .second, .val (.long kd), .second, .val (.int N), .val (.ref a4), .val (.int mi), .val (.int mj), .val (.int fi), .unset, .unset, .unset] [(.int fi), (.ref a4)])) (fun _ hr => XS.iload X11.here hx rfl (hb hby at_125) rfl hr) ?_
    refine own_go (B := T11.setTop (mkF m 128 #[.val (.int ni), .val (.long la), .second, .val (.long lb), .second, .val (.long lc), .second, .val (.long ld), .second, .val (.int pi), .val (.long ka), .second, .val (.long kb), .second, .val (.long kc), .second, .val (.long kd), .second, .val (.int N), .val (.ref a4), .val (.int mi), .val (.int mj), .val (.int fi), .unset, .unset, .unset] [(.int (1 : Int32)), (.int fi), (.ref a4)])) (fun _ hr => XT.iconstV X11.here hx rfl (1 : Int32) (hb hby at_127) (by decide) hr) ?_
    refine own_go (B := T11.setTop (mkF m 129 #[.val (.int ni), .val (.long la), .second, .val (.long lb), .second, .val (.long lc), .second, .val (.long ld), .second, .val (.int pi), .val (.long ka), .second, .val (.long kb), .second, .val (.long kc), .second, .val (.long kd), .second, .val (.int N), .val (.ref a4), .val (.int mi), .val (.int mj), .val (.int fi), .unset, .unset, .unset] [(.int (fi + (1 : Int32))), (.ref a4)])) (fun _ hr => XS.iadd X11.here hx rfl (hb hby at_128) rfl hr) ?_
    refine own_go (B := T11.setTop (mkF m 131 #[.val (.int ni), .val (.long la), .second, .val (.long lb), .second, .val (.long lc), .second, .val (.long ld), .second, .val (.int pi), .val (.long ka), .second, .val (.long kb), .second, .val (.long kc), .second, .val (.long kd), .second, .val (.int N), .val (.ref a4), .val (.int mi), .val (.int mj), .val (.int fi), .unset, .unset, .unset] [(.int mi), (.int (fi + (1 : Int32))), (.ref a4)])) (fun _ hr => XS.iload X11.here hx rfl (hb hby at_129) rfl hr) ?_
    refine own_go (B := T11.setTop (mkF m 132 #[.val (.int ni), .val (.long la), .second, .val (.long lb), .second, .val (.long lc), .second, .val (.long ld), .second, .val (.int pi), .val (.long ka), .second, .val (.long kb), .second, .val (.long kc), .second, .val (.long kd), .second, .val (.int N), .val (.ref a4), .val (.int mi), .val (.int mj), .val (.int fi), .unset, .unset, .unset] [(.int ((fi + (1 : Int32)) + mi)), (.ref a4)])) (fun _ hr => XS.iadd X11.here hx rfl (hb hby at_131) rfl hr) ?_
    refine own_go (B := T11.setTop (mkF m 133 #[.val (.int ni), .val (.long la), .second, .val (.long lb), .second, .val (.long lc), .second, .val (.long ld), .second, .val (.int pi), .val (.long ka), .second, .val (.long kb), .second, .val (.long kc), .second, .val (.long kd), .second, .val (.int N), .val (.ref a4), .val (.int mi), .val (.int mj), .val (.int fi), .unset, .unset, .unset] [(.int ((fi + (1 : Int32)) + mi)), (.ref a4), (.int ((fi + (1 : Int32)) + mi)), (.ref a4)])) (fun _ hr => XT.dup2 X11.here hx rfl (hb hby at_132) rfl rfl rfl hr) ?_
    refine own_go (B := T11.setTop (mkF m 134 #[.val (.int ni), .val (.long la), .second, .val (.long lb), .second, .val (.long lc), .second, .val (.long ld), .second, .val (.int pi), .val (.long ka), .second, .val (.long kb), .second, .val (.long kc), .second, .val (.long kd), .second, .val (.int N), .val (.ref a4), .val (.int mi), .val (.int mj), .val (.int fi), .unset, .unset, .unset] [(.long ((fun _ => (0 : Int64)) (F + 1 + ti))), (.int ((fi + (1 : Int32)) + mi)), (.ref a4)])) (fun _ hr => own_ldJ X11 hx hZ e11 U11 (own_plus (own_plus (q := 1) hFi (by decide) (by omega)) hti (by omega)) (by omega) (congrArg Value.long (if_neg (by omega))) (g := (mkF m 133 #[.val (.int ni), .val (.long la), .second, .val (.long lb), .second, .val (.long lc), .second, .val (.long ld), .second, .val (.int pi), .val (.long ka), .second, .val (.long kb), .second, .val (.long kc), .second, .val (.long kd), .second, .val (.int N), .val (.ref a4), .val (.int mi), .val (.int mj), .val (.int fi), .unset, .unset, .unset] [(.int ((fi + (1 : Int32)) + mi)), (.ref a4), (.int ((fi + (1 : Int32)) + mi)), (.ref a4)])) rfl rfl (hb hby at_133) _ hr) ?_
    show own_G p e below (own_P s below (Q_law Z ni la lb lc ld pi h0 n0) 16 128) (T11.setTop (mkF m 134 #[.val (.int ni), .val (.long la), .second, .val (.long lb), .second, .val (.long lc), .second, .val (.long ld), .second, .val (.int pi), .val (.long ka), .second, .val (.long kb), .second, .val (.long kc), .second, .val (.long kd), .second, .val (.int N), .val (.ref a4), .val (.int mi), .val (.int mj), .val (.int fi), .unset, .unset, .unset] [(.long (0 : Int64)), (.int ((fi + (1 : Int32)) + mi)), (.ref a4)]))
    refine own_go (B := T11.setTop (mkF m 136 #[.val (.int ni), .val (.long la), .second, .val (.long lb), .second, .val (.long lc), .second, .val (.long ld), .second, .val (.int pi), .val (.long ka), .second, .val (.long kb), .second, .val (.long kc), .second, .val (.long kd), .second, .val (.int N), .val (.ref a4), .val (.int mi), .val (.int mj), .val (.int fi), .unset, .unset, .unset] [(.long kb), (.long (0 : Int64)), (.int ((fi + (1 : Int32)) + mi)), (.ref a4)])) (fun _ hr => XT.lload X11.here hx rfl (hb hby at_134) rfl hr) ?_
    refine own_go (B := T11.setTop (mkF m 137 #[.val (.int ni), .val (.long la), .second, .val (.long lb), .second, .val (.long lc), .second, .val (.long ld), .second, .val (.int pi), .val (.long ka), .second, .val (.long kb), .second, .val (.long kc), .second, .val (.long kd), .second, .val (.int N), .val (.ref a4), .val (.int mi), .val (.int mj), .val (.int fi), .unset, .unset, .unset] [(.long ((0 : Int64) + kb)), (.int ((fi + (1 : Int32)) + mi)), (.ref a4)])) (fun _ hr => XT.ladd X11.here hx rfl (hb hby at_136) rfl hr) ?_
    obtain ⟨T12, h12, X12, e12, W12, V12, st12⟩ := own_stJ X11 hx hZ e11 U11 (own_plus (own_plus (q := 1) hFi (by decide) (by omega)) hti (by omega)) (by omega) (g := (mkF m 137 #[.val (.int ni), .val (.long la), .second, .val (.long lb), .second, .val (.long lc), .second, .val (.long ld), .second, .val (.int pi), .val (.long ka), .second, .val (.long kb), .second, .val (.long kc), .second, .val (.long kd), .second, .val (.int N), .val (.ref a4), .val (.int mi), .val (.int mj), .val (.int fi), .unset, .unset, .unset] [(.long ((0 : Int64) + kb)), (.int ((fi + (1 : Int32)) + mi)), (.ref a4)])) rfl rfl (hb hby at_137)
    have N12 := Fr.snoc X12 N11 ge
    refine own_go (B := T12.setTop (mkF m 138 #[.val (.int ni), .val (.long la), .second, .val (.long lb), .second, .val (.long lc), .second, .val (.long ld), .second, .val (.int pi), .val (.long ka), .second, .val (.long kb), .second, .val (.long kc), .second, .val (.long kd), .second, .val (.int N), .val (.ref a4), .val (.int mi), .val (.int mj), .val (.int fi), .unset, .unset, .unset] [])) (fun t hr => st12 t hr) ?_
    have U12 := U11.setJ W12
    refine own_go (B := T12.setTop (mkF m 140 #[.val (.int ni), .val (.long la), .second, .val (.long lb), .second, .val (.long lc), .second, .val (.long ld), .second, .val (.int pi), .val (.long ka), .second, .val (.long kb), .second, .val (.long kc), .second, .val (.long kd), .second, .val (.int N), .val (.ref a4), .val (.int mi), .val (.int mj), .val (.int fi), .unset, .unset, .unset] [(.ref a4)])) (fun _ hr => XS.aload X12.here hx rfl (hb hby at_138) rfl rfl hr) ?_
    refine own_go (B := T12.setTop (mkF m 142 #[.val (.int ni), .val (.long la), .second, .val (.long lb), .second, .val (.long lc), .second, .val (.long ld), .second, .val (.int pi), .val (.long ka), .second, .val (.long kb), .second, .val (.long kc), .second, .val (.long kd), .second, .val (.int N), .val (.ref a4), .val (.int mi), .val (.int mj), .val (.int fi), .unset, .unset, .unset] [(.int fi), (.ref a4)])) (fun _ hr => XS.iload X12.here hx rfl (hb hby at_140) rfl hr) ?_
    refine own_go (B := T12.setTop (mkF m 143 #[.val (.int ni), .val (.long la), .second, .val (.long lb), .second, .val (.long lc), .second, .val (.long ld), .second, .val (.int pi), .val (.long ka), .second, .val (.long kb), .second, .val (.long kc), .second, .val (.long kd), .second, .val (.int N), .val (.ref a4), .val (.int mi), .val (.int mj), .val (.int fi), .unset, .unset, .unset] [(.int (1 : Int32)), (.int fi), (.ref a4)])) (fun _ hr => XT.iconstV X12.here hx rfl (1 : Int32) (hb hby at_142) (by decide) hr) ?_
    refine own_go (B := T12.setTop (mkF m 144 #[.val (.int ni), .val (.long la), .second, .val (.long lb), .second, .val (.long lc), .second, .val (.long ld), .second, .val (.int pi), .val (.long ka), .second, .val (.long kb), .second, .val (.long kc), .second, .val (.long kd), .second, .val (.int N), .val (.ref a4), .val (.int mi), .val (.int mj), .val (.int fi), .unset, .unset, .unset] [(.int (fi + (1 : Int32))), (.ref a4)])) (fun _ hr => XS.iadd X12.here hx rfl (hb hby at_143) rfl hr) ?_
    refine own_go (B := T12.setTop (mkF m 146 #[.val (.int ni), .val (.long la), .second, .val (.long lb), .second, .val (.long lc), .second, .val (.long ld), .second, .val (.int pi), .val (.long ka), .second, .val (.long kb), .second, .val (.long kc), .second, .val (.long kd), .second, .val (.int N), .val (.ref a4), .val (.int mi), .val (.int mj), .val (.int fi), .unset, .unset, .unset] [(.int mj), (.int (fi + (1 : Int32))), (.ref a4)])) (fun _ hr => XS.iload X12.here hx rfl (hb hby at_144) rfl hr) ?_
    refine own_go (B := T12.setTop (mkF m 147 #[.val (.int ni), .val (.long la), .second, .val (.long lb), .second, .val (.long lc), .second, .val (.long ld), .second, .val (.int pi), .val (.long ka), .second, .val (.long kb), .second, .val (.long kc), .second, .val (.long kd), .second, .val (.int N), .val (.ref a4), .val (.int mi), .val (.int mj), .val (.int fi), .unset, .unset, .unset] [(.int ((fi + (1 : Int32)) + mj)), (.ref a4)])) (fun _ hr => XS.iadd X12.here hx rfl (hb hby at_146) rfl hr) ?_
    refine own_go (B := T12.setTop (mkF m 148 #[.val (.int ni), .val (.long la), .second, .val (.long lb), .second, .val (.long lc), .second, .val (.long ld), .second, .val (.int pi), .val (.long ka), .second, .val (.long kb), .second, .val (.long kc), .second, .val (.long kd), .second, .val (.int N), .val (.ref a4), .val (.int mi), .val (.int mj), .val (.int fi), .unset, .unset, .unset] [(.int ((fi + (1 : Int32)) + mj)), (.ref a4), (.int ((fi + (1 : Int32)) + mj)), (.ref a4)])) (fun _ hr => XT.dup2 X12.here hx rfl (hb hby at_147) rfl rfl rfl hr) ?_
    obtain ⟨wj, hwj⟩ : ∃ z, (if F + 1 + tj = F + 1 + ti then (0 : Int64) + kb else (if F + 1 + tj = F then ka else (fun _ => (0 : Int64)) (F + 1 + tj))) = z := ⟨_, rfl⟩
    refine own_go (B := T12.setTop (mkF m 149 #[.val (.int ni), .val (.long la), .second, .val (.long lb), .second, .val (.long lc), .second, .val (.long ld), .second, .val (.int pi), .val (.long ka), .second, .val (.long kb), .second, .val (.long kc), .second, .val (.long kd), .second, .val (.int N), .val (.ref a4), .val (.int mi), .val (.int mj), .val (.int fi), .unset, .unset, .unset] [(.long wj), (.int ((fi + (1 : Int32)) + mj)), (.ref a4)])) (fun _ hr => own_ldJ X12 hx hZ e12 U12 (own_plus (own_plus (q := 1) hFi (by decide) (by omega)) htj (by omega)) (by omega) (congrArg Value.long hwj) (g := (mkF m 148 #[.val (.int ni), .val (.long la), .second, .val (.long lb), .second, .val (.long lc), .second, .val (.long ld), .second, .val (.int pi), .val (.long ka), .second, .val (.long kb), .second, .val (.long kc), .second, .val (.long kd), .second, .val (.int N), .val (.ref a4), .val (.int mi), .val (.int mj), .val (.int fi), .unset, .unset, .unset] [(.int ((fi + (1 : Int32)) + mj)), (.ref a4), (.int ((fi + (1 : Int32)) + mj)), (.ref a4)])) rfl rfl (hb hby at_148) _ hr) ?_
    refine own_go (B := T12.setTop (mkF m 151 #[.val (.int ni), .val (.long la), .second, .val (.long lb), .second, .val (.long lc), .second, .val (.long ld), .second, .val (.int pi), .val (.long ka), .second, .val (.long kb), .second, .val (.long kc), .second, .val (.long kd), .second, .val (.int N), .val (.ref a4), .val (.int mi), .val (.int mj), .val (.int fi), .unset, .unset, .unset] [(.long kc), (.long wj), (.int ((fi + (1 : Int32)) + mj)), (.ref a4)])) (fun _ hr => XT.lload X12.here hx rfl (hb hby at_149) rfl hr) ?_
    refine own_go (B := T12.setTop (mkF m 152 #[.val (.int ni), .val (.long la), .second, .val (.long lb), .second, .val (.long lc), .second, .val (.long ld), .second, .val (.int pi), .val (.long ka), .second, .val (.long kb), .second, .val (.long kc), .second, .val (.long kd), .second, .val (.int N), .val (.ref a4), .val (.int mi), .val (.int mj), .val (.int fi), .unset, .unset, .unset] [(.long (wj + kc)), (.int ((fi + (1 : Int32)) + mj)), (.ref a4)])) (fun _ hr => XT.ladd X12.here hx rfl (hb hby at_151) rfl hr) ?_
    obtain ⟨T13, h13, X13, e13, W13, V13, st13⟩ := own_stJ X12 hx hZ e12 U12 (own_plus (own_plus (q := 1) hFi (by decide) (by omega)) htj (by omega)) (by omega) (g := (mkF m 152 #[.val (.int ni), .val (.long la), .second, .val (.long lb), .second, .val (.long lc), .second, .val (.long ld), .second, .val (.int pi), .val (.long ka), .second, .val (.long kb), .second, .val (.long kc), .second, .val (.long kd), .second, .val (.int N), .val (.ref a4), .val (.int mi), .val (.int mj), .val (.int fi), .unset, .unset, .unset] [(.long (wj + kc)), (.int ((fi + (1 : Int32)) + mj)), (.ref a4)])) rfl rfl (hb hby at_152)
    have N13 := Fr.snoc X13 N12 ge
    refine own_go (B := T13.setTop (mkF m 153 #[.val (.int ni), .val (.long la), .second, .val (.long lb), .second, .val (.long lc), .second, .val (.long ld), .second, .val (.int pi), .val (.long ka), .second, .val (.long kb), .second, .val (.long kc), .second, .val (.long kd), .second, .val (.int N), .val (.ref a4), .val (.int mi), .val (.int mj), .val (.int fi), .unset, .unset, .unset] [])) (fun t hr => st13 t hr) ?_
    have U13 := U12.setJ W13
    refine own_go (B := T13.setTop (mkF m 155 #[.val (.int ni), .val (.long la), .second, .val (.long lb), .second, .val (.long lc), .second, .val (.long ld), .second, .val (.int pi), .val (.long ka), .second, .val (.long kb), .second, .val (.long kc), .second, .val (.long kd), .second, .val (.int N), .val (.ref a4), .val (.int mi), .val (.int mj), .val (.int fi), .unset, .unset, .unset] [(.int fi)])) (fun _ hr => XS.iload X13.here hx rfl (hb hby at_153) rfl hr) ?_
    by_cases c14 : 0 < fi
    · refine own_go (B := T13.setTop (mkF m 158 #[.val (.int ni), .val (.long la), .second, .val (.long lb), .second, .val (.long lc), .second, .val (.long ld), .second, .val (.int pi), .val (.long ka), .second, .val (.long kb), .second, .val (.long kc), .second, .val (.long kd), .second, .val (.int N), .val (.ref a4), .val (.int mi), .val (.int mj), .val (.int fi), .unset, .unset, .unset] [])) (fun _ hr => XS.ifNo X13.here hx rfl (hb hby at_155) rfl (XT.i0_le_f c14) hr) ?_
      have hp : 0 < F := by have q := c14; rw [Int32.lt_iff_toInt_lt, hFi] at q; have : (0 : Int32).toInt = 0 := rfl; omega
      refine own_go (B := T13.setTop (mkF m 160 #[.val (.int ni), .val (.long la), .second, .val (.long lb), .second, .val (.long lc), .second, .val (.long ld), .second, .val (.int pi), .val (.long ka), .second, .val (.long kb), .second, .val (.long kc), .second, .val (.long kd), .second, .val (.int N), .val (.ref a4), .val (.int mi), .val (.int mj), .val (.int fi), .unset, .unset, .unset] [(.ref a4)])) (fun _ hr => XS.aload X13.here hx rfl (hb hby at_158) rfl rfl hr) ?_
      refine own_go (B := T13.setTop (mkF m 161 #[.val (.int ni), .val (.long la), .second, .val (.long lb), .second, .val (.long lc), .second, .val (.long ld), .second, .val (.int pi), .val (.long ka), .second, .val (.long kb), .second, .val (.long kc), .second, .val (.long kd), .second, .val (.int N), .val (.ref a4), .val (.int mi), .val (.int mj), .val (.int fi), .unset, .unset, .unset] [(.int (0 : Int32)), (.ref a4)])) (fun _ hr => XT.iconstV X13.here hx rfl (0 : Int32) (hb hby at_160) (by decide) hr) ?_
      refine own_go (B := T13.setTop (mkF m 163 #[.val (.int ni), .val (.long la), .second, .val (.long lb), .second, .val (.long lc), .second, .val (.long ld), .second, .val (.int pi), .val (.long ka), .second, .val (.long kb), .second, .val (.long kc), .second, .val (.long kd), .second, .val (.int N), .val (.ref a4), .val (.int mi), .val (.int mj), .val (.int fi), .unset, .unset, .unset] [(.long kd), (.int (0 : Int32)), (.ref a4)])) (fun _ hr => XT.lload X13.here hx rfl (hb hby at_161) rfl hr) ?_
      obtain ⟨T15, h15, X15, e15, W15, V15, st15⟩ := own_stJ X13 hx hZ e13 U13 (by decide : (0 : Int32).toInt = ((0 : Nat) : Int)) (by omega) (g := (mkF m 163 #[.val (.int ni), .val (.long la), .second, .val (.long lb), .second, .val (.long lc), .second, .val (.long ld), .second, .val (.int pi), .val (.long ka), .second, .val (.long kb), .second, .val (.long kc), .second, .val (.long kd), .second, .val (.int N), .val (.ref a4), .val (.int mi), .val (.int mj), .val (.int fi), .unset, .unset, .unset] [(.long kd), (.int (0 : Int32)), (.ref a4)])) rfl rfl (hb hby at_163)
      have N15 := Fr.snoc X15 N13 ge
      refine own_go (B := T15.setTop (mkF m 164 #[.val (.int ni), .val (.long la), .second, .val (.long lb), .second, .val (.long lc), .second, .val (.long ld), .second, .val (.int pi), .val (.long ka), .second, .val (.long kb), .second, .val (.long kc), .second, .val (.long kd), .second, .val (.int N), .val (.ref a4), .val (.int mi), .val (.int mj), .val (.int fi), .unset, .unset, .unset] [])) (fun t hr => st15 t hr) ?_
      have U15 := U13.setJ W15
      refine own_go (B := T15.setTop (mkF m 166 #[.val (.int ni), .val (.long la), .second, .val (.long lb), .second, .val (.long lc), .second, .val (.long ld), .second, .val (.int pi), .val (.long ka), .second, .val (.long kb), .second, .val (.long kc), .second, .val (.long kd), .second, .val (.int N), .val (.ref a4), .val (.int mi), .val (.int mj), .val (.int fi), .unset, .unset, .unset] [(.ref a4)])) (fun _ hr => XS.aload X15.here hx rfl (hb hby at_164) rfl rfl hr) ?_
      refine own_go (B := T15.setTop (mkF m 168 #[.val (.int ni), .val (.long la), .second, .val (.long lb), .second, .val (.long lc), .second, .val (.long ld), .second, .val (.int pi), .val (.long ka), .second, .val (.long kb), .second, .val (.long kc), .second, .val (.long kd), .second, .val (.int N), .val (.ref a4), .val (.int mi), .val (.int mj), .val (.int fi), .unset, .unset, .unset] [(.int fi), (.ref a4)])) (fun _ hr => XS.iload X15.here hx rfl (hb hby at_166) rfl hr) ?_
      refine own_go (B := T15.setTop (mkF m 169 #[.val (.int ni), .val (.long la), .second, .val (.long lb), .second, .val (.long lc), .second, .val (.long ld), .second, .val (.int pi), .val (.long ka), .second, .val (.long kb), .second, .val (.long kc), .second, .val (.long kd), .second, .val (.int N), .val (.ref a4), .val (.int mi), .val (.int mj), .val (.int fi), .unset, .unset, .unset] [(.int (1 : Int32)), (.int fi), (.ref a4)])) (fun _ hr => XT.iconstV X15.here hx rfl (1 : Int32) (hb hby at_168) (by decide) hr) ?_
      refine own_go (B := T15.setTop (mkF m 170 #[.val (.int ni), .val (.long la), .second, .val (.long lb), .second, .val (.long lc), .second, .val (.long ld), .second, .val (.int pi), .val (.long ka), .second, .val (.long kb), .second, .val (.long kc), .second, .val (.long kd), .second, .val (.int N), .val (.ref a4), .val (.int mi), .val (.int mj), .val (.int fi), .unset, .unset, .unset] [(.int (fi - (1 : Int32))), (.ref a4)])) (fun _ hr => XS.isub X15.here hx rfl (hb hby at_169) rfl hr) ?_
      refine own_go (B := T15.setTop (mkF m 172 #[.val (.int ni), .val (.long la), .second, .val (.long lb), .second, .val (.long lc), .second, .val (.long ld), .second, .val (.int pi), .val (.long ka), .second, .val (.long kb), .second, .val (.long kc), .second, .val (.long kd), .second, .val (.int N), .val (.ref a4), .val (.int mi), .val (.int mj), .val (.int fi), .unset, .unset, .unset] [(.long kd), (.int (fi - (1 : Int32))), (.ref a4)])) (fun _ hr => XT.lload X15.here hx rfl (hb hby at_170) rfl hr) ?_
      obtain ⟨T16, h16, X16, e16, W16, V16, st16⟩ := own_stJ X15 hx hZ e15 U15 (own_minus (q := 1) hFi (by decide) hp) (by omega) (g := (mkF m 172 #[.val (.int ni), .val (.long la), .second, .val (.long lb), .second, .val (.long lc), .second, .val (.long ld), .second, .val (.int pi), .val (.long ka), .second, .val (.long kb), .second, .val (.long kc), .second, .val (.long kd), .second, .val (.int N), .val (.ref a4), .val (.int mi), .val (.int mj), .val (.int fi), .unset, .unset, .unset] [(.long kd), (.int (fi - (1 : Int32))), (.ref a4)])) rfl rfl (hb hby at_172)
      have N16 := Fr.snoc X16 N15 ge
      refine own_go (B := T16.setTop (mkF m 173 #[.val (.int ni), .val (.long la), .second, .val (.long lb), .second, .val (.long lc), .second, .val (.long ld), .second, .val (.int pi), .val (.long ka), .second, .val (.long kb), .second, .val (.long kc), .second, .val (.long kd), .second, .val (.int N), .val (.ref a4), .val (.int mi), .val (.int mj), .val (.int fi), .unset, .unset, .unset] [])) (fun t hr => st16 t hr) ?_
      have U16 := U15.setJ W16
      refine own_go (B := T16.setTop (mkF m 175 #[.val (.int ni), .val (.long la), .second, .val (.long lb), .second, .val (.long lc), .second, .val (.long ld), .second, .val (.int pi), .val (.long ka), .second, .val (.long kb), .second, .val (.long kc), .second, .val (.long kd), .second, .val (.int N), .val (.ref a4), .val (.int mi), .val (.int mj), .val (.int fi), .unset, .unset, .unset] [(.long kb)])) (fun _ hr => XT.lload X16.here hx rfl (hb hby at_173) rfl hr) ?_
      refine own_go (B := T16.setTop (mkF m 177 #[.val (.int ni), .val (.long la), .second, .val (.long lb), .second, .val (.long lc), .second, .val (.long ld), .second, .val (.int pi), .val (.long ka), .second, .val (.long kb), .second, .val (.long kc), .second, .val (.long kd), .second, .val (.int N), .val (.ref a4), .val (.int mi), .val (.int mj), .val (.int fi), .unset, .unset, .unset] [(.long kc), (.long kb)])) (fun _ hr => XT.lload X16.here hx rfl (hb hby at_175) rfl hr) ?_
      refine own_go (B := T16.setTop (mkF m 178 #[.val (.int ni), .val (.long la), .second, .val (.long lb), .second, .val (.long lc), .second, .val (.long ld), .second, .val (.int pi), .val (.long ka), .second, .val (.long kb), .second, .val (.long kc), .second, .val (.long kd), .second, .val (.int N), .val (.ref a4), .val (.int mi), .val (.int mj), .val (.int fi), .unset, .unset, .unset] [(.long (kb + kc))])) (fun _ hr => XT.ladd X16.here hx rfl (hb hby at_177) rfl hr) ?_
      refine own_go (B := T16.setTop (mkF m 180 #[.val (.int ni), .val (.long la), .second, .val (.long lb), .second, .val (.long lc), .second, .val (.long ld), .second, .val (.int pi), .val (.long ka), .second, .val (.long kb), .second, .val (.long kc), .second, .val (.long kd), .second, .val (.int N), .val (.ref a4), .val (.int mi), .val (.int mj), .val (.int fi), .val (.long (kb + kc)), .second, .unset] [])) (fun _ hr => XT.lstore X16.here hx rfl (hb hby at_178) rfl (l' := #[.val (.int ni), .val (.long la), .second, .val (.long lb), .second, .val (.long lc), .second, .val (.long ld), .second, .val (.int pi), .val (.long ka), .second, .val (.long kb), .second, .val (.long kc), .second, .val (.long kd), .second, .val (.int N), .val (.ref a4), .val (.int mi), .val (.int mj), .val (.int fi), .val (.long (kb + kc)), .second, .unset]) rfl hr) ?_
      have hk21 : own_G p e below (own_P s below (Q_law Z ni la lb lc ld pi h0 n0) 16 128) (T16.setTop (mkF m 210 #[.val (.int ni), .val (.long la), .second, .val (.long lb), .second, .val (.long lc), .second, .val (.long ld), .second, .val (.int pi), .val (.long ka), .second, .val (.long kb), .second, .val (.long kc), .second, .val (.long kd), .second, .val (.int N), .val (.ref a4), .val (.int mi), .val (.int mj), .val (.int fi), .val (.long (kb + kc)), .second, .unset] [(.int (own_exp ka kb kc fi))])) := by
        refine own_go (B := T16.setTop (mkF m 212 #[.val (.int ni), .val (.long la), .second, .val (.long lb), .second, .val (.long lc), .second, .val (.long ld), .second, .val (.int pi), .val (.long ka), .second, .val (.long kb), .second, .val (.long kc), .second, .val (.long kd), .second, .val (.int N), .val (.ref a4), .val (.int mi), .val (.int mj), .val (.int fi), .val (.long (kb + kc)), .second, .val (.int (own_exp ka kb kc fi))] [])) (fun _ hr => XS.istore X16.here hx rfl (hb hby at_210) rfl (l' := #[.val (.int ni), .val (.long la), .second, .val (.long lb), .second, .val (.long lc), .second, .val (.long ld), .second, .val (.int pi), .val (.long ka), .second, .val (.long kb), .second, .val (.long kc), .second, .val (.long kd), .second, .val (.int N), .val (.ref a4), .val (.int mi), .val (.int mj), .val (.int fi), .val (.long (kb + kc)), .second, .val (.int (own_exp ka kb kc fi))]) rfl hr) ?_
        refine own_go (B := T16.setTop (mkF m 214 #[.val (.int ni), .val (.long la), .second, .val (.long lb), .second, .val (.long lc), .second, .val (.long ld), .second, .val (.int pi), .val (.long ka), .second, .val (.long kb), .second, .val (.long kc), .second, .val (.long kd), .second, .val (.int N), .val (.ref a4), .val (.int mi), .val (.int mj), .val (.int fi), .val (.long (kb + kc)), .second, .val (.int (own_exp ka kb kc fi))] [(.ref a4)])) (fun _ hr => XS.aload X16.here hx rfl (hb hby at_212) rfl rfl hr) ?_
        have Zk : n0 ≤ h16.size := Nat.le_trans ge (Nat.le_of_lt U16.lt)
        obtain ⟨_, _, ⟨T22, L22, k22, n22⟩, -, X22, ⟨Lc22, hQ22, l22, y22, z22⟩, st22⟩ := Jvm.LawKit.callS X16 hx (y := (⟨"com/example/cosine/cosine/index/MergePolicy", "tail", "([J)I"⟩ : MethodName)) hown (mvT hZ (hw _ (List.mem_of_getElem? (i := 2) rfl))) (mvT hZ (hw _ (List.mem_of_getElem? (i := 3) rfl))) (mvT hZ (hw _ (List.mem_of_getElem? (i := 4) rfl))) (mvT hZ (hw _ (List.mem_of_getElem? (i := 5) rfl))) (by decide) (backOf (W := 0) (rm_tail l Z a0 hw [] a4 nn N _ (own_exp ka kb kc fi) h16 n0 Zk U16 hN (own_ans hF hfi h10 c5 hwj hti8 htj8 (by (try dsimp only); (repeat' split) <;> first | rfl | omega) (fun q hq => by (try dsimp only); (repeat' split) <;> first | rfl | omega))) hZ (hw _ (List.mem_of_getElem? (i := 5) rfl)) (hw _ (List.mem_of_getElem? (i := 4) rfl)) (by decide) (by decide)) (g := (mkF m 214 #[.val (.int ni), .val (.long la), .second, .val (.long lb), .second, .val (.long lc), .second, .val (.long ld), .second, .val (.int pi), .val (.long ka), .second, .val (.long kb), .second, .val (.long kc), .second, .val (.long kd), .second, .val (.int N), .val (.ref a4), .val (.int mi), .val (.int mj), .val (.int fi), .val (.long (kb + kc)), .second, .val (.int (own_exp ka kb kc fi))] [(.ref a4)])) rfl (by rw [hml]; rfl) (argsL := [(.ref a4)]) (rest := []) (lenOf pd_tail rfl) rfl (by show 2 * 0 + _ ≤ _; exact Nat.le_of_eq rfl) (hb hby at_214) (fun _ _ => ⟨rfl, e16, (by decide : 1 + 0 ≤ _), (by decide : 15 + 0 ≤ _)⟩)
        dsimp only [Pt.U, Pt.locs, Pt.cells, Pt.slots] at X22 l22 y22 z22 st22 hQ22
        subst l22 y22 z22
        obtain ⟨rfl, N22, e22⟩ := hQ22
        have M22 := Fr.app N16 N22
        refine own_go (B := T22.setTop (mkF m 217 #[.val (.int ni), .val (.long la), .second, .val (.long lb), .second, .val (.long lc), .second, .val (.long ld), .second, .val (.int pi), .val (.long ka), .second, .val (.long kb), .second, .val (.long kc), .second, .val (.long kd), .second, .val (.int N), .val (.ref a4), .val (.int mi), .val (.int mj), .val (.int fi), .val (.long (kb + kc)), .second, .val (.int (own_exp ka kb kc fi))] [(.int (own_exp ka kb kc fi))])) (fun t hr => st22 t hr) ?_
        refine own_go (B := T22.setTop (mkF m 219 #[.val (.int ni), .val (.long la), .second, .val (.long lb), .second, .val (.long lc), .second, .val (.long ld), .second, .val (.int pi), .val (.long ka), .second, .val (.long kb), .second, .val (.long kc), .second, .val (.long kd), .second, .val (.int N), .val (.ref a4), .val (.int mi), .val (.int mj), .val (.int fi), .val (.long (kb + kc)), .second, .val (.int (own_exp ka kb kc fi))] [(.int (own_exp ka kb kc fi)), (.int (own_exp ka kb kc fi))])) (fun _ hr => XS.iload X22.here hx rfl (hb hby at_217) rfl hr) ?_
        refine own_go (B := T22.setTop (mkF m 222 #[.val (.int ni), .val (.long la), .second, .val (.long lb), .second, .val (.long lc), .second, .val (.long ld), .second, .val (.int pi), .val (.long ka), .second, .val (.long kb), .second, .val (.long kc), .second, .val (.long kd), .second, .val (.int N), .val (.ref a4), .val (.int mi), .val (.int mj), .val (.int fi), .val (.long (kb + kc)), .second, .val (.int (own_exp ka kb kc fi))] [])) (fun _ hr => XS.icmpNo X22.here hx rfl (hb hby at_219) rfl (XT.ii_ne_f rfl) hr) ?_
        refine own_go (B := T22.setTop (mkF m 223 #[.val (.int ni), .val (.long la), .second, .val (.long lb), .second, .val (.long lc), .second, .val (.long ld), .second, .val (.int pi), .val (.long ka), .second, .val (.long kb), .second, .val (.long kc), .second, .val (.long kd), .second, .val (.int N), .val (.ref a4), .val (.int mi), .val (.int mj), .val (.int fi), .val (.long (kb + kc)), .second, .val (.int (own_exp ka kb kc fi))] [(.int (1 : Int32))])) (fun _ hr => XT.iconstV X22.here hx rfl (1 : Int32) (hb hby at_222) (by decide) hr) ?_
        refine own_go (B := T22.setTop (mkF m 227 #[.val (.int ni), .val (.long la), .second, .val (.long lb), .second, .val (.long lc), .second, .val (.long ld), .second, .val (.int pi), .val (.long ka), .second, .val (.long kb), .second, .val (.long kc), .second, .val (.long kd), .second, .val (.int N), .val (.ref a4), .val (.int mi), .val (.int mj), .val (.int fi), .val (.long (kb + kc)), .second, .val (.int (own_exp ka kb kc fi))] [(.int (1 : Int32))])) (fun _ hr => XS.goto X22.here hx rfl (pc0 := 223) (pc' := 227) rfl (hb hby at_223) (by decide) (by decide) hr) ?_
        exact own_retZ X22 hx hlk hret (by decide) (hb hby at_227) (by decide) (by decide) ⟨rfl, M22⟩
      refine own_go (B := T16.setTop (mkF m 182 #[.val (.int ni), .val (.long la), .second, .val (.long lb), .second, .val (.long lc), .second, .val (.long ld), .second, .val (.int pi), .val (.long ka), .second, .val (.long kb), .second, .val (.long kc), .second, .val (.long kd), .second, .val (.int N), .val (.ref a4), .val (.int mi), .val (.int mj), .val (.int fi), .val (.long (kb + kc)), .second, .unset] [(.long ka)])) (fun _ hr => XT.lload X16.here hx rfl (hb hby at_180) rfl hr) ?_
      refine own_go (B := T16.setTop (mkF m 184 #[.val (.int ni), .val (.long la), .second, .val (.long lb), .second, .val (.long lc), .second, .val (.long ld), .second, .val (.int pi), .val (.long ka), .second, .val (.long kb), .second, .val (.long kc), .second, .val (.long kd), .second, .val (.int N), .val (.ref a4), .val (.int mi), .val (.int mj), .val (.int fi), .val (.long (kb + kc)), .second, .unset] [(.long (kb + kc)), (.long ka)])) (fun _ hr => XT.lload X16.here hx rfl (hb hby at_182) rfl hr) ?_
      refine own_go (B := T16.setTop (mkF m 185 #[.val (.int ni), .val (.long la), .second, .val (.long lb), .second, .val (.long lc), .second, .val (.long ld), .second, .val (.int pi), .val (.long ka), .second, .val (.long kb), .second, .val (.long kc), .second, .val (.long kd), .second, .val (.int N), .val (.ref a4), .val (.int mi), .val (.int mj), .val (.int fi), .val (.long (kb + kc)), .second, .unset] [(.long (ka + (kb + kc)))])) (fun _ hr => XT.ladd X16.here hx rfl (hb hby at_184) rfl hr) ?_
      refine own_go (B := T16.setTop (mkF m 188 #[.val (.int ni), .val (.long la), .second, .val (.long lb), .second, .val (.long lc), .second, .val (.long ld), .second, .val (.int pi), .val (.long ka), .second, .val (.long kb), .second, .val (.long kc), .second, .val (.long kd), .second, .val (.int N), .val (.ref a4), .val (.int mi), .val (.int mj), .val (.int fi), .val (.long (kb + kc)), .second, .unset] [(.long (1073741824 : Int64)), (.long (ka + (kb + kc)))])) (fun _ hr => X16.ldc2J hx hown (mvT hZ (hw _ (List.mem_of_getElem? (i := 6) rfl))) rfl (hb hby at_185) hr) ?_
      refine own_go (B := T16.setTop (mkF m 189 #[.val (.int ni), .val (.long la), .second, .val (.long lb), .second, .val (.long lc), .second, .val (.long ld), .second, .val (.int pi), .val (.long ka), .second, .val (.long kb), .second, .val (.long kc), .second, .val (.long kd), .second, .val (.int N), .val (.ref a4), .val (.int mi), .val (.int mj), .val (.int fi), .val (.long (kb + kc)), .second, .unset] [(.int (XT.cmpL (ka + (kb + kc)) (1073741824 : Int64)))])) (fun _ hr => XT.lcmp X16.here hx rfl (hb hby at_188) rfl hr) ?_
      by_cases c23 : (1073741824 : Int64) < (ka + (kb + kc))
      · refine own_go (B := T16.setTop (mkF m 209 #[.val (.int ni), .val (.long la), .second, .val (.long lb), .second, .val (.long lc), .second, .val (.long ld), .second, .val (.int pi), .val (.long ka), .second, .val (.long kb), .second, .val (.long kc), .second, .val (.long kd), .second, .val (.int N), .val (.ref a4), .val (.int mi), .val (.int mj), .val (.int fi), .val (.long (kb + kc)), .second, .unset] [])) (fun _ hr => XS.ifYes X16.here hx rfl (pc0 := 189) (pc' := 209) rfl (hb hby at_189) rfl (XT.ll_gt_t c23) (by decide) (by decide) hr) ?_
        refine own_go (B := T16.setTop (mkF m 210 #[.val (.int ni), .val (.long la), .second, .val (.long lb), .second, .val (.long lc), .second, .val (.long ld), .second, .val (.int pi), .val (.long ka), .second, .val (.long kb), .second, .val (.long kc), .second, .val (.long kd), .second, .val (.int N), .val (.ref a4), .val (.int mi), .val (.int mj), .val (.int fi), .val (.long (kb + kc)), .second, .unset] [(.int (-1 : Int32))])) (fun _ hr => XT.iconstV X16.here hx rfl (-1 : Int32) (hb hby at_209) (by decide) hr) ?_
        have q : (own_exp ka kb kc fi) = (-1 : Int32) := by simp only [own_exp, if_neg c5, if_pos c14, if_pos c23]
        rw [q] at hk21
        exact hk21
      · refine own_go (B := T16.setTop (mkF m 192 #[.val (.int ni), .val (.long la), .second, .val (.long lb), .second, .val (.long lc), .second, .val (.long ld), .second, .val (.int pi), .val (.long ka), .second, .val (.long kb), .second, .val (.long kc), .second, .val (.long kd), .second, .val (.int N), .val (.ref a4), .val (.int mi), .val (.int mj), .val (.int fi), .val (.long (kb + kc)), .second, .unset] [])) (fun _ hr => XS.ifNo X16.here hx rfl (hb hby at_189) rfl (XT.ll_gt_f c23) hr) ?_
        refine own_go (B := T16.setTop (mkF m 194 #[.val (.int ni), .val (.long la), .second, .val (.long lb), .second, .val (.long lc), .second, .val (.long ld), .second, .val (.int pi), .val (.long ka), .second, .val (.long kb), .second, .val (.long kc), .second, .val (.long kd), .second, .val (.int N), .val (.ref a4), .val (.int mi), .val (.int mj), .val (.int fi), .val (.long (kb + kc)), .second, .unset] [(.long ka)])) (fun _ hr => XT.lload X16.here hx rfl (hb hby at_192) rfl hr) ?_
        refine own_go (B := T16.setTop (mkF m 197 #[.val (.int ni), .val (.long la), .second, .val (.long lb), .second, .val (.long lc), .second, .val (.long ld), .second, .val (.int pi), .val (.long ka), .second, .val (.long kb), .second, .val (.long kc), .second, .val (.long kd), .second, .val (.int N), .val (.ref a4), .val (.int mi), .val (.int mj), .val (.int fi), .val (.long (kb + kc)), .second, .unset] [(.long (10 : Int64)), (.long ka)])) (fun _ hr => X16.ldc2J hx hown (mvT hZ (hw _ (List.mem_of_getElem? (i := 7) rfl))) rfl (hb hby at_194) hr) ?_
        refine own_go (B := T16.setTop (mkF m 199 #[.val (.int ni), .val (.long la), .second, .val (.long lb), .second, .val (.long lc), .second, .val (.long ld), .second, .val (.int pi), .val (.long ka), .second, .val (.long kb), .second, .val (.long kc), .second, .val (.long kd), .second, .val (.int N), .val (.ref a4), .val (.int mi), .val (.int mj), .val (.int fi), .val (.long (kb + kc)), .second, .unset] [(.long (kb + kc)), (.long (10 : Int64)), (.long ka)])) (fun _ hr => XT.lload X16.here hx rfl (hb hby at_197) rfl hr) ?_
        refine own_go (B := T16.setTop (mkF m 200 #[.val (.int ni), .val (.long la), .second, .val (.long lb), .second, .val (.long lc), .second, .val (.long ld), .second, .val (.int pi), .val (.long ka), .second, .val (.long kb), .second, .val (.long kc), .second, .val (.long kd), .second, .val (.int N), .val (.ref a4), .val (.int mi), .val (.int mj), .val (.int fi), .val (.long (kb + kc)), .second, .unset] [(.long ((10 : Int64) * (kb + kc))), (.long ka)])) (fun _ hr => XT.lmul X16.here hx rfl (hb hby at_199) rfl hr) ?_
        refine own_go (B := T16.setTop (mkF m 201 #[.val (.int ni), .val (.long la), .second, .val (.long lb), .second, .val (.long lc), .second, .val (.long ld), .second, .val (.int pi), .val (.long ka), .second, .val (.long kb), .second, .val (.long kc), .second, .val (.long kd), .second, .val (.int N), .val (.ref a4), .val (.int mi), .val (.int mj), .val (.int fi), .val (.long (kb + kc)), .second, .unset] [(.int (XT.cmpL ka ((10 : Int64) * (kb + kc))))])) (fun _ hr => XT.lcmp X16.here hx rfl (hb hby at_200) rfl hr) ?_
        by_cases c24 : ((10 : Int64) * (kb + kc)) < ka
        · refine own_go (B := T16.setTop (mkF m 209 #[.val (.int ni), .val (.long la), .second, .val (.long lb), .second, .val (.long lc), .second, .val (.long ld), .second, .val (.int pi), .val (.long ka), .second, .val (.long kb), .second, .val (.long kc), .second, .val (.long kd), .second, .val (.int N), .val (.ref a4), .val (.int mi), .val (.int mj), .val (.int fi), .val (.long (kb + kc)), .second, .unset] [])) (fun _ hr => XS.ifYes X16.here hx rfl (pc0 := 201) (pc' := 209) rfl (hb hby at_201) rfl (XT.ll_gt_t c24) (by decide) (by decide) hr) ?_
          refine own_go (B := T16.setTop (mkF m 210 #[.val (.int ni), .val (.long la), .second, .val (.long lb), .second, .val (.long lc), .second, .val (.long ld), .second, .val (.int pi), .val (.long ka), .second, .val (.long kb), .second, .val (.long kc), .second, .val (.long kd), .second, .val (.int N), .val (.ref a4), .val (.int mi), .val (.int mj), .val (.int fi), .val (.long (kb + kc)), .second, .unset] [(.int (-1 : Int32))])) (fun _ hr => XT.iconstV X16.here hx rfl (-1 : Int32) (hb hby at_209) (by decide) hr) ?_
          have q : (own_exp ka kb kc fi) = (-1 : Int32) := by simp only [own_exp, if_neg c5, if_pos c14, if_neg c23, if_pos c24]
          rw [q] at hk21
          exact hk21
        · refine own_go (B := T16.setTop (mkF m 204 #[.val (.int ni), .val (.long la), .second, .val (.long lb), .second, .val (.long lc), .second, .val (.long ld), .second, .val (.int pi), .val (.long ka), .second, .val (.long kb), .second, .val (.long kc), .second, .val (.long kd), .second, .val (.int N), .val (.ref a4), .val (.int mi), .val (.int mj), .val (.int fi), .val (.long (kb + kc)), .second, .unset] [])) (fun _ hr => XS.ifNo X16.here hx rfl (hb hby at_201) rfl (XT.ll_gt_f c24) hr) ?_
          refine own_go (B := T16.setTop (mkF m 206 #[.val (.int ni), .val (.long la), .second, .val (.long lb), .second, .val (.long lc), .second, .val (.long ld), .second, .val (.int pi), .val (.long ka), .second, .val (.long kb), .second, .val (.long kc), .second, .val (.long kd), .second, .val (.int N), .val (.ref a4), .val (.int mi), .val (.int mj), .val (.int fi), .val (.long (kb + kc)), .second, .unset] [(.int fi)])) (fun _ hr => XS.iload X16.here hx rfl (hb hby at_204) rfl hr) ?_
          refine own_go (B := T16.setTop (mkF m 210 #[.val (.int ni), .val (.long la), .second, .val (.long lb), .second, .val (.long lc), .second, .val (.long ld), .second, .val (.int pi), .val (.long ka), .second, .val (.long kb), .second, .val (.long kc), .second, .val (.long kd), .second, .val (.int N), .val (.ref a4), .val (.int mi), .val (.int mj), .val (.int fi), .val (.long (kb + kc)), .second, .unset] [(.int fi)])) (fun _ hr => XS.goto X16.here hx rfl (pc0 := 206) (pc' := 210) rfl (hb hby at_206) (by decide) (by decide) hr) ?_
          have q : (own_exp ka kb kc fi) = fi := by simp only [own_exp, if_neg c5, if_pos c14, if_neg c23, if_neg c24]
          rw [q] at hk21
          exact hk21
    · refine own_go (B := T13.setTop (mkF m 173 #[.val (.int ni), .val (.long la), .second, .val (.long lb), .second, .val (.long lc), .second, .val (.long ld), .second, .val (.int pi), .val (.long ka), .second, .val (.long kb), .second, .val (.long kc), .second, .val (.long kd), .second, .val (.int N), .val (.ref a4), .val (.int mi), .val (.int mj), .val (.int fi), .unset, .unset, .unset] [])) (fun _ hr => XS.ifYes X13.here hx rfl (pc0 := 155) (pc' := 173) rfl (hb hby at_155) rfl (XT.i0_le_t c14) (by decide) (by decide) hr) ?_
      refine own_go (B := T13.setTop (mkF m 175 #[.val (.int ni), .val (.long la), .second, .val (.long lb), .second, .val (.long lc), .second, .val (.long ld), .second, .val (.int pi), .val (.long ka), .second, .val (.long kb), .second, .val (.long kc), .second, .val (.long kd), .second, .val (.int N), .val (.ref a4), .val (.int mi), .val (.int mj), .val (.int fi), .unset, .unset, .unset] [(.long kb)])) (fun _ hr => XT.lload X13.here hx rfl (hb hby at_173) rfl hr) ?_
      refine own_go (B := T13.setTop (mkF m 177 #[.val (.int ni), .val (.long la), .second, .val (.long lb), .second, .val (.long lc), .second, .val (.long ld), .second, .val (.int pi), .val (.long ka), .second, .val (.long kb), .second, .val (.long kc), .second, .val (.long kd), .second, .val (.int N), .val (.ref a4), .val (.int mi), .val (.int mj), .val (.int fi), .unset, .unset, .unset] [(.long kc), (.long kb)])) (fun _ hr => XT.lload X13.here hx rfl (hb hby at_175) rfl hr) ?_
      refine own_go (B := T13.setTop (mkF m 178 #[.val (.int ni), .val (.long la), .second, .val (.long lb), .second, .val (.long lc), .second, .val (.long ld), .second, .val (.int pi), .val (.long ka), .second, .val (.long kb), .second, .val (.long kc), .second, .val (.long kd), .second, .val (.int N), .val (.ref a4), .val (.int mi), .val (.int mj), .val (.int fi), .unset, .unset, .unset] [(.long (kb + kc))])) (fun _ hr => XT.ladd X13.here hx rfl (hb hby at_177) rfl hr) ?_
      refine own_go (B := T13.setTop (mkF m 180 #[.val (.int ni), .val (.long la), .second, .val (.long lb), .second, .val (.long lc), .second, .val (.long ld), .second, .val (.int pi), .val (.long ka), .second, .val (.long kb), .second, .val (.long kc), .second, .val (.long kd), .second, .val (.int N), .val (.ref a4), .val (.int mi), .val (.int mj), .val (.int fi), .val (.long (kb + kc)), .second, .unset] [])) (fun _ hr => XT.lstore X13.here hx rfl (hb hby at_178) rfl (l' := #[.val (.int ni), .val (.long la), .second, .val (.long lb), .second, .val (.long lc), .second, .val (.long ld), .second, .val (.int pi), .val (.long ka), .second, .val (.long kb), .second, .val (.long kc), .second, .val (.long kd), .second, .val (.int N), .val (.ref a4), .val (.int mi), .val (.int mj), .val (.int fi), .val (.long (kb + kc)), .second, .unset]) rfl hr) ?_
      have hk29 : own_G p e below (own_P s below (Q_law Z ni la lb lc ld pi h0 n0) 16 128) (T13.setTop (mkF m 210 #[.val (.int ni), .val (.long la), .second, .val (.long lb), .second, .val (.long lc), .second, .val (.long ld), .second, .val (.int pi), .val (.long ka), .second, .val (.long kb), .second, .val (.long kc), .second, .val (.long kd), .second, .val (.int N), .val (.ref a4), .val (.int mi), .val (.int mj), .val (.int fi), .val (.long (kb + kc)), .second, .unset] [(.int (own_exp ka kb kc fi))])) := by
        refine own_go (B := T13.setTop (mkF m 212 #[.val (.int ni), .val (.long la), .second, .val (.long lb), .second, .val (.long lc), .second, .val (.long ld), .second, .val (.int pi), .val (.long ka), .second, .val (.long kb), .second, .val (.long kc), .second, .val (.long kd), .second, .val (.int N), .val (.ref a4), .val (.int mi), .val (.int mj), .val (.int fi), .val (.long (kb + kc)), .second, .val (.int (own_exp ka kb kc fi))] [])) (fun _ hr => XS.istore X13.here hx rfl (hb hby at_210) rfl (l' := #[.val (.int ni), .val (.long la), .second, .val (.long lb), .second, .val (.long lc), .second, .val (.long ld), .second, .val (.int pi), .val (.long ka), .second, .val (.long kb), .second, .val (.long kc), .second, .val (.long kd), .second, .val (.int N), .val (.ref a4), .val (.int mi), .val (.int mj), .val (.int fi), .val (.long (kb + kc)), .second, .val (.int (own_exp ka kb kc fi))]) rfl hr) ?_
        refine own_go (B := T13.setTop (mkF m 214 #[.val (.int ni), .val (.long la), .second, .val (.long lb), .second, .val (.long lc), .second, .val (.long ld), .second, .val (.int pi), .val (.long ka), .second, .val (.long kb), .second, .val (.long kc), .second, .val (.long kd), .second, .val (.int N), .val (.ref a4), .val (.int mi), .val (.int mj), .val (.int fi), .val (.long (kb + kc)), .second, .val (.int (own_exp ka kb kc fi))] [(.ref a4)])) (fun _ hr => XS.aload X13.here hx rfl (hb hby at_212) rfl rfl hr) ?_
        have Zk : n0 ≤ h13.size := Nat.le_trans ge (Nat.le_of_lt U13.lt)
        obtain ⟨_, _, ⟨T30, L30, k30, n30⟩, -, X30, ⟨Lc30, hQ30, l30, y30, z30⟩, st30⟩ := Jvm.LawKit.callS X13 hx (y := (⟨"com/example/cosine/cosine/index/MergePolicy", "tail", "([J)I"⟩ : MethodName)) hown (mvT hZ (hw _ (List.mem_of_getElem? (i := 2) rfl))) (mvT hZ (hw _ (List.mem_of_getElem? (i := 3) rfl))) (mvT hZ (hw _ (List.mem_of_getElem? (i := 4) rfl))) (mvT hZ (hw _ (List.mem_of_getElem? (i := 5) rfl))) (by decide) (backOf (W := 0) (rm_tail l Z a0 hw [] a4 nn N _ (own_exp ka kb kc fi) h13 n0 Zk U13 hN (own_ans hF hfi h10 c5 hwj hti8 htj8 (by (try dsimp only); (repeat' split) <;> first | rfl | omega) (fun q hq => by (try dsimp only); (repeat' split) <;> first | rfl | omega))) hZ (hw _ (List.mem_of_getElem? (i := 5) rfl)) (hw _ (List.mem_of_getElem? (i := 4) rfl)) (by decide) (by decide)) (g := (mkF m 214 #[.val (.int ni), .val (.long la), .second, .val (.long lb), .second, .val (.long lc), .second, .val (.long ld), .second, .val (.int pi), .val (.long ka), .second, .val (.long kb), .second, .val (.long kc), .second, .val (.long kd), .second, .val (.int N), .val (.ref a4), .val (.int mi), .val (.int mj), .val (.int fi), .val (.long (kb + kc)), .second, .val (.int (own_exp ka kb kc fi))] [(.ref a4)])) rfl (by rw [hml]; rfl) (argsL := [(.ref a4)]) (rest := []) (lenOf pd_tail rfl) rfl (by show 2 * 0 + _ ≤ _; exact Nat.le_of_eq rfl) (hb hby at_214) (fun _ _ => ⟨rfl, e13, (by decide : 1 + 0 ≤ _), (by decide : 15 + 0 ≤ _)⟩)
        dsimp only [Pt.U, Pt.locs, Pt.cells, Pt.slots] at X30 l30 y30 z30 st30 hQ30
        subst l30 y30 z30
        obtain ⟨rfl, N30, e30⟩ := hQ30
        have M30 := Fr.app N13 N30
        refine own_go (B := T30.setTop (mkF m 217 #[.val (.int ni), .val (.long la), .second, .val (.long lb), .second, .val (.long lc), .second, .val (.long ld), .second, .val (.int pi), .val (.long ka), .second, .val (.long kb), .second, .val (.long kc), .second, .val (.long kd), .second, .val (.int N), .val (.ref a4), .val (.int mi), .val (.int mj), .val (.int fi), .val (.long (kb + kc)), .second, .val (.int (own_exp ka kb kc fi))] [(.int (own_exp ka kb kc fi))])) (fun t hr => st30 t hr) ?_
        refine own_go (B := T30.setTop (mkF m 219 #[.val (.int ni), .val (.long la), .second, .val (.long lb), .second, .val (.long lc), .second, .val (.long ld), .second, .val (.int pi), .val (.long ka), .second, .val (.long kb), .second, .val (.long kc), .second, .val (.long kd), .second, .val (.int N), .val (.ref a4), .val (.int mi), .val (.int mj), .val (.int fi), .val (.long (kb + kc)), .second, .val (.int (own_exp ka kb kc fi))] [(.int (own_exp ka kb kc fi)), (.int (own_exp ka kb kc fi))])) (fun _ hr => XS.iload X30.here hx rfl (hb hby at_217) rfl hr) ?_
        refine own_go (B := T30.setTop (mkF m 222 #[.val (.int ni), .val (.long la), .second, .val (.long lb), .second, .val (.long lc), .second, .val (.long ld), .second, .val (.int pi), .val (.long ka), .second, .val (.long kb), .second, .val (.long kc), .second, .val (.long kd), .second, .val (.int N), .val (.ref a4), .val (.int mi), .val (.int mj), .val (.int fi), .val (.long (kb + kc)), .second, .val (.int (own_exp ka kb kc fi))] [])) (fun _ hr => XS.icmpNo X30.here hx rfl (hb hby at_219) rfl (XT.ii_ne_f rfl) hr) ?_
        refine own_go (B := T30.setTop (mkF m 223 #[.val (.int ni), .val (.long la), .second, .val (.long lb), .second, .val (.long lc), .second, .val (.long ld), .second, .val (.int pi), .val (.long ka), .second, .val (.long kb), .second, .val (.long kc), .second, .val (.long kd), .second, .val (.int N), .val (.ref a4), .val (.int mi), .val (.int mj), .val (.int fi), .val (.long (kb + kc)), .second, .val (.int (own_exp ka kb kc fi))] [(.int (1 : Int32))])) (fun _ hr => XT.iconstV X30.here hx rfl (1 : Int32) (hb hby at_222) (by decide) hr) ?_
        refine own_go (B := T30.setTop (mkF m 227 #[.val (.int ni), .val (.long la), .second, .val (.long lb), .second, .val (.long lc), .second, .val (.long ld), .second, .val (.int pi), .val (.long ka), .second, .val (.long kb), .second, .val (.long kc), .second, .val (.long kd), .second, .val (.int N), .val (.ref a4), .val (.int mi), .val (.int mj), .val (.int fi), .val (.long (kb + kc)), .second, .val (.int (own_exp ka kb kc fi))] [(.int (1 : Int32))])) (fun _ hr => XS.goto X30.here hx rfl (pc0 := 223) (pc' := 227) rfl (hb hby at_223) (by decide) (by decide) hr) ?_
        exact own_retZ X30 hx hlk hret (by decide) (hb hby at_227) (by decide) (by decide) ⟨rfl, M30⟩
      refine own_go (B := T13.setTop (mkF m 182 #[.val (.int ni), .val (.long la), .second, .val (.long lb), .second, .val (.long lc), .second, .val (.long ld), .second, .val (.int pi), .val (.long ka), .second, .val (.long kb), .second, .val (.long kc), .second, .val (.long kd), .second, .val (.int N), .val (.ref a4), .val (.int mi), .val (.int mj), .val (.int fi), .val (.long (kb + kc)), .second, .unset] [(.long ka)])) (fun _ hr => XT.lload X13.here hx rfl (hb hby at_180) rfl hr) ?_
      refine own_go (B := T13.setTop (mkF m 184 #[.val (.int ni), .val (.long la), .second, .val (.long lb), .second, .val (.long lc), .second, .val (.long ld), .second, .val (.int pi), .val (.long ka), .second, .val (.long kb), .second, .val (.long kc), .second, .val (.long kd), .second, .val (.int N), .val (.ref a4), .val (.int mi), .val (.int mj), .val (.int fi), .val (.long (kb + kc)), .second, .unset] [(.long (kb + kc)), (.long ka)])) (fun _ hr => XT.lload X13.here hx rfl (hb hby at_182) rfl hr) ?_
      refine own_go (B := T13.setTop (mkF m 185 #[.val (.int ni), .val (.long la), .second, .val (.long lb), .second, .val (.long lc), .second, .val (.long ld), .second, .val (.int pi), .val (.long ka), .second, .val (.long kb), .second, .val (.long kc), .second, .val (.long kd), .second, .val (.int N), .val (.ref a4), .val (.int mi), .val (.int mj), .val (.int fi), .val (.long (kb + kc)), .second, .unset] [(.long (ka + (kb + kc)))])) (fun _ hr => XT.ladd X13.here hx rfl (hb hby at_184) rfl hr) ?_
      refine own_go (B := T13.setTop (mkF m 188 #[.val (.int ni), .val (.long la), .second, .val (.long lb), .second, .val (.long lc), .second, .val (.long ld), .second, .val (.int pi), .val (.long ka), .second, .val (.long kb), .second, .val (.long kc), .second, .val (.long kd), .second, .val (.int N), .val (.ref a4), .val (.int mi), .val (.int mj), .val (.int fi), .val (.long (kb + kc)), .second, .unset] [(.long (1073741824 : Int64)), (.long (ka + (kb + kc)))])) (fun _ hr => X13.ldc2J hx hown (mvT hZ (hw _ (List.mem_of_getElem? (i := 6) rfl))) rfl (hb hby at_185) hr) ?_
      refine own_go (B := T13.setTop (mkF m 189 #[.val (.int ni), .val (.long la), .second, .val (.long lb), .second, .val (.long lc), .second, .val (.long ld), .second, .val (.int pi), .val (.long ka), .second, .val (.long kb), .second, .val (.long kc), .second, .val (.long kd), .second, .val (.int N), .val (.ref a4), .val (.int mi), .val (.int mj), .val (.int fi), .val (.long (kb + kc)), .second, .unset] [(.int (XT.cmpL (ka + (kb + kc)) (1073741824 : Int64)))])) (fun _ hr => XT.lcmp X13.here hx rfl (hb hby at_188) rfl hr) ?_
      by_cases c31 : (1073741824 : Int64) < (ka + (kb + kc))
      · refine own_go (B := T13.setTop (mkF m 209 #[.val (.int ni), .val (.long la), .second, .val (.long lb), .second, .val (.long lc), .second, .val (.long ld), .second, .val (.int pi), .val (.long ka), .second, .val (.long kb), .second, .val (.long kc), .second, .val (.long kd), .second, .val (.int N), .val (.ref a4), .val (.int mi), .val (.int mj), .val (.int fi), .val (.long (kb + kc)), .second, .unset] [])) (fun _ hr => XS.ifYes X13.here hx rfl (pc0 := 189) (pc' := 209) rfl (hb hby at_189) rfl (XT.ll_gt_t c31) (by decide) (by decide) hr) ?_
        refine own_go (B := T13.setTop (mkF m 210 #[.val (.int ni), .val (.long la), .second, .val (.long lb), .second, .val (.long lc), .second, .val (.long ld), .second, .val (.int pi), .val (.long ka), .second, .val (.long kb), .second, .val (.long kc), .second, .val (.long kd), .second, .val (.int N), .val (.ref a4), .val (.int mi), .val (.int mj), .val (.int fi), .val (.long (kb + kc)), .second, .unset] [(.int (-1 : Int32))])) (fun _ hr => XT.iconstV X13.here hx rfl (-1 : Int32) (hb hby at_209) (by decide) hr) ?_
        have q : (own_exp ka kb kc fi) = (-1 : Int32) := by simp only [own_exp, if_neg c5, if_neg c14, if_pos c31]
        rw [q] at hk29
        exact hk29
      · refine own_go (B := T13.setTop (mkF m 192 #[.val (.int ni), .val (.long la), .second, .val (.long lb), .second, .val (.long lc), .second, .val (.long ld), .second, .val (.int pi), .val (.long ka), .second, .val (.long kb), .second, .val (.long kc), .second, .val (.long kd), .second, .val (.int N), .val (.ref a4), .val (.int mi), .val (.int mj), .val (.int fi), .val (.long (kb + kc)), .second, .unset] [])) (fun _ hr => XS.ifNo X13.here hx rfl (hb hby at_189) rfl (XT.ll_gt_f c31) hr) ?_
        refine own_go (B := T13.setTop (mkF m 194 #[.val (.int ni), .val (.long la), .second, .val (.long lb), .second, .val (.long lc), .second, .val (.long ld), .second, .val (.int pi), .val (.long ka), .second, .val (.long kb), .second, .val (.long kc), .second, .val (.long kd), .second, .val (.int N), .val (.ref a4), .val (.int mi), .val (.int mj), .val (.int fi), .val (.long (kb + kc)), .second, .unset] [(.long ka)])) (fun _ hr => XT.lload X13.here hx rfl (hb hby at_192) rfl hr) ?_
        refine own_go (B := T13.setTop (mkF m 197 #[.val (.int ni), .val (.long la), .second, .val (.long lb), .second, .val (.long lc), .second, .val (.long ld), .second, .val (.int pi), .val (.long ka), .second, .val (.long kb), .second, .val (.long kc), .second, .val (.long kd), .second, .val (.int N), .val (.ref a4), .val (.int mi), .val (.int mj), .val (.int fi), .val (.long (kb + kc)), .second, .unset] [(.long (10 : Int64)), (.long ka)])) (fun _ hr => X13.ldc2J hx hown (mvT hZ (hw _ (List.mem_of_getElem? (i := 7) rfl))) rfl (hb hby at_194) hr) ?_
        refine own_go (B := T13.setTop (mkF m 199 #[.val (.int ni), .val (.long la), .second, .val (.long lb), .second, .val (.long lc), .second, .val (.long ld), .second, .val (.int pi), .val (.long ka), .second, .val (.long kb), .second, .val (.long kc), .second, .val (.long kd), .second, .val (.int N), .val (.ref a4), .val (.int mi), .val (.int mj), .val (.int fi), .val (.long (kb + kc)), .second, .unset] [(.long (kb + kc)), (.long (10 : Int64)), (.long ka)])) (fun _ hr => XT.lload X13.here hx rfl (hb hby at_197) rfl hr) ?_
        refine own_go (B := T13.setTop (mkF m 200 #[.val (.int ni), .val (.long la), .second, .val (.long lb), .second, .val (.long lc), .second, .val (.long ld), .second, .val (.int pi), .val (.long ka), .second, .val (.long kb), .second, .val (.long kc), .second, .val (.long kd), .second, .val (.int N), .val (.ref a4), .val (.int mi), .val (.int mj), .val (.int fi), .val (.long (kb + kc)), .second, .unset] [(.long ((10 : Int64) * (kb + kc))), (.long ka)])) (fun _ hr => XT.lmul X13.here hx rfl (hb hby at_199) rfl hr) ?_
        refine own_go (B := T13.setTop (mkF m 201 #[.val (.int ni), .val (.long la), .second, .val (.long lb), .second, .val (.long lc), .second, .val (.long ld), .second, .val (.int pi), .val (.long ka), .second, .val (.long kb), .second, .val (.long kc), .second, .val (.long kd), .second, .val (.int N), .val (.ref a4), .val (.int mi), .val (.int mj), .val (.int fi), .val (.long (kb + kc)), .second, .unset] [(.int (XT.cmpL ka ((10 : Int64) * (kb + kc))))])) (fun _ hr => XT.lcmp X13.here hx rfl (hb hby at_200) rfl hr) ?_
        by_cases c32 : ((10 : Int64) * (kb + kc)) < ka
        · refine own_go (B := T13.setTop (mkF m 209 #[.val (.int ni), .val (.long la), .second, .val (.long lb), .second, .val (.long lc), .second, .val (.long ld), .second, .val (.int pi), .val (.long ka), .second, .val (.long kb), .second, .val (.long kc), .second, .val (.long kd), .second, .val (.int N), .val (.ref a4), .val (.int mi), .val (.int mj), .val (.int fi), .val (.long (kb + kc)), .second, .unset] [])) (fun _ hr => XS.ifYes X13.here hx rfl (pc0 := 201) (pc' := 209) rfl (hb hby at_201) rfl (XT.ll_gt_t c32) (by decide) (by decide) hr) ?_
          refine own_go (B := T13.setTop (mkF m 210 #[.val (.int ni), .val (.long la), .second, .val (.long lb), .second, .val (.long lc), .second, .val (.long ld), .second, .val (.int pi), .val (.long ka), .second, .val (.long kb), .second, .val (.long kc), .second, .val (.long kd), .second, .val (.int N), .val (.ref a4), .val (.int mi), .val (.int mj), .val (.int fi), .val (.long (kb + kc)), .second, .unset] [(.int (-1 : Int32))])) (fun _ hr => XT.iconstV X13.here hx rfl (-1 : Int32) (hb hby at_209) (by decide) hr) ?_
          have q : (own_exp ka kb kc fi) = (-1 : Int32) := by simp only [own_exp, if_neg c5, if_neg c14, if_neg c31, if_pos c32]
          rw [q] at hk29
          exact hk29
        · refine own_go (B := T13.setTop (mkF m 204 #[.val (.int ni), .val (.long la), .second, .val (.long lb), .second, .val (.long lc), .second, .val (.long ld), .second, .val (.int pi), .val (.long ka), .second, .val (.long kb), .second, .val (.long kc), .second, .val (.long kd), .second, .val (.int N), .val (.ref a4), .val (.int mi), .val (.int mj), .val (.int fi), .val (.long (kb + kc)), .second, .unset] [])) (fun _ hr => XS.ifNo X13.here hx rfl (hb hby at_201) rfl (XT.ll_gt_f c32) hr) ?_
          refine own_go (B := T13.setTop (mkF m 206 #[.val (.int ni), .val (.long la), .second, .val (.long lb), .second, .val (.long lc), .second, .val (.long ld), .second, .val (.int pi), .val (.long ka), .second, .val (.long kb), .second, .val (.long kc), .second, .val (.long kd), .second, .val (.int N), .val (.ref a4), .val (.int mi), .val (.int mj), .val (.int fi), .val (.long (kb + kc)), .second, .unset] [(.int fi)])) (fun _ hr => XS.iload X13.here hx rfl (hb hby at_204) rfl hr) ?_
          refine own_go (B := T13.setTop (mkF m 210 #[.val (.int ni), .val (.long la), .second, .val (.long lb), .second, .val (.long lc), .second, .val (.long ld), .second, .val (.int pi), .val (.long ka), .second, .val (.long kb), .second, .val (.long kc), .second, .val (.long kd), .second, .val (.int N), .val (.ref a4), .val (.int mi), .val (.int mj), .val (.int fi), .val (.long (kb + kc)), .second, .unset] [(.int fi)])) (fun _ hr => XS.goto X13.here hx rfl (pc0 := 206) (pc' := 210) rfl (hb hby at_206) (by decide) (by decide) hr) ?_
          have q : (own_exp ka kb kc fi) = fi := by simp only [own_exp, if_neg c5, if_neg c14, if_neg c31, if_neg c32]
          rw [q] at hk29
          exact hk29
set_option maxRecDepth 65536 in
set_option maxHeartbeats 40000000 in
theorem comes_1 {Post : Tables → Env → Array Value → State → Outcome → State → Prop} (hpost : ∀ tb e args s v u, (limb_1_1.after args s (.returned v) u = true ∧ limb_1_2.after args s (.returned v) u = true ∧ True) → FrameEnd s (.returned v) u (Jvm.fieldLocs frame_1_writes args s ++ Jvm.arrayLocs frame_1_arrays args s ++ Jvm.staticLocs frame_1_statics s) 16 128 → Post tb e args s (.returned v) u) :
    ArmFor flags0 classFile x code maxLocals ret World_1 tables_1 room_1 Calls_1 rest_1 Pre_1 Post := by
  intro l hfl _ _ p e ha hc hk s m args below hf hA hF happ hP
  obtain ⟨hcalls, hrest, hpre⟩ := hP
  obtain ⟨-, -, -, hnamed, -, -, -, hat⟩ := (Spec.applies_iff hf).mp happ
  obtain ⟨hg, hn⟩ := and_e (Cond.before_iff.mp (show (Jvm.Cond.and given_1 narrow_1).before args s = true from hpre))
  obtain ⟨h1, g0⟩ := and_e hg
  obtain ⟨f0, g1⟩ := and_e g0
  obtain ⟨f1, g2⟩ := and_e g1
  obtain ⟨f2, g3⟩ := and_e g2
  obtain ⟨f3, g4⟩ := and_e g3
  obtain ⟨f4, g5⟩ := and_e g4
  obtain ⟨w0, w1, w2, w3, w4, w5, rfl⟩ : ∃ w0 w1 w2 w3 w4 w5 : Value, args = #[w0, w1, w2, w3, w4, w5] := by
    have hs : args.size = 6 := by simpa [Cond.value, given_1] using h1
    obtain ⟨L⟩ := args
    match L, hs with
    | [w0, w1, w2, w3, w4, w5], _ => exact ⟨w0, w1, w2, w3, w4, w5, rfl⟩
  have hw := fun d (hd : d ∈ tables_1) => atoms_spec (ws := Jvm.Cond.code x code maxLocals ret :: tables_1) hat d (List.mem_cons_of_mem _ hd)
  obtain ⟨i0, q0⟩ := is_v f0
  obtain rfl : w0 = (.int i0) := Option.some.inj q0
  obtain ⟨i1, q1⟩ := isL_v f1
  obtain rfl : w1 = (.long i1) := Option.some.inj q1
  obtain ⟨i2, q2⟩ := isL_v f2
  obtain rfl : w2 = (.long i2) := Option.some.inj q2
  obtain ⟨i3, q3⟩ := isL_v f3
  obtain rfl : w3 = (.long i3) := Option.some.inj q3
  obtain ⟨i4, q4⟩ := isL_v f4
  obtain rfl : w4 = (.long i4) := Option.some.inj q4
  obtain ⟨i5, q5⟩ := is_v g5
  obtain rfl : w5 = (.int i5) := Option.some.inj q5
  obtain ⟨n, o, h1, h2, h3, _, L, rfl, ⟨rfl, N⟩, hq⟩ := rm_law l s _ hw tables_1 i0 i1 i2 i3 i4 i5 s.heap s.heap.size (Nat.le_refl _) p e ha hc hk s m _ below hf ((Spec.applies_iff_loose hf).mp happ).1 ⟨rfl, State.Warmed39.refl s, rfl⟩ trivial
  refine ⟨n, _, h1, h2, h3, hpost _ _ _ _ _ _ ⟨Cond.after_iff.mpr rfl, Cond.after_iff.mpr (eq_i res_at (Term.int_eval (1)) rfl), trivial⟩ ⟨hq.1, hq.2.1, (hq.2.2.sift fun y hy => Or.inr (N y hy)).mono (by decide) (by decide)⟩⟩
theorem main_1_1 : Claimed_1_1 := comes_1 fun _ _ _ _ _ _ h hF => ⟨h.1, hF⟩
theorem main_1_2 : Claimed_1_2 := comes_1 fun _ _ _ _ _ _ h hF => ⟨h.2.1, hF⟩
end Jvm.Pilot.@@N@@
namespace Jvm.Pilot.@@N@@
open Jvm Jvm.ClassFile Sem Op Lib Jvm.Free Jvm.Stand Jvm.Pilot.@@N@@.Jvm.D
/-! MADE BY PROGRAM (witnessworld.py) out of the Statement's table words and the real class files: 11 classes; the members and pool entries that the words name. The judged class is class 1, her method 1. -/
namespace start1
open Jvm.ClassFile
def u (s : String) : CpInfo := .utf8 (stringToUtf16 s)
/-- a pool by its gaps: so many unusable entries, then the entry; so many at the end -/
def gap : Nat → List CpInfo → List CpInfo
  | 0, r => r
  | n + 1, r => .unusable :: gap n r
def poolList (es : List (Nat × CpInfo)) (last : Nat) : List CpInfo := es.foldr (fun e r => gap e.1 (e.2 :: r)) (gap last [])
def pool (es : List (Nat × CpInfo)) (last : Nat) : Array CpInfo := ⟨poolList es last⟩
def fileOf (pool : Array CpInfo) (this : Nat) (attrs : Array Attribute := #[]) (ms : Array MethodInfo := #[]) (fl : Nat := 33) (sup : Nat := 0) (ifs : Array Nat := #[]) (fds : Array FieldInfo := #[]) : ClassFile where
  minorVersion := 0
  majorVersion := 65
  constantPool := pool
  accessFlags := fl
  thisClass := this
  superClass := sup
  interfaces := ifs
  fields := fds
  methods := ms
  attributes := attrs
def plain (name : String) (sup : Option ClassId) : Class where
  name := name
  kind := .ordinary
  loader := none
  accessFlags := 33
  super := sup
  interfaces := #[]
  cf := none
  fields := #[]
  methods := #[]
  instanceTypes := #[]
  staticTypes := #[]
  resolved := #[]
  callSites := []
  init := .initialized
  statics := none
  mirror := none

def pool0 : Array CpInfo := pool [(5, u "<init>"), (0, u "()V"), (1, .class_ 10), (1, u "java/lang/Object")] 113

def k0m0 : Method := { name := "<init>", desc := "()V", sig := { parameters := [], returnType := none }, accessFlags := 1, code := none }
/-- java/lang/Object -/
def k0 : Class := { plain "java/lang/Object" none with
  accessFlags := 33
  interfaces := #[]
  cf := some (fileOf pool0 8 #[] #[{ accessFlags := 1, nameIndex := 5, descriptorIndex := 6, attributes := #[] }] 33 0 #[] #[])
  fields := #[]
  methods := #[k0m0]
  instanceTypes := #[]
  staticTypes := #[]
  resolved := Array.replicate 124 none
  statics := none }

def pool1 : Array CpInfo := pool [(2, .class_ 4), (1, u "java/lang/Object"), (0, u "<init>"), (0, u "()V"), (0, .long 288230376151711743), (1, .methodref 10 11), (0, .class_ 12), (0, .nameAndType 13 14), (0, u "com/example/cosine/cosine/index/MergePolicy"), (0, u "tail"), (0, u "([J)I"), (0, .long 1073741824), (1, .long 10), (1, .class_ 20), (0, u "com/example/cosine/cosine/index/MergePolicyTailPinLaw"), (2, u "law"), (0, u "(IJJJJI)Z")] 5

def k1m0 : Method := { name := "<init>", desc := "()V", sig := { parameters := [], returnType := none }, accessFlags := 1, code := none }
def k1c1 : Code := { maxStack := 6, maxLocals := 26, code := code, exceptionTable := #[], attributes := #[] }
def k1m1 : Method := { name := "law", desc := "(IJJJJI)Z", sig := { parameters := [.int, .long, .long, .long, .long, .int], returnType := some .boolean }, accessFlags := 9, code := some k1c1 }
/-- com/example/cosine/cosine/index/MergePolicyTailPinLaw -/
def k1 : Class := { plain "com/example/cosine/cosine/index/MergePolicyTailPinLaw" (some 0) with
  accessFlags := 49
  interfaces := #[]
  cf := some (fileOf pool1 19 #[] #[{ accessFlags := 1, nameIndex := 5, descriptorIndex := 6, attributes := #[] }, { accessFlags := 9, nameIndex := 23, descriptorIndex := 24, attributes := #[] }] 49 2 #[] #[])
  fields := #[]
  methods := #[k1m0, k1m1]
  instanceTypes := #[]
  staticTypes := #[]
  resolved := Array.replicate 30 none
  statics := none }

def pool2 : Array CpInfo := pool [(2, .class_ 4), (1, u "java/lang/Object"), (0, u "<init>"), (0, u "()V"), (0, .class_ 8), (0, u "com/example/cosine/cosine/index/MergePolicy"), (0, .long 1073741824), (1, .long 10), (10, u "FACTOR"), (0, u "I"), (2, u "MAX_SEGMENT_BYTES"), (0, u "J"), (2, u "tail"), (0, u "([J)I")] 9

def k2m0 : Method := { name := "<init>", desc := "()V", sig := { parameters := [], returnType := none }, accessFlags := 2, code := none }
def k2c1 : Code := { maxStack := 6, maxLocals := 5, code := prog_28_method_2_code, exceptionTable := #[], attributes := #[] }
def k2m1 : Method := { name := "tail", desc := "([J)I", sig := { parameters := [(.array .long)], returnType := some .int }, accessFlags := 8, code := some k2c1 }
/-- com/example/cosine/cosine/index/MergePolicy -/
def k2 : Class := { plain "com/example/cosine/cosine/index/MergePolicy" (some 0) with
  accessFlags := 48
  interfaces := #[]
  cf := some (fileOf pool2 7 #[] #[{ accessFlags := 2, nameIndex := 5, descriptorIndex := 6, attributes := #[] }, { accessFlags := 8, nameIndex := 30, descriptorIndex := 31, attributes := #[] }] 48 2 #[] #[{ accessFlags := 24, nameIndex := 22, descriptorIndex := 23, attributes := #[] }, { accessFlags := 24, nameIndex := 26, descriptorIndex := 27, attributes := #[] }])
  fields := #[{ name := "FACTOR", type := .int, accessFlags := 24, slot := 0, constantValue := 0 }, { name := "MAX_SEGMENT_BYTES", type := .long, accessFlags := 24, slot := 1, constantValue := 0 }]
  methods := #[k2m0, k2m1]
  instanceTypes := #[]
  staticTypes := #[.int, .long]
  resolved := Array.replicate 41 none
  statics := none }

def pool3 : Array CpInfo := pool [(1, u "java/lang/Cloneable"), (0, .class_ 1), (0, u "java/lang/Object"), (0, .class_ 3)] 3

/-- java/lang/Cloneable -/
def k3 : Class := { plain "java/lang/Cloneable" (some 0) with
  accessFlags := 1537
  interfaces := #[]
  cf := some (fileOf pool3 2 #[] #[] 1537 4 #[] #[])
  fields := #[]
  methods := #[]
  instanceTypes := #[]
  staticTypes := #[]
  resolved := Array.replicate 8 none
  statics := none }

def pool4 : Array CpInfo := pool [(1, u "java/io/Serializable"), (0, .class_ 1), (0, u "java/lang/Object"), (0, .class_ 3)] 3

/-- java/io/Serializable -/
def k4 : Class := { plain "java/io/Serializable" (some 0) with
  accessFlags := 1537
  interfaces := #[]
  cf := some (fileOf pool4 2 #[] #[] 1537 4 #[] #[])
  fields := #[]
  methods := #[]
  instanceTypes := #[]
  staticTypes := #[]
  resolved := Array.replicate 8 none
  statics := none }

/-- the primitive byte -/
def k5 : Class := { plain "byte" none with kind := .primitive 'B', accessFlags := 0x411 }
/-- [B -/
def k6 : Class := { plain "[B" (some 0) with kind := .array 5 .byte, interfaces := #[3, 4], accessFlags := 1041 }

/-- the primitive int -/
def k7 : Class := { plain "int" none with kind := .primitive 'I', accessFlags := 0x411 }
/-- [I -/
def k8 : Class := { plain "[I" (some 0) with kind := .array 7 .int, interfaces := #[3, 4], accessFlags := 1041 }

/-- the primitive long -/
def k9 : Class := { plain "long" none with kind := .primitive 'J', accessFlags := 0x411 }
/-- [J -/
def k10 : Class := { plain "[J" (some 0) with kind := .array 9 .long, interfaces := #[3, 4], accessFlags := 1041 }

def heap : Heap := #[]
def classes : Array Class := #[k0, k1, k2, k3, k4, k5, k6, k7, k8, k9, k10]
def interned : List (Array UInt16 × Addr) := []
def slotsUsed : Nat := 0
def theMethod : MethodId := ⟨1, 1⟩
def args0 : Array Value := #[.int 5, .long 7, .long 1, .long 1, .long 1, .int 3]
def aboutOver (below : List Frame) : State where
  vm := { classes := classes, interned := interned.toArray }
  heap := heap
  slotsUsed := slotsUsed
  threads := #[{ frames := .invoking theMethod args0 :: below }]
def below0 : List Frame := [.native { method := ⟨0, 0⟩, args := #[] }]
def about1 : State := aboutOver below0
def p0 : Program := .bare "" "" ""
def e0 : Env := launch0.env 0 0 0
theorem w_frames : about1.frames = Frame.invoking theMethod args0 :: below0 := rfl
set_option maxRecDepth 65536 in
theorem w_args : argsFit about1.vm theMethod args0 = true := by decide +kernel
set_option maxRecDepth 65536 in
theorem w_heap : heapFits about1 = true := by decide +kernel
set_option maxRecDepth 65536 in
theorem w_runnable : about1.curStatus? = some .runnable := by decide +kernel
set_option maxRecDepth 65536 in
theorem w_alone : about1.alone = true := by decide +kernel
set_option maxRecDepth 65536 in
theorem w_named : about1.methodNamed? x = some theMethod := by decide +kernel
set_option maxRecDepth 65536 in
theorem w_hears : about1.hears theMethod below0 = true := by decide +kernel
set_option maxRecDepth 65536 in
theorem w_ripe : about1.ripe theMethod args0 below0 = true := by decide +kernel
theorem w_running : about1.status = .running := rfl
set_option maxRecDepth 65536 in
theorem w_room : about1.hasRoom e0.platform room_1 = true :=
  launch0.hasRoom_least _ room_1 (by decide +kernel) (by decide +kernel) (by decide +kernel) (by decide +kernel) (by decide +kernel) (by decide +kernel)
theorem allAtoms_all (ts : List Jvm.Cond) (a : Array Jvm.Value) (st : Jvm.State) : (allAtoms ts).before a st = ts.all (fun c => c.before a st) := by
  induction ts with
  | nil => rfl
  | cons c t ih =>
    show (Jvm.Cond.and c (allAtoms t)).before a st = _
    rw [Jvm.Cond.before_and, ih, List.all_cons]
def words1 : List Jvm.Cond := Jvm.Cond.code x code maxLocals ret :: tables_1
/-- a 'code' word, met by the world's own term for the bytes: nothing is compared byte by byte -/
theorem code_word {y : MethodName} {bytes : ByteArray} {mx : Nat} {rt : Option FieldType} {a : Array Value} {s : State} {m : MethodId} {meth : Method} {c : Code} (h1 : s.methodNamed? y = some m) (h2 : s.vm.method? m = some meth) (h3 : meth.code = some c) (h4 : c.code = bytes)
    (h5 : (c.maxLocals == mx && c.exceptionTable.isEmpty && decide (c.maxStack ≤ mostOperands) && decide (meth.sig.returnType = rt) && !meth.locks && decide (parseMethodDescriptor y.desc = some meth.sig)) = true) : (Jvm.Cond.code y bytes mx rt).before a s = true := by
  simp only [Bool.and_eq_true, beq_iff_eq, Bool.not_eq_true', decide_eq_true_eq] at h5
  obtain ⟨⟨⟨⟨⟨g1, g2⟩, g3⟩, g4⟩, g5⟩, g6⟩ := h5
  simp [Cond.before, Cond.holds, Cond.value, h1, h2, h3, h4, g1, g2, g3, g4, g5, g6]
def isCode : Jvm.Cond → Bool
  | .code _ _ _ _ => true
  | _ => false
theorem all_split {L : List Jvm.Cond} {P : Jvm.Cond → Bool} (h1 : L.all (fun c => isCode c || P c) = true) (h2 : ∀ c ∈ L.filter isCode, P c = true) : L.all P = true := by
  refine List.all_eq_true.mpr fun c hc => ?_
  have h := List.all_eq_true.mp h1 c hc
  rcases Bool.eq_false_or_eq_true (isCode c) with hi | hi
  · exact h2 c (List.mem_filter.mpr ⟨hc, hi⟩)
  · simpa [hi] using h
set_option maxRecDepth 65536 in
theorem w_c0 : (Jvm.Cond.code x code maxLocals ret).before args0 about1 = true := code_word (m := ⟨1, 1⟩) (meth := k1m1) (c := k1c1) (by decide +kernel) rfl rfl rfl (by decide +kernel)
set_option maxRecDepth 65536 in
theorem w_c1 : (Jvm.Cond.code ({ cls := "com/example/cosine/cosine/index/MergePolicy", name := "tail", desc := "([J)I" } : Jvm.MethodName) prog_28_method_2_code (5 : Nat) (Option.some Jvm.ClassFile.FieldType.int)).before args0 about1 = true := code_word (m := ⟨2, 1⟩) (meth := k2m1) (c := k2c1) (by decide +kernel) rfl rfl rfl (by decide +kernel)
def codes1 : List Jvm.Cond := [Jvm.Cond.code x code maxLocals ret, Jvm.Cond.code ({ cls := "com/example/cosine/cosine/index/MergePolicy", name := "tail", desc := "([J)I" } : Jvm.MethodName) prog_28_method_2_code (5 : Nat) (Option.some Jvm.ClassFile.FieldType.int)]
set_option maxRecDepth 65536 in
theorem codes_eq : words1.filter isCode = codes1 := rfl
theorem w_codes : ∀ c ∈ words1.filter isCode, c.before args0 about1 = true := by
  rw [codes_eq]
  intro c hc
  simp only [codes1, List.mem_cons, List.not_mem_nil, or_false] at hc
  rcases hc with rfl | rfl
  · exact w_c0
  · exact w_c1
set_option maxRecDepth 65536 in
theorem w_t1 : words1.all (fun c => isCode c || c.before args0 about1) = true := by decide +kernel
theorem w_tables : (allAtoms (Jvm.Cond.code x code maxLocals ret :: tables_1)).before args0 about1 = true := by
  rw [allAtoms_all]
  show words1.all (fun c => c.before args0 about1) = true
  refine all_split ?_ w_codes
  rw [w_t1]
set_option maxRecDepth 65536 in
theorem w_case : (Jvm.Cond.and given_1 narrow_1).before args0 about1 = true := by decide +kernel
theorem w_applies : (headSpec (Jvm.Cond.code x code maxLocals ret :: tables_1) room_1).applies x e0.platform about1 = true :=
  (Spec.applies_iff w_frames).mpr ⟨w_running, w_runnable, w_alone, w_named, w_hears, w_ripe, w_room, w_tables⟩
theorem atStart : AtStart classFile x code maxLocals ret World_1 tables_1 room_1 Calls_1 rest_1 Pre_1 launch0 p0 e0 about1 theMethod args0 below0 :=
  ⟨lists_1, trivial, launch0.admits_env _ _ _, launch0.least_env, fairChoices_fair.cas, fairChoices_fair.clock, w_frames, w_args, w_heap, w_applies, trivial, trivial, w_case⟩
end start1
theorem witness_1 : WitnessClaimed_1 := ⟨start1.p0, start1.e0, start1.about1, start1.theMethod, start1.args0, start1.below0, start1.atStart⟩
end Jvm.Pilot.@@N@@
