import JvmDerived
import JvmDerived.Pilot.@@N@@Statement
import JvmDerived.Pilot.@@N@@Code
set_option linter.unusedVariables false
set_option linter.unusedSimpArgs false
@@BLOCK:NumsL.lean.txt@@
namespace Jvm.Pilot.@@N@@
open Jvm Jvm.ClassFile Sem Op Lib Jvm.Free Jvm.Stand Jvm.LawKit Jvm.RoadKit Bundle Jvm.Pilot.@@N@@.Jvm.D
section Own
variable {p : Program} {l : Launch} {e : Env} {R : Room} {s : State} {m : MethodId} {args : Array Value} {below : List Frame} {meth : Method} {c : Code} {T : State} {locs : List Loc} {cells slots : Nat}
/-- from A the run comes to an end of which P holds -/
def own_G (p : Program) (e : Env) (below : List Frame) (P : State → Outcome → Prop) (A : State) : Prop := ∃ s₂ o, Steps p.tables e below A s₂ ∧ P s₂ o
/-- the end of a body: it returned, Q holds of the answer, the heap and the places written, and the frame is kept -/
def own_P (s : State) (below : List Frame) (Q : Option Value → Heap → List Loc → Prop) (k n : Nat) (s₂ : State) (o : Outcome) : Prop := s₂.status = .running ∧ Ended s₂ below o ∧ ∃ v L, o = .returned v ∧ Q v s₂.heap L ∧ FrameEnd s o s₂ L k n
theorem own_go {P : State → Outcome → Prop} {A B : State} (k : ∀ t, Steps p.tables e below B t → Steps p.tables e below A t) (h : own_G p e below P B) : own_G p e below P A := by
  obtain ⟨s₂, o, h1, h2⟩ := h
  exact ⟨s₂, o, k _ h1, h2⟩
theorem own_gs {P : State → Outcome → Prop} {A B : State} (k : Steps p.tables e below A B) (h : own_G p e below P B) : own_G p e below P A := own_go (fun _ hr => k.trans hr) h
theorem own_end (X : Stand p l e R s m args below meth c T locs cells slots) (hlk : meth.locks = false) {v : Option Value} (hv : meth.sig.returnType = none → v = none) {A : State} {Q : Option Value → Heap → List Loc → Prop} {k n : Nat} (hk : cells ≤ k) (hn : slots ≤ n)
    (st : ∀ fs, (∀ (f : JFrame) (acts : List Action), f.method = m → f.locked = none → f.entered = [] → (doReturn e (T.setTop f) acts v).1 = T.setFrames fs) → Steps p.tables e below A (T.setFrames fs)) (q : Q v T.heap locs) : own_G p e below (own_P s below Q k n) A := by
  obtain ⟨fs, hr, hrun, hended, hW, hsame⟩ := X.leave (v := v) hv hlk
  exact ⟨_, _, st fs hr, hrun, hended, _, _, rfl, q, ⟨_, rfl⟩, hW, hsame.mono hk hn⟩
theorem own_retI (X : Stand p l e R s m args below meth c T locs cells slots) (hx : p.tables.exec = Jvm.exec) (hlk : meth.locks = false) {pc : Nat} {Ls : Array Slot} {z : Int32} {rest : List Value} {Q : Option Value → Heap → List Loc → Prop} {k n : Nat} (hret : meth.sig.returnType = some .int) (hd : decode c.code pc = .ok (.ireturn, 1)) (hk : cells ≤ k) (hn : slots ≤ n)
    (q : Q (some (.int z)) T.heap locs) : own_G p e below (own_P s below Q k n) (T.setTop (mkF m pc Ls (.int z :: rest))) :=
  own_end X hlk (fun h => by rw [hret] at h; cases h) hk hn (fun fs hr => retOut X hx hret rfl (Or.inl ⟨rfl, Or.inl rfl, z, rfl⟩) hd hr) q
theorem own_bit {z : Int32} (hz : z = 0 ∨ z = 1) : narrow .boolean (.int z) = .int z := by rcases hz with rfl | rfl <;> rfl
theorem own_retZ (X : Stand p l e R s m args below meth c T locs cells slots) (hx : p.tables.exec = Jvm.exec) (hlk : meth.locks = false) {pc : Nat} {Ls : Array Slot} {z : Int32} {rest : List Value} {Q : Option Value → Heap → List Loc → Prop} {k n : Nat} (hret : meth.sig.returnType = some .boolean) (hz : z = 0 ∨ z = 1) (hd : decode c.code pc = .ok (.ireturn, 1)) (hk : cells ≤ k) (hn : slots ≤ n)
    (q : Q (some (.int z)) T.heap locs) : own_G p e below (own_P s below Q k n) (T.setTop (mkF m pc Ls (.int z :: rest))) :=
  own_end X hlk (fun h => by rw [hret] at h; cases h) hk hn (fun fs hr => retOut X hx hret (own_bit hz) (Or.inl ⟨rfl, Or.inr (Or.inl rfl), z, rfl⟩) hd hr) q
theorem own_retJ (X : Stand p l e R s m args below meth c T locs cells slots) (hx : p.tables.exec = Jvm.exec) (hlk : meth.locks = false) {pc : Nat} {Ls : Array Slot} {z : Int64} {rest : List Value} {Q : Option Value → Heap → List Loc → Prop} {k n : Nat} (hret : meth.sig.returnType = some .long) (hd : decode c.code pc = .ok (.lreturn, 1)) (hk : cells ≤ k) (hn : slots ≤ n)
    (q : Q (some (.long z)) T.heap locs) : own_G p e below (own_P s below Q k n) (T.setTop (mkF m pc Ls (.long z :: rest))) :=
  own_end X hlk (fun h => by rw [hret] at h; cases h) hk hn (fun fs hr => retOut X hx hret rfl (Or.inr (Or.inl ⟨rfl, rfl, z, rfl⟩)) hd hr) q
theorem own_retA (X : Stand p l e R s m args below meth c T locs cells slots) (hx : p.tables.exec = Jvm.exec) (hlk : meth.locks = false) {pc : Nat} {Ls : Array Slot} {z : Addr} {t : FieldType} {rest : List Value} {Q : Option Value → Heap → List Loc → Prop} {k n : Nat} (hret : meth.sig.returnType = some t) (ht : t.isReference = true) (hn0 : narrow t (.ref z) = .ref z) (hd : decode c.code pc = .ok (.areturn, 1)) (hk : cells ≤ k) (hn : slots ≤ n)
    (q : Q (some (.ref z)) T.heap locs) : own_G p e below (own_P s below Q k n) (T.setTop (mkF m pc Ls (.ref z :: rest))) :=
  own_end X hlk (fun h => by rw [hret] at h; cases h) hk hn (fun fs hr => retOut X hx hret hn0 (Or.inr (Or.inr (Or.inr (Or.inr ⟨rfl, ht, rfl⟩)))) hd hr) q
theorem own_retV (X : Stand p l e R s m args below meth c T locs cells slots) (hx : p.tables.exec = Jvm.exec) (hlk : meth.locks = false) {pc : Nat} {Ls : Array Slot} {Q : Option Value → Heap → List Loc → Prop} {k n : Nat} (hret : meth.sig.returnType = none) (hd : decode c.code pc = .ok (.return_, 1)) (hk : cells ≤ k) (hn : slots ≤ n)
    (q : Q none T.heap locs) : own_G p e below (own_P s below Q k n) (T.setTop (mkF m pc Ls [])) :=
  own_end X hlk (fun _ => rfl) hk hn (fun fs hr => X.returnOut hx hret hd hr) q
end Own

section OwnArr
variable {p : Program} {l : Launch} {e : Env} {R : Room} {s : State} {m : MethodId} {args : Array Value} {below : List Frame} {meth : Method} {c : Code} {T : State} {locs : List Loc} {cells slots : Nat} {Z : State} {h h' : Heap} {a b : Addr} {ty : FieldType} {n : Nat} {f : Nat → Value}
/-- an array of n places, place i holds f i -/
def own_Ar (Z : State) (h : Heap) (a : Addr) (ty : FieldType) (n : Nat) (f : Nat → Value) : Prop := ∃ cl : Cell, Arr Z h a cl ty ∧ cl.slots.size = n ∧ ∀ i, i < n → cl.slots[i]? = some (f i)
theorem own_ltE {C : String} (F : Exa Z h a C) : @LT.lt Nat _ a h.size := F.lt
theorem own_Ar.lt (F : own_Ar Z h a ty n f) : @LT.lt Nat _ a h.size := by obtain ⟨cl, A, -⟩ := F; exact A.lt
theorem own_Ar.ext (F : own_Ar Z h a ty n f) (E : Ext h h') : own_Ar Z h' a ty n f := by obtain ⟨cl, A, r⟩ := F; exact ⟨cl, A.ext E, r⟩
theorem own_Ar.keep {ws : List Addr} (F : own_Ar Z h a ty n f) (K : Keep h h' ws) (q : a ∉ ws) : own_Ar Z h' a ty n f := by obtain ⟨cl, A, r⟩ := F; exact ⟨cl, ⟨K.2.1 a cl A.1 q, A.2⟩, r⟩
theorem own_Ar.other {sl : Nat} {v : Value} (F : own_Ar Z h b ty n f) (W : Wr h h' a sl v) (q : b ≠ a) : own_Ar Z h' b ty n f := by obtain ⟨cl, A, r⟩ := F; exact ⟨cl, A.other W q, r⟩
theorem own_Ar.set {j : Nat} {v : Value} (F : own_Ar Z h a ty n f) (W : Wr h h' a j v) : own_Ar Z h' a ty n (fun i => if i = j then v else f i) := by
  obtain ⟨cl, A, S, H⟩ := F
  refine ⟨_, A.same W, by rw [sz_set]; exact S, fun i hi => ?_⟩
  have hs : i < cl.slots.size := by rw [S]; exact hi
  show (cl.slots.setIfInBounds j v)[i]? = _
  rw [Array.getElem?_setIfInBounds]
  by_cases q : j = i
  · subst q; simp [hs]
  · have r : ¬ i = j := fun r => q r.symm
    show (if j = i then _ else cl.slots[i]?) = some (if i = j then v else f i)
    rw [if_neg q, if_neg r]; exact H i hi
theorem own_Ar.new {cA : ClassId} {nn : Int32} (A : Arr Z h a (newA cA ty nn) ty) (hn : nn.toInt = (n : Int)) : own_Ar Z h a ty n (fun _ => defaultValue ty) := by
  have hn' : nn.toNatClampNeg = n := by show nn.toInt.toNat = n; omega
  exact ⟨_, A, by rw [sz_new]; exact hn', fun i hi => by simp [newA, hn', hi]⟩
theorem own_Ar.congr {f' : Nat → Value} (F : own_Ar Z h a ty n f) (q : ∀ i, i < n → f i = f' i) : own_Ar Z h a ty n f' := by obtain ⟨cl, A, S, H⟩ := F; exact ⟨cl, A, S, fun i hi => by rw [← q i hi]; exact H i hi⟩
theorem own_Ar.setJ {j : Nat} {x : Int64} {g : Nat → Int64} (F : own_Ar Z h a ty n (fun i => .long (g i))) (W : Wr h h' a j (.long x)) : own_Ar Z h' a ty n (fun i => .long (if i = j then x else g i)) := (F.set W).congr fun i _ => by by_cases q : i = j <;> simp [q]
theorem own_Ar.setI {j : Nat} {x : Int32} {g : Nat → Int32} (F : own_Ar Z h a ty n (fun i => .int (g i))) (W : Wr h h' a j (.int x)) : own_Ar Z h' a ty n (fun i => .int (if i = j then x else g i)) := (F.set W).congr fun i _ => by by_cases q : i = j <;> simp [q]
theorem own_at {j : Int32} {i : Nat} (hj : j.toInt = (i : Int)) : ¬ j < 0 ∧ j.toNatClampNeg = i := ⟨by rw [Int32.lt_iff_toInt_lt, hj]; show ¬ ((i : Int) < 0); omega, by show j.toInt.toNat = i; omega⟩
theorem own_in {j : Int32} {i : Nat} (hj : j.toInt = (i : Int)) (hi : i < n) : ¬ (j < 0 ∨ n ≤ j.toNatClampNeg) := by
  obtain ⟨q1, q2⟩ := own_at hj
  rw [q2]
  rintro (r | r)
  · exact q1 r
  · omega
theorem own_plus {j k : Int32} {i q : Nat} (hj : j.toInt = (i : Int)) (hk : k.toInt = (q : Int)) (hb : i + q < 2147483648) : (j + k).toInt = ((i + q : Nat) : Int) := by
  have c := c_iadd j k
  have r := rng32 (j + k)
  omega
theorem own_minus {j k : Int32} {i q : Nat} (hj : j.toInt = (i : Int)) (hk : k.toInt = (q : Int)) (hb : q ≤ i) : (j - k).toInt = ((i - q : Nat) : Int) := by
  have c := c_isub j k
  have r := rng32 (j - k)
  have r2 := rng32 j
  omega
theorem own_stB (X : Stand p l e R s m args below meth c T locs cells slots) (hx : p.tables.exec = Jvm.exec) (hZ : Z.Warmed39 s.vm) (eT : T.heap = h) (F : own_Ar Z h a .byte n f) {j x y : Int32} {i : Nat} (hj : j.toInt = (i : Int)) (hi : i < n) (hy : x.toInt8.toInt32 = y) {g : JFrame} (hg : g.method = m) {rest : List Value} (hs : g.stack = .int x :: .int j :: .ref a :: rest) (hd : decode c.code g.pc = .ok (.bastore, 1)) :
    ∃ T' h', Stand p l e R s m args below meth c T' (locs ++ [⟨a, j.toNatClampNeg⟩]) cells slots ∧ T'.heap = h' ∧ Wr h h' a i (.int y) ∧ own_Ar Z h' a .byte n (fun k => if k = i then .int y else f k) ∧ ∀ target, Steps p.tables e below (T'.setTop { g with pc := g.pc + 1, stack := rest }) target → Steps p.tables e below (T.setTop g) target := by
  obtain ⟨cl, A, S, H⟩ := F
  obtain ⟨T', h', X', e', W', st⟩ := stB X hx hZ eT A (by rw [S]; exact own_in hj hi) hg hs hd
  have W2 : Wr h h' a i (.int y) := by
    have w := W'
    rw [(own_at hj).2] at w
    exact hy ▸ w
  exact ⟨T', h', X', e', W2, own_Ar.set ⟨cl, A, S, H⟩ W2, st⟩
theorem own_stI (X : Stand p l e R s m args below meth c T locs cells slots) (hx : p.tables.exec = Jvm.exec) (hZ : Z.Warmed39 s.vm) (eT : T.heap = h) (F : own_Ar Z h a .int n f) {j x : Int32} {i : Nat} (hj : j.toInt = (i : Int)) (hi : i < n) {g : JFrame} (hg : g.method = m) {rest : List Value} (hs : g.stack = .int x :: .int j :: .ref a :: rest) (hd : decode c.code g.pc = .ok (.iastore, 1)) :
    ∃ T' h', Stand p l e R s m args below meth c T' (locs ++ [⟨a, j.toNatClampNeg⟩]) cells slots ∧ T'.heap = h' ∧ Wr h h' a i (.int x) ∧ own_Ar Z h' a .int n (fun k => if k = i then .int x else f k) ∧ ∀ target, Steps p.tables e below (T'.setTop { g with pc := g.pc + 1, stack := rest }) target → Steps p.tables e below (T.setTop g) target := by
  obtain ⟨cl, A, S, H⟩ := F
  obtain ⟨T', h', X', e', W', st⟩ := stI X hx hZ eT A (by rw [S]; exact own_in hj hi) hg hs hd
  rw [(own_at hj).2] at W'
  exact ⟨T', h', X', e', W', own_Ar.set ⟨cl, A, S, H⟩ W', st⟩
theorem own_stJ (X : Stand p l e R s m args below meth c T locs cells slots) (hx : p.tables.exec = Jvm.exec) (hZ : Z.Warmed39 s.vm) (eT : T.heap = h) (F : own_Ar Z h a .long n f) {j : Int32} {x : Int64} {i : Nat} (hj : j.toInt = (i : Int)) (hi : i < n) {g : JFrame} (hg : g.method = m) {rest : List Value} (hs : g.stack = .long x :: .int j :: .ref a :: rest) (hd : decode c.code g.pc = .ok (.lastore, 1)) :
    ∃ T' h', Stand p l e R s m args below meth c T' (locs ++ [⟨a, j.toNatClampNeg⟩]) cells slots ∧ T'.heap = h' ∧ Wr h h' a i (.long x) ∧ own_Ar Z h' a .long n (fun k => if k = i then .long x else f k) ∧ ∀ target, Steps p.tables e below (T'.setTop { g with pc := g.pc + 1, stack := rest }) target → Steps p.tables e below (T.setTop g) target := by
  obtain ⟨cl, A, S, H⟩ := F
  obtain ⟨T', h', X', e', W', st⟩ := stJ X hx hZ eT A (by rw [S]; exact own_in hj hi) hg hs hd
  rw [(own_at hj).2] at W'
  exact ⟨T', h', X', e', W', own_Ar.set ⟨cl, A, S, H⟩ W', st⟩
theorem own_ldB (X : Stand p l e R s m args below meth c T locs cells slots) (hx : p.tables.exec = Jvm.exec) (hZ : Z.Warmed39 s.vm) (eT : T.heap = h) (F : own_Ar Z h a .byte n f) {j : Int32} {i : Nat} {v : Value} (hj : j.toInt = (i : Int)) (hi : i < n) (hv : f i = v) {g : JFrame} (hg : g.method = m) {rest : List Value} (hs : g.stack = .int j :: .ref a :: rest) (hd : decode c.code g.pc = .ok (.baload, 1)) (target : State)
    (hr : Steps p.tables e below (T.setTop { g with pc := g.pc + 1, stack := v :: rest }) target) : Steps p.tables e below (T.setTop g) target := by
  obtain ⟨cl, A, S, H⟩ := F
  exact X.baloadBytes hx (j := j) (v := v) (by rw [eT]; exact A.1) (State.isArrayOf_alike hZ.alike A.2.1) A.2.2 (by rw [S]; exact own_in hj hi) (by rw [(own_at hj).2, H i hi, hv]) hg hs hd _ hr
theorem own_ldI (X : Stand p l e R s m args below meth c T locs cells slots) (hx : p.tables.exec = Jvm.exec) (hZ : Z.Warmed39 s.vm) (eT : T.heap = h) (F : own_Ar Z h a .int n f) {j : Int32} {i : Nat} {v : Value} (hj : j.toInt = (i : Int)) (hi : i < n) (hv : f i = v) {g : JFrame} (hg : g.method = m) {rest : List Value} (hs : g.stack = .int j :: .ref a :: rest) (hd : decode c.code g.pc = .ok (.iaload, 1)) (target : State)
    (hr : Steps p.tables e below (T.setTop { g with pc := g.pc + 1, stack := v :: rest }) target) : Steps p.tables e below (T.setTop g) target := by
  obtain ⟨cl, A, S, H⟩ := F
  exact X.iaload hx (j := j) (v := v) (by rw [eT]; exact A.1) (State.isArrayOf_alike hZ.alike A.2.1) A.2.2 (by rw [S]; exact own_in hj hi) (by rw [(own_at hj).2, H i hi, hv]) hg hs hd _ hr
theorem own_ldJ (X : Stand p l e R s m args below meth c T locs cells slots) (hx : p.tables.exec = Jvm.exec) (hZ : Z.Warmed39 s.vm) (eT : T.heap = h) (F : own_Ar Z h a .long n f) {j : Int32} {i : Nat} {v : Value} (hj : j.toInt = (i : Int)) (hi : i < n) (hv : f i = v) {g : JFrame} (hg : g.method = m) {rest : List Value} (hs : g.stack = .int j :: .ref a :: rest) (hd : decode c.code g.pc = .ok (.laload, 1)) (target : State)
    (hr : Steps p.tables e below (T.setTop { g with pc := g.pc + 1, stack := v :: rest }) target) : Steps p.tables e below (T.setTop g) target := by
  obtain ⟨cl, A, S, H⟩ := F
  exact X.laload hx (j := j) (v := v) (by rw [eT]; exact A.1) (State.isArrayOf_alike hZ.alike A.2.1) A.2.2 (by rw [S]; exact own_in hj hi) (by rw [(own_at hj).2, H i hi, hv]) hg hs hd _ hr
theorem own_len (X : Stand p l e R s m args below meth c T locs cells slots) (hx : p.tables.exec = Jvm.exec) (hZ : Z.Warmed39 s.vm) (eT : T.heap = h) (F : own_Ar Z h a ty n f) {N : Int32} (hN : N.toInt = (n : Int)) {g : JFrame} (hg : g.method = m) {rest : List Value} (hs : g.stack = .ref a :: rest) (hd : decode c.code g.pc = .ok (.arraylength, 1)) (target : State)
    (hr : Steps p.tables e below (T.setTop { g with pc := g.pc + 1, stack := .int N :: rest }) target) : Steps p.tables e below (T.setTop g) target := by
  obtain ⟨cl, A, S, H⟩ := F
  have q : cl.slots.size.toInt32 = N := by
    have b := rng32 N
    rw [← Int32.toInt_inj, S, hN]
    exact len_toInt (by omega)
  exact X.arraylength hx (by rw [eT]; exact A.1) (State.isArrayOf_alike hZ.alike A.2.1) hg hs hd _ (by rw [q]; exact hr)
end OwnArr

/-- a Relation at a: its two arrays S, T (16 places), its size k, what the arrays hold -/
def own_Rel (Z : State) (h : Heap) (a S T : Addr) (k : Nat) (f g : Nat → Int32) : Prop :=
  Exa Z h a "com/example/wachter/wachter/rbac/Relation" ∧ Fld Z h a "com/example/wachter/wachter/rbac/Relation" "sources" "[I" (.ref S) ∧ Fld Z h a "com/example/wachter/wachter/rbac/Relation" "targets" "[I" (.ref T) ∧ (∃ z : Int32, z.toInt = (k : Int) ∧ Fld Z h a "com/example/wachter/wachter/rbac/Relation" "size" "I" (.int z)) ∧ own_Ar Z h S .int 16 (fun i => .int (f i)) ∧ own_Ar Z h T .int 16 (fun i => .int (g i)) ∧ S ≠ T ∧ S ≠ a ∧ T ≠ a
theorem d1_0 : decode method_3_code 0 = .ok (.iload_n 0, 1) := by decide +kernel
theorem d1_1 : decode method_3_code 1 = .ok (.iconst 3, 1) := by decide +kernel
theorem d1_2 : decode method_3_code 2 = .ok (.iand, 1) := by decide +kernel
theorem d1_3 : decode method_3_code 3 = .ok (.istore 4, 2) := by decide +kernel
theorem d1_5 : decode method_3_code 5 = .ok (.iload 4, 2) := by decide +kernel
theorem d1_7 : decode method_3_code 7 = .ok (.ifCond .ne 5, 3) := by decide +kernel
theorem d1_10 : decode method_3_code 10 = .ok (.iload_n 1, 1) := by decide +kernel
theorem d1_11 : decode method_3_code 11 = .ok (.ireturn, 1) := by decide +kernel
theorem d1_12 : decode method_3_code 12 = .ok (.iload 4, 2) := by decide +kernel
theorem d1_14 : decode method_3_code 14 = .ok (.iconst 1, 1) := by decide +kernel
theorem d1_15 : decode method_3_code 15 = .ok (.if_icmp .ne 5, 3) := by decide +kernel
theorem d1_18 : decode method_3_code 18 = .ok (.iload_n 2, 1) := by decide +kernel
theorem d1_19 : decode method_3_code 19 = .ok (.ireturn, 1) := by decide +kernel
theorem d1_20 : decode method_3_code 20 = .ok (.iload 4, 2) := by decide +kernel
theorem d1_22 : decode method_3_code 22 = .ok (.iconst 2, 1) := by decide +kernel
theorem d1_23 : decode method_3_code 23 = .ok (.if_icmp .ne 5, 3) := by decide +kernel
theorem d1_26 : decode method_3_code 26 = .ok (.iload_n 3, 1) := by decide +kernel
theorem d1_27 : decode method_3_code 27 = .ok (.ireturn, 1) := by decide +kernel
theorem d1_28 : decode method_3_code 28 = .ok (.iload_n 1, 1) := by decide +kernel
theorem d1_29 : decode method_3_code 29 = .ok (.iconst 1, 1) := by decide +kernel
theorem d1_30 : decode method_3_code 30 = .ok (.ixor, 1) := by decide +kernel
theorem d1_31 : decode method_3_code 31 = .ok (.ireturn, 1) := by decide +kernel
theorem pn_pick : plainName "com/example/wachter/wachter/rbac/RelationIndexOfPinLaw" = true := by first | (simp [plainName, overriddenIn]; done) | decide +kernel
theorem pd_pick : parseMethodDescriptor "(IIII)I" = some ⟨[.int, .int, .int, .int], some .int⟩ := by decide +kernel
theorem ef_pick (m : MethodId) (x0 : Int32) (x1 : Int32) (x2 : Int32) (x3 : Int32) : entryFrame m #[(.int x0), (.int x1), (.int x2), (.int x3)] 5 = mkF m 0 #[.val (.int x0), .val (.int x1), .val (.int x2), .val (.int x3), .unset] [] := by first | (simp [entryFrame, mkF, argsToLocals, Value.category, maxLocals]; done) | rfl
def Q_pick (Z : State) (bi : Int32) (ai : Int32) (bj : Int32) (ci : Int32) (h0 : Heap) (n0 : Nat) (v : Option Value) (h : Heap) (L : List Loc) : Prop := (∃ r : Int32, v = some (.int r)) ∧ Fr n0 L ∧ h = h0
set_option maxRecDepth 65536 in
set_option maxHeartbeats 40000000 in
theorem rm_pick (l : Launch) (Z : State) (a0 : Array Value) (hw : ∀ d ∈ tables_1, d.before a0 Z = true) (ws : List Jvm.Cond) (bi : Int32) (ai : Int32) (bj : Int32) (ci : Int32) (h0 : Heap) (n0 : Nat) (Z0 : n0 ≤ h0.size)  :
    MetFree l (⟨"com/example/wachter/wachter/rbac/RelationIndexOfPinLaw", "pick", "(IIII)I"⟩ : MethodName) (head1 (Jvm.Cond.code (⟨"com/example/wachter/wachter/rbac/RelationIndexOfPinLaw", "pick", "(IIII)I"⟩ : MethodName) method_3_code 5 (some .int) :: ws) ({ frames := 0, cells := 0, slots := 0, locals := 0 } : Room)) (fun as U => as = #[(.int bi), (.int ai), (.int bj), (.int ci)] ∧ Z.Warmed39 U.vm ∧ U.heap = h0) (fun _ _ _ _ _ => True) (fun _ U o U' => ∃ v L, o = .returned v ∧ Q_pick Z bi ai bj ci h0 n0 v U'.heap L ∧ FrameEnd U o U' L ({ frames := 0, cells := 0, slots := 0, locals := 0 } : Room).cells ({ frames := 0, cells := 0, slots := 0, locals := 0 } : Room).slots) := by
  refine MetFree.of_bodySF (plainFor_of_name pn_pick) hisR ?_
  intro p e s m args below meth c s₁ Bd hml0 hP hK
  obtain ⟨rfl, hZ, hh⟩ := hP
  have hx := Bd.exec
  have hby := Bd.bytes
  have hml : c.maxLocals = 5 := hml0
  have hown : s.vm.findClass "com/example/wachter/wachter/rbac/RelationIndexOfPinLaw" = some m.cls := findClass_of_methodNamed Bd.named
  have hnm := (name_of_methodNamed Bd.named Bd.method).1
  have hlk := BodyLoose.notSynchronized Bd
  have hret := Bd.returns
  have X0 : Stand p l e ({ frames := 0, cells := 0, slots := 0, locals := 0 } : Room) s m #[(.int bi), (.int ai), (.int bj), (.int ci)] below meth c s₁ [] 0 0 := Stand.of_body Bd
  have e0 : s₁.heap = h0 := by rw [← hh, Bd.state]; rfl
  have N0 := Fr.nil n0
  show own_G p e below (own_P s below (Q_pick Z bi ai bj ci h0 n0) ({ frames := 0, cells := 0, slots := 0, locals := 0 } : Room).cells ({ frames := 0, cells := 0, slots := 0, locals := 0 } : Room).slots) _
  refine own_go (B := s₁.setTop (mkF m 0 #[.val (.int bi), .val (.int ai), .val (.int bj), .val (.int ci), .unset] [])) (fun t k => castTop (ef_pick m bi ai bj ci) k) ?_
  refine own_go (B := s₁.setTop (mkF m 1 #[.val (.int bi), .val (.int ai), .val (.int bj), .val (.int ci), .unset] [(.int bi)])) (fun _ hr => XS.iloadN X0.here hx rfl (hb hby d1_0) rfl hr) ?_
  refine own_go (B := s₁.setTop (mkF m 2 #[.val (.int bi), .val (.int ai), .val (.int bj), .val (.int ci), .unset] [(.int (3 : Int32)), (.int bi)])) (fun _ hr => XT.iconstV X0.here hx rfl (3 : Int32) (hb hby d1_1) (by decide) hr) ?_
  refine own_go (B := s₁.setTop (mkF m 3 #[.val (.int bi), .val (.int ai), .val (.int bj), .val (.int ci), .unset] [(.int (bi &&& (3 : Int32)))])) (fun _ hr => XS.iand X0.here hx rfl (hb hby d1_2) rfl hr) ?_
  refine own_go (B := s₁.setTop (mkF m 5 #[.val (.int bi), .val (.int ai), .val (.int bj), .val (.int ci), .val (.int (bi &&& (3 : Int32)))] [])) (fun _ hr => XS.istore X0.here hx rfl (hb hby d1_3) rfl (l' := #[.val (.int bi), .val (.int ai), .val (.int bj), .val (.int ci), .val (.int (bi &&& (3 : Int32)))]) rfl hr) ?_
  refine own_go (B := s₁.setTop (mkF m 7 #[.val (.int bi), .val (.int ai), .val (.int bj), .val (.int ci), .val (.int (bi &&& (3 : Int32)))] [(.int (bi &&& (3 : Int32)))])) (fun _ hr => XS.iload X0.here hx rfl (hb hby d1_5) rfl hr) ?_
  by_cases c1 : (bi &&& (3 : Int32)) = 0
  · refine own_go (B := s₁.setTop (mkF m 10 #[.val (.int bi), .val (.int ai), .val (.int bj), .val (.int ci), .val (.int (bi &&& (3 : Int32)))] [])) (fun _ hr => XS.ifNo X0.here hx rfl (hb hby d1_7) rfl (XT.i0_ne_f c1) hr) ?_
    refine own_go (B := s₁.setTop (mkF m 11 #[.val (.int bi), .val (.int ai), .val (.int bj), .val (.int ci), .val (.int (bi &&& (3 : Int32)))] [(.int ai)])) (fun _ hr => XS.iloadN X0.here hx rfl (hb hby d1_10) rfl hr) ?_
    exact own_retI X0 hx hlk hret  (hb hby d1_11) (by decide) (by decide) ⟨⟨_, rfl⟩, N0, e0⟩
  · refine own_go (B := s₁.setTop (mkF m 12 #[.val (.int bi), .val (.int ai), .val (.int bj), .val (.int ci), .val (.int (bi &&& (3 : Int32)))] [])) (fun _ hr => XS.ifYes X0.here hx rfl (pc0 := 7) (pc' := 12) rfl (hb hby d1_7) rfl (XT.i0_ne_t c1) (by decide) (by decide) hr) ?_
    refine own_go (B := s₁.setTop (mkF m 14 #[.val (.int bi), .val (.int ai), .val (.int bj), .val (.int ci), .val (.int (bi &&& (3 : Int32)))] [(.int (bi &&& (3 : Int32)))])) (fun _ hr => XS.iload X0.here hx rfl (hb hby d1_12) rfl hr) ?_
    refine own_go (B := s₁.setTop (mkF m 15 #[.val (.int bi), .val (.int ai), .val (.int bj), .val (.int ci), .val (.int (bi &&& (3 : Int32)))] [(.int (1 : Int32)), (.int (bi &&& (3 : Int32)))])) (fun _ hr => XT.iconstV X0.here hx rfl (1 : Int32) (hb hby d1_14) (by decide) hr) ?_
    by_cases c2 : (bi &&& (3 : Int32)) = (1 : Int32)
    · refine own_go (B := s₁.setTop (mkF m 18 #[.val (.int bi), .val (.int ai), .val (.int bj), .val (.int ci), .val (.int (bi &&& (3 : Int32)))] [])) (fun _ hr => XS.icmpNo X0.here hx rfl (hb hby d1_15) rfl (XT.ii_ne_f c2) hr) ?_
      refine own_go (B := s₁.setTop (mkF m 19 #[.val (.int bi), .val (.int ai), .val (.int bj), .val (.int ci), .val (.int (bi &&& (3 : Int32)))] [(.int bj)])) (fun _ hr => XS.iloadN X0.here hx rfl (hb hby d1_18) rfl hr) ?_
      exact own_retI X0 hx hlk hret  (hb hby d1_19) (by decide) (by decide) ⟨⟨_, rfl⟩, N0, e0⟩
    · refine own_go (B := s₁.setTop (mkF m 20 #[.val (.int bi), .val (.int ai), .val (.int bj), .val (.int ci), .val (.int (bi &&& (3 : Int32)))] [])) (fun _ hr => XS.icmpYes X0.here hx rfl (pc0 := 15) (pc' := 20) rfl (hb hby d1_15) rfl (XT.ii_ne_t c2) (by decide) (by decide) hr) ?_
      refine own_go (B := s₁.setTop (mkF m 22 #[.val (.int bi), .val (.int ai), .val (.int bj), .val (.int ci), .val (.int (bi &&& (3 : Int32)))] [(.int (bi &&& (3 : Int32)))])) (fun _ hr => XS.iload X0.here hx rfl (hb hby d1_20) rfl hr) ?_
      refine own_go (B := s₁.setTop (mkF m 23 #[.val (.int bi), .val (.int ai), .val (.int bj), .val (.int ci), .val (.int (bi &&& (3 : Int32)))] [(.int (2 : Int32)), (.int (bi &&& (3 : Int32)))])) (fun _ hr => XT.iconstV X0.here hx rfl (2 : Int32) (hb hby d1_22) (by decide) hr) ?_
      by_cases c3 : (bi &&& (3 : Int32)) = (2 : Int32)
      · refine own_go (B := s₁.setTop (mkF m 26 #[.val (.int bi), .val (.int ai), .val (.int bj), .val (.int ci), .val (.int (bi &&& (3 : Int32)))] [])) (fun _ hr => XS.icmpNo X0.here hx rfl (hb hby d1_23) rfl (XT.ii_ne_f c3) hr) ?_
        refine own_go (B := s₁.setTop (mkF m 27 #[.val (.int bi), .val (.int ai), .val (.int bj), .val (.int ci), .val (.int (bi &&& (3 : Int32)))] [(.int ci)])) (fun _ hr => XS.iloadN X0.here hx rfl (hb hby d1_26) rfl hr) ?_
        exact own_retI X0 hx hlk hret  (hb hby d1_27) (by decide) (by decide) ⟨⟨_, rfl⟩, N0, e0⟩
      · refine own_go (B := s₁.setTop (mkF m 28 #[.val (.int bi), .val (.int ai), .val (.int bj), .val (.int ci), .val (.int (bi &&& (3 : Int32)))] [])) (fun _ hr => XS.icmpYes X0.here hx rfl (pc0 := 23) (pc' := 28) rfl (hb hby d1_23) rfl (XT.ii_ne_t c3) (by decide) (by decide) hr) ?_
        refine own_go (B := s₁.setTop (mkF m 29 #[.val (.int bi), .val (.int ai), .val (.int bj), .val (.int ci), .val (.int (bi &&& (3 : Int32)))] [(.int ai)])) (fun _ hr => XS.iloadN X0.here hx rfl (hb hby d1_28) rfl hr) ?_
        refine own_go (B := s₁.setTop (mkF m 30 #[.val (.int bi), .val (.int ai), .val (.int bj), .val (.int ci), .val (.int (bi &&& (3 : Int32)))] [(.int (1 : Int32)), (.int ai)])) (fun _ hr => XT.iconstV X0.here hx rfl (1 : Int32) (hb hby d1_29) (by decide) hr) ?_
        refine own_go (B := s₁.setTop (mkF m 31 #[.val (.int bi), .val (.int ai), .val (.int bj), .val (.int ci), .val (.int (bi &&& (3 : Int32)))] [(.int (ai ^^^ (1 : Int32)))])) (fun _ hr => XT.ixor X0.here hx rfl (hb hby d1_30) rfl hr) ?_
        exact own_retI X0 hx hlk hret  (hb hby d1_31) (by decide) (by decide) ⟨⟨_, rfl⟩, N0, e0⟩
theorem d2_0 : decode prog_15_method_1_code 0 = .ok (.aload_n 0, 1) := by decide +kernel
theorem d2_1 : decode prog_15_method_1_code 1 = .ok (.invokespecial 1, 3) := by decide +kernel
theorem d2_4 : decode prog_15_method_1_code 4 = .ok (.aload_n 0, 1) := by decide +kernel
theorem d2_5 : decode prog_15_method_1_code 5 = .ok (.bipush 16, 2) := by decide +kernel
theorem d2_7 : decode prog_15_method_1_code 7 = .ok (.newarray .int, 2) := by decide +kernel
theorem d2_9 : decode prog_15_method_1_code 9 = .ok (.putfield 7, 3) := by decide +kernel
theorem d2_12 : decode prog_15_method_1_code 12 = .ok (.aload_n 0, 1) := by decide +kernel
theorem d2_13 : decode prog_15_method_1_code 13 = .ok (.bipush 16, 2) := by decide +kernel
theorem d2_15 : decode prog_15_method_1_code 15 = .ok (.newarray .int, 2) := by decide +kernel
theorem d2_17 : decode prog_15_method_1_code 17 = .ok (.putfield 13, 3) := by decide +kernel
theorem d2_20 : decode prog_15_method_1_code 20 = .ok (.return_, 1) := by decide +kernel
theorem pn_init : plainName "com/example/wachter/wachter/rbac/Relation" = true := by first | (simp [plainName, overriddenIn]; done) | decide +kernel
theorem pd_init : parseMethodDescriptor "()V" = some ⟨[], none⟩ := by decide +kernel
theorem ef_init (m : MethodId) (x0 : Addr) : entryFrame m #[(.ref x0)] 1 = mkF m 0 #[.val (.ref x0)] [] := by first | (simp [entryFrame, mkF, argsToLocals, Value.category, maxLocals]; done) | rfl
def Q_init (Z : State) (a : Addr) (h0 : Heap) (n0 : Nat) (v : Option Value) (h : Heap) (L : List Loc) : Prop := v = none ∧ Fr n0 L ∧ Keep h0 h [a] ∧ ∃ S T : Addr, n0 ≤ S ∧ n0 ≤ T ∧ own_Rel Z h a S T 0 (fun _ => 0) (fun _ => 0)
set_option maxRecDepth 65536 in
set_option maxHeartbeats 40000000 in
theorem rm_init (l : Launch) (Z : State) (a0 : Array Value) (hw : ∀ d ∈ tables_1, d.before a0 Z = true) (ws : List Jvm.Cond) (a : Addr) (h0 : Heap) (n0 : Nat) (Z0 : n0 ≤ h0.size) (F1 : Fld Z h0 a "com/example/wachter/wachter/rbac/Relation" "sources" "[I" .null) (F2 : Fld Z h0 a "com/example/wachter/wachter/rbac/Relation" "targets" "[I" .null) (F3 : Fld Z h0 a "com/example/wachter/wachter/rbac/Relation" "size" "I" (.int (0 : Int32))) (E1 : Exa Z h0 a "com/example/wachter/wachter/rbac/Relation") (ge : n0 ≤ a) :
    MetFree l (⟨"com/example/wachter/wachter/rbac/Relation", "<init>", "()V"⟩ : MethodName) (head1 (Jvm.Cond.code (⟨"com/example/wachter/wachter/rbac/Relation", "<init>", "()V"⟩ : MethodName) prog_15_method_1_code 1 (none) :: ws) ({ frames := 1, cells := 2, slots := 32, locals := 12 } : Room)) (fun as U => as = #[(.ref a)] ∧ Z.Warmed39 U.vm ∧ U.heap = h0) (fun _ _ _ _ _ => True) (fun _ U o U' => ∃ v L, o = .returned v ∧ Q_init Z a h0 n0 v U'.heap L ∧ FrameEnd U o U' L ({ frames := 1, cells := 2, slots := 32, locals := 12 } : Room).cells ({ frames := 1, cells := 2, slots := 32, locals := 12 } : Room).slots) := by
  refine MetFree.of_bodySF (plainFor_of_name pn_init) hisR ?_
  intro p e s m args below meth c s₁ Bd hml0 hP hK
  obtain ⟨rfl, hZ, hh⟩ := hP
  have hx := Bd.exec
  have hby := Bd.bytes
  have hml : c.maxLocals = 1 := hml0
  have hown : s.vm.findClass "com/example/wachter/wachter/rbac/Relation" = some m.cls := findClass_of_methodNamed Bd.named
  have hnm := (name_of_methodNamed Bd.named Bd.method).1
  have hlk := BodyLoose.notSynchronized Bd
  have hret := Bd.returns
  have X0 : Stand p l e ({ frames := 1, cells := 2, slots := 32, locals := 12 } : Room) s m #[(.ref a)] below meth c s₁ [] 0 0 := Stand.of_body Bd
  have e0 : s₁.heap = h0 := by rw [← hh, Bd.state]; rfl
  have N0 := Fr.nil n0
  show own_G p e below (own_P s below (Q_init Z a h0 n0) ({ frames := 1, cells := 2, slots := 32, locals := 12 } : Room).cells ({ frames := 1, cells := 2, slots := 32, locals := 12 } : Room).slots) _
  refine own_go (B := s₁.setTop (mkF m 0 #[.val (.ref a)] [])) (fun t k => castTop (ef_init m a) k) ?_
  refine own_go (B := s₁.setTop (mkF m 1 #[.val (.ref a)] [(.ref a)])) (fun _ hr => XS.aloadN X0.here hx rfl (hb hby d2_0) rfl rfl hr) ?_
  obtain ⟨T4, X4, e4, st4⟩ := initO X0 hx hZ hown (hw _ (List.mem_of_getElem? (i := 10) rfl)) (hw _ (List.mem_of_getElem? (i := 11) rfl)) (hw _ (List.mem_of_getElem? (i := 12) rfl)) e0 (g := (mkF m 1 #[.val (.ref a)] [(.ref a)])) rfl (by rw [hml]; rfl) rfl (hb hby d2_1) (by decide) (W := 0) (by show 2 * 0 + _ ≤ _; exact Nat.le_of_eq rfl) (by decide)
  refine own_go (B := T4.setTop (mkF m 4 #[.val (.ref a)] [])) (fun t hr => st4 t hr) ?_
  refine own_go (B := T4.setTop (mkF m 5 #[.val (.ref a)] [(.ref a)])) (fun _ hr => XS.aloadN X4.here hx rfl (hb hby d2_4) rfl rfl hr) ?_
  refine own_go (B := T4.setTop (mkF m 7 #[.val (.ref a)] [(.int (16 : Int32)), (.ref a)])) (fun _ hr => XT.bipushV X4.here hx rfl (16 : Int32) (hb hby d2_5) (by decide) hr) ?_
  have nst : Jvm.RoadKit.slotOf Z "com/example/wachter/wachter/rbac/Relation" "sources" "[I" ≠ Jvm.RoadKit.slotOf Z "com/example/wachter/wachter/rbac/Relation" "targets" "[I" := slot_ne (Or.inl (hw _ (List.mem_of_getElem? (i := 15) rfl))) (Or.inl (hw _ (List.mem_of_getElem? (i := 17) rfl))) (t := .array .int) (t' := .array .int) (by decide) (by decide) (by decide)
  have nsz : Jvm.RoadKit.slotOf Z "com/example/wachter/wachter/rbac/Relation" "sources" "[I" ≠ Jvm.RoadKit.slotOf Z "com/example/wachter/wachter/rbac/Relation" "size" "I" := slot_ne (Or.inl (hw _ (List.mem_of_getElem? (i := 15) rfl))) (Or.inl (hw _ (List.mem_of_getElem? (i := 24) rfl))) (t := .array .int) (t' := .int) (by decide) (by decide) (by decide)
  have ntz : Jvm.RoadKit.slotOf Z "com/example/wachter/wachter/rbac/Relation" "targets" "[I" ≠ Jvm.RoadKit.slotOf Z "com/example/wachter/wachter/rbac/Relation" "size" "I" := slot_ne (Or.inl (hw _ (List.mem_of_getElem? (i := 17) rfl))) (Or.inl (hw _ (List.mem_of_getElem? (i := 24) rfl))) (t := .array .int) (t' := .int) (by decide) (by decide) (by decide)
  have la := own_ltE E1
  obtain ⟨T5, h5, cA5, X5, e5, E5, A5, st5⟩ := newP X4 hx hZ (hw _ (List.mem_of_getElem? (i := 13) rfl)) e4 (g := (mkF m 7 #[.val (.ref a)] [(.int (16 : Int32)), (.ref a)])) rfl (hb hby d2_7) rfl (by decide) (cap := 16) (by rw [(own_at (by decide : (16 : Int32).toInt = ((16 : Nat) : Int))).2]; omega) (by decide) (by decide) (by decide)
  obtain ⟨a5, g5⟩ : ∃ z, z = h0.size := ⟨_, rfl⟩
  rw [← g5] at A5 st5
  have V5 := own_Ar.new A5 (by decide : (16 : Int32).toInt = ((16 : Nat) : Int))
  refine own_go (B := T5.setTop (mkF m 9 #[.val (.ref a)] [(.ref a5), (.ref a)])) (fun t hr => st5 t hr) ?_
  obtain ⟨T6, h6, X6, e6, W6, st6⟩ := putF X5 hx hZ hown (host := "") (Or.inl (hw _ (List.mem_of_getElem? (i := 14) rfl))) Via.refl e5 (F1.ext E5) (E1.ext E5) (Or.inl (hw _ (List.mem_of_getElem? (i := 15) rfl))) (hw _ (List.mem_of_getElem? (i := 5) rfl)) (ty := (.array .int)) (by decide) rfl rfl (g := (mkF m 9 #[.val (.ref a)] [(.ref a5), (.ref a)])) rfl rfl (hb hby d2_9)
  have N6 := Fr.snoc X6 N0 ge
  refine own_go (B := T6.setTop (mkF m 12 #[.val (.ref a)] [])) (fun t hr => st6 t hr) ?_
  have Fa := (F1.ext E5).same W6
  have Fb := (F2.ext E5).other W6 (Or.inr nst.symm)
  have Fc := (F3.ext E5).other W6 (Or.inr nsz.symm)
  have nSa : a5 ≠ a := by omega
  have Va := V5.other W6 nSa
  have Ea := (E1.ext E5).wr W6
  have za := W6.size
  refine own_go (B := T6.setTop (mkF m 13 #[.val (.ref a)] [(.ref a)])) (fun _ hr => XS.aloadN X6.here hx rfl (hb hby d2_12) rfl rfl hr) ?_
  refine own_go (B := T6.setTop (mkF m 15 #[.val (.ref a)] [(.int (16 : Int32)), (.ref a)])) (fun _ hr => XT.bipushV X6.here hx rfl (16 : Int32) (hb hby d2_13) (by decide) hr) ?_
  obtain ⟨T7, h7, cA7, X7, e7, E7, A7, st7⟩ := newP X6 hx hZ (hw _ (List.mem_of_getElem? (i := 13) rfl)) e6 (g := (mkF m 15 #[.val (.ref a)] [(.int (16 : Int32)), (.ref a)])) rfl (hb hby d2_15) rfl (by decide) (cap := 16) (by rw [(own_at (by decide : (16 : Int32).toInt = ((16 : Nat) : Int))).2]; omega) (by decide) (by decide) (by decide)
  obtain ⟨a7, g7⟩ : ∃ z, z = h6.size := ⟨_, rfl⟩
  rw [← g7] at A7 st7
  have V7 := own_Ar.new A7 (by decide : (16 : Int32).toInt = ((16 : Nat) : Int))
  refine own_go (B := T7.setTop (mkF m 17 #[.val (.ref a)] [(.ref a7), (.ref a)])) (fun t hr => st7 t hr) ?_
  obtain ⟨T8, h8, X8, e8, W8, st8⟩ := putF X7 hx hZ hown (host := "") (Or.inl (hw _ (List.mem_of_getElem? (i := 16) rfl))) Via.refl e7 (Fb.ext E7) (Ea.ext E7) (Or.inl (hw _ (List.mem_of_getElem? (i := 17) rfl))) (hw _ (List.mem_of_getElem? (i := 5) rfl)) (ty := (.array .int)) (by decide) rfl rfl (g := (mkF m 17 #[.val (.ref a)] [(.ref a7), (.ref a)])) rfl rfl (hb hby d2_17)
  have N8 := Fr.snoc X8 N6 ge
  refine own_go (B := T8.setTop (mkF m 20 #[.val (.ref a)] [])) (fun t hr => st8 t hr) ?_
  have Fd := (Fa.ext E7).other W8 (Or.inr nst)
  have Fe := (Fb.ext E7).same W8
  have Ff := (Fc.ext E7).other W8 (Or.inr ntz.symm)
  have lb := Va.lt
  have nTa : a7 ≠ a := by have := own_ltE Ea; omega
  have Vb := (Va.ext E7).other W8 nSa
  have Vc := V7.other W8 nTa
  have Eb := (Ea.ext E7).wr W8
  have nST : a5 ≠ a7 := by omega
  have K : Keep h0 h8 [a] := ((((Keep.refl _ _).ext E5).wr W6 (Or.inl (List.mem_of_getElem? (i := 0) rfl))).ext E7).wr W8 (Or.inl (List.mem_of_getElem? (i := 0) rfl))
  exact own_retV X8 hx hlk hret  (hb hby d2_20) (by decide) (by decide) (by rw [e8]; exact ⟨rfl, N8, K, a5, a7, by omega, by omega, Eb, Fd, Fe, ⟨0, by decide, Ff⟩, Vb, Vc, nST, nSa, nTa⟩)
theorem d4_0 : decode prog_15_method_2_code 0 = .ok (.aload_n 0, 1) := by decide +kernel
theorem d4_1 : decode prog_15_method_2_code 1 = .ok (.getfield 16, 3) := by decide +kernel
theorem d4_4 : decode prog_15_method_2_code 4 = .ok (.aload_n 0, 1) := by decide +kernel
theorem d4_5 : decode prog_15_method_2_code 5 = .ok (.getfield 7, 3) := by decide +kernel
theorem d4_8 : decode prog_15_method_2_code 8 = .ok (.arraylength, 1) := by decide +kernel
theorem d4_9 : decode prog_15_method_2_code 9 = .ok (.if_icmp .ne 37, 3) := by decide +kernel
theorem d4_12 : decode prog_15_method_2_code 12 = .ok (.aload_n 0, 1) := by decide +kernel
theorem d4_13 : decode prog_15_method_2_code 13 = .ok (.aload_n 0, 1) := by decide +kernel
theorem d4_14 : decode prog_15_method_2_code 14 = .ok (.getfield 7, 3) := by decide +kernel
theorem d4_17 : decode prog_15_method_2_code 17 = .ok (.iconst 2, 1) := by decide +kernel
theorem d4_18 : decode prog_15_method_2_code 18 = .ok (.aload_n 0, 1) := by decide +kernel
theorem d4_19 : decode prog_15_method_2_code 19 = .ok (.getfield 16, 3) := by decide +kernel
theorem d4_22 : decode prog_15_method_2_code 22 = .ok (.imul, 1) := by decide +kernel
theorem d4_23 : decode prog_15_method_2_code 23 = .ok (.invokestatic 20, 3) := by decide +kernel
theorem d4_26 : decode prog_15_method_2_code 26 = .ok (.putfield 7, 3) := by decide +kernel
theorem d4_29 : decode prog_15_method_2_code 29 = .ok (.aload_n 0, 1) := by decide +kernel
theorem d4_30 : decode prog_15_method_2_code 30 = .ok (.aload_n 0, 1) := by decide +kernel
theorem d4_31 : decode prog_15_method_2_code 31 = .ok (.getfield 13, 3) := by decide +kernel
theorem d4_34 : decode prog_15_method_2_code 34 = .ok (.iconst 2, 1) := by decide +kernel
theorem d4_35 : decode prog_15_method_2_code 35 = .ok (.aload_n 0, 1) := by decide +kernel
theorem d4_36 : decode prog_15_method_2_code 36 = .ok (.getfield 16, 3) := by decide +kernel
theorem d4_39 : decode prog_15_method_2_code 39 = .ok (.imul, 1) := by decide +kernel
theorem d4_40 : decode prog_15_method_2_code 40 = .ok (.invokestatic 20, 3) := by decide +kernel
theorem d4_43 : decode prog_15_method_2_code 43 = .ok (.putfield 13, 3) := by decide +kernel
theorem d4_46 : decode prog_15_method_2_code 46 = .ok (.aload_n 0, 1) := by decide +kernel
theorem d4_47 : decode prog_15_method_2_code 47 = .ok (.getfield 7, 3) := by decide +kernel
theorem d4_50 : decode prog_15_method_2_code 50 = .ok (.aload_n 0, 1) := by decide +kernel
theorem d4_51 : decode prog_15_method_2_code 51 = .ok (.getfield 16, 3) := by decide +kernel
theorem d4_54 : decode prog_15_method_2_code 54 = .ok (.iload_n 1, 1) := by decide +kernel
theorem d4_55 : decode prog_15_method_2_code 55 = .ok (.iastore, 1) := by decide +kernel
theorem d4_56 : decode prog_15_method_2_code 56 = .ok (.aload_n 0, 1) := by decide +kernel
theorem d4_57 : decode prog_15_method_2_code 57 = .ok (.getfield 13, 3) := by decide +kernel
theorem d4_60 : decode prog_15_method_2_code 60 = .ok (.aload_n 0, 1) := by decide +kernel
theorem d4_61 : decode prog_15_method_2_code 61 = .ok (.getfield 16, 3) := by decide +kernel
theorem d4_64 : decode prog_15_method_2_code 64 = .ok (.iload_n 2, 1) := by decide +kernel
theorem d4_65 : decode prog_15_method_2_code 65 = .ok (.iastore, 1) := by decide +kernel
theorem d4_66 : decode prog_15_method_2_code 66 = .ok (.aload_n 0, 1) := by decide +kernel
theorem d4_67 : decode prog_15_method_2_code 67 = .ok (.dup, 1) := by decide +kernel
theorem d4_68 : decode prog_15_method_2_code 68 = .ok (.getfield 16, 3) := by decide +kernel
theorem d4_71 : decode prog_15_method_2_code 71 = .ok (.iconst 1, 1) := by decide +kernel
theorem d4_72 : decode prog_15_method_2_code 72 = .ok (.iadd, 1) := by decide +kernel
theorem d4_73 : decode prog_15_method_2_code 73 = .ok (.putfield 16, 3) := by decide +kernel
theorem d4_76 : decode prog_15_method_2_code 76 = .ok (.return_, 1) := by decide +kernel
theorem pn_add : plainName "com/example/wachter/wachter/rbac/Relation" = true := by first | (simp [plainName, overriddenIn]; done) | decide +kernel
theorem pd_add : parseMethodDescriptor "(II)V" = some ⟨[.int, .int], none⟩ := by decide +kernel
theorem ef_add (m : MethodId) (x0 : Addr) (x1 : Int32) (x2 : Int32) : entryFrame m #[(.ref x0), (.int x1), (.int x2)] 3 = mkF m 0 #[.val (.ref x0), .val (.int x1), .val (.int x2)] [] := by first | (simp [entryFrame, mkF, argsToLocals, Value.category, maxLocals]; done) | rfl
def Q_add (Z : State) (a : Addr) (xi : Int32) (yi : Int32) (S : Addr) (T0 : Addr) (k : Nat) (f : Nat → Int32) (g : Nat → Int32) (h0 : Heap) (n0 : Nat) (v : Option Value) (h : Heap) (L : List Loc) : Prop := v = none ∧ Fr n0 L ∧ n0 ≤ h.size ∧ own_Rel Z h a S T0 (k + 1) (fun i => if i = k then xi else f i) (fun i => if i = k then yi else g i)
set_option maxRecDepth 65536 in
set_option maxHeartbeats 40000000 in
theorem rm_add (l : Launch) (Z : State) (a0 : Array Value) (hw : ∀ d ∈ tables_1, d.before a0 Z = true) (ws : List Jvm.Cond) (a : Addr) (xi : Int32) (yi : Int32) (S : Addr) (T0 : Addr) (k : Nat) (f : Nat → Int32) (g : Nat → Int32) (h0 : Heap) (n0 : Nat) (Z0 : n0 ≤ h0.size) (H : own_Rel Z h0 a S T0 k f g) (hk : k < 16) (geA : n0 ≤ a) (geS : n0 ≤ S) (geT : n0 ≤ T0) :
    MetFree l (⟨"com/example/wachter/wachter/rbac/Relation", "add", "(II)V"⟩ : MethodName) (head1 (Jvm.Cond.code (⟨"com/example/wachter/wachter/rbac/Relation", "add", "(II)V"⟩ : MethodName) prog_15_method_2_code 3 (none) :: ws) ({ frames := 0, cells := 0, slots := 0, locals := 0 } : Room)) (fun as U => as = #[(.ref a), (.int xi), (.int yi)] ∧ Z.Warmed39 U.vm ∧ U.heap = h0) (fun _ _ _ _ _ => True) (fun _ U o U' => ∃ v L, o = .returned v ∧ Q_add Z a xi yi S T0 k f g h0 n0 v U'.heap L ∧ FrameEnd U o U' L ({ frames := 0, cells := 0, slots := 0, locals := 0 } : Room).cells ({ frames := 0, cells := 0, slots := 0, locals := 0 } : Room).slots) := by
  refine MetFree.of_bodySF (plainFor_of_name pn_add) hisR ?_
  intro p e s m args below meth c s₁ Bd hml0 hP hK
  obtain ⟨rfl, hZ, hh⟩ := hP
  have hx := Bd.exec
  have hby := Bd.bytes
  have hml : c.maxLocals = 3 := hml0
  have hown : s.vm.findClass "com/example/wachter/wachter/rbac/Relation" = some m.cls := findClass_of_methodNamed Bd.named
  have hnm := (name_of_methodNamed Bd.named Bd.method).1
  have hlk := BodyLoose.notSynchronized Bd
  have hret := Bd.returns
  have X0 : Stand p l e ({ frames := 0, cells := 0, slots := 0, locals := 0 } : Room) s m #[(.ref a), (.int xi), (.int yi)] below meth c s₁ [] 0 0 := Stand.of_body Bd
  have e0 : s₁.heap = h0 := by rw [← hh, Bd.state]; rfl
  have N0 := Fr.nil n0
  show own_G p e below (own_P s below (Q_add Z a xi yi S T0 k f g h0 n0) ({ frames := 0, cells := 0, slots := 0, locals := 0 } : Room).cells ({ frames := 0, cells := 0, slots := 0, locals := 0 } : Room).slots) _
  refine own_go (B := s₁.setTop (mkF m 0 #[.val (.ref a), .val (.int xi), .val (.int yi)] [])) (fun t k => castTop (ef_add m a xi yi) k) ?_
  obtain ⟨E1, F1, F2, ⟨z, hz, F3⟩, V1, V2, nST, nSa, nTa⟩ := H
  have nsz : Jvm.RoadKit.slotOf Z "com/example/wachter/wachter/rbac/Relation" "sources" "[I" ≠ Jvm.RoadKit.slotOf Z "com/example/wachter/wachter/rbac/Relation" "size" "I" := slot_ne (Or.inl (hw _ (List.mem_of_getElem? (i := 15) rfl))) (Or.inl (hw _ (List.mem_of_getElem? (i := 24) rfl))) (t := .array .int) (t' := .int) (by decide) (by decide) (by decide)
  have ntz : Jvm.RoadKit.slotOf Z "com/example/wachter/wachter/rbac/Relation" "targets" "[I" ≠ Jvm.RoadKit.slotOf Z "com/example/wachter/wachter/rbac/Relation" "size" "I" := slot_ne (Or.inl (hw _ (List.mem_of_getElem? (i := 17) rfl))) (Or.inl (hw _ (List.mem_of_getElem? (i := 24) rfl))) (t := .array .int) (t' := .int) (by decide) (by decide) (by decide)
  refine own_go (B := s₁.setTop (mkF m 1 #[.val (.ref a), .val (.int xi), .val (.int yi)] [(.ref a)])) (fun _ hr => XS.aloadN X0.here hx rfl (hb hby d4_0) rfl rfl hr) ?_
  obtain ⟨T9, X9, e9, st9⟩ := getF X0 hx hZ hown (host := "") (Or.inl (hw _ (List.mem_of_getElem? (i := 23) rfl))) Via.refl e0 F3 (g := (mkF m 1 #[.val (.ref a), .val (.int xi), .val (.int yi)] [(.ref a)])) rfl rfl (hb hby d4_1)
  refine own_go (B := T9.setTop (mkF m 4 #[.val (.ref a), .val (.int xi), .val (.int yi)] [(.int z)])) (fun t hr => st9 t hr) ?_
  refine own_go (B := T9.setTop (mkF m 5 #[.val (.ref a), .val (.int xi), .val (.int yi)] [(.ref a), (.int z)])) (fun _ hr => XS.aloadN X9.here hx rfl (hb hby d4_4) rfl rfl hr) ?_
  obtain ⟨T10, X10, e10, st10⟩ := getF X9 hx hZ hown (host := "") (Or.inl (hw _ (List.mem_of_getElem? (i := 14) rfl))) Via.refl e9 F1 (g := (mkF m 5 #[.val (.ref a), .val (.int xi), .val (.int yi)] [(.ref a), (.int z)])) rfl rfl (hb hby d4_5)
  refine own_go (B := T10.setTop (mkF m 8 #[.val (.ref a), .val (.int xi), .val (.int yi)] [(.ref S), (.int z)])) (fun t hr => st10 t hr) ?_
  refine own_go (B := T10.setTop (mkF m 9 #[.val (.ref a), .val (.int xi), .val (.int yi)] [(.int (16 : Int32)), (.int z)])) (fun _ hr => own_len X10 hx hZ e10 V1 (by decide : (16 : Int32).toInt = ((16 : Nat) : Int)) (g := (mkF m 8 #[.val (.ref a), .val (.int xi), .val (.int yi)] [(.ref S), (.int z)])) rfl rfl (hb hby d4_8) _ hr) ?_
  refine own_go (B := T10.setTop (mkF m 46 #[.val (.ref a), .val (.int xi), .val (.int yi)] [])) (fun _ hr => XS.icmpYes X10.here hx rfl (pc0 := 9) (pc' := 46) rfl (hb hby d4_9) rfl (XT.ii_ne_t (fun q => by rw [q] at hz; have : (16 : Int32).toInt = 16 := rfl; omega)) (by decide) (by decide) hr) ?_
  refine own_go (B := T10.setTop (mkF m 47 #[.val (.ref a), .val (.int xi), .val (.int yi)] [(.ref a)])) (fun _ hr => XS.aloadN X10.here hx rfl (hb hby d4_46) rfl rfl hr) ?_
  obtain ⟨T11, X11, e11, st11⟩ := getF X10 hx hZ hown (host := "") (Or.inl (hw _ (List.mem_of_getElem? (i := 14) rfl))) Via.refl e10 F1 (g := (mkF m 47 #[.val (.ref a), .val (.int xi), .val (.int yi)] [(.ref a)])) rfl rfl (hb hby d4_47)
  refine own_go (B := T11.setTop (mkF m 50 #[.val (.ref a), .val (.int xi), .val (.int yi)] [(.ref S)])) (fun t hr => st11 t hr) ?_
  refine own_go (B := T11.setTop (mkF m 51 #[.val (.ref a), .val (.int xi), .val (.int yi)] [(.ref a), (.ref S)])) (fun _ hr => XS.aloadN X11.here hx rfl (hb hby d4_50) rfl rfl hr) ?_
  obtain ⟨T12, X12, e12, st12⟩ := getF X11 hx hZ hown (host := "") (Or.inl (hw _ (List.mem_of_getElem? (i := 23) rfl))) Via.refl e11 F3 (g := (mkF m 51 #[.val (.ref a), .val (.int xi), .val (.int yi)] [(.ref a), (.ref S)])) rfl rfl (hb hby d4_51)
  refine own_go (B := T12.setTop (mkF m 54 #[.val (.ref a), .val (.int xi), .val (.int yi)] [(.int z), (.ref S)])) (fun t hr => st12 t hr) ?_
  refine own_go (B := T12.setTop (mkF m 55 #[.val (.ref a), .val (.int xi), .val (.int yi)] [(.int xi), (.int z), (.ref S)])) (fun _ hr => XS.iloadN X12.here hx rfl (hb hby d4_54) rfl hr) ?_
  obtain ⟨T13, h13, X13, e13, W13, V13, st13⟩ := own_stI X12 hx hZ e12 V1 hz hk (g := (mkF m 55 #[.val (.ref a), .val (.int xi), .val (.int yi)] [(.int xi), (.int z), (.ref S)])) rfl rfl (hb hby d4_55)
  have N13 := Fr.snoc X13 N0 geS
  refine own_go (B := T13.setTop (mkF m 56 #[.val (.ref a), .val (.int xi), .val (.int yi)] [])) (fun t hr => st13 t hr) ?_
  have V3 := V1.setI W13
  have V4 := V2.other W13 nST.symm
  have G1 := F1.other W13 (Or.inl nSa.symm)
  have G2 := F2.other W13 (Or.inl nSa.symm)
  have G3 := F3.other W13 (Or.inl nSa.symm)
  have E2 := E1.wr W13
  refine own_go (B := T13.setTop (mkF m 57 #[.val (.ref a), .val (.int xi), .val (.int yi)] [(.ref a)])) (fun _ hr => XS.aloadN X13.here hx rfl (hb hby d4_56) rfl rfl hr) ?_
  obtain ⟨T14, X14, e14, st14⟩ := getF X13 hx hZ hown (host := "") (Or.inl (hw _ (List.mem_of_getElem? (i := 16) rfl))) Via.refl e13 G2 (g := (mkF m 57 #[.val (.ref a), .val (.int xi), .val (.int yi)] [(.ref a)])) rfl rfl (hb hby d4_57)
  refine own_go (B := T14.setTop (mkF m 60 #[.val (.ref a), .val (.int xi), .val (.int yi)] [(.ref T0)])) (fun t hr => st14 t hr) ?_
  refine own_go (B := T14.setTop (mkF m 61 #[.val (.ref a), .val (.int xi), .val (.int yi)] [(.ref a), (.ref T0)])) (fun _ hr => XS.aloadN X14.here hx rfl (hb hby d4_60) rfl rfl hr) ?_
  obtain ⟨T15, X15, e15, st15⟩ := getF X14 hx hZ hown (host := "") (Or.inl (hw _ (List.mem_of_getElem? (i := 23) rfl))) Via.refl e14 G3 (g := (mkF m 61 #[.val (.ref a), .val (.int xi), .val (.int yi)] [(.ref a), (.ref T0)])) rfl rfl (hb hby d4_61)
  refine own_go (B := T15.setTop (mkF m 64 #[.val (.ref a), .val (.int xi), .val (.int yi)] [(.int z), (.ref T0)])) (fun t hr => st15 t hr) ?_
  refine own_go (B := T15.setTop (mkF m 65 #[.val (.ref a), .val (.int xi), .val (.int yi)] [(.int yi), (.int z), (.ref T0)])) (fun _ hr => XS.iloadN X15.here hx rfl (hb hby d4_64) rfl hr) ?_
  obtain ⟨T16, h16, X16, e16, W16, V16, st16⟩ := own_stI X15 hx hZ e15 V4 hz hk (g := (mkF m 65 #[.val (.ref a), .val (.int xi), .val (.int yi)] [(.int yi), (.int z), (.ref T0)])) rfl rfl (hb hby d4_65)
  have N16 := Fr.snoc X16 N13 geT
  refine own_go (B := T16.setTop (mkF m 66 #[.val (.ref a), .val (.int xi), .val (.int yi)] [])) (fun t hr => st16 t hr) ?_
  have V5 := V4.setI W16
  have V6 := V3.other W16 nST
  have H1 := G1.other W16 (Or.inl nTa.symm)
  have H2 := G2.other W16 (Or.inl nTa.symm)
  have H3 := G3.other W16 (Or.inl nTa.symm)
  have E3 := E2.wr W16
  refine own_go (B := T16.setTop (mkF m 67 #[.val (.ref a), .val (.int xi), .val (.int yi)] [(.ref a)])) (fun _ hr => XS.aloadN X16.here hx rfl (hb hby d4_66) rfl rfl hr) ?_
  refine own_go (B := T16.setTop (mkF m 68 #[.val (.ref a), .val (.int xi), .val (.int yi)] [(.ref a), (.ref a)])) (fun _ hr => XS.dup X16.here hx rfl (hb hby d4_67) rfl rfl hr) ?_
  obtain ⟨T17, X17, e17, st17⟩ := getF X16 hx hZ hown (host := "") (Or.inl (hw _ (List.mem_of_getElem? (i := 23) rfl))) Via.refl e16 H3 (g := (mkF m 68 #[.val (.ref a), .val (.int xi), .val (.int yi)] [(.ref a), (.ref a)])) rfl rfl (hb hby d4_68)
  refine own_go (B := T17.setTop (mkF m 71 #[.val (.ref a), .val (.int xi), .val (.int yi)] [(.int z), (.ref a)])) (fun t hr => st17 t hr) ?_
  refine own_go (B := T17.setTop (mkF m 72 #[.val (.ref a), .val (.int xi), .val (.int yi)] [(.int (1 : Int32)), (.int z), (.ref a)])) (fun _ hr => XT.iconstV X17.here hx rfl (1 : Int32) (hb hby d4_71) (by decide) hr) ?_
  refine own_go (B := T17.setTop (mkF m 73 #[.val (.ref a), .val (.int xi), .val (.int yi)] [(.int (z + (1 : Int32))), (.ref a)])) (fun _ hr => XS.iadd X17.here hx rfl (hb hby d4_72) rfl hr) ?_
  obtain ⟨T18, h18, X18, e18, W18, st18⟩ := putF X17 hx hZ hown (host := "") (Or.inl (hw _ (List.mem_of_getElem? (i := 23) rfl))) Via.refl e17 H3 E3 (Or.inl (hw _ (List.mem_of_getElem? (i := 24) rfl))) (hw _ (List.mem_of_getElem? (i := 5) rfl)) (ty := .int) (by decide) rfl rfl (g := (mkF m 73 #[.val (.ref a), .val (.int xi), .val (.int yi)] [(.int (z + (1 : Int32))), (.ref a)])) rfl rfl (hb hby d4_73)
  have N18 := Fr.snoc X18 N16 geA
  refine own_go (B := T18.setTop (mkF m 76 #[.val (.ref a), .val (.int xi), .val (.int yi)] [])) (fun t hr => st18 t hr) ?_
  have zs : n0 ≤ h18.size := by rw [W18.size, W16.size, W13.size]; exact Z0
  exact own_retV X18 hx hlk hret  (hb hby d4_76) (by decide) (by decide) (by rw [e18]; exact ⟨rfl, N18, zs, E3.wr W18, H1.other W18 (Or.inr nsz), H2.other W18 (Or.inr ntz), ⟨_, own_plus (q := 1) hz (by decide) (by omega), H3.same W18⟩, V6.other W18 nSa, V5.other W18 nTa, nST, nSa, nTa⟩)
theorem d5_0 : decode prog_15_method_3_code 0 = .ok (.iconst 0, 1) := by decide +kernel
theorem d5_1 : decode prog_15_method_3_code 1 = .ok (.istore_n 3, 1) := by decide +kernel
theorem d5_2 : decode prog_15_method_3_code 2 = .ok (.iload_n 3, 1) := by decide +kernel
theorem d5_3 : decode prog_15_method_3_code 3 = .ok (.aload_n 0, 1) := by decide +kernel
theorem d5_4 : decode prog_15_method_3_code 4 = .ok (.getfield 16, 3) := by decide +kernel
theorem d5_7 : decode prog_15_method_3_code 7 = .ok (.if_icmp .ge 31, 3) := by decide +kernel
theorem d5_10 : decode prog_15_method_3_code 10 = .ok (.aload_n 0, 1) := by decide +kernel
theorem d5_11 : decode prog_15_method_3_code 11 = .ok (.getfield 7, 3) := by decide +kernel
theorem d5_14 : decode prog_15_method_3_code 14 = .ok (.iload_n 3, 1) := by decide +kernel
theorem d5_15 : decode prog_15_method_3_code 15 = .ok (.iaload, 1) := by decide +kernel
theorem d5_16 : decode prog_15_method_3_code 16 = .ok (.iload_n 1, 1) := by decide +kernel
theorem d5_17 : decode prog_15_method_3_code 17 = .ok (.if_icmp .ne 15, 3) := by decide +kernel
theorem d5_20 : decode prog_15_method_3_code 20 = .ok (.aload_n 0, 1) := by decide +kernel
theorem d5_21 : decode prog_15_method_3_code 21 = .ok (.getfield 13, 3) := by decide +kernel
theorem d5_24 : decode prog_15_method_3_code 24 = .ok (.iload_n 3, 1) := by decide +kernel
theorem d5_25 : decode prog_15_method_3_code 25 = .ok (.iaload, 1) := by decide +kernel
theorem d5_26 : decode prog_15_method_3_code 26 = .ok (.iload_n 2, 1) := by decide +kernel
theorem d5_27 : decode prog_15_method_3_code 27 = .ok (.if_icmp .ne 5, 3) := by decide +kernel
theorem d5_30 : decode prog_15_method_3_code 30 = .ok (.iload_n 3, 1) := by decide +kernel
theorem d5_31 : decode prog_15_method_3_code 31 = .ok (.ireturn, 1) := by decide +kernel
theorem d5_32 : decode prog_15_method_3_code 32 = .ok (.iinc 3 1, 3) := by decide +kernel
theorem d5_35 : decode prog_15_method_3_code 35 = .ok (.goto (-33), 3) := by decide +kernel
theorem d5_38 : decode prog_15_method_3_code 38 = .ok (.iconst (-1), 1) := by decide +kernel
theorem d5_39 : decode prog_15_method_3_code 39 = .ok (.ireturn, 1) := by decide +kernel
def own_idx (f g : Nat → Int32) (qs qt : Int32) : Int32 → Nat → Nat → Int32
  | _, _, 0 => -1
  | Ii, i, k + 1 => if f i = qs then (if g i = qt then Ii else own_idx f g qs qt (Ii + 1) (i + 1) k) else own_idx f g qs qt (Ii + 1) (i + 1) k
set_option maxRecDepth 65536 in
set_option maxHeartbeats 4000000 in
theorem own_scan {p : Program} {l : Launch} {e : Env} {R : Room} {s : State} {m : MethodId} {args : Array Value} {below : List Frame} {meth : Method} {c : Code} {locs : List Loc} {cells slots : Nat} {Z : State} {a0 : Array Value} {h : Heap} (hx : p.tables.exec = Jvm.exec) (hby : c.code = prog_15_method_3_code) (hw : ∀ d ∈ tables_1, d.before a0 Z = true) (hZ : Z.Warmed39 s.vm) (hown : s.vm.findClass "com/example/wachter/wachter/rbac/Relation" = some m.cls) (hlk : meth.locks = false) (hret : meth.sig.returnType = some .int) {a S T0 : Addr} {n : Nat} {f g : Nat → Int32} {z qs qt rv : Int32} (F1 : Fld Z h a "com/example/wachter/wachter/rbac/Relation" "sources" "[I" (.ref S)) (F2 : Fld Z h a "com/example/wachter/wachter/rbac/Relation" "targets" "[I" (.ref T0)) (F3 : Fld Z h a "com/example/wachter/wachter/rbac/Relation" "size" "I" (.int z)) (hz : z.toInt = (n : Int)) (hn : n ≤ 16) (V1 : own_Ar Z h S .int 16 (fun i => .int (f i))) (V2 : own_Ar Z h T0 .int 16 (fun i => .int (g i))) {Q : Option Value → Heap → List Loc → Prop} {kc kn : Nat} (hkc : cells ≤ kc) (hkn : slots ≤ kn) (hQ : Q (some (.int rv)) h locs) :
    ∀ (k i : Nat) (Ii : Int32) (T : State), Stand p l e R s m args below meth c T locs cells slots → T.heap = h → Ii.toInt = (i : Int) → i + k = n → own_idx f g qs qt Ii i k = rv → own_G p e below (own_P s below Q kc kn) (T.setTop (mkF m 2 #[.val (.ref a), .val (.int qs), .val (.int qt), .val (.int Ii)] [])) := by
  intro k
  induction k with
  | zero =>
    intro i Ii T X eT hi hk hrv
    refine own_go (B := T.setTop (mkF m 3 #[.val (.ref a), .val (.int qs), .val (.int qt), .val (.int Ii)] [(.int Ii)])) (fun _ hr => XS.iloadN X.here hx rfl (hb hby d5_2) rfl hr) ?_
    refine own_go (B := T.setTop (mkF m 4 #[.val (.ref a), .val (.int qs), .val (.int qt), .val (.int Ii)] [(.ref a), (.int Ii)])) (fun _ hr => XS.aloadN X.here hx rfl (hb hby d5_3) rfl rfl hr) ?_
    obtain ⟨T19, X19, e19, st19⟩ := getF X hx hZ hown (host := "") (Or.inl (hw _ (List.mem_of_getElem? (i := 23) rfl))) Via.refl eT F3 (g := (mkF m 4 #[.val (.ref a), .val (.int qs), .val (.int qt), .val (.int Ii)] [(.ref a), (.int Ii)])) rfl rfl (hb hby d5_4)
    refine own_go (B := T19.setTop (mkF m 7 #[.val (.ref a), .val (.int qs), .val (.int qt), .val (.int Ii)] [(.int z), (.int Ii)])) (fun t hr => st19 t hr) ?_
    refine own_go (B := T19.setTop (mkF m 38 #[.val (.ref a), .val (.int qs), .val (.int qt), .val (.int Ii)] [])) (fun _ hr => XS.icmpYes X19.here hx rfl (pc0 := 7) (pc' := 38) rfl (hb hby d5_7) rfl (XT.ii_ge_t (by rw [Int32.lt_iff_toInt_lt]; omega)) (by decide) (by decide) hr) ?_
    refine own_go (B := T19.setTop (mkF m 39 #[.val (.ref a), .val (.int qs), .val (.int qt), .val (.int Ii)] [(.int (-1 : Int32))])) (fun _ hr => XT.iconstV X19.here hx rfl (-1 : Int32) (hb hby d5_38) (by decide) hr) ?_
    exact own_retI X19 hx hlk hret (hb hby d5_39) hkc hkn (by rw [e19]; exact (show Q (some (.int (-1 : Int32))) h locs from (show (-1 : Int32) = rv from hrv) ▸ hQ))
  | succ k ih =>
    intro i Ii T X eT hi hk hrv
    refine own_go (B := T.setTop (mkF m 3 #[.val (.ref a), .val (.int qs), .val (.int qt), .val (.int Ii)] [(.int Ii)])) (fun _ hr => XS.iloadN X.here hx rfl (hb hby d5_2) rfl hr) ?_
    refine own_go (B := T.setTop (mkF m 4 #[.val (.ref a), .val (.int qs), .val (.int qt), .val (.int Ii)] [(.ref a), (.int Ii)])) (fun _ hr => XS.aloadN X.here hx rfl (hb hby d5_3) rfl rfl hr) ?_
    obtain ⟨T20, X20, e20, st20⟩ := getF X hx hZ hown (host := "") (Or.inl (hw _ (List.mem_of_getElem? (i := 23) rfl))) Via.refl eT F3 (g := (mkF m 4 #[.val (.ref a), .val (.int qs), .val (.int qt), .val (.int Ii)] [(.ref a), (.int Ii)])) rfl rfl (hb hby d5_4)
    refine own_go (B := T20.setTop (mkF m 7 #[.val (.ref a), .val (.int qs), .val (.int qt), .val (.int Ii)] [(.int z), (.int Ii)])) (fun t hr => st20 t hr) ?_
    refine own_go (B := T20.setTop (mkF m 10 #[.val (.ref a), .val (.int qs), .val (.int qt), .val (.int Ii)] [])) (fun _ hr => XS.icmpNo X20.here hx rfl (hb hby d5_7) rfl (XT.ii_ge_f (by rw [Int32.lt_iff_toInt_lt]; omega)) hr) ?_
    refine own_go (B := T20.setTop (mkF m 11 #[.val (.ref a), .val (.int qs), .val (.int qt), .val (.int Ii)] [(.ref a)])) (fun _ hr => XS.aloadN X20.here hx rfl (hb hby d5_10) rfl rfl hr) ?_
    obtain ⟨T21, X21, e21, st21⟩ := getF X20 hx hZ hown (host := "") (Or.inl (hw _ (List.mem_of_getElem? (i := 14) rfl))) Via.refl e20 F1 (g := (mkF m 11 #[.val (.ref a), .val (.int qs), .val (.int qt), .val (.int Ii)] [(.ref a)])) rfl rfl (hb hby d5_11)
    refine own_go (B := T21.setTop (mkF m 14 #[.val (.ref a), .val (.int qs), .val (.int qt), .val (.int Ii)] [(.ref S)])) (fun t hr => st21 t hr) ?_
    refine own_go (B := T21.setTop (mkF m 15 #[.val (.ref a), .val (.int qs), .val (.int qt), .val (.int Ii)] [(.int Ii), (.ref S)])) (fun _ hr => XS.iloadN X21.here hx rfl (hb hby d5_14) rfl hr) ?_
    refine own_go (B := T21.setTop (mkF m 16 #[.val (.ref a), .val (.int qs), .val (.int qt), .val (.int Ii)] [(.int (f i))])) (fun _ hr => own_ldI X21 hx hZ e21 V1 hi (by omega) rfl (g := (mkF m 15 #[.val (.ref a), .val (.int qs), .val (.int qt), .val (.int Ii)] [(.int Ii), (.ref S)])) rfl rfl (hb hby d5_15) _ hr) ?_
    refine own_go (B := T21.setTop (mkF m 17 #[.val (.ref a), .val (.int qs), .val (.int qt), .val (.int Ii)] [(.int qs), (.int (f i))])) (fun _ hr => XS.iloadN X21.here hx rfl (hb hby d5_16) rfl hr) ?_
    by_cases c22 : (f i) = qs
    · refine own_go (B := T21.setTop (mkF m 20 #[.val (.ref a), .val (.int qs), .val (.int qt), .val (.int Ii)] [])) (fun _ hr => XS.icmpNo X21.here hx rfl (hb hby d5_17) rfl (XT.ii_ne_f c22) hr) ?_
      refine own_go (B := T21.setTop (mkF m 21 #[.val (.ref a), .val (.int qs), .val (.int qt), .val (.int Ii)] [(.ref a)])) (fun _ hr => XS.aloadN X21.here hx rfl (hb hby d5_20) rfl rfl hr) ?_
      obtain ⟨T23, X23, e23, st23⟩ := getF X21 hx hZ hown (host := "") (Or.inl (hw _ (List.mem_of_getElem? (i := 16) rfl))) Via.refl e21 F2 (g := (mkF m 21 #[.val (.ref a), .val (.int qs), .val (.int qt), .val (.int Ii)] [(.ref a)])) rfl rfl (hb hby d5_21)
      refine own_go (B := T23.setTop (mkF m 24 #[.val (.ref a), .val (.int qs), .val (.int qt), .val (.int Ii)] [(.ref T0)])) (fun t hr => st23 t hr) ?_
      refine own_go (B := T23.setTop (mkF m 25 #[.val (.ref a), .val (.int qs), .val (.int qt), .val (.int Ii)] [(.int Ii), (.ref T0)])) (fun _ hr => XS.iloadN X23.here hx rfl (hb hby d5_24) rfl hr) ?_
      refine own_go (B := T23.setTop (mkF m 26 #[.val (.ref a), .val (.int qs), .val (.int qt), .val (.int Ii)] [(.int (g i))])) (fun _ hr => own_ldI X23 hx hZ e23 V2 hi (by omega) rfl (g := (mkF m 25 #[.val (.ref a), .val (.int qs), .val (.int qt), .val (.int Ii)] [(.int Ii), (.ref T0)])) rfl rfl (hb hby d5_25) _ hr) ?_
      refine own_go (B := T23.setTop (mkF m 27 #[.val (.ref a), .val (.int qs), .val (.int qt), .val (.int Ii)] [(.int qt), (.int (g i))])) (fun _ hr => XS.iloadN X23.here hx rfl (hb hby d5_26) rfl hr) ?_
      by_cases c24 : (g i) = qt
      · refine own_go (B := T23.setTop (mkF m 30 #[.val (.ref a), .val (.int qs), .val (.int qt), .val (.int Ii)] [])) (fun _ hr => XS.icmpNo X23.here hx rfl (hb hby d5_27) rfl (XT.ii_ne_f c24) hr) ?_
        refine own_go (B := T23.setTop (mkF m 31 #[.val (.ref a), .val (.int qs), .val (.int qt), .val (.int Ii)] [(.int Ii)])) (fun _ hr => XS.iloadN X23.here hx rfl (hb hby d5_30) rfl hr) ?_
        rw [own_idx] at hrv
        simp only [if_pos c22, if_pos c24] at hrv
        exact own_retI X23 hx hlk hret (hb hby d5_31) hkc hkn (by rw [e23]; exact (hrv ▸ hQ))
      · refine own_go (B := T23.setTop (mkF m 32 #[.val (.ref a), .val (.int qs), .val (.int qt), .val (.int Ii)] [])) (fun _ hr => XS.icmpYes X23.here hx rfl (pc0 := 27) (pc' := 32) rfl (hb hby d5_27) rfl (XT.ii_ne_t c24) (by decide) (by decide) hr) ?_
        refine own_go (B := T23.setTop (mkF m 35 #[.val (.ref a), .val (.int qs), .val (.int qt), .val (.int (Ii + (1 : Int32)))] [])) (fun _ hr => XT.iincV X23.here hx rfl (1 : Int32) (hb hby d5_32) (by decide) rfl (l' := #[.val (.ref a), .val (.int qs), .val (.int qt), .val (.int (Ii + (1 : Int32)))]) rfl hr) ?_
        refine own_go (B := T23.setTop (mkF m 2 #[.val (.ref a), .val (.int qs), .val (.int qt), .val (.int (Ii + (1 : Int32)))] [])) (fun _ hr => XS.goto X23.here hx rfl (pc0 := 35) (pc' := 2) rfl (hb hby d5_35) (by decide) (by decide) hr) ?_
        refine ih (i + 1) _ _ X23 e23 (own_plus (q := 1) hi (by decide) (by omega)) (by omega) ?_
        rw [own_idx] at hrv
        simp only [if_pos c22, if_neg c24] at hrv
        exact hrv
    · refine own_go (B := T21.setTop (mkF m 32 #[.val (.ref a), .val (.int qs), .val (.int qt), .val (.int Ii)] [])) (fun _ hr => XS.icmpYes X21.here hx rfl (pc0 := 17) (pc' := 32) rfl (hb hby d5_17) rfl (XT.ii_ne_t c22) (by decide) (by decide) hr) ?_
      refine own_go (B := T21.setTop (mkF m 35 #[.val (.ref a), .val (.int qs), .val (.int qt), .val (.int (Ii + (1 : Int32)))] [])) (fun _ hr => XT.iincV X21.here hx rfl (1 : Int32) (hb hby d5_32) (by decide) rfl (l' := #[.val (.ref a), .val (.int qs), .val (.int qt), .val (.int (Ii + (1 : Int32)))]) rfl hr) ?_
      refine own_go (B := T21.setTop (mkF m 2 #[.val (.ref a), .val (.int qs), .val (.int qt), .val (.int (Ii + (1 : Int32)))] [])) (fun _ hr => XS.goto X21.here hx rfl (pc0 := 35) (pc' := 2) rfl (hb hby d5_35) (by decide) (by decide) hr) ?_
      refine ih (i + 1) _ _ X21 e21 (own_plus (q := 1) hi (by decide) (by omega)) (by omega) ?_
      rw [own_idx] at hrv
      simp only [if_neg c22] at hrv
      exact hrv
theorem pn_index : plainName "com/example/wachter/wachter/rbac/Relation" = true := by first | (simp [plainName, overriddenIn]; done) | decide +kernel
theorem pd_index : parseMethodDescriptor "(II)I" = some ⟨[.int, .int], some .int⟩ := by decide +kernel
theorem ef_index (m : MethodId) (x0 : Addr) (x1 : Int32) (x2 : Int32) : entryFrame m #[(.ref x0), (.int x1), (.int x2)] 4 = mkF m 0 #[.val (.ref x0), .val (.int x1), .val (.int x2), .unset] [] := by first | (simp [entryFrame, mkF, argsToLocals, Value.category, maxLocals]; done) | rfl
def Q_index (Z : State) (a : Addr) (qs : Int32) (qt : Int32) (S : Addr) (T0 : Addr) (k : Nat) (f : Nat → Int32) (g : Nat → Int32) (rv : Int32) (h0 : Heap) (n0 : Nat) (v : Option Value) (h : Heap) (L : List Loc) : Prop := v = some (.int rv) ∧ Fr n0 L ∧ h = h0
set_option maxRecDepth 65536 in
set_option maxHeartbeats 40000000 in
theorem rm_index (l : Launch) (Z : State) (a0 : Array Value) (hw : ∀ d ∈ tables_1, d.before a0 Z = true) (ws : List Jvm.Cond) (a : Addr) (qs : Int32) (qt : Int32) (S : Addr) (T0 : Addr) (k : Nat) (f : Nat → Int32) (g : Nat → Int32) (rv : Int32) (h0 : Heap) (n0 : Nat) (Z0 : n0 ≤ h0.size) (H : own_Rel Z h0 a S T0 k f g) (hk : k ≤ 16) (hrv : own_idx f g qs qt 0 0 k = rv) :
    MetFree l (⟨"com/example/wachter/wachter/rbac/Relation", "indexOf", "(II)I"⟩ : MethodName) (head1 (Jvm.Cond.code (⟨"com/example/wachter/wachter/rbac/Relation", "indexOf", "(II)I"⟩ : MethodName) prog_15_method_3_code 4 (some .int) :: ws) ({ frames := 0, cells := 0, slots := 0, locals := 0 } : Room)) (fun as U => as = #[(.ref a), (.int qs), (.int qt)] ∧ Z.Warmed39 U.vm ∧ U.heap = h0) (fun _ _ _ _ _ => True) (fun _ U o U' => ∃ v L, o = .returned v ∧ Q_index Z a qs qt S T0 k f g rv h0 n0 v U'.heap L ∧ FrameEnd U o U' L ({ frames := 0, cells := 0, slots := 0, locals := 0 } : Room).cells ({ frames := 0, cells := 0, slots := 0, locals := 0 } : Room).slots) := by
  refine MetFree.of_bodySF (plainFor_of_name pn_index) hisR ?_
  intro p e s m args below meth c s₁ Bd hml0 hP hK
  obtain ⟨rfl, hZ, hh⟩ := hP
  have hx := Bd.exec
  have hby := Bd.bytes
  have hml : c.maxLocals = 4 := hml0
  have hown : s.vm.findClass "com/example/wachter/wachter/rbac/Relation" = some m.cls := findClass_of_methodNamed Bd.named
  have hnm := (name_of_methodNamed Bd.named Bd.method).1
  have hlk := BodyLoose.notSynchronized Bd
  have hret := Bd.returns
  have X0 : Stand p l e ({ frames := 0, cells := 0, slots := 0, locals := 0 } : Room) s m #[(.ref a), (.int qs), (.int qt)] below meth c s₁ [] 0 0 := Stand.of_body Bd
  have e0 : s₁.heap = h0 := by rw [← hh, Bd.state]; rfl
  have N0 := Fr.nil n0
  show own_G p e below (own_P s below (Q_index Z a qs qt S T0 k f g rv h0 n0) ({ frames := 0, cells := 0, slots := 0, locals := 0 } : Room).cells ({ frames := 0, cells := 0, slots := 0, locals := 0 } : Room).slots) _
  refine own_go (B := s₁.setTop (mkF m 0 #[.val (.ref a), .val (.int qs), .val (.int qt), .unset] [])) (fun t k => castTop (ef_index m a qs qt) k) ?_
  obtain ⟨E1, F1, F2, ⟨z, hz, F3⟩, V1, V2, nST, nSa, nTa⟩ := H
  refine own_go (B := s₁.setTop (mkF m 1 #[.val (.ref a), .val (.int qs), .val (.int qt), .unset] [(.int (0 : Int32))])) (fun _ hr => XT.iconstV X0.here hx rfl (0 : Int32) (hb hby d5_0) (by decide) hr) ?_
  refine own_go (B := s₁.setTop (mkF m 2 #[.val (.ref a), .val (.int qs), .val (.int qt), .val (.int (0 : Int32))] [])) (fun _ hr => XS.istoreN X0.here hx rfl (hb hby d5_1) rfl (l' := #[.val (.ref a), .val (.int qs), .val (.int qt), .val (.int (0 : Int32))]) rfl hr) ?_
  exact own_scan hx hby hw hZ hown hlk hret F1 F2 F3 hz hk V1 V2 (by decide) (by decide) ⟨rfl, N0, rfl⟩ k 0 _ _ X0 e0 (by decide) (by omega) hrv
theorem pn_law : plainName "com/example/wachter/wachter/rbac/RelationIndexOfPinLaw" = true := by first | (simp [plainName, overriddenIn]; done) | decide +kernel
theorem ef_law (m : MethodId) (x0 : Int32) (x1 : Int32) (x2 : Int32) (x3 : Int32) : entryFrame m #[(.int x0), (.int x1), (.int x2), (.int x3)] maxLocals = mkF m 0 #[.val (.int x0), .val (.int x1), .val (.int x2), .val (.int x3), .unset, .unset, .unset, .unset, .unset, .unset, .unset, .unset, .unset, .unset, .unset, .unset, .unset, .unset] [] := by first | (simp [entryFrame, mkF, argsToLocals, Value.category, maxLocals]; done) | rfl
def Q_law (Z : State) (ai : Int32) (bi : Int32) (ci : Int32) (hi : Int32) (h0 : Heap) (n0 : Nat) (v : Option Value) (h : Heap) (L : List Loc) : Prop := v = some (.int 1) ∧ Fr n0 L
def own_w3 (ni : Int32) (s3 : Int32) (t3 : Int32) (qs : Int32) (qt : Int32) : Int32 := (if ni < (4 : Int32) then (-1 : Int32) else (if s3 = qs then (if t3 = qt then (3 : Int32) else (-1 : Int32)) else (-1 : Int32)))
def own_w2 (ni : Int32) (s2 : Int32) (t2 : Int32) (qs : Int32) (qt : Int32) (wa : Int32) : Int32 := (if ni < (3 : Int32) then wa else (if s2 = qs then (if t2 = qt then (2 : Int32) else wa) else wa))
def own_w1 (ni : Int32) (s1 : Int32) (t1 : Int32) (qs : Int32) (qt : Int32) (wb : Int32) : Int32 := (if ni < (2 : Int32) then wb else (if s1 = qs then (if t1 = qt then (1 : Int32) else wb) else wb))
def own_w0 (ni : Int32) (s0 : Int32) (t0 : Int32) (qs : Int32) (qt : Int32) (wc : Int32) : Int32 := (if ni < (1 : Int32) then wc else (if s0 = qs then (if t0 = qt then (0 : Int32) else wc) else wc))
def own_sel (s0 s1 s2 s3 : Int32) (i : Nat) : Int32 := if i = 0 then s0 else if i = 1 then s1 else if i = 2 then s2 else s3
theorem own_mod5 (x : Int32) : ∃ t : Nat, ((x &&& (7 : Int32)) % (5 : Int32)).toInt = (t : Int) ∧ t ≤ 4 := by
  have h1 : (x &&& (7 : Int32)).toInt = x.toInt % 2 ^ 3 := Jvm.Kit.i32_mask x 7 (k := 3) (by decide) (by decide)
  have h2 : ((x &&& (7 : Int32)) % (5 : Int32)).toInt = (x &&& (7 : Int32)).toInt % (5 : Int32).toInt := Jvm.Kit.i32_rem_nonneg (by omega)
  have h3 : (5 : Int32).toInt = 5 := rfl
  rw [h3] at h2
  exact ⟨((x &&& (7 : Int32)) % (5 : Int32)).toInt.toNat, by omega, by omega⟩
theorem own_find {ni s0 s1 s2 s3 t0 t1 t2 t3 qs qt : Int32} {kk : Nat} {f g : Nat → Int32} (hn : ni.toInt = (kk : Int)) (h4 : kk ≤ 4) (hf : ∀ i, i < kk → f i = own_sel s0 s1 s2 s3 i) (hg : ∀ i, i < kk → g i = own_sel t0 t1 t2 t3 i) :
    own_idx f g qs qt 0 0 kk = own_w0 ni s0 t0 qs qt (own_w1 ni s1 t1 qs qt (own_w2 ni s2 t2 qs qt (own_w3 ni s3 t3 qs qt))) := by
  have hc : kk = 0 ∨ kk = 1 ∨ kk = 2 ∨ kk = 3 ∨ kk = 4 := by omega
  rcases hc with rfl | rfl | rfl | rfl | rfl
  · obtain rfl : ni = (0 : Int32) := Int32.toInt_inj.mp (by rw [hn]; rfl)
    rfl
  · obtain rfl : ni = (1 : Int32) := Int32.toInt_inj.mp (by rw [hn]; rfl)
    have f0 : f 0 = s0 := hf 0 (by omega)
    have g0 : g 0 = t0 := hg 0 (by omega)
    simp only [own_idx, f0, g0]
    rfl
  · obtain rfl : ni = (2 : Int32) := Int32.toInt_inj.mp (by rw [hn]; rfl)
    have f0 : f 0 = s0 := hf 0 (by omega)
    have g0 : g 0 = t0 := hg 0 (by omega)
    have f1 : f 1 = s1 := hf 1 (by omega)
    have g1 : g 1 = t1 := hg 1 (by omega)
    simp only [own_idx, f0, g0, Nat.zero_add, f1, g1]
    rfl
  · obtain rfl : ni = (3 : Int32) := Int32.toInt_inj.mp (by rw [hn]; rfl)
    have f0 : f 0 = s0 := hf 0 (by omega)
    have g0 : g 0 = t0 := hg 0 (by omega)
    have f1 : f 1 = s1 := hf 1 (by omega)
    have g1 : g 1 = t1 := hg 1 (by omega)
    have f2 : f (1 + 1) = s2 := hf 2 (by omega)
    have g2 : g (1 + 1) = t2 := hg 2 (by omega)
    simp only [own_idx, f0, g0, Nat.zero_add, f1, g1, f2, g2]
    rfl
  · obtain rfl : ni = (4 : Int32) := Int32.toInt_inj.mp (by rw [hn]; rfl)
    have f0 : f 0 = s0 := hf 0 (by omega)
    have g0 : g 0 = t0 := hg 0 (by omega)
    have f1 : f 1 = s1 := hf 1 (by omega)
    have g1 : g 1 = t1 := hg 1 (by omega)
    have f2 : f (1 + 1) = s2 := hf 2 (by omega)
    have g2 : g (1 + 1) = t2 := hg 2 (by omega)
    have f3 : f (1 + 1 + 1) = s3 := hf 3 (by omega)
    have g3 : g (1 + 1 + 1) = t3 := hg 3 (by omega)
    simp only [own_idx, f0, g0, Nat.zero_add, f1, g1, f2, g2, f3, g3]
    rfl
set_option maxRecDepth 65536 in
set_option maxHeartbeats 40000000 in
theorem rm_law (l : Launch) (Z : State) (a0 : Array Value) (hw : ∀ d ∈ tables_1, d.before a0 Z = true) (ws : List Jvm.Cond) (ai : Int32) (bi : Int32) (ci : Int32) (hi : Int32) (h0 : Heap) (n0 : Nat) (Z0 : n0 ≤ h0.size)  :
    MetFree l x (head1 (Jvm.Cond.code x code maxLocals ret :: ws) room_1) (fun as U => as = #[(.int ai), (.int bi), (.int ci), (.int hi)] ∧ Z.Warmed39 U.vm ∧ U.heap = h0) (fun _ _ _ _ _ => True) (fun _ U o U' => ∃ v L, o = .returned v ∧ Q_law Z ai bi ci hi h0 n0 v U'.heap L ∧ FrameEnd U o U' L 16 192) := by
  refine MetFree.of_bodySF (plainFor_of_name pn_law) hisR ?_
  intro p e s m args below meth c s₁ Bd hml0 hP hK
  obtain ⟨rfl, hZ, hh⟩ := hP
  have hx := Bd.exec
  have hby := Bd.bytes
  have hml : c.maxLocals = 18 := hml0
  have hown : s.vm.findClass "com/example/wachter/wachter/rbac/RelationIndexOfPinLaw" = some m.cls := findClass_of_methodNamed Bd.named
  have hnm := (name_of_methodNamed Bd.named Bd.method).1
  have hlk := BodyLoose.notSynchronized Bd
  have hret := Bd.returns
  have X0 : Stand p l e room_1 s m #[(.int ai), (.int bi), (.int ci), (.int hi)] below meth c s₁ [] 0 0 := Stand.of_body Bd
  have e0 : s₁.heap = h0 := by rw [← hh, Bd.state]; rfl
  have N0 := Fr.nil n0
  show own_G p e below (own_P s below (Q_law Z ai bi ci hi h0 n0) 16 192) _
  refine own_go (B := s₁.setTop (mkF m 0 #[.val (.int ai), .val (.int bi), .val (.int ci), .val (.int hi), .unset, .unset, .unset, .unset, .unset, .unset, .unset, .unset, .unset, .unset, .unset, .unset, .unset, .unset] [])) (fun t k => castTop (ef_law m ai bi ci hi) k) ?_
  refine own_go (B := s₁.setTop (mkF m 1 #[.val (.int ai), .val (.int bi), .val (.int ci), .val (.int hi), .unset, .unset, .unset, .unset, .unset, .unset, .unset, .unset, .unset, .unset, .unset, .unset, .unset, .unset] [(.int hi)])) (fun _ hr => XS.iloadN X0.here hx rfl (hb hby at_0) rfl hr) ?_
  refine own_go (B := s₁.setTop (mkF m 3 #[.val (.int ai), .val (.int bi), .val (.int ci), .val (.int hi), .unset, .unset, .unset, .unset, .unset, .unset, .unset, .unset, .unset, .unset, .unset, .unset, .unset, .unset] [(.int (7 : Int32)), (.int hi)])) (fun _ hr => XT.bipushV X0.here hx rfl (7 : Int32) (hb hby at_1) (by decide) hr) ?_
  refine own_go (B := s₁.setTop (mkF m 4 #[.val (.int ai), .val (.int bi), .val (.int ci), .val (.int hi), .unset, .unset, .unset, .unset, .unset, .unset, .unset, .unset, .unset, .unset, .unset, .unset, .unset, .unset] [(.int (hi &&& (7 : Int32)))])) (fun _ hr => XS.iand X0.here hx rfl (hb hby at_3) rfl hr) ?_
  refine own_go (B := s₁.setTop (mkF m 5 #[.val (.int ai), .val (.int bi), .val (.int ci), .val (.int hi), .unset, .unset, .unset, .unset, .unset, .unset, .unset, .unset, .unset, .unset, .unset, .unset, .unset, .unset] [(.int (5 : Int32)), (.int (hi &&& (7 : Int32)))])) (fun _ hr => XT.iconstV X0.here hx rfl (5 : Int32) (hb hby at_4) (by decide) hr) ?_
  refine own_go (B := s₁.setTop (mkF m 6 #[.val (.int ai), .val (.int bi), .val (.int ci), .val (.int hi), .unset, .unset, .unset, .unset, .unset, .unset, .unset, .unset, .unset, .unset, .unset, .unset, .unset, .unset] [(.int ((hi &&& (7 : Int32)) % (5 : Int32)))])) (fun _ hr => iremM X0 hx rfl (hb hby at_5) rfl (by decide) hr) ?_
  refine own_go (B := s₁.setTop (mkF m 8 #[.val (.int ai), .val (.int bi), .val (.int ci), .val (.int hi), .val (.int ((hi &&& (7 : Int32)) % (5 : Int32))), .unset, .unset, .unset, .unset, .unset, .unset, .unset, .unset, .unset, .unset, .unset, .unset, .unset] [])) (fun _ hr => XS.istore X0.here hx rfl (hb hby at_6) rfl (l' := #[.val (.int ai), .val (.int bi), .val (.int ci), .val (.int hi), .val (.int ((hi &&& (7 : Int32)) % (5 : Int32))), .unset, .unset, .unset, .unset, .unset, .unset, .unset, .unset, .unset, .unset, .unset, .unset, .unset]) rfl hr) ?_
  obtain ⟨kk, hn, hk4⟩ := own_mod5 hi
  generalize ((hi &&& (7 : Int32)) % (5 : Int32)) = ni at hn ⊢
  refine own_go (B := s₁.setTop (mkF m 9 #[.val (.int ai), .val (.int bi), .val (.int ci), .val (.int hi), .val (.int ni), .unset, .unset, .unset, .unset, .unset, .unset, .unset, .unset, .unset, .unset, .unset, .unset, .unset] [(.int hi)])) (fun _ hr => XS.iloadN X0.here hx rfl (hb hby at_8) rfl hr) ?_
  refine own_go (B := s₁.setTop (mkF m 10 #[.val (.int ai), .val (.int bi), .val (.int ci), .val (.int hi), .val (.int ni), .unset, .unset, .unset, .unset, .unset, .unset, .unset, .unset, .unset, .unset, .unset, .unset, .unset] [(.int (3 : Int32)), (.int hi)])) (fun _ hr => XT.iconstV X0.here hx rfl (3 : Int32) (hb hby at_9) (by decide) hr) ?_
  refine own_go (B := s₁.setTop (mkF m 11 #[.val (.int ai), .val (.int bi), .val (.int ci), .val (.int hi), .val (.int ni), .unset, .unset, .unset, .unset, .unset, .unset, .unset, .unset, .unset, .unset, .unset, .unset, .unset] [(.int (XT.ushr hi (3 : Int32)))])) (fun _ hr => XT.iushr X0.here hx rfl (hb hby at_10) rfl hr) ?_
  refine own_go (B := s₁.setTop (mkF m 12 #[.val (.int ai), .val (.int bi), .val (.int ci), .val (.int hi), .val (.int ni), .unset, .unset, .unset, .unset, .unset, .unset, .unset, .unset, .unset, .unset, .unset, .unset, .unset] [(.int ai), (.int (XT.ushr hi (3 : Int32)))])) (fun _ hr => XS.iloadN X0.here hx rfl (hb hby at_11) rfl hr) ?_
  refine own_go (B := s₁.setTop (mkF m 13 #[.val (.int ai), .val (.int bi), .val (.int ci), .val (.int hi), .val (.int ni), .unset, .unset, .unset, .unset, .unset, .unset, .unset, .unset, .unset, .unset, .unset, .unset, .unset] [(.int bi), (.int ai), (.int (XT.ushr hi (3 : Int32)))])) (fun _ hr => XS.iloadN X0.here hx rfl (hb hby at_12) rfl hr) ?_
  refine own_go (B := s₁.setTop (mkF m 14 #[.val (.int ai), .val (.int bi), .val (.int ci), .val (.int hi), .val (.int ni), .unset, .unset, .unset, .unset, .unset, .unset, .unset, .unset, .unset, .unset, .unset, .unset, .unset] [(.int ci), (.int bi), (.int ai), (.int (XT.ushr hi (3 : Int32)))])) (fun _ hr => XS.iloadN X0.here hx rfl (hb hby at_13) rfl hr) ?_
  obtain ⟨_, _, ⟨T25, L25, k25, n25⟩, -, X25, ⟨Lc25, hQ25, l25, y25, z25⟩, st25⟩ := Jvm.LawKit.callS X0 hx (y := (⟨"com/example/wachter/wachter/rbac/RelationIndexOfPinLaw", "pick", "(IIII)I"⟩ : MethodName)) hown (mvT hZ (hw _ (List.mem_of_getElem? (i := 0) rfl))) (mvT hZ (hw _ (List.mem_of_getElem? (i := 1) rfl))) (mvT hZ (hw _ (List.mem_of_getElem? (i := 2) rfl))) (mvT hZ (hw _ (List.mem_of_getElem? (i := 3) rfl))) (by decide) (backOf (W := 0) (rm_pick l Z a0 hw [] (XT.ushr hi (3 : Int32)) ai bi ci h0 n0 Z0) hZ (hw _ (List.mem_of_getElem? (i := 3) rfl)) (hw _ (List.mem_of_getElem? (i := 2) rfl)) (by decide) (by decide)) (g := (mkF m 14 #[.val (.int ai), .val (.int bi), .val (.int ci), .val (.int hi), .val (.int ni), .unset, .unset, .unset, .unset, .unset, .unset, .unset, .unset, .unset, .unset, .unset, .unset, .unset] [(.int ci), (.int bi), (.int ai), (.int (XT.ushr hi (3 : Int32)))])) rfl (by rw [hml]; rfl) (argsL := [(.int (XT.ushr hi (3 : Int32))), (.int ai), (.int bi), (.int ci)]) (rest := []) (lenOf pd_pick rfl) rfl (by show 2 * 0 + _ ≤ _; exact Nat.le_of_eq rfl) (hb hby at_14) (fun _ _ => ⟨rfl, e0, (by decide : 0 + 0 ≤ _), (by decide : 0 + 0 ≤ _)⟩)
  dsimp only [Pt.U, Pt.locs, Pt.cells, Pt.slots] at X25 l25 y25 z25 st25 hQ25
  subst l25 y25 z25
  obtain ⟨⟨s0, rfl⟩, N25, e25⟩ := hQ25
  have M25 := Fr.app N0 N25
  refine own_go (B := T25.setTop (mkF m 17 #[.val (.int ai), .val (.int bi), .val (.int ci), .val (.int hi), .val (.int ni), .unset, .unset, .unset, .unset, .unset, .unset, .unset, .unset, .unset, .unset, .unset, .unset, .unset] [(.int s0)])) (fun t hr => st25 t hr) ?_
  refine own_go (B := T25.setTop (mkF m 19 #[.val (.int ai), .val (.int bi), .val (.int ci), .val (.int hi), .val (.int ni), .val (.int s0), .unset, .unset, .unset, .unset, .unset, .unset, .unset, .unset, .unset, .unset, .unset, .unset] [])) (fun _ hr => XS.istore X25.here hx rfl (hb hby at_17) rfl (l' := #[.val (.int ai), .val (.int bi), .val (.int ci), .val (.int hi), .val (.int ni), .val (.int s0), .unset, .unset, .unset, .unset, .unset, .unset, .unset, .unset, .unset, .unset, .unset, .unset]) rfl hr) ?_
  refine own_go (B := T25.setTop (mkF m 20 #[.val (.int ai), .val (.int bi), .val (.int ci), .val (.int hi), .val (.int ni), .val (.int s0), .unset, .unset, .unset, .unset, .unset, .unset, .unset, .unset, .unset, .unset, .unset, .unset] [(.int hi)])) (fun _ hr => XS.iloadN X25.here hx rfl (hb hby at_19) rfl hr) ?_
  refine own_go (B := T25.setTop (mkF m 21 #[.val (.int ai), .val (.int bi), .val (.int ci), .val (.int hi), .val (.int ni), .val (.int s0), .unset, .unset, .unset, .unset, .unset, .unset, .unset, .unset, .unset, .unset, .unset, .unset] [(.int (5 : Int32)), (.int hi)])) (fun _ hr => XT.iconstV X25.here hx rfl (5 : Int32) (hb hby at_20) (by decide) hr) ?_
  refine own_go (B := T25.setTop (mkF m 22 #[.val (.int ai), .val (.int bi), .val (.int ci), .val (.int hi), .val (.int ni), .val (.int s0), .unset, .unset, .unset, .unset, .unset, .unset, .unset, .unset, .unset, .unset, .unset, .unset] [(.int (XT.ushr hi (5 : Int32)))])) (fun _ hr => XT.iushr X25.here hx rfl (hb hby at_21) rfl hr) ?_
  refine own_go (B := T25.setTop (mkF m 23 #[.val (.int ai), .val (.int bi), .val (.int ci), .val (.int hi), .val (.int ni), .val (.int s0), .unset, .unset, .unset, .unset, .unset, .unset, .unset, .unset, .unset, .unset, .unset, .unset] [(.int ai), (.int (XT.ushr hi (5 : Int32)))])) (fun _ hr => XS.iloadN X25.here hx rfl (hb hby at_22) rfl hr) ?_
  refine own_go (B := T25.setTop (mkF m 24 #[.val (.int ai), .val (.int bi), .val (.int ci), .val (.int hi), .val (.int ni), .val (.int s0), .unset, .unset, .unset, .unset, .unset, .unset, .unset, .unset, .unset, .unset, .unset, .unset] [(.int bi), (.int ai), (.int (XT.ushr hi (5 : Int32)))])) (fun _ hr => XS.iloadN X25.here hx rfl (hb hby at_23) rfl hr) ?_
  refine own_go (B := T25.setTop (mkF m 25 #[.val (.int ai), .val (.int bi), .val (.int ci), .val (.int hi), .val (.int ni), .val (.int s0), .unset, .unset, .unset, .unset, .unset, .unset, .unset, .unset, .unset, .unset, .unset, .unset] [(.int ci), (.int bi), (.int ai), (.int (XT.ushr hi (5 : Int32)))])) (fun _ hr => XS.iloadN X25.here hx rfl (hb hby at_24) rfl hr) ?_
  obtain ⟨_, _, ⟨T26, L26, k26, n26⟩, -, X26, ⟨Lc26, hQ26, l26, y26, z26⟩, st26⟩ := Jvm.LawKit.callS X25 hx (y := (⟨"com/example/wachter/wachter/rbac/RelationIndexOfPinLaw", "pick", "(IIII)I"⟩ : MethodName)) hown (mvT hZ (hw _ (List.mem_of_getElem? (i := 0) rfl))) (mvT hZ (hw _ (List.mem_of_getElem? (i := 1) rfl))) (mvT hZ (hw _ (List.mem_of_getElem? (i := 2) rfl))) (mvT hZ (hw _ (List.mem_of_getElem? (i := 3) rfl))) (by decide) (backOf (W := 0) (rm_pick l Z a0 hw [] (XT.ushr hi (5 : Int32)) ai bi ci h0 n0 Z0) hZ (hw _ (List.mem_of_getElem? (i := 3) rfl)) (hw _ (List.mem_of_getElem? (i := 2) rfl)) (by decide) (by decide)) (g := (mkF m 25 #[.val (.int ai), .val (.int bi), .val (.int ci), .val (.int hi), .val (.int ni), .val (.int s0), .unset, .unset, .unset, .unset, .unset, .unset, .unset, .unset, .unset, .unset, .unset, .unset] [(.int ci), (.int bi), (.int ai), (.int (XT.ushr hi (5 : Int32)))])) rfl (by rw [hml]; rfl) (argsL := [(.int (XT.ushr hi (5 : Int32))), (.int ai), (.int bi), (.int ci)]) (rest := []) (lenOf pd_pick rfl) rfl (by show 2 * 0 + _ ≤ _; exact Nat.le_of_eq rfl) (hb hby at_25) (fun _ _ => ⟨rfl, e25, (by decide : 0 + 0 ≤ _), (by decide : 0 + 0 ≤ _)⟩)
  dsimp only [Pt.U, Pt.locs, Pt.cells, Pt.slots] at X26 l26 y26 z26 st26 hQ26
  subst l26 y26 z26
  obtain ⟨⟨t0, rfl⟩, N26, e26⟩ := hQ26
  have M26 := Fr.app M25 N26
  refine own_go (B := T26.setTop (mkF m 28 #[.val (.int ai), .val (.int bi), .val (.int ci), .val (.int hi), .val (.int ni), .val (.int s0), .unset, .unset, .unset, .unset, .unset, .unset, .unset, .unset, .unset, .unset, .unset, .unset] [(.int t0)])) (fun t hr => st26 t hr) ?_
  refine own_go (B := T26.setTop (mkF m 30 #[.val (.int ai), .val (.int bi), .val (.int ci), .val (.int hi), .val (.int ni), .val (.int s0), .val (.int t0), .unset, .unset, .unset, .unset, .unset, .unset, .unset, .unset, .unset, .unset, .unset] [])) (fun _ hr => XS.istore X26.here hx rfl (hb hby at_28) rfl (l' := #[.val (.int ai), .val (.int bi), .val (.int ci), .val (.int hi), .val (.int ni), .val (.int s0), .val (.int t0), .unset, .unset, .unset, .unset, .unset, .unset, .unset, .unset, .unset, .unset, .unset]) rfl hr) ?_
  refine own_go (B := T26.setTop (mkF m 31 #[.val (.int ai), .val (.int bi), .val (.int ci), .val (.int hi), .val (.int ni), .val (.int s0), .val (.int t0), .unset, .unset, .unset, .unset, .unset, .unset, .unset, .unset, .unset, .unset, .unset] [(.int hi)])) (fun _ hr => XS.iloadN X26.here hx rfl (hb hby at_30) rfl hr) ?_
  refine own_go (B := T26.setTop (mkF m 33 #[.val (.int ai), .val (.int bi), .val (.int ci), .val (.int hi), .val (.int ni), .val (.int s0), .val (.int t0), .unset, .unset, .unset, .unset, .unset, .unset, .unset, .unset, .unset, .unset, .unset] [(.int (7 : Int32)), (.int hi)])) (fun _ hr => XT.bipushV X26.here hx rfl (7 : Int32) (hb hby at_31) (by decide) hr) ?_
  refine own_go (B := T26.setTop (mkF m 34 #[.val (.int ai), .val (.int bi), .val (.int ci), .val (.int hi), .val (.int ni), .val (.int s0), .val (.int t0), .unset, .unset, .unset, .unset, .unset, .unset, .unset, .unset, .unset, .unset, .unset] [(.int (XT.ushr hi (7 : Int32)))])) (fun _ hr => XT.iushr X26.here hx rfl (hb hby at_33) rfl hr) ?_
  refine own_go (B := T26.setTop (mkF m 35 #[.val (.int ai), .val (.int bi), .val (.int ci), .val (.int hi), .val (.int ni), .val (.int s0), .val (.int t0), .unset, .unset, .unset, .unset, .unset, .unset, .unset, .unset, .unset, .unset, .unset] [(.int ai), (.int (XT.ushr hi (7 : Int32)))])) (fun _ hr => XS.iloadN X26.here hx rfl (hb hby at_34) rfl hr) ?_
  refine own_go (B := T26.setTop (mkF m 36 #[.val (.int ai), .val (.int bi), .val (.int ci), .val (.int hi), .val (.int ni), .val (.int s0), .val (.int t0), .unset, .unset, .unset, .unset, .unset, .unset, .unset, .unset, .unset, .unset, .unset] [(.int bi), (.int ai), (.int (XT.ushr hi (7 : Int32)))])) (fun _ hr => XS.iloadN X26.here hx rfl (hb hby at_35) rfl hr) ?_
  refine own_go (B := T26.setTop (mkF m 37 #[.val (.int ai), .val (.int bi), .val (.int ci), .val (.int hi), .val (.int ni), .val (.int s0), .val (.int t0), .unset, .unset, .unset, .unset, .unset, .unset, .unset, .unset, .unset, .unset, .unset] [(.int ci), (.int bi), (.int ai), (.int (XT.ushr hi (7 : Int32)))])) (fun _ hr => XS.iloadN X26.here hx rfl (hb hby at_36) rfl hr) ?_
  obtain ⟨_, _, ⟨T27, L27, k27, n27⟩, -, X27, ⟨Lc27, hQ27, l27, y27, z27⟩, st27⟩ := Jvm.LawKit.callS X26 hx (y := (⟨"com/example/wachter/wachter/rbac/RelationIndexOfPinLaw", "pick", "(IIII)I"⟩ : MethodName)) hown (mvT hZ (hw _ (List.mem_of_getElem? (i := 0) rfl))) (mvT hZ (hw _ (List.mem_of_getElem? (i := 1) rfl))) (mvT hZ (hw _ (List.mem_of_getElem? (i := 2) rfl))) (mvT hZ (hw _ (List.mem_of_getElem? (i := 3) rfl))) (by decide) (backOf (W := 0) (rm_pick l Z a0 hw [] (XT.ushr hi (7 : Int32)) ai bi ci h0 n0 Z0) hZ (hw _ (List.mem_of_getElem? (i := 3) rfl)) (hw _ (List.mem_of_getElem? (i := 2) rfl)) (by decide) (by decide)) (g := (mkF m 37 #[.val (.int ai), .val (.int bi), .val (.int ci), .val (.int hi), .val (.int ni), .val (.int s0), .val (.int t0), .unset, .unset, .unset, .unset, .unset, .unset, .unset, .unset, .unset, .unset, .unset] [(.int ci), (.int bi), (.int ai), (.int (XT.ushr hi (7 : Int32)))])) rfl (by rw [hml]; rfl) (argsL := [(.int (XT.ushr hi (7 : Int32))), (.int ai), (.int bi), (.int ci)]) (rest := []) (lenOf pd_pick rfl) rfl (by show 2 * 0 + _ ≤ _; exact Nat.le_of_eq rfl) (hb hby at_37) (fun _ _ => ⟨rfl, e26, (by decide : 0 + 0 ≤ _), (by decide : 0 + 0 ≤ _)⟩)
  dsimp only [Pt.U, Pt.locs, Pt.cells, Pt.slots] at X27 l27 y27 z27 st27 hQ27
  subst l27 y27 z27
  obtain ⟨⟨s1, rfl⟩, N27, e27⟩ := hQ27
  have M27 := Fr.app M26 N27
  refine own_go (B := T27.setTop (mkF m 40 #[.val (.int ai), .val (.int bi), .val (.int ci), .val (.int hi), .val (.int ni), .val (.int s0), .val (.int t0), .unset, .unset, .unset, .unset, .unset, .unset, .unset, .unset, .unset, .unset, .unset] [(.int s1)])) (fun t hr => st27 t hr) ?_
  refine own_go (B := T27.setTop (mkF m 42 #[.val (.int ai), .val (.int bi), .val (.int ci), .val (.int hi), .val (.int ni), .val (.int s0), .val (.int t0), .val (.int s1), .unset, .unset, .unset, .unset, .unset, .unset, .unset, .unset, .unset, .unset] [])) (fun _ hr => XS.istore X27.here hx rfl (hb hby at_40) rfl (l' := #[.val (.int ai), .val (.int bi), .val (.int ci), .val (.int hi), .val (.int ni), .val (.int s0), .val (.int t0), .val (.int s1), .unset, .unset, .unset, .unset, .unset, .unset, .unset, .unset, .unset, .unset]) rfl hr) ?_
  refine own_go (B := T27.setTop (mkF m 43 #[.val (.int ai), .val (.int bi), .val (.int ci), .val (.int hi), .val (.int ni), .val (.int s0), .val (.int t0), .val (.int s1), .unset, .unset, .unset, .unset, .unset, .unset, .unset, .unset, .unset, .unset] [(.int hi)])) (fun _ hr => XS.iloadN X27.here hx rfl (hb hby at_42) rfl hr) ?_
  refine own_go (B := T27.setTop (mkF m 45 #[.val (.int ai), .val (.int bi), .val (.int ci), .val (.int hi), .val (.int ni), .val (.int s0), .val (.int t0), .val (.int s1), .unset, .unset, .unset, .unset, .unset, .unset, .unset, .unset, .unset, .unset] [(.int (9 : Int32)), (.int hi)])) (fun _ hr => XT.bipushV X27.here hx rfl (9 : Int32) (hb hby at_43) (by decide) hr) ?_
  refine own_go (B := T27.setTop (mkF m 46 #[.val (.int ai), .val (.int bi), .val (.int ci), .val (.int hi), .val (.int ni), .val (.int s0), .val (.int t0), .val (.int s1), .unset, .unset, .unset, .unset, .unset, .unset, .unset, .unset, .unset, .unset] [(.int (XT.ushr hi (9 : Int32)))])) (fun _ hr => XT.iushr X27.here hx rfl (hb hby at_45) rfl hr) ?_
  refine own_go (B := T27.setTop (mkF m 47 #[.val (.int ai), .val (.int bi), .val (.int ci), .val (.int hi), .val (.int ni), .val (.int s0), .val (.int t0), .val (.int s1), .unset, .unset, .unset, .unset, .unset, .unset, .unset, .unset, .unset, .unset] [(.int ai), (.int (XT.ushr hi (9 : Int32)))])) (fun _ hr => XS.iloadN X27.here hx rfl (hb hby at_46) rfl hr) ?_
  refine own_go (B := T27.setTop (mkF m 48 #[.val (.int ai), .val (.int bi), .val (.int ci), .val (.int hi), .val (.int ni), .val (.int s0), .val (.int t0), .val (.int s1), .unset, .unset, .unset, .unset, .unset, .unset, .unset, .unset, .unset, .unset] [(.int bi), (.int ai), (.int (XT.ushr hi (9 : Int32)))])) (fun _ hr => XS.iloadN X27.here hx rfl (hb hby at_47) rfl hr) ?_
  refine own_go (B := T27.setTop (mkF m 49 #[.val (.int ai), .val (.int bi), .val (.int ci), .val (.int hi), .val (.int ni), .val (.int s0), .val (.int t0), .val (.int s1), .unset, .unset, .unset, .unset, .unset, .unset, .unset, .unset, .unset, .unset] [(.int ci), (.int bi), (.int ai), (.int (XT.ushr hi (9 : Int32)))])) (fun _ hr => XS.iloadN X27.here hx rfl (hb hby at_48) rfl hr) ?_
  obtain ⟨_, _, ⟨T28, L28, k28, n28⟩, -, X28, ⟨Lc28, hQ28, l28, y28, z28⟩, st28⟩ := Jvm.LawKit.callS X27 hx (y := (⟨"com/example/wachter/wachter/rbac/RelationIndexOfPinLaw", "pick", "(IIII)I"⟩ : MethodName)) hown (mvT hZ (hw _ (List.mem_of_getElem? (i := 0) rfl))) (mvT hZ (hw _ (List.mem_of_getElem? (i := 1) rfl))) (mvT hZ (hw _ (List.mem_of_getElem? (i := 2) rfl))) (mvT hZ (hw _ (List.mem_of_getElem? (i := 3) rfl))) (by decide) (backOf (W := 0) (rm_pick l Z a0 hw [] (XT.ushr hi (9 : Int32)) ai bi ci h0 n0 Z0) hZ (hw _ (List.mem_of_getElem? (i := 3) rfl)) (hw _ (List.mem_of_getElem? (i := 2) rfl)) (by decide) (by decide)) (g := (mkF m 49 #[.val (.int ai), .val (.int bi), .val (.int ci), .val (.int hi), .val (.int ni), .val (.int s0), .val (.int t0), .val (.int s1), .unset, .unset, .unset, .unset, .unset, .unset, .unset, .unset, .unset, .unset] [(.int ci), (.int bi), (.int ai), (.int (XT.ushr hi (9 : Int32)))])) rfl (by rw [hml]; rfl) (argsL := [(.int (XT.ushr hi (9 : Int32))), (.int ai), (.int bi), (.int ci)]) (rest := []) (lenOf pd_pick rfl) rfl (by show 2 * 0 + _ ≤ _; exact Nat.le_of_eq rfl) (hb hby at_49) (fun _ _ => ⟨rfl, e27, (by decide : 0 + 0 ≤ _), (by decide : 0 + 0 ≤ _)⟩)
  dsimp only [Pt.U, Pt.locs, Pt.cells, Pt.slots] at X28 l28 y28 z28 st28 hQ28
  subst l28 y28 z28
  obtain ⟨⟨t1, rfl⟩, N28, e28⟩ := hQ28
  have M28 := Fr.app M27 N28
  refine own_go (B := T28.setTop (mkF m 52 #[.val (.int ai), .val (.int bi), .val (.int ci), .val (.int hi), .val (.int ni), .val (.int s0), .val (.int t0), .val (.int s1), .unset, .unset, .unset, .unset, .unset, .unset, .unset, .unset, .unset, .unset] [(.int t1)])) (fun t hr => st28 t hr) ?_
  refine own_go (B := T28.setTop (mkF m 54 #[.val (.int ai), .val (.int bi), .val (.int ci), .val (.int hi), .val (.int ni), .val (.int s0), .val (.int t0), .val (.int s1), .val (.int t1), .unset, .unset, .unset, .unset, .unset, .unset, .unset, .unset, .unset] [])) (fun _ hr => XS.istore X28.here hx rfl (hb hby at_52) rfl (l' := #[.val (.int ai), .val (.int bi), .val (.int ci), .val (.int hi), .val (.int ni), .val (.int s0), .val (.int t0), .val (.int s1), .val (.int t1), .unset, .unset, .unset, .unset, .unset, .unset, .unset, .unset, .unset]) rfl hr) ?_
  refine own_go (B := T28.setTop (mkF m 55 #[.val (.int ai), .val (.int bi), .val (.int ci), .val (.int hi), .val (.int ni), .val (.int s0), .val (.int t0), .val (.int s1), .val (.int t1), .unset, .unset, .unset, .unset, .unset, .unset, .unset, .unset, .unset] [(.int hi)])) (fun _ hr => XS.iloadN X28.here hx rfl (hb hby at_54) rfl hr) ?_
  refine own_go (B := T28.setTop (mkF m 57 #[.val (.int ai), .val (.int bi), .val (.int ci), .val (.int hi), .val (.int ni), .val (.int s0), .val (.int t0), .val (.int s1), .val (.int t1), .unset, .unset, .unset, .unset, .unset, .unset, .unset, .unset, .unset] [(.int (11 : Int32)), (.int hi)])) (fun _ hr => XT.bipushV X28.here hx rfl (11 : Int32) (hb hby at_55) (by decide) hr) ?_
  refine own_go (B := T28.setTop (mkF m 58 #[.val (.int ai), .val (.int bi), .val (.int ci), .val (.int hi), .val (.int ni), .val (.int s0), .val (.int t0), .val (.int s1), .val (.int t1), .unset, .unset, .unset, .unset, .unset, .unset, .unset, .unset, .unset] [(.int (XT.ushr hi (11 : Int32)))])) (fun _ hr => XT.iushr X28.here hx rfl (hb hby at_57) rfl hr) ?_
  refine own_go (B := T28.setTop (mkF m 59 #[.val (.int ai), .val (.int bi), .val (.int ci), .val (.int hi), .val (.int ni), .val (.int s0), .val (.int t0), .val (.int s1), .val (.int t1), .unset, .unset, .unset, .unset, .unset, .unset, .unset, .unset, .unset] [(.int ai), (.int (XT.ushr hi (11 : Int32)))])) (fun _ hr => XS.iloadN X28.here hx rfl (hb hby at_58) rfl hr) ?_
  refine own_go (B := T28.setTop (mkF m 60 #[.val (.int ai), .val (.int bi), .val (.int ci), .val (.int hi), .val (.int ni), .val (.int s0), .val (.int t0), .val (.int s1), .val (.int t1), .unset, .unset, .unset, .unset, .unset, .unset, .unset, .unset, .unset] [(.int bi), (.int ai), (.int (XT.ushr hi (11 : Int32)))])) (fun _ hr => XS.iloadN X28.here hx rfl (hb hby at_59) rfl hr) ?_
  refine own_go (B := T28.setTop (mkF m 61 #[.val (.int ai), .val (.int bi), .val (.int ci), .val (.int hi), .val (.int ni), .val (.int s0), .val (.int t0), .val (.int s1), .val (.int t1), .unset, .unset, .unset, .unset, .unset, .unset, .unset, .unset, .unset] [(.int ci), (.int bi), (.int ai), (.int (XT.ushr hi (11 : Int32)))])) (fun _ hr => XS.iloadN X28.here hx rfl (hb hby at_60) rfl hr) ?_
  obtain ⟨_, _, ⟨T29, L29, k29, n29⟩, -, X29, ⟨Lc29, hQ29, l29, y29, z29⟩, st29⟩ := Jvm.LawKit.callS X28 hx (y := (⟨"com/example/wachter/wachter/rbac/RelationIndexOfPinLaw", "pick", "(IIII)I"⟩ : MethodName)) hown (mvT hZ (hw _ (List.mem_of_getElem? (i := 0) rfl))) (mvT hZ (hw _ (List.mem_of_getElem? (i := 1) rfl))) (mvT hZ (hw _ (List.mem_of_getElem? (i := 2) rfl))) (mvT hZ (hw _ (List.mem_of_getElem? (i := 3) rfl))) (by decide) (backOf (W := 0) (rm_pick l Z a0 hw [] (XT.ushr hi (11 : Int32)) ai bi ci h0 n0 Z0) hZ (hw _ (List.mem_of_getElem? (i := 3) rfl)) (hw _ (List.mem_of_getElem? (i := 2) rfl)) (by decide) (by decide)) (g := (mkF m 61 #[.val (.int ai), .val (.int bi), .val (.int ci), .val (.int hi), .val (.int ni), .val (.int s0), .val (.int t0), .val (.int s1), .val (.int t1), .unset, .unset, .unset, .unset, .unset, .unset, .unset, .unset, .unset] [(.int ci), (.int bi), (.int ai), (.int (XT.ushr hi (11 : Int32)))])) rfl (by rw [hml]; rfl) (argsL := [(.int (XT.ushr hi (11 : Int32))), (.int ai), (.int bi), (.int ci)]) (rest := []) (lenOf pd_pick rfl) rfl (by show 2 * 0 + _ ≤ _; exact Nat.le_of_eq rfl) (hb hby at_61) (fun _ _ => ⟨rfl, e28, (by decide : 0 + 0 ≤ _), (by decide : 0 + 0 ≤ _)⟩)
  dsimp only [Pt.U, Pt.locs, Pt.cells, Pt.slots] at X29 l29 y29 z29 st29 hQ29
  subst l29 y29 z29
  obtain ⟨⟨s2, rfl⟩, N29, e29⟩ := hQ29
  have M29 := Fr.app M28 N29
  refine own_go (B := T29.setTop (mkF m 64 #[.val (.int ai), .val (.int bi), .val (.int ci), .val (.int hi), .val (.int ni), .val (.int s0), .val (.int t0), .val (.int s1), .val (.int t1), .unset, .unset, .unset, .unset, .unset, .unset, .unset, .unset, .unset] [(.int s2)])) (fun t hr => st29 t hr) ?_
  refine own_go (B := T29.setTop (mkF m 66 #[.val (.int ai), .val (.int bi), .val (.int ci), .val (.int hi), .val (.int ni), .val (.int s0), .val (.int t0), .val (.int s1), .val (.int t1), .val (.int s2), .unset, .unset, .unset, .unset, .unset, .unset, .unset, .unset] [])) (fun _ hr => XS.istore X29.here hx rfl (hb hby at_64) rfl (l' := #[.val (.int ai), .val (.int bi), .val (.int ci), .val (.int hi), .val (.int ni), .val (.int s0), .val (.int t0), .val (.int s1), .val (.int t1), .val (.int s2), .unset, .unset, .unset, .unset, .unset, .unset, .unset, .unset]) rfl hr) ?_
  refine own_go (B := T29.setTop (mkF m 67 #[.val (.int ai), .val (.int bi), .val (.int ci), .val (.int hi), .val (.int ni), .val (.int s0), .val (.int t0), .val (.int s1), .val (.int t1), .val (.int s2), .unset, .unset, .unset, .unset, .unset, .unset, .unset, .unset] [(.int hi)])) (fun _ hr => XS.iloadN X29.here hx rfl (hb hby at_66) rfl hr) ?_
  refine own_go (B := T29.setTop (mkF m 69 #[.val (.int ai), .val (.int bi), .val (.int ci), .val (.int hi), .val (.int ni), .val (.int s0), .val (.int t0), .val (.int s1), .val (.int t1), .val (.int s2), .unset, .unset, .unset, .unset, .unset, .unset, .unset, .unset] [(.int (13 : Int32)), (.int hi)])) (fun _ hr => XT.bipushV X29.here hx rfl (13 : Int32) (hb hby at_67) (by decide) hr) ?_
  refine own_go (B := T29.setTop (mkF m 70 #[.val (.int ai), .val (.int bi), .val (.int ci), .val (.int hi), .val (.int ni), .val (.int s0), .val (.int t0), .val (.int s1), .val (.int t1), .val (.int s2), .unset, .unset, .unset, .unset, .unset, .unset, .unset, .unset] [(.int (XT.ushr hi (13 : Int32)))])) (fun _ hr => XT.iushr X29.here hx rfl (hb hby at_69) rfl hr) ?_
  refine own_go (B := T29.setTop (mkF m 71 #[.val (.int ai), .val (.int bi), .val (.int ci), .val (.int hi), .val (.int ni), .val (.int s0), .val (.int t0), .val (.int s1), .val (.int t1), .val (.int s2), .unset, .unset, .unset, .unset, .unset, .unset, .unset, .unset] [(.int ai), (.int (XT.ushr hi (13 : Int32)))])) (fun _ hr => XS.iloadN X29.here hx rfl (hb hby at_70) rfl hr) ?_
  refine own_go (B := T29.setTop (mkF m 72 #[.val (.int ai), .val (.int bi), .val (.int ci), .val (.int hi), .val (.int ni), .val (.int s0), .val (.int t0), .val (.int s1), .val (.int t1), .val (.int s2), .unset, .unset, .unset, .unset, .unset, .unset, .unset, .unset] [(.int bi), (.int ai), (.int (XT.ushr hi (13 : Int32)))])) (fun _ hr => XS.iloadN X29.here hx rfl (hb hby at_71) rfl hr) ?_
  refine own_go (B := T29.setTop (mkF m 73 #[.val (.int ai), .val (.int bi), .val (.int ci), .val (.int hi), .val (.int ni), .val (.int s0), .val (.int t0), .val (.int s1), .val (.int t1), .val (.int s2), .unset, .unset, .unset, .unset, .unset, .unset, .unset, .unset] [(.int ci), (.int bi), (.int ai), (.int (XT.ushr hi (13 : Int32)))])) (fun _ hr => XS.iloadN X29.here hx rfl (hb hby at_72) rfl hr) ?_
  obtain ⟨_, _, ⟨T30, L30, k30, n30⟩, -, X30, ⟨Lc30, hQ30, l30, y30, z30⟩, st30⟩ := Jvm.LawKit.callS X29 hx (y := (⟨"com/example/wachter/wachter/rbac/RelationIndexOfPinLaw", "pick", "(IIII)I"⟩ : MethodName)) hown (mvT hZ (hw _ (List.mem_of_getElem? (i := 0) rfl))) (mvT hZ (hw _ (List.mem_of_getElem? (i := 1) rfl))) (mvT hZ (hw _ (List.mem_of_getElem? (i := 2) rfl))) (mvT hZ (hw _ (List.mem_of_getElem? (i := 3) rfl))) (by decide) (backOf (W := 0) (rm_pick l Z a0 hw [] (XT.ushr hi (13 : Int32)) ai bi ci h0 n0 Z0) hZ (hw _ (List.mem_of_getElem? (i := 3) rfl)) (hw _ (List.mem_of_getElem? (i := 2) rfl)) (by decide) (by decide)) (g := (mkF m 73 #[.val (.int ai), .val (.int bi), .val (.int ci), .val (.int hi), .val (.int ni), .val (.int s0), .val (.int t0), .val (.int s1), .val (.int t1), .val (.int s2), .unset, .unset, .unset, .unset, .unset, .unset, .unset, .unset] [(.int ci), (.int bi), (.int ai), (.int (XT.ushr hi (13 : Int32)))])) rfl (by rw [hml]; rfl) (argsL := [(.int (XT.ushr hi (13 : Int32))), (.int ai), (.int bi), (.int ci)]) (rest := []) (lenOf pd_pick rfl) rfl (by show 2 * 0 + _ ≤ _; exact Nat.le_of_eq rfl) (hb hby at_73) (fun _ _ => ⟨rfl, e29, (by decide : 0 + 0 ≤ _), (by decide : 0 + 0 ≤ _)⟩)
  dsimp only [Pt.U, Pt.locs, Pt.cells, Pt.slots] at X30 l30 y30 z30 st30 hQ30
  subst l30 y30 z30
  obtain ⟨⟨t2, rfl⟩, N30, e30⟩ := hQ30
  have M30 := Fr.app M29 N30
  refine own_go (B := T30.setTop (mkF m 76 #[.val (.int ai), .val (.int bi), .val (.int ci), .val (.int hi), .val (.int ni), .val (.int s0), .val (.int t0), .val (.int s1), .val (.int t1), .val (.int s2), .unset, .unset, .unset, .unset, .unset, .unset, .unset, .unset] [(.int t2)])) (fun t hr => st30 t hr) ?_
  refine own_go (B := T30.setTop (mkF m 78 #[.val (.int ai), .val (.int bi), .val (.int ci), .val (.int hi), .val (.int ni), .val (.int s0), .val (.int t0), .val (.int s1), .val (.int t1), .val (.int s2), .val (.int t2), .unset, .unset, .unset, .unset, .unset, .unset, .unset] [])) (fun _ hr => XS.istore X30.here hx rfl (hb hby at_76) rfl (l' := #[.val (.int ai), .val (.int bi), .val (.int ci), .val (.int hi), .val (.int ni), .val (.int s0), .val (.int t0), .val (.int s1), .val (.int t1), .val (.int s2), .val (.int t2), .unset, .unset, .unset, .unset, .unset, .unset, .unset]) rfl hr) ?_
  refine own_go (B := T30.setTop (mkF m 79 #[.val (.int ai), .val (.int bi), .val (.int ci), .val (.int hi), .val (.int ni), .val (.int s0), .val (.int t0), .val (.int s1), .val (.int t1), .val (.int s2), .val (.int t2), .unset, .unset, .unset, .unset, .unset, .unset, .unset] [(.int hi)])) (fun _ hr => XS.iloadN X30.here hx rfl (hb hby at_78) rfl hr) ?_
  refine own_go (B := T30.setTop (mkF m 81 #[.val (.int ai), .val (.int bi), .val (.int ci), .val (.int hi), .val (.int ni), .val (.int s0), .val (.int t0), .val (.int s1), .val (.int t1), .val (.int s2), .val (.int t2), .unset, .unset, .unset, .unset, .unset, .unset, .unset] [(.int (15 : Int32)), (.int hi)])) (fun _ hr => XT.bipushV X30.here hx rfl (15 : Int32) (hb hby at_79) (by decide) hr) ?_
  refine own_go (B := T30.setTop (mkF m 82 #[.val (.int ai), .val (.int bi), .val (.int ci), .val (.int hi), .val (.int ni), .val (.int s0), .val (.int t0), .val (.int s1), .val (.int t1), .val (.int s2), .val (.int t2), .unset, .unset, .unset, .unset, .unset, .unset, .unset] [(.int (XT.ushr hi (15 : Int32)))])) (fun _ hr => XT.iushr X30.here hx rfl (hb hby at_81) rfl hr) ?_
  refine own_go (B := T30.setTop (mkF m 83 #[.val (.int ai), .val (.int bi), .val (.int ci), .val (.int hi), .val (.int ni), .val (.int s0), .val (.int t0), .val (.int s1), .val (.int t1), .val (.int s2), .val (.int t2), .unset, .unset, .unset, .unset, .unset, .unset, .unset] [(.int ai), (.int (XT.ushr hi (15 : Int32)))])) (fun _ hr => XS.iloadN X30.here hx rfl (hb hby at_82) rfl hr) ?_
  refine own_go (B := T30.setTop (mkF m 84 #[.val (.int ai), .val (.int bi), .val (.int ci), .val (.int hi), .val (.int ni), .val (.int s0), .val (.int t0), .val (.int s1), .val (.int t1), .val (.int s2), .val (.int t2), .unset, .unset, .unset, .unset, .unset, .unset, .unset] [(.int bi), (.int ai), (.int (XT.ushr hi (15 : Int32)))])) (fun _ hr => XS.iloadN X30.here hx rfl (hb hby at_83) rfl hr) ?_
  refine own_go (B := T30.setTop (mkF m 85 #[.val (.int ai), .val (.int bi), .val (.int ci), .val (.int hi), .val (.int ni), .val (.int s0), .val (.int t0), .val (.int s1), .val (.int t1), .val (.int s2), .val (.int t2), .unset, .unset, .unset, .unset, .unset, .unset, .unset] [(.int ci), (.int bi), (.int ai), (.int (XT.ushr hi (15 : Int32)))])) (fun _ hr => XS.iloadN X30.here hx rfl (hb hby at_84) rfl hr) ?_
  obtain ⟨_, _, ⟨T31, L31, k31, n31⟩, -, X31, ⟨Lc31, hQ31, l31, y31, z31⟩, st31⟩ := Jvm.LawKit.callS X30 hx (y := (⟨"com/example/wachter/wachter/rbac/RelationIndexOfPinLaw", "pick", "(IIII)I"⟩ : MethodName)) hown (mvT hZ (hw _ (List.mem_of_getElem? (i := 0) rfl))) (mvT hZ (hw _ (List.mem_of_getElem? (i := 1) rfl))) (mvT hZ (hw _ (List.mem_of_getElem? (i := 2) rfl))) (mvT hZ (hw _ (List.mem_of_getElem? (i := 3) rfl))) (by decide) (backOf (W := 0) (rm_pick l Z a0 hw [] (XT.ushr hi (15 : Int32)) ai bi ci h0 n0 Z0) hZ (hw _ (List.mem_of_getElem? (i := 3) rfl)) (hw _ (List.mem_of_getElem? (i := 2) rfl)) (by decide) (by decide)) (g := (mkF m 85 #[.val (.int ai), .val (.int bi), .val (.int ci), .val (.int hi), .val (.int ni), .val (.int s0), .val (.int t0), .val (.int s1), .val (.int t1), .val (.int s2), .val (.int t2), .unset, .unset, .unset, .unset, .unset, .unset, .unset] [(.int ci), (.int bi), (.int ai), (.int (XT.ushr hi (15 : Int32)))])) rfl (by rw [hml]; rfl) (argsL := [(.int (XT.ushr hi (15 : Int32))), (.int ai), (.int bi), (.int ci)]) (rest := []) (lenOf pd_pick rfl) rfl (by show 2 * 0 + _ ≤ _; exact Nat.le_of_eq rfl) (hb hby at_85) (fun _ _ => ⟨rfl, e30, (by decide : 0 + 0 ≤ _), (by decide : 0 + 0 ≤ _)⟩)
  dsimp only [Pt.U, Pt.locs, Pt.cells, Pt.slots] at X31 l31 y31 z31 st31 hQ31
  subst l31 y31 z31
  obtain ⟨⟨s3, rfl⟩, N31, e31⟩ := hQ31
  have M31 := Fr.app M30 N31
  refine own_go (B := T31.setTop (mkF m 88 #[.val (.int ai), .val (.int bi), .val (.int ci), .val (.int hi), .val (.int ni), .val (.int s0), .val (.int t0), .val (.int s1), .val (.int t1), .val (.int s2), .val (.int t2), .unset, .unset, .unset, .unset, .unset, .unset, .unset] [(.int s3)])) (fun t hr => st31 t hr) ?_
  refine own_go (B := T31.setTop (mkF m 90 #[.val (.int ai), .val (.int bi), .val (.int ci), .val (.int hi), .val (.int ni), .val (.int s0), .val (.int t0), .val (.int s1), .val (.int t1), .val (.int s2), .val (.int t2), .val (.int s3), .unset, .unset, .unset, .unset, .unset, .unset] [])) (fun _ hr => XS.istore X31.here hx rfl (hb hby at_88) rfl (l' := #[.val (.int ai), .val (.int bi), .val (.int ci), .val (.int hi), .val (.int ni), .val (.int s0), .val (.int t0), .val (.int s1), .val (.int t1), .val (.int s2), .val (.int t2), .val (.int s3), .unset, .unset, .unset, .unset, .unset, .unset]) rfl hr) ?_
  refine own_go (B := T31.setTop (mkF m 91 #[.val (.int ai), .val (.int bi), .val (.int ci), .val (.int hi), .val (.int ni), .val (.int s0), .val (.int t0), .val (.int s1), .val (.int t1), .val (.int s2), .val (.int t2), .val (.int s3), .unset, .unset, .unset, .unset, .unset, .unset] [(.int hi)])) (fun _ hr => XS.iloadN X31.here hx rfl (hb hby at_90) rfl hr) ?_
  refine own_go (B := T31.setTop (mkF m 93 #[.val (.int ai), .val (.int bi), .val (.int ci), .val (.int hi), .val (.int ni), .val (.int s0), .val (.int t0), .val (.int s1), .val (.int t1), .val (.int s2), .val (.int t2), .val (.int s3), .unset, .unset, .unset, .unset, .unset, .unset] [(.int (17 : Int32)), (.int hi)])) (fun _ hr => XT.bipushV X31.here hx rfl (17 : Int32) (hb hby at_91) (by decide) hr) ?_
  refine own_go (B := T31.setTop (mkF m 94 #[.val (.int ai), .val (.int bi), .val (.int ci), .val (.int hi), .val (.int ni), .val (.int s0), .val (.int t0), .val (.int s1), .val (.int t1), .val (.int s2), .val (.int t2), .val (.int s3), .unset, .unset, .unset, .unset, .unset, .unset] [(.int (XT.ushr hi (17 : Int32)))])) (fun _ hr => XT.iushr X31.here hx rfl (hb hby at_93) rfl hr) ?_
  refine own_go (B := T31.setTop (mkF m 95 #[.val (.int ai), .val (.int bi), .val (.int ci), .val (.int hi), .val (.int ni), .val (.int s0), .val (.int t0), .val (.int s1), .val (.int t1), .val (.int s2), .val (.int t2), .val (.int s3), .unset, .unset, .unset, .unset, .unset, .unset] [(.int ai), (.int (XT.ushr hi (17 : Int32)))])) (fun _ hr => XS.iloadN X31.here hx rfl (hb hby at_94) rfl hr) ?_
  refine own_go (B := T31.setTop (mkF m 96 #[.val (.int ai), .val (.int bi), .val (.int ci), .val (.int hi), .val (.int ni), .val (.int s0), .val (.int t0), .val (.int s1), .val (.int t1), .val (.int s2), .val (.int t2), .val (.int s3), .unset, .unset, .unset, .unset, .unset, .unset] [(.int bi), (.int ai), (.int (XT.ushr hi (17 : Int32)))])) (fun _ hr => XS.iloadN X31.here hx rfl (hb hby at_95) rfl hr) ?_
  refine own_go (B := T31.setTop (mkF m 97 #[.val (.int ai), .val (.int bi), .val (.int ci), .val (.int hi), .val (.int ni), .val (.int s0), .val (.int t0), .val (.int s1), .val (.int t1), .val (.int s2), .val (.int t2), .val (.int s3), .unset, .unset, .unset, .unset, .unset, .unset] [(.int ci), (.int bi), (.int ai), (.int (XT.ushr hi (17 : Int32)))])) (fun _ hr => XS.iloadN X31.here hx rfl (hb hby at_96) rfl hr) ?_
  obtain ⟨_, _, ⟨T32, L32, k32, n32⟩, -, X32, ⟨Lc32, hQ32, l32, y32, z32⟩, st32⟩ := Jvm.LawKit.callS X31 hx (y := (⟨"com/example/wachter/wachter/rbac/RelationIndexOfPinLaw", "pick", "(IIII)I"⟩ : MethodName)) hown (mvT hZ (hw _ (List.mem_of_getElem? (i := 0) rfl))) (mvT hZ (hw _ (List.mem_of_getElem? (i := 1) rfl))) (mvT hZ (hw _ (List.mem_of_getElem? (i := 2) rfl))) (mvT hZ (hw _ (List.mem_of_getElem? (i := 3) rfl))) (by decide) (backOf (W := 0) (rm_pick l Z a0 hw [] (XT.ushr hi (17 : Int32)) ai bi ci h0 n0 Z0) hZ (hw _ (List.mem_of_getElem? (i := 3) rfl)) (hw _ (List.mem_of_getElem? (i := 2) rfl)) (by decide) (by decide)) (g := (mkF m 97 #[.val (.int ai), .val (.int bi), .val (.int ci), .val (.int hi), .val (.int ni), .val (.int s0), .val (.int t0), .val (.int s1), .val (.int t1), .val (.int s2), .val (.int t2), .val (.int s3), .unset, .unset, .unset, .unset, .unset, .unset] [(.int ci), (.int bi), (.int ai), (.int (XT.ushr hi (17 : Int32)))])) rfl (by rw [hml]; rfl) (argsL := [(.int (XT.ushr hi (17 : Int32))), (.int ai), (.int bi), (.int ci)]) (rest := []) (lenOf pd_pick rfl) rfl (by show 2 * 0 + _ ≤ _; exact Nat.le_of_eq rfl) (hb hby at_97) (fun _ _ => ⟨rfl, e31, (by decide : 0 + 0 ≤ _), (by decide : 0 + 0 ≤ _)⟩)
  dsimp only [Pt.U, Pt.locs, Pt.cells, Pt.slots] at X32 l32 y32 z32 st32 hQ32
  subst l32 y32 z32
  obtain ⟨⟨t3, rfl⟩, N32, e32⟩ := hQ32
  have M32 := Fr.app M31 N32
  refine own_go (B := T32.setTop (mkF m 100 #[.val (.int ai), .val (.int bi), .val (.int ci), .val (.int hi), .val (.int ni), .val (.int s0), .val (.int t0), .val (.int s1), .val (.int t1), .val (.int s2), .val (.int t2), .val (.int s3), .unset, .unset, .unset, .unset, .unset, .unset] [(.int t3)])) (fun t hr => st32 t hr) ?_
  refine own_go (B := T32.setTop (mkF m 102 #[.val (.int ai), .val (.int bi), .val (.int ci), .val (.int hi), .val (.int ni), .val (.int s0), .val (.int t0), .val (.int s1), .val (.int t1), .val (.int s2), .val (.int t2), .val (.int s3), .val (.int t3), .unset, .unset, .unset, .unset, .unset] [])) (fun _ hr => XS.istore X32.here hx rfl (hb hby at_100) rfl (l' := #[.val (.int ai), .val (.int bi), .val (.int ci), .val (.int hi), .val (.int ni), .val (.int s0), .val (.int t0), .val (.int s1), .val (.int t1), .val (.int s2), .val (.int t2), .val (.int s3), .val (.int t3), .unset, .unset, .unset, .unset, .unset]) rfl hr) ?_
  refine own_go (B := T32.setTop (mkF m 103 #[.val (.int ai), .val (.int bi), .val (.int ci), .val (.int hi), .val (.int ni), .val (.int s0), .val (.int t0), .val (.int s1), .val (.int t1), .val (.int s2), .val (.int t2), .val (.int s3), .val (.int t3), .unset, .unset, .unset, .unset, .unset] [(.int hi)])) (fun _ hr => XS.iloadN X32.here hx rfl (hb hby at_102) rfl hr) ?_
  refine own_go (B := T32.setTop (mkF m 105 #[.val (.int ai), .val (.int bi), .val (.int ci), .val (.int hi), .val (.int ni), .val (.int s0), .val (.int t0), .val (.int s1), .val (.int t1), .val (.int s2), .val (.int t2), .val (.int s3), .val (.int t3), .unset, .unset, .unset, .unset, .unset] [(.int (19 : Int32)), (.int hi)])) (fun _ hr => XT.bipushV X32.here hx rfl (19 : Int32) (hb hby at_103) (by decide) hr) ?_
  refine own_go (B := T32.setTop (mkF m 106 #[.val (.int ai), .val (.int bi), .val (.int ci), .val (.int hi), .val (.int ni), .val (.int s0), .val (.int t0), .val (.int s1), .val (.int t1), .val (.int s2), .val (.int t2), .val (.int s3), .val (.int t3), .unset, .unset, .unset, .unset, .unset] [(.int (XT.ushr hi (19 : Int32)))])) (fun _ hr => XT.iushr X32.here hx rfl (hb hby at_105) rfl hr) ?_
  refine own_go (B := T32.setTop (mkF m 107 #[.val (.int ai), .val (.int bi), .val (.int ci), .val (.int hi), .val (.int ni), .val (.int s0), .val (.int t0), .val (.int s1), .val (.int t1), .val (.int s2), .val (.int t2), .val (.int s3), .val (.int t3), .unset, .unset, .unset, .unset, .unset] [(.int ai), (.int (XT.ushr hi (19 : Int32)))])) (fun _ hr => XS.iloadN X32.here hx rfl (hb hby at_106) rfl hr) ?_
  refine own_go (B := T32.setTop (mkF m 108 #[.val (.int ai), .val (.int bi), .val (.int ci), .val (.int hi), .val (.int ni), .val (.int s0), .val (.int t0), .val (.int s1), .val (.int t1), .val (.int s2), .val (.int t2), .val (.int s3), .val (.int t3), .unset, .unset, .unset, .unset, .unset] [(.int bi), (.int ai), (.int (XT.ushr hi (19 : Int32)))])) (fun _ hr => XS.iloadN X32.here hx rfl (hb hby at_107) rfl hr) ?_
  refine own_go (B := T32.setTop (mkF m 109 #[.val (.int ai), .val (.int bi), .val (.int ci), .val (.int hi), .val (.int ni), .val (.int s0), .val (.int t0), .val (.int s1), .val (.int t1), .val (.int s2), .val (.int t2), .val (.int s3), .val (.int t3), .unset, .unset, .unset, .unset, .unset] [(.int ci), (.int bi), (.int ai), (.int (XT.ushr hi (19 : Int32)))])) (fun _ hr => XS.iloadN X32.here hx rfl (hb hby at_108) rfl hr) ?_
  obtain ⟨_, _, ⟨T33, L33, k33, n33⟩, -, X33, ⟨Lc33, hQ33, l33, y33, z33⟩, st33⟩ := Jvm.LawKit.callS X32 hx (y := (⟨"com/example/wachter/wachter/rbac/RelationIndexOfPinLaw", "pick", "(IIII)I"⟩ : MethodName)) hown (mvT hZ (hw _ (List.mem_of_getElem? (i := 0) rfl))) (mvT hZ (hw _ (List.mem_of_getElem? (i := 1) rfl))) (mvT hZ (hw _ (List.mem_of_getElem? (i := 2) rfl))) (mvT hZ (hw _ (List.mem_of_getElem? (i := 3) rfl))) (by decide) (backOf (W := 0) (rm_pick l Z a0 hw [] (XT.ushr hi (19 : Int32)) ai bi ci h0 n0 Z0) hZ (hw _ (List.mem_of_getElem? (i := 3) rfl)) (hw _ (List.mem_of_getElem? (i := 2) rfl)) (by decide) (by decide)) (g := (mkF m 109 #[.val (.int ai), .val (.int bi), .val (.int ci), .val (.int hi), .val (.int ni), .val (.int s0), .val (.int t0), .val (.int s1), .val (.int t1), .val (.int s2), .val (.int t2), .val (.int s3), .val (.int t3), .unset, .unset, .unset, .unset, .unset] [(.int ci), (.int bi), (.int ai), (.int (XT.ushr hi (19 : Int32)))])) rfl (by rw [hml]; rfl) (argsL := [(.int (XT.ushr hi (19 : Int32))), (.int ai), (.int bi), (.int ci)]) (rest := []) (lenOf pd_pick rfl) rfl (by show 2 * 0 + _ ≤ _; exact Nat.le_of_eq rfl) (hb hby at_109) (fun _ _ => ⟨rfl, e32, (by decide : 0 + 0 ≤ _), (by decide : 0 + 0 ≤ _)⟩)
  dsimp only [Pt.U, Pt.locs, Pt.cells, Pt.slots] at X33 l33 y33 z33 st33 hQ33
  subst l33 y33 z33
  obtain ⟨⟨qs, rfl⟩, N33, e33⟩ := hQ33
  have M33 := Fr.app M32 N33
  refine own_go (B := T33.setTop (mkF m 112 #[.val (.int ai), .val (.int bi), .val (.int ci), .val (.int hi), .val (.int ni), .val (.int s0), .val (.int t0), .val (.int s1), .val (.int t1), .val (.int s2), .val (.int t2), .val (.int s3), .val (.int t3), .unset, .unset, .unset, .unset, .unset] [(.int qs)])) (fun t hr => st33 t hr) ?_
  refine own_go (B := T33.setTop (mkF m 114 #[.val (.int ai), .val (.int bi), .val (.int ci), .val (.int hi), .val (.int ni), .val (.int s0), .val (.int t0), .val (.int s1), .val (.int t1), .val (.int s2), .val (.int t2), .val (.int s3), .val (.int t3), .val (.int qs), .unset, .unset, .unset, .unset] [])) (fun _ hr => XS.istore X33.here hx rfl (hb hby at_112) rfl (l' := #[.val (.int ai), .val (.int bi), .val (.int ci), .val (.int hi), .val (.int ni), .val (.int s0), .val (.int t0), .val (.int s1), .val (.int t1), .val (.int s2), .val (.int t2), .val (.int s3), .val (.int t3), .val (.int qs), .unset, .unset, .unset, .unset]) rfl hr) ?_
  refine own_go (B := T33.setTop (mkF m 115 #[.val (.int ai), .val (.int bi), .val (.int ci), .val (.int hi), .val (.int ni), .val (.int s0), .val (.int t0), .val (.int s1), .val (.int t1), .val (.int s2), .val (.int t2), .val (.int s3), .val (.int t3), .val (.int qs), .unset, .unset, .unset, .unset] [(.int hi)])) (fun _ hr => XS.iloadN X33.here hx rfl (hb hby at_114) rfl hr) ?_
  refine own_go (B := T33.setTop (mkF m 117 #[.val (.int ai), .val (.int bi), .val (.int ci), .val (.int hi), .val (.int ni), .val (.int s0), .val (.int t0), .val (.int s1), .val (.int t1), .val (.int s2), .val (.int t2), .val (.int s3), .val (.int t3), .val (.int qs), .unset, .unset, .unset, .unset] [(.int (21 : Int32)), (.int hi)])) (fun _ hr => XT.bipushV X33.here hx rfl (21 : Int32) (hb hby at_115) (by decide) hr) ?_
  refine own_go (B := T33.setTop (mkF m 118 #[.val (.int ai), .val (.int bi), .val (.int ci), .val (.int hi), .val (.int ni), .val (.int s0), .val (.int t0), .val (.int s1), .val (.int t1), .val (.int s2), .val (.int t2), .val (.int s3), .val (.int t3), .val (.int qs), .unset, .unset, .unset, .unset] [(.int (XT.ushr hi (21 : Int32)))])) (fun _ hr => XT.iushr X33.here hx rfl (hb hby at_117) rfl hr) ?_
  refine own_go (B := T33.setTop (mkF m 119 #[.val (.int ai), .val (.int bi), .val (.int ci), .val (.int hi), .val (.int ni), .val (.int s0), .val (.int t0), .val (.int s1), .val (.int t1), .val (.int s2), .val (.int t2), .val (.int s3), .val (.int t3), .val (.int qs), .unset, .unset, .unset, .unset] [(.int ai), (.int (XT.ushr hi (21 : Int32)))])) (fun _ hr => XS.iloadN X33.here hx rfl (hb hby at_118) rfl hr) ?_
  refine own_go (B := T33.setTop (mkF m 120 #[.val (.int ai), .val (.int bi), .val (.int ci), .val (.int hi), .val (.int ni), .val (.int s0), .val (.int t0), .val (.int s1), .val (.int t1), .val (.int s2), .val (.int t2), .val (.int s3), .val (.int t3), .val (.int qs), .unset, .unset, .unset, .unset] [(.int bi), (.int ai), (.int (XT.ushr hi (21 : Int32)))])) (fun _ hr => XS.iloadN X33.here hx rfl (hb hby at_119) rfl hr) ?_
  refine own_go (B := T33.setTop (mkF m 121 #[.val (.int ai), .val (.int bi), .val (.int ci), .val (.int hi), .val (.int ni), .val (.int s0), .val (.int t0), .val (.int s1), .val (.int t1), .val (.int s2), .val (.int t2), .val (.int s3), .val (.int t3), .val (.int qs), .unset, .unset, .unset, .unset] [(.int ci), (.int bi), (.int ai), (.int (XT.ushr hi (21 : Int32)))])) (fun _ hr => XS.iloadN X33.here hx rfl (hb hby at_120) rfl hr) ?_
  obtain ⟨_, _, ⟨T34, L34, k34, n34⟩, -, X34, ⟨Lc34, hQ34, l34, y34, z34⟩, st34⟩ := Jvm.LawKit.callS X33 hx (y := (⟨"com/example/wachter/wachter/rbac/RelationIndexOfPinLaw", "pick", "(IIII)I"⟩ : MethodName)) hown (mvT hZ (hw _ (List.mem_of_getElem? (i := 0) rfl))) (mvT hZ (hw _ (List.mem_of_getElem? (i := 1) rfl))) (mvT hZ (hw _ (List.mem_of_getElem? (i := 2) rfl))) (mvT hZ (hw _ (List.mem_of_getElem? (i := 3) rfl))) (by decide) (backOf (W := 0) (rm_pick l Z a0 hw [] (XT.ushr hi (21 : Int32)) ai bi ci h0 n0 Z0) hZ (hw _ (List.mem_of_getElem? (i := 3) rfl)) (hw _ (List.mem_of_getElem? (i := 2) rfl)) (by decide) (by decide)) (g := (mkF m 121 #[.val (.int ai), .val (.int bi), .val (.int ci), .val (.int hi), .val (.int ni), .val (.int s0), .val (.int t0), .val (.int s1), .val (.int t1), .val (.int s2), .val (.int t2), .val (.int s3), .val (.int t3), .val (.int qs), .unset, .unset, .unset, .unset] [(.int ci), (.int bi), (.int ai), (.int (XT.ushr hi (21 : Int32)))])) rfl (by rw [hml]; rfl) (argsL := [(.int (XT.ushr hi (21 : Int32))), (.int ai), (.int bi), (.int ci)]) (rest := []) (lenOf pd_pick rfl) rfl (by show 2 * 0 + _ ≤ _; exact Nat.le_of_eq rfl) (hb hby at_121) (fun _ _ => ⟨rfl, e33, (by decide : 0 + 0 ≤ _), (by decide : 0 + 0 ≤ _)⟩)
  dsimp only [Pt.U, Pt.locs, Pt.cells, Pt.slots] at X34 l34 y34 z34 st34 hQ34
  subst l34 y34 z34
  obtain ⟨⟨qt, rfl⟩, N34, e34⟩ := hQ34
  have M34 := Fr.app M33 N34
  refine own_go (B := T34.setTop (mkF m 124 #[.val (.int ai), .val (.int bi), .val (.int ci), .val (.int hi), .val (.int ni), .val (.int s0), .val (.int t0), .val (.int s1), .val (.int t1), .val (.int s2), .val (.int t2), .val (.int s3), .val (.int t3), .val (.int qs), .unset, .unset, .unset, .unset] [(.int qt)])) (fun t hr => st34 t hr) ?_
  refine own_go (B := T34.setTop (mkF m 126 #[.val (.int ai), .val (.int bi), .val (.int ci), .val (.int hi), .val (.int ni), .val (.int s0), .val (.int t0), .val (.int s1), .val (.int t1), .val (.int s2), .val (.int t2), .val (.int s3), .val (.int t3), .val (.int qs), .val (.int qt), .unset, .unset, .unset] [])) (fun _ hr => XS.istore X34.here hx rfl (hb hby at_124) rfl (l' := #[.val (.int ai), .val (.int bi), .val (.int ci), .val (.int hi), .val (.int ni), .val (.int s0), .val (.int t0), .val (.int s1), .val (.int t1), .val (.int s2), .val (.int t2), .val (.int s3), .val (.int t3), .val (.int qs), .val (.int qt), .unset, .unset, .unset]) rfl hr) ?_
  obtain ⟨T35, h35, X35, e35, E35, A35, D35, -, st35⟩ := newO X34 hx hZ hown (hw _ (List.mem_of_getElem? (i := 4) rfl)) (hw _ (List.mem_of_getElem? (i := 5) rfl)) (hw _ (List.mem_of_getElem? (i := 6) rfl)) e34 (g := (mkF m 126 #[.val (.int ai), .val (.int bi), .val (.int ci), .val (.int hi), .val (.int ni), .val (.int s0), .val (.int t0), .val (.int s1), .val (.int t1), .val (.int s2), .val (.int t2), .val (.int s3), .val (.int t3), .val (.int qs), .val (.int qt), .unset, .unset, .unset] [])) rfl (hb hby at_126) (by decide) (by decide)
  obtain ⟨a35, g35⟩ : ∃ z, z = h0.size := ⟨_, rfl⟩
  rw [← g35] at A35 D35 st35
  refine own_go (B := T35.setTop (mkF m 129 #[.val (.int ai), .val (.int bi), .val (.int ci), .val (.int hi), .val (.int ni), .val (.int s0), .val (.int t0), .val (.int s1), .val (.int t1), .val (.int s2), .val (.int t2), .val (.int s3), .val (.int t3), .val (.int qs), .val (.int qt), .unset, .unset, .unset] [(.ref a35)])) (fun t hr => st35 t hr) ?_
  have F1 : Fld Z h35 a35 "com/example/wachter/wachter/rbac/Relation" "sources" "[I" .null := D35 (Or.inl (hw _ (List.mem_of_getElem? (i := 15) rfl))) (ty := .array .int) (by decide)
  have F2 : Fld Z h35 a35 "com/example/wachter/wachter/rbac/Relation" "targets" "[I" .null := D35 (Or.inl (hw _ (List.mem_of_getElem? (i := 17) rfl))) (ty := .array .int) (by decide)
  have F3 : Fld Z h35 a35 "com/example/wachter/wachter/rbac/Relation" "size" "I" (.int (0 : Int32)) := D35 (Or.inl (hw _ (List.mem_of_getElem? (i := 24) rfl))) (ty := .int) (by decide)
  have Z1 : n0 ≤ h35.size := Nat.le_trans Z0 E35.1
  have ge : n0 ≤ a35 := Nat.le_trans Z0 (Nat.le_of_eq g35.symm)
  refine own_go (B := T35.setTop (mkF m 130 #[.val (.int ai), .val (.int bi), .val (.int ci), .val (.int hi), .val (.int ni), .val (.int s0), .val (.int t0), .val (.int s1), .val (.int t1), .val (.int s2), .val (.int t2), .val (.int s3), .val (.int t3), .val (.int qs), .val (.int qt), .unset, .unset, .unset] [(.ref a35), (.ref a35)])) (fun _ hr => XS.dup X35.here hx rfl (hb hby at_129) rfl rfl hr) ?_
  obtain ⟨_, _, ⟨T36, L36, k36, n36⟩, -, X36, ⟨Lc36, hQ36, l36, y36, z36⟩, st36⟩ := X35.specialBack hx (y := (⟨"com/example/wachter/wachter/rbac/Relation", "<init>", "()V"⟩ : MethodName)) rfl hown (mvT hZ (hw _ (List.mem_of_getElem? (i := 7) rfl))) (mvT hZ (hw _ (List.mem_of_getElem? (i := 8) rfl))) (mvT hZ (hw _ (List.mem_of_getElem? (i := 9) rfl))) (by decide) (backOf (W := 1) (rm_init l Z a0 hw [] a35 h35 n0 Z1 F1 F2 F3 A35 ge) hZ (hw _ (List.mem_of_getElem? (i := 9) rfl)) (hw _ (List.mem_of_getElem? (i := 6) rfl)) (by decide) (by decide)) (g := (mkF m 130 #[.val (.int ai), .val (.int bi), .val (.int ci), .val (.int hi), .val (.int ni), .val (.int s0), .val (.int t0), .val (.int s1), .val (.int t1), .val (.int s2), .val (.int t2), .val (.int s3), .val (.int t3), .val (.int qs), .val (.int qt), .unset, .unset, .unset] [(.ref a35), (.ref a35)])) rfl (by rw [hml]; rfl) (Steps.refl _) (a := a35) (argsL := []) (rest := [(.ref a35)]) (lenOf pd_init rfl) rfl (by show 2 * 0 + _ ≤ _; exact Nat.le_of_eq rfl) (hb hby at_130) (fun _ _ => ⟨rfl, e35, (by decide : 1 + 2 ≤ _), (by decide : 3 + 32 ≤ _)⟩)
  dsimp only [Pt.U, Pt.locs, Pt.cells, Pt.slots] at X36 l36 y36 z36 st36 hQ36
  subst l36 y36 z36
  obtain ⟨rfl, N36, K36, S, T0, geS, geT, H36⟩ := hQ36
  refine own_gs (B := T36.setTop (mkF m 133 #[.val (.int ai), .val (.int bi), .val (.int ci), .val (.int hi), .val (.int ni), .val (.int s0), .val (.int t0), .val (.int s1), .val (.int t1), .val (.int s2), .val (.int t2), .val (.int s3), .val (.int t3), .val (.int qs), .val (.int qt), .unset, .unset, .unset] [(.ref a35)])) st36 ?_
  have M36 := Fr.app M34 N36
  have Z2 : n0 ≤ T36.heap.size := Nat.le_trans Z1 K36.1
  refine own_go (B := T36.setTop (mkF m 135 #[.val (.int ai), .val (.int bi), .val (.int ci), .val (.int hi), .val (.int ni), .val (.int s0), .val (.int t0), .val (.int s1), .val (.int t1), .val (.int s2), .val (.int t2), .val (.int s3), .val (.int t3), .val (.int qs), .val (.int qt), .val (.ref a35), .unset, .unset] [])) (fun _ hr => XS.astore X36.here hx rfl (hb hby at_133) rfl rfl (l' := #[.val (.int ai), .val (.int bi), .val (.int ci), .val (.int hi), .val (.int ni), .val (.int s0), .val (.int t0), .val (.int s1), .val (.int t1), .val (.int s2), .val (.int t2), .val (.int s3), .val (.int t3), .val (.int qs), .val (.int qt), .val (.ref a35), .unset, .unset]) rfl hr) ?_
  have hfin : ∀ (TT : State) (LL : List Loc), Stand p l e room_1 s m #[(.int ai), (.int bi), (.int ci), (.int hi)] below meth c TT LL 3 35 → Fr n0 LL → n0 ≤ TT.heap.size → ∀ f g : Nat → Int32, own_Rel Z TT.heap a35 S T0 kk f g → (∀ i, i < kk → f i = own_sel s0 s1 s2 s3 i) → (∀ i, i < kk → g i = own_sel t0 t1 t2 t3 i) → own_G p e below (own_P s below (Q_law Z ai bi ci hi h0 n0) 16 192) (TT.setTop (mkF m 195 #[.val (.int ai), .val (.int bi), .val (.int ci), .val (.int hi), .val (.int ni), .val (.int s0), .val (.int t0), .val (.int s1), .val (.int t1), .val (.int s2), .val (.int t2), .val (.int s3), .val (.int t3), .val (.int qs), .val (.int qt), .val (.ref a35), .unset, .unset] [])) := by
    intro TT LL XX NN ZZ f g HH hf hg
    refine own_go (B := TT.setTop (mkF m 197 #[.val (.int ai), .val (.int bi), .val (.int ci), .val (.int hi), .val (.int ni), .val (.int s0), .val (.int t0), .val (.int s1), .val (.int t1), .val (.int s2), .val (.int t2), .val (.int s3), .val (.int t3), .val (.int qs), .val (.int qt), .val (.ref a35), .unset, .unset] [(.ref a35)])) (fun _ hr => XS.aload XX.here hx rfl (hb hby at_195) rfl rfl hr) ?_
    refine own_go (B := TT.setTop (mkF m 199 #[.val (.int ai), .val (.int bi), .val (.int ci), .val (.int hi), .val (.int ni), .val (.int s0), .val (.int t0), .val (.int s1), .val (.int t1), .val (.int s2), .val (.int t2), .val (.int s3), .val (.int t3), .val (.int qs), .val (.int qt), .val (.ref a35), .unset, .unset] [(.int qs), (.ref a35)])) (fun _ hr => XS.iload XX.here hx rfl (hb hby at_197) rfl hr) ?_
    refine own_go (B := TT.setTop (mkF m 201 #[.val (.int ai), .val (.int bi), .val (.int ci), .val (.int hi), .val (.int ni), .val (.int s0), .val (.int t0), .val (.int s1), .val (.int t1), .val (.int s2), .val (.int t2), .val (.int s3), .val (.int t3), .val (.int qs), .val (.int qt), .val (.ref a35), .unset, .unset] [(.int qt), (.int qs), (.ref a35)])) (fun _ hr => XS.iload XX.here hx rfl (hb hby at_199) rfl hr) ?_
    obtain ⟨cq37, kq37, qa37, qb37, qc37⟩ := isOf hZ rfl HH.1
    obtain ⟨_, _, ⟨T37, L37, k37, n37⟩, -, X37, ⟨Lc37, hQ37, l37, y37, z37⟩, st37⟩ := XX.virtualBack hx (y := (⟨"com/example/wachter/wachter/rbac/Relation", "indexOf", "(II)I"⟩ : MethodName)) (z := (⟨"com/example/wachter/wachter/rbac/Relation", "indexOf", "(II)I"⟩ : MethodName)) hown (mvT hZ (hw _ (List.mem_of_getElem? (i := 25) rfl))) (mvT hZ (hw _ (List.mem_of_getElem? (i := 26) rfl))) (notFace_of_selects (args := #[]) (mvT hZ (hw _ (List.mem_of_getElem? (i := 28) rfl)))) (mvT hZ (hw _ (List.mem_of_getElem? (i := 28) rfl))) (mvT hZ (hw _ (List.mem_of_getElem? (i := 27) rfl))) (by decide) (backOf (W := 0) (rm_index l Z a0 hw [] a35 qs qt S T0 kk f g (own_w0 ni s0 t0 qs qt (own_w1 ni s1 t1 qs qt (own_w2 ni s2 t2 qs qt (own_w3 ni s3 t3 qs qt)))) TT.heap n0 ZZ HH (by omega) (own_find hn hk4 hf hg)) hZ (hw _ (List.mem_of_getElem? (i := 29) rfl)) (hw _ (List.mem_of_getElem? (i := 6) rfl)) (by decide) (by decide)) qa37 qc37 (g := (mkF m 201 #[.val (.int ai), .val (.int bi), .val (.int ci), .val (.int hi), .val (.int ni), .val (.int s0), .val (.int t0), .val (.int s1), .val (.int t1), .val (.int s2), .val (.int t2), .val (.int s3), .val (.int t3), .val (.int qs), .val (.int qt), .val (.ref a35), .unset, .unset] [(.int qt), (.int qs), (.ref a35)])) rfl (by rw [hml]; rfl) (Steps.refl _) (argsL := [(.int qs), (.int qt)]) (rest := []) (lenOf pd_index rfl) rfl (by show 2 * 0 + _ ≤ _; exact Nat.le_of_eq rfl) (hb hby at_201) (fun _ _ => ⟨rfl, rfl, (by decide : 3 + 0 ≤ _), (by decide : 35 + 0 ≤ _)⟩)
    dsimp only [Pt.U, Pt.locs, Pt.cells, Pt.slots] at X37 l37 y37 z37 st37 hQ37
    subst l37 y37 z37
    obtain ⟨rfl, N37, e37⟩ := hQ37
    refine own_gs (B := T37.setTop (mkF m 204 #[.val (.int ai), .val (.int bi), .val (.int ci), .val (.int hi), .val (.int ni), .val (.int s0), .val (.int t0), .val (.int s1), .val (.int t1), .val (.int s2), .val (.int t2), .val (.int s3), .val (.int t3), .val (.int qs), .val (.int qt), .val (.ref a35), .unset, .unset] [(.int (own_w0 ni s0 t0 qs qt (own_w1 ni s1 t1 qs qt (own_w2 ni s2 t2 qs qt (own_w3 ni s3 t3 qs qt)))))])) st37 ?_
    have M37 := Fr.app NN N37
    refine own_go (B := T37.setTop (mkF m 206 #[.val (.int ai), .val (.int bi), .val (.int ci), .val (.int hi), .val (.int ni), .val (.int s0), .val (.int t0), .val (.int s1), .val (.int t1), .val (.int s2), .val (.int t2), .val (.int s3), .val (.int t3), .val (.int qs), .val (.int qt), .val (.ref a35), .val (.int (own_w0 ni s0 t0 qs qt (own_w1 ni s1 t1 qs qt (own_w2 ni s2 t2 qs qt (own_w3 ni s3 t3 qs qt))))), .unset] [])) (fun _ hr => XS.istore X37.here hx rfl (hb hby at_204) rfl (l' := #[.val (.int ai), .val (.int bi), .val (.int ci), .val (.int hi), .val (.int ni), .val (.int s0), .val (.int t0), .val (.int s1), .val (.int t1), .val (.int s2), .val (.int t2), .val (.int s3), .val (.int t3), .val (.int qs), .val (.int qt), .val (.ref a35), .val (.int (own_w0 ni s0 t0 qs qt (own_w1 ni s1 t1 qs qt (own_w2 ni s2 t2 qs qt (own_w3 ni s3 t3 qs qt))))), .unset]) rfl hr) ?_
    obtain ⟨gv, hgv⟩ : ∃ z, z = (own_w0 ni s0 t0 qs qt (own_w1 ni s1 t1 qs qt (own_w2 ni s2 t2 qs qt (own_w3 ni s3 t3 qs qt)))) := ⟨_, rfl⟩
    rw [← hgv]
    refine own_go (B := T37.setTop (mkF m 207 #[.val (.int ai), .val (.int bi), .val (.int ci), .val (.int hi), .val (.int ni), .val (.int s0), .val (.int t0), .val (.int s1), .val (.int t1), .val (.int s2), .val (.int t2), .val (.int s3), .val (.int t3), .val (.int qs), .val (.int qt), .val (.ref a35), .val (.int gv), .unset] [(.int (-1 : Int32))])) (fun _ hr => XT.iconstV X37.here hx rfl (-1 : Int32) (hb hby at_206) (by decide) hr) ?_
    refine own_go (B := T37.setTop (mkF m 209 #[.val (.int ai), .val (.int bi), .val (.int ci), .val (.int hi), .val (.int ni), .val (.int s0), .val (.int t0), .val (.int s1), .val (.int t1), .val (.int s2), .val (.int t2), .val (.int s3), .val (.int t3), .val (.int qs), .val (.int qt), .val (.ref a35), .val (.int gv), .val (.int (-1 : Int32))] [])) (fun _ hr => XS.istore X37.here hx rfl (hb hby at_207) rfl (l' := #[.val (.int ai), .val (.int bi), .val (.int ci), .val (.int hi), .val (.int ni), .val (.int s0), .val (.int t0), .val (.int s1), .val (.int t1), .val (.int s2), .val (.int t2), .val (.int s3), .val (.int t3), .val (.int qs), .val (.int qt), .val (.ref a35), .val (.int gv), .val (.int (-1 : Int32))]) rfl hr) ?_
    have hk44 : own_G p e below (own_P s below (Q_law Z ai bi ci hi h0 n0) 16 192) (T37.setTop (mkF m 232 #[.val (.int ai), .val (.int bi), .val (.int ci), .val (.int hi), .val (.int ni), .val (.int s0), .val (.int t0), .val (.int s1), .val (.int t1), .val (.int s2), .val (.int t2), .val (.int s3), .val (.int t3), .val (.int qs), .val (.int qt), .val (.ref a35), .val (.int gv), .val (.int (own_w3 ni s3 t3 qs qt))] [])) := by
      obtain ⟨wa, hwa⟩ : ∃ z, z = own_w3 ni s3 t3 qs qt := ⟨_, rfl⟩
      rw [← hwa]
      have hk51 : own_G p e below (own_P s below (Q_law Z ai bi ci hi h0 n0) 16 192) (T37.setTop (mkF m 255 #[.val (.int ai), .val (.int bi), .val (.int ci), .val (.int hi), .val (.int ni), .val (.int s0), .val (.int t0), .val (.int s1), .val (.int t1), .val (.int s2), .val (.int t2), .val (.int s3), .val (.int t3), .val (.int qs), .val (.int qt), .val (.ref a35), .val (.int gv), .val (.int (own_w2 ni s2 t2 qs qt wa))] [])) := by
        obtain ⟨wb, hwb⟩ : ∃ z, z = own_w2 ni s2 t2 qs qt wa := ⟨_, rfl⟩
        rw [← hwb]
        have hk58 : own_G p e below (own_P s below (Q_law Z ai bi ci hi h0 n0) 16 192) (T37.setTop (mkF m 278 #[.val (.int ai), .val (.int bi), .val (.int ci), .val (.int hi), .val (.int ni), .val (.int s0), .val (.int t0), .val (.int s1), .val (.int t1), .val (.int s2), .val (.int t2), .val (.int s3), .val (.int t3), .val (.int qs), .val (.int qt), .val (.ref a35), .val (.int gv), .val (.int (own_w1 ni s1 t1 qs qt wb))] [])) := by
          obtain ⟨wc, hwc⟩ : ∃ z, z = own_w1 ni s1 t1 qs qt wb := ⟨_, rfl⟩
          rw [← hwc]
          have hk65 : own_G p e below (own_P s below (Q_law Z ai bi ci hi h0 n0) 16 192) (T37.setTop (mkF m 301 #[.val (.int ai), .val (.int bi), .val (.int ci), .val (.int hi), .val (.int ni), .val (.int s0), .val (.int t0), .val (.int s1), .val (.int t1), .val (.int s2), .val (.int t2), .val (.int s3), .val (.int t3), .val (.int qs), .val (.int qt), .val (.ref a35), .val (.int gv), .val (.int (own_w0 ni s0 t0 qs qt wc))] [])) := by
            refine own_go (B := T37.setTop (mkF m 303 #[.val (.int ai), .val (.int bi), .val (.int ci), .val (.int hi), .val (.int ni), .val (.int s0), .val (.int t0), .val (.int s1), .val (.int t1), .val (.int s2), .val (.int t2), .val (.int s3), .val (.int t3), .val (.int qs), .val (.int qt), .val (.ref a35), .val (.int gv), .val (.int (own_w0 ni s0 t0 qs qt wc))] [(.int gv)])) (fun _ hr => XS.iload X37.here hx rfl (hb hby at_301) rfl hr) ?_
            refine own_go (B := T37.setTop (mkF m 305 #[.val (.int ai), .val (.int bi), .val (.int ci), .val (.int hi), .val (.int ni), .val (.int s0), .val (.int t0), .val (.int s1), .val (.int t1), .val (.int s2), .val (.int t2), .val (.int s3), .val (.int t3), .val (.int qs), .val (.int qt), .val (.ref a35), .val (.int gv), .val (.int (own_w0 ni s0 t0 qs qt wc))] [(.int (own_w0 ni s0 t0 qs qt wc)), (.int gv)])) (fun _ hr => XS.iload X37.here hx rfl (hb hby at_303) rfl hr) ?_
            refine own_go (B := T37.setTop (mkF m 308 #[.val (.int ai), .val (.int bi), .val (.int ci), .val (.int hi), .val (.int ni), .val (.int s0), .val (.int t0), .val (.int s1), .val (.int t1), .val (.int s2), .val (.int t2), .val (.int s3), .val (.int t3), .val (.int qs), .val (.int qt), .val (.ref a35), .val (.int gv), .val (.int (own_w0 ni s0 t0 qs qt wc))] [])) (fun _ hr => XS.icmpNo X37.here hx rfl (hb hby at_305) rfl (XT.ii_ne_f (by rw [hgv, hwc, hwb, hwa])) hr) ?_
            refine own_go (B := T37.setTop (mkF m 309 #[.val (.int ai), .val (.int bi), .val (.int ci), .val (.int hi), .val (.int ni), .val (.int s0), .val (.int t0), .val (.int s1), .val (.int t1), .val (.int s2), .val (.int t2), .val (.int s3), .val (.int t3), .val (.int qs), .val (.int qt), .val (.ref a35), .val (.int gv), .val (.int (own_w0 ni s0 t0 qs qt wc))] [(.int (1 : Int32))])) (fun _ hr => XT.iconstV X37.here hx rfl (1 : Int32) (hb hby at_308) (by decide) hr) ?_
            refine own_go (B := T37.setTop (mkF m 313 #[.val (.int ai), .val (.int bi), .val (.int ci), .val (.int hi), .val (.int ni), .val (.int s0), .val (.int t0), .val (.int s1), .val (.int t1), .val (.int s2), .val (.int t2), .val (.int s3), .val (.int t3), .val (.int qs), .val (.int qt), .val (.ref a35), .val (.int gv), .val (.int (own_w0 ni s0 t0 qs qt wc))] [(.int (1 : Int32))])) (fun _ hr => XS.goto X37.here hx rfl (pc0 := 309) (pc' := 313) rfl (hb hby at_309) (by decide) (by decide) hr) ?_
            exact own_retZ X37 hx hlk hret (by decide) (hb hby at_313) (by decide) (by decide) ⟨rfl, M37⟩
          refine own_go (B := T37.setTop (mkF m 280 #[.val (.int ai), .val (.int bi), .val (.int ci), .val (.int hi), .val (.int ni), .val (.int s0), .val (.int t0), .val (.int s1), .val (.int t1), .val (.int s2), .val (.int t2), .val (.int s3), .val (.int t3), .val (.int qs), .val (.int qt), .val (.ref a35), .val (.int gv), .val (.int wc)] [(.int ni)])) (fun _ hr => XS.iload X37.here hx rfl (hb hby at_278) rfl hr) ?_
          refine own_go (B := T37.setTop (mkF m 281 #[.val (.int ai), .val (.int bi), .val (.int ci), .val (.int hi), .val (.int ni), .val (.int s0), .val (.int t0), .val (.int s1), .val (.int t1), .val (.int s2), .val (.int t2), .val (.int s3), .val (.int t3), .val (.int qs), .val (.int qt), .val (.ref a35), .val (.int gv), .val (.int wc)] [(.int (1 : Int32)), (.int ni)])) (fun _ hr => XT.iconstV X37.here hx rfl (1 : Int32) (hb hby at_280) (by decide) hr) ?_
          by_cases c66 : ni < (1 : Int32)
          · refine own_go (B := T37.setTop (mkF m 301 #[.val (.int ai), .val (.int bi), .val (.int ci), .val (.int hi), .val (.int ni), .val (.int s0), .val (.int t0), .val (.int s1), .val (.int t1), .val (.int s2), .val (.int t2), .val (.int s3), .val (.int t3), .val (.int qs), .val (.int qt), .val (.ref a35), .val (.int gv), .val (.int wc)] [])) (fun _ hr => XS.icmpYes X37.here hx rfl (pc0 := 281) (pc' := 301) rfl (hb hby at_281) rfl (XT.ii_lt_t c66) (by decide) (by decide) hr) ?_
            have q : (own_w0 ni s0 t0 qs qt wc) = wc := by simp only [own_w0, if_pos c66]
            rw [q] at hk65
            exact hk65
          · refine own_go (B := T37.setTop (mkF m 284 #[.val (.int ai), .val (.int bi), .val (.int ci), .val (.int hi), .val (.int ni), .val (.int s0), .val (.int t0), .val (.int s1), .val (.int t1), .val (.int s2), .val (.int t2), .val (.int s3), .val (.int t3), .val (.int qs), .val (.int qt), .val (.ref a35), .val (.int gv), .val (.int wc)] [])) (fun _ hr => XS.icmpNo X37.here hx rfl (hb hby at_281) rfl (XT.ii_lt_f c66) hr) ?_
            refine own_go (B := T37.setTop (mkF m 286 #[.val (.int ai), .val (.int bi), .val (.int ci), .val (.int hi), .val (.int ni), .val (.int s0), .val (.int t0), .val (.int s1), .val (.int t1), .val (.int s2), .val (.int t2), .val (.int s3), .val (.int t3), .val (.int qs), .val (.int qt), .val (.ref a35), .val (.int gv), .val (.int wc)] [(.int s0)])) (fun _ hr => XS.iload X37.here hx rfl (hb hby at_284) rfl hr) ?_
            refine own_go (B := T37.setTop (mkF m 288 #[.val (.int ai), .val (.int bi), .val (.int ci), .val (.int hi), .val (.int ni), .val (.int s0), .val (.int t0), .val (.int s1), .val (.int t1), .val (.int s2), .val (.int t2), .val (.int s3), .val (.int t3), .val (.int qs), .val (.int qt), .val (.ref a35), .val (.int gv), .val (.int wc)] [(.int qs), (.int s0)])) (fun _ hr => XS.iload X37.here hx rfl (hb hby at_286) rfl hr) ?_
            by_cases c67 : s0 = qs
            · refine own_go (B := T37.setTop (mkF m 291 #[.val (.int ai), .val (.int bi), .val (.int ci), .val (.int hi), .val (.int ni), .val (.int s0), .val (.int t0), .val (.int s1), .val (.int t1), .val (.int s2), .val (.int t2), .val (.int s3), .val (.int t3), .val (.int qs), .val (.int qt), .val (.ref a35), .val (.int gv), .val (.int wc)] [])) (fun _ hr => XS.icmpNo X37.here hx rfl (hb hby at_288) rfl (XT.ii_ne_f c67) hr) ?_
              refine own_go (B := T37.setTop (mkF m 293 #[.val (.int ai), .val (.int bi), .val (.int ci), .val (.int hi), .val (.int ni), .val (.int s0), .val (.int t0), .val (.int s1), .val (.int t1), .val (.int s2), .val (.int t2), .val (.int s3), .val (.int t3), .val (.int qs), .val (.int qt), .val (.ref a35), .val (.int gv), .val (.int wc)] [(.int t0)])) (fun _ hr => XS.iload X37.here hx rfl (hb hby at_291) rfl hr) ?_
              refine own_go (B := T37.setTop (mkF m 295 #[.val (.int ai), .val (.int bi), .val (.int ci), .val (.int hi), .val (.int ni), .val (.int s0), .val (.int t0), .val (.int s1), .val (.int t1), .val (.int s2), .val (.int t2), .val (.int s3), .val (.int t3), .val (.int qs), .val (.int qt), .val (.ref a35), .val (.int gv), .val (.int wc)] [(.int qt), (.int t0)])) (fun _ hr => XS.iload X37.here hx rfl (hb hby at_293) rfl hr) ?_
              by_cases c68 : t0 = qt
              · refine own_go (B := T37.setTop (mkF m 298 #[.val (.int ai), .val (.int bi), .val (.int ci), .val (.int hi), .val (.int ni), .val (.int s0), .val (.int t0), .val (.int s1), .val (.int t1), .val (.int s2), .val (.int t2), .val (.int s3), .val (.int t3), .val (.int qs), .val (.int qt), .val (.ref a35), .val (.int gv), .val (.int wc)] [])) (fun _ hr => XS.icmpNo X37.here hx rfl (hb hby at_295) rfl (XT.ii_ne_f c68) hr) ?_
                refine own_go (B := T37.setTop (mkF m 299 #[.val (.int ai), .val (.int bi), .val (.int ci), .val (.int hi), .val (.int ni), .val (.int s0), .val (.int t0), .val (.int s1), .val (.int t1), .val (.int s2), .val (.int t2), .val (.int s3), .val (.int t3), .val (.int qs), .val (.int qt), .val (.ref a35), .val (.int gv), .val (.int wc)] [(.int (0 : Int32))])) (fun _ hr => XT.iconstV X37.here hx rfl (0 : Int32) (hb hby at_298) (by decide) hr) ?_
                refine own_go (B := T37.setTop (mkF m 301 #[.val (.int ai), .val (.int bi), .val (.int ci), .val (.int hi), .val (.int ni), .val (.int s0), .val (.int t0), .val (.int s1), .val (.int t1), .val (.int s2), .val (.int t2), .val (.int s3), .val (.int t3), .val (.int qs), .val (.int qt), .val (.ref a35), .val (.int gv), .val (.int (0 : Int32))] [])) (fun _ hr => XS.istore X37.here hx rfl (hb hby at_299) rfl (l' := #[.val (.int ai), .val (.int bi), .val (.int ci), .val (.int hi), .val (.int ni), .val (.int s0), .val (.int t0), .val (.int s1), .val (.int t1), .val (.int s2), .val (.int t2), .val (.int s3), .val (.int t3), .val (.int qs), .val (.int qt), .val (.ref a35), .val (.int gv), .val (.int (0 : Int32))]) rfl hr) ?_
                have q : (own_w0 ni s0 t0 qs qt wc) = (0 : Int32) := by simp only [own_w0, if_neg c66, if_pos c67, if_pos c68]
                rw [q] at hk65
                exact hk65
              · refine own_go (B := T37.setTop (mkF m 301 #[.val (.int ai), .val (.int bi), .val (.int ci), .val (.int hi), .val (.int ni), .val (.int s0), .val (.int t0), .val (.int s1), .val (.int t1), .val (.int s2), .val (.int t2), .val (.int s3), .val (.int t3), .val (.int qs), .val (.int qt), .val (.ref a35), .val (.int gv), .val (.int wc)] [])) (fun _ hr => XS.icmpYes X37.here hx rfl (pc0 := 295) (pc' := 301) rfl (hb hby at_295) rfl (XT.ii_ne_t c68) (by decide) (by decide) hr) ?_
                have q : (own_w0 ni s0 t0 qs qt wc) = wc := by simp only [own_w0, if_neg c66, if_pos c67, if_neg c68]
                rw [q] at hk65
                exact hk65
            · refine own_go (B := T37.setTop (mkF m 301 #[.val (.int ai), .val (.int bi), .val (.int ci), .val (.int hi), .val (.int ni), .val (.int s0), .val (.int t0), .val (.int s1), .val (.int t1), .val (.int s2), .val (.int t2), .val (.int s3), .val (.int t3), .val (.int qs), .val (.int qt), .val (.ref a35), .val (.int gv), .val (.int wc)] [])) (fun _ hr => XS.icmpYes X37.here hx rfl (pc0 := 288) (pc' := 301) rfl (hb hby at_288) rfl (XT.ii_ne_t c67) (by decide) (by decide) hr) ?_
              have q : (own_w0 ni s0 t0 qs qt wc) = wc := by simp only [own_w0, if_neg c66, if_neg c67]
              rw [q] at hk65
              exact hk65
        refine own_go (B := T37.setTop (mkF m 257 #[.val (.int ai), .val (.int bi), .val (.int ci), .val (.int hi), .val (.int ni), .val (.int s0), .val (.int t0), .val (.int s1), .val (.int t1), .val (.int s2), .val (.int t2), .val (.int s3), .val (.int t3), .val (.int qs), .val (.int qt), .val (.ref a35), .val (.int gv), .val (.int wb)] [(.int ni)])) (fun _ hr => XS.iload X37.here hx rfl (hb hby at_255) rfl hr) ?_
        refine own_go (B := T37.setTop (mkF m 258 #[.val (.int ai), .val (.int bi), .val (.int ci), .val (.int hi), .val (.int ni), .val (.int s0), .val (.int t0), .val (.int s1), .val (.int t1), .val (.int s2), .val (.int t2), .val (.int s3), .val (.int t3), .val (.int qs), .val (.int qt), .val (.ref a35), .val (.int gv), .val (.int wb)] [(.int (2 : Int32)), (.int ni)])) (fun _ hr => XT.iconstV X37.here hx rfl (2 : Int32) (hb hby at_257) (by decide) hr) ?_
        by_cases c69 : ni < (2 : Int32)
        · refine own_go (B := T37.setTop (mkF m 278 #[.val (.int ai), .val (.int bi), .val (.int ci), .val (.int hi), .val (.int ni), .val (.int s0), .val (.int t0), .val (.int s1), .val (.int t1), .val (.int s2), .val (.int t2), .val (.int s3), .val (.int t3), .val (.int qs), .val (.int qt), .val (.ref a35), .val (.int gv), .val (.int wb)] [])) (fun _ hr => XS.icmpYes X37.here hx rfl (pc0 := 258) (pc' := 278) rfl (hb hby at_258) rfl (XT.ii_lt_t c69) (by decide) (by decide) hr) ?_
          have q : (own_w1 ni s1 t1 qs qt wb) = wb := by simp only [own_w1, if_pos c69]
          rw [q] at hk58
          exact hk58
        · refine own_go (B := T37.setTop (mkF m 261 #[.val (.int ai), .val (.int bi), .val (.int ci), .val (.int hi), .val (.int ni), .val (.int s0), .val (.int t0), .val (.int s1), .val (.int t1), .val (.int s2), .val (.int t2), .val (.int s3), .val (.int t3), .val (.int qs), .val (.int qt), .val (.ref a35), .val (.int gv), .val (.int wb)] [])) (fun _ hr => XS.icmpNo X37.here hx rfl (hb hby at_258) rfl (XT.ii_lt_f c69) hr) ?_
          refine own_go (B := T37.setTop (mkF m 263 #[.val (.int ai), .val (.int bi), .val (.int ci), .val (.int hi), .val (.int ni), .val (.int s0), .val (.int t0), .val (.int s1), .val (.int t1), .val (.int s2), .val (.int t2), .val (.int s3), .val (.int t3), .val (.int qs), .val (.int qt), .val (.ref a35), .val (.int gv), .val (.int wb)] [(.int s1)])) (fun _ hr => XS.iload X37.here hx rfl (hb hby at_261) rfl hr) ?_
          refine own_go (B := T37.setTop (mkF m 265 #[.val (.int ai), .val (.int bi), .val (.int ci), .val (.int hi), .val (.int ni), .val (.int s0), .val (.int t0), .val (.int s1), .val (.int t1), .val (.int s2), .val (.int t2), .val (.int s3), .val (.int t3), .val (.int qs), .val (.int qt), .val (.ref a35), .val (.int gv), .val (.int wb)] [(.int qs), (.int s1)])) (fun _ hr => XS.iload X37.here hx rfl (hb hby at_263) rfl hr) ?_
          by_cases c70 : s1 = qs
          · refine own_go (B := T37.setTop (mkF m 268 #[.val (.int ai), .val (.int bi), .val (.int ci), .val (.int hi), .val (.int ni), .val (.int s0), .val (.int t0), .val (.int s1), .val (.int t1), .val (.int s2), .val (.int t2), .val (.int s3), .val (.int t3), .val (.int qs), .val (.int qt), .val (.ref a35), .val (.int gv), .val (.int wb)] [])) (fun _ hr => XS.icmpNo X37.here hx rfl (hb hby at_265) rfl (XT.ii_ne_f c70) hr) ?_
            refine own_go (B := T37.setTop (mkF m 270 #[.val (.int ai), .val (.int bi), .val (.int ci), .val (.int hi), .val (.int ni), .val (.int s0), .val (.int t0), .val (.int s1), .val (.int t1), .val (.int s2), .val (.int t2), .val (.int s3), .val (.int t3), .val (.int qs), .val (.int qt), .val (.ref a35), .val (.int gv), .val (.int wb)] [(.int t1)])) (fun _ hr => XS.iload X37.here hx rfl (hb hby at_268) rfl hr) ?_
            refine own_go (B := T37.setTop (mkF m 272 #[.val (.int ai), .val (.int bi), .val (.int ci), .val (.int hi), .val (.int ni), .val (.int s0), .val (.int t0), .val (.int s1), .val (.int t1), .val (.int s2), .val (.int t2), .val (.int s3), .val (.int t3), .val (.int qs), .val (.int qt), .val (.ref a35), .val (.int gv), .val (.int wb)] [(.int qt), (.int t1)])) (fun _ hr => XS.iload X37.here hx rfl (hb hby at_270) rfl hr) ?_
            by_cases c71 : t1 = qt
            · refine own_go (B := T37.setTop (mkF m 275 #[.val (.int ai), .val (.int bi), .val (.int ci), .val (.int hi), .val (.int ni), .val (.int s0), .val (.int t0), .val (.int s1), .val (.int t1), .val (.int s2), .val (.int t2), .val (.int s3), .val (.int t3), .val (.int qs), .val (.int qt), .val (.ref a35), .val (.int gv), .val (.int wb)] [])) (fun _ hr => XS.icmpNo X37.here hx rfl (hb hby at_272) rfl (XT.ii_ne_f c71) hr) ?_
              refine own_go (B := T37.setTop (mkF m 276 #[.val (.int ai), .val (.int bi), .val (.int ci), .val (.int hi), .val (.int ni), .val (.int s0), .val (.int t0), .val (.int s1), .val (.int t1), .val (.int s2), .val (.int t2), .val (.int s3), .val (.int t3), .val (.int qs), .val (.int qt), .val (.ref a35), .val (.int gv), .val (.int wb)] [(.int (1 : Int32))])) (fun _ hr => XT.iconstV X37.here hx rfl (1 : Int32) (hb hby at_275) (by decide) hr) ?_
              refine own_go (B := T37.setTop (mkF m 278 #[.val (.int ai), .val (.int bi), .val (.int ci), .val (.int hi), .val (.int ni), .val (.int s0), .val (.int t0), .val (.int s1), .val (.int t1), .val (.int s2), .val (.int t2), .val (.int s3), .val (.int t3), .val (.int qs), .val (.int qt), .val (.ref a35), .val (.int gv), .val (.int (1 : Int32))] [])) (fun _ hr => XS.istore X37.here hx rfl (hb hby at_276) rfl (l' := #[.val (.int ai), .val (.int bi), .val (.int ci), .val (.int hi), .val (.int ni), .val (.int s0), .val (.int t0), .val (.int s1), .val (.int t1), .val (.int s2), .val (.int t2), .val (.int s3), .val (.int t3), .val (.int qs), .val (.int qt), .val (.ref a35), .val (.int gv), .val (.int (1 : Int32))]) rfl hr) ?_
              have q : (own_w1 ni s1 t1 qs qt wb) = (1 : Int32) := by simp only [own_w1, if_neg c69, if_pos c70, if_pos c71]
              rw [q] at hk58
              exact hk58
            · refine own_go (B := T37.setTop (mkF m 278 #[.val (.int ai), .val (.int bi), .val (.int ci), .val (.int hi), .val (.int ni), .val (.int s0), .val (.int t0), .val (.int s1), .val (.int t1), .val (.int s2), .val (.int t2), .val (.int s3), .val (.int t3), .val (.int qs), .val (.int qt), .val (.ref a35), .val (.int gv), .val (.int wb)] [])) (fun _ hr => XS.icmpYes X37.here hx rfl (pc0 := 272) (pc' := 278) rfl (hb hby at_272) rfl (XT.ii_ne_t c71) (by decide) (by decide) hr) ?_
              have q : (own_w1 ni s1 t1 qs qt wb) = wb := by simp only [own_w1, if_neg c69, if_pos c70, if_neg c71]
              rw [q] at hk58
              exact hk58
          · refine own_go (B := T37.setTop (mkF m 278 #[.val (.int ai), .val (.int bi), .val (.int ci), .val (.int hi), .val (.int ni), .val (.int s0), .val (.int t0), .val (.int s1), .val (.int t1), .val (.int s2), .val (.int t2), .val (.int s3), .val (.int t3), .val (.int qs), .val (.int qt), .val (.ref a35), .val (.int gv), .val (.int wb)] [])) (fun _ hr => XS.icmpYes X37.here hx rfl (pc0 := 265) (pc' := 278) rfl (hb hby at_265) rfl (XT.ii_ne_t c70) (by decide) (by decide) hr) ?_
            have q : (own_w1 ni s1 t1 qs qt wb) = wb := by simp only [own_w1, if_neg c69, if_neg c70]
            rw [q] at hk58
            exact hk58
      refine own_go (B := T37.setTop (mkF m 234 #[.val (.int ai), .val (.int bi), .val (.int ci), .val (.int hi), .val (.int ni), .val (.int s0), .val (.int t0), .val (.int s1), .val (.int t1), .val (.int s2), .val (.int t2), .val (.int s3), .val (.int t3), .val (.int qs), .val (.int qt), .val (.ref a35), .val (.int gv), .val (.int wa)] [(.int ni)])) (fun _ hr => XS.iload X37.here hx rfl (hb hby at_232) rfl hr) ?_
      refine own_go (B := T37.setTop (mkF m 235 #[.val (.int ai), .val (.int bi), .val (.int ci), .val (.int hi), .val (.int ni), .val (.int s0), .val (.int t0), .val (.int s1), .val (.int t1), .val (.int s2), .val (.int t2), .val (.int s3), .val (.int t3), .val (.int qs), .val (.int qt), .val (.ref a35), .val (.int gv), .val (.int wa)] [(.int (3 : Int32)), (.int ni)])) (fun _ hr => XT.iconstV X37.here hx rfl (3 : Int32) (hb hby at_234) (by decide) hr) ?_
      by_cases c72 : ni < (3 : Int32)
      · refine own_go (B := T37.setTop (mkF m 255 #[.val (.int ai), .val (.int bi), .val (.int ci), .val (.int hi), .val (.int ni), .val (.int s0), .val (.int t0), .val (.int s1), .val (.int t1), .val (.int s2), .val (.int t2), .val (.int s3), .val (.int t3), .val (.int qs), .val (.int qt), .val (.ref a35), .val (.int gv), .val (.int wa)] [])) (fun _ hr => XS.icmpYes X37.here hx rfl (pc0 := 235) (pc' := 255) rfl (hb hby at_235) rfl (XT.ii_lt_t c72) (by decide) (by decide) hr) ?_
        have q : (own_w2 ni s2 t2 qs qt wa) = wa := by simp only [own_w2, if_pos c72]
        rw [q] at hk51
        exact hk51
      · refine own_go (B := T37.setTop (mkF m 238 #[.val (.int ai), .val (.int bi), .val (.int ci), .val (.int hi), .val (.int ni), .val (.int s0), .val (.int t0), .val (.int s1), .val (.int t1), .val (.int s2), .val (.int t2), .val (.int s3), .val (.int t3), .val (.int qs), .val (.int qt), .val (.ref a35), .val (.int gv), .val (.int wa)] [])) (fun _ hr => XS.icmpNo X37.here hx rfl (hb hby at_235) rfl (XT.ii_lt_f c72) hr) ?_
        refine own_go (B := T37.setTop (mkF m 240 #[.val (.int ai), .val (.int bi), .val (.int ci), .val (.int hi), .val (.int ni), .val (.int s0), .val (.int t0), .val (.int s1), .val (.int t1), .val (.int s2), .val (.int t2), .val (.int s3), .val (.int t3), .val (.int qs), .val (.int qt), .val (.ref a35), .val (.int gv), .val (.int wa)] [(.int s2)])) (fun _ hr => XS.iload X37.here hx rfl (hb hby at_238) rfl hr) ?_
        refine own_go (B := T37.setTop (mkF m 242 #[.val (.int ai), .val (.int bi), .val (.int ci), .val (.int hi), .val (.int ni), .val (.int s0), .val (.int t0), .val (.int s1), .val (.int t1), .val (.int s2), .val (.int t2), .val (.int s3), .val (.int t3), .val (.int qs), .val (.int qt), .val (.ref a35), .val (.int gv), .val (.int wa)] [(.int qs), (.int s2)])) (fun _ hr => XS.iload X37.here hx rfl (hb hby at_240) rfl hr) ?_
        by_cases c73 : s2 = qs
        · refine own_go (B := T37.setTop (mkF m 245 #[.val (.int ai), .val (.int bi), .val (.int ci), .val (.int hi), .val (.int ni), .val (.int s0), .val (.int t0), .val (.int s1), .val (.int t1), .val (.int s2), .val (.int t2), .val (.int s3), .val (.int t3), .val (.int qs), .val (.int qt), .val (.ref a35), .val (.int gv), .val (.int wa)] [])) (fun _ hr => XS.icmpNo X37.here hx rfl (hb hby at_242) rfl (XT.ii_ne_f c73) hr) ?_
          refine own_go (B := T37.setTop (mkF m 247 #[.val (.int ai), .val (.int bi), .val (.int ci), .val (.int hi), .val (.int ni), .val (.int s0), .val (.int t0), .val (.int s1), .val (.int t1), .val (.int s2), .val (.int t2), .val (.int s3), .val (.int t3), .val (.int qs), .val (.int qt), .val (.ref a35), .val (.int gv), .val (.int wa)] [(.int t2)])) (fun _ hr => XS.iload X37.here hx rfl (hb hby at_245) rfl hr) ?_
          refine own_go (B := T37.setTop (mkF m 249 #[.val (.int ai), .val (.int bi), .val (.int ci), .val (.int hi), .val (.int ni), .val (.int s0), .val (.int t0), .val (.int s1), .val (.int t1), .val (.int s2), .val (.int t2), .val (.int s3), .val (.int t3), .val (.int qs), .val (.int qt), .val (.ref a35), .val (.int gv), .val (.int wa)] [(.int qt), (.int t2)])) (fun _ hr => XS.iload X37.here hx rfl (hb hby at_247) rfl hr) ?_
          by_cases c74 : t2 = qt
          · refine own_go (B := T37.setTop (mkF m 252 #[.val (.int ai), .val (.int bi), .val (.int ci), .val (.int hi), .val (.int ni), .val (.int s0), .val (.int t0), .val (.int s1), .val (.int t1), .val (.int s2), .val (.int t2), .val (.int s3), .val (.int t3), .val (.int qs), .val (.int qt), .val (.ref a35), .val (.int gv), .val (.int wa)] [])) (fun _ hr => XS.icmpNo X37.here hx rfl (hb hby at_249) rfl (XT.ii_ne_f c74) hr) ?_
            refine own_go (B := T37.setTop (mkF m 253 #[.val (.int ai), .val (.int bi), .val (.int ci), .val (.int hi), .val (.int ni), .val (.int s0), .val (.int t0), .val (.int s1), .val (.int t1), .val (.int s2), .val (.int t2), .val (.int s3), .val (.int t3), .val (.int qs), .val (.int qt), .val (.ref a35), .val (.int gv), .val (.int wa)] [(.int (2 : Int32))])) (fun _ hr => XT.iconstV X37.here hx rfl (2 : Int32) (hb hby at_252) (by decide) hr) ?_
            refine own_go (B := T37.setTop (mkF m 255 #[.val (.int ai), .val (.int bi), .val (.int ci), .val (.int hi), .val (.int ni), .val (.int s0), .val (.int t0), .val (.int s1), .val (.int t1), .val (.int s2), .val (.int t2), .val (.int s3), .val (.int t3), .val (.int qs), .val (.int qt), .val (.ref a35), .val (.int gv), .val (.int (2 : Int32))] [])) (fun _ hr => XS.istore X37.here hx rfl (hb hby at_253) rfl (l' := #[.val (.int ai), .val (.int bi), .val (.int ci), .val (.int hi), .val (.int ni), .val (.int s0), .val (.int t0), .val (.int s1), .val (.int t1), .val (.int s2), .val (.int t2), .val (.int s3), .val (.int t3), .val (.int qs), .val (.int qt), .val (.ref a35), .val (.int gv), .val (.int (2 : Int32))]) rfl hr) ?_
            have q : (own_w2 ni s2 t2 qs qt wa) = (2 : Int32) := by simp only [own_w2, if_neg c72, if_pos c73, if_pos c74]
            rw [q] at hk51
            exact hk51
          · refine own_go (B := T37.setTop (mkF m 255 #[.val (.int ai), .val (.int bi), .val (.int ci), .val (.int hi), .val (.int ni), .val (.int s0), .val (.int t0), .val (.int s1), .val (.int t1), .val (.int s2), .val (.int t2), .val (.int s3), .val (.int t3), .val (.int qs), .val (.int qt), .val (.ref a35), .val (.int gv), .val (.int wa)] [])) (fun _ hr => XS.icmpYes X37.here hx rfl (pc0 := 249) (pc' := 255) rfl (hb hby at_249) rfl (XT.ii_ne_t c74) (by decide) (by decide) hr) ?_
            have q : (own_w2 ni s2 t2 qs qt wa) = wa := by simp only [own_w2, if_neg c72, if_pos c73, if_neg c74]
            rw [q] at hk51
            exact hk51
        · refine own_go (B := T37.setTop (mkF m 255 #[.val (.int ai), .val (.int bi), .val (.int ci), .val (.int hi), .val (.int ni), .val (.int s0), .val (.int t0), .val (.int s1), .val (.int t1), .val (.int s2), .val (.int t2), .val (.int s3), .val (.int t3), .val (.int qs), .val (.int qt), .val (.ref a35), .val (.int gv), .val (.int wa)] [])) (fun _ hr => XS.icmpYes X37.here hx rfl (pc0 := 242) (pc' := 255) rfl (hb hby at_242) rfl (XT.ii_ne_t c73) (by decide) (by decide) hr) ?_
          have q : (own_w2 ni s2 t2 qs qt wa) = wa := by simp only [own_w2, if_neg c72, if_neg c73]
          rw [q] at hk51
          exact hk51
    refine own_go (B := T37.setTop (mkF m 211 #[.val (.int ai), .val (.int bi), .val (.int ci), .val (.int hi), .val (.int ni), .val (.int s0), .val (.int t0), .val (.int s1), .val (.int t1), .val (.int s2), .val (.int t2), .val (.int s3), .val (.int t3), .val (.int qs), .val (.int qt), .val (.ref a35), .val (.int gv), .val (.int (-1 : Int32))] [(.int ni)])) (fun _ hr => XS.iload X37.here hx rfl (hb hby at_209) rfl hr) ?_
    refine own_go (B := T37.setTop (mkF m 212 #[.val (.int ai), .val (.int bi), .val (.int ci), .val (.int hi), .val (.int ni), .val (.int s0), .val (.int t0), .val (.int s1), .val (.int t1), .val (.int s2), .val (.int t2), .val (.int s3), .val (.int t3), .val (.int qs), .val (.int qt), .val (.ref a35), .val (.int gv), .val (.int (-1 : Int32))] [(.int (4 : Int32)), (.int ni)])) (fun _ hr => XT.iconstV X37.here hx rfl (4 : Int32) (hb hby at_211) (by decide) hr) ?_
    by_cases c75 : ni < (4 : Int32)
    · refine own_go (B := T37.setTop (mkF m 232 #[.val (.int ai), .val (.int bi), .val (.int ci), .val (.int hi), .val (.int ni), .val (.int s0), .val (.int t0), .val (.int s1), .val (.int t1), .val (.int s2), .val (.int t2), .val (.int s3), .val (.int t3), .val (.int qs), .val (.int qt), .val (.ref a35), .val (.int gv), .val (.int (-1 : Int32))] [])) (fun _ hr => XS.icmpYes X37.here hx rfl (pc0 := 212) (pc' := 232) rfl (hb hby at_212) rfl (XT.ii_lt_t c75) (by decide) (by decide) hr) ?_
      have q : (own_w3 ni s3 t3 qs qt) = (-1 : Int32) := by simp only [own_w3, if_pos c75]
      rw [q] at hk44
      exact hk44
    · refine own_go (B := T37.setTop (mkF m 215 #[.val (.int ai), .val (.int bi), .val (.int ci), .val (.int hi), .val (.int ni), .val (.int s0), .val (.int t0), .val (.int s1), .val (.int t1), .val (.int s2), .val (.int t2), .val (.int s3), .val (.int t3), .val (.int qs), .val (.int qt), .val (.ref a35), .val (.int gv), .val (.int (-1 : Int32))] [])) (fun _ hr => XS.icmpNo X37.here hx rfl (hb hby at_212) rfl (XT.ii_lt_f c75) hr) ?_
      refine own_go (B := T37.setTop (mkF m 217 #[.val (.int ai), .val (.int bi), .val (.int ci), .val (.int hi), .val (.int ni), .val (.int s0), .val (.int t0), .val (.int s1), .val (.int t1), .val (.int s2), .val (.int t2), .val (.int s3), .val (.int t3), .val (.int qs), .val (.int qt), .val (.ref a35), .val (.int gv), .val (.int (-1 : Int32))] [(.int s3)])) (fun _ hr => XS.iload X37.here hx rfl (hb hby at_215) rfl hr) ?_
      refine own_go (B := T37.setTop (mkF m 219 #[.val (.int ai), .val (.int bi), .val (.int ci), .val (.int hi), .val (.int ni), .val (.int s0), .val (.int t0), .val (.int s1), .val (.int t1), .val (.int s2), .val (.int t2), .val (.int s3), .val (.int t3), .val (.int qs), .val (.int qt), .val (.ref a35), .val (.int gv), .val (.int (-1 : Int32))] [(.int qs), (.int s3)])) (fun _ hr => XS.iload X37.here hx rfl (hb hby at_217) rfl hr) ?_
      by_cases c76 : s3 = qs
      · refine own_go (B := T37.setTop (mkF m 222 #[.val (.int ai), .val (.int bi), .val (.int ci), .val (.int hi), .val (.int ni), .val (.int s0), .val (.int t0), .val (.int s1), .val (.int t1), .val (.int s2), .val (.int t2), .val (.int s3), .val (.int t3), .val (.int qs), .val (.int qt), .val (.ref a35), .val (.int gv), .val (.int (-1 : Int32))] [])) (fun _ hr => XS.icmpNo X37.here hx rfl (hb hby at_219) rfl (XT.ii_ne_f c76) hr) ?_
        refine own_go (B := T37.setTop (mkF m 224 #[.val (.int ai), .val (.int bi), .val (.int ci), .val (.int hi), .val (.int ni), .val (.int s0), .val (.int t0), .val (.int s1), .val (.int t1), .val (.int s2), .val (.int t2), .val (.int s3), .val (.int t3), .val (.int qs), .val (.int qt), .val (.ref a35), .val (.int gv), .val (.int (-1 : Int32))] [(.int t3)])) (fun _ hr => XS.iload X37.here hx rfl (hb hby at_222) rfl hr) ?_
        refine own_go (B := T37.setTop (mkF m 226 #[.val (.int ai), .val (.int bi), .val (.int ci), .val (.int hi), .val (.int ni), .val (.int s0), .val (.int t0), .val (.int s1), .val (.int t1), .val (.int s2), .val (.int t2), .val (.int s3), .val (.int t3), .val (.int qs), .val (.int qt), .val (.ref a35), .val (.int gv), .val (.int (-1 : Int32))] [(.int qt), (.int t3)])) (fun _ hr => XS.iload X37.here hx rfl (hb hby at_224) rfl hr) ?_
        by_cases c77 : t3 = qt
        · refine own_go (B := T37.setTop (mkF m 229 #[.val (.int ai), .val (.int bi), .val (.int ci), .val (.int hi), .val (.int ni), .val (.int s0), .val (.int t0), .val (.int s1), .val (.int t1), .val (.int s2), .val (.int t2), .val (.int s3), .val (.int t3), .val (.int qs), .val (.int qt), .val (.ref a35), .val (.int gv), .val (.int (-1 : Int32))] [])) (fun _ hr => XS.icmpNo X37.here hx rfl (hb hby at_226) rfl (XT.ii_ne_f c77) hr) ?_
          refine own_go (B := T37.setTop (mkF m 230 #[.val (.int ai), .val (.int bi), .val (.int ci), .val (.int hi), .val (.int ni), .val (.int s0), .val (.int t0), .val (.int s1), .val (.int t1), .val (.int s2), .val (.int t2), .val (.int s3), .val (.int t3), .val (.int qs), .val (.int qt), .val (.ref a35), .val (.int gv), .val (.int (-1 : Int32))] [(.int (3 : Int32))])) (fun _ hr => XT.iconstV X37.here hx rfl (3 : Int32) (hb hby at_229) (by decide) hr) ?_
          refine own_go (B := T37.setTop (mkF m 232 #[.val (.int ai), .val (.int bi), .val (.int ci), .val (.int hi), .val (.int ni), .val (.int s0), .val (.int t0), .val (.int s1), .val (.int t1), .val (.int s2), .val (.int t2), .val (.int s3), .val (.int t3), .val (.int qs), .val (.int qt), .val (.ref a35), .val (.int gv), .val (.int (3 : Int32))] [])) (fun _ hr => XS.istore X37.here hx rfl (hb hby at_230) rfl (l' := #[.val (.int ai), .val (.int bi), .val (.int ci), .val (.int hi), .val (.int ni), .val (.int s0), .val (.int t0), .val (.int s1), .val (.int t1), .val (.int s2), .val (.int t2), .val (.int s3), .val (.int t3), .val (.int qs), .val (.int qt), .val (.ref a35), .val (.int gv), .val (.int (3 : Int32))]) rfl hr) ?_
          have q : (own_w3 ni s3 t3 qs qt) = (3 : Int32) := by simp only [own_w3, if_neg c75, if_pos c76, if_pos c77]
          rw [q] at hk44
          exact hk44
        · refine own_go (B := T37.setTop (mkF m 232 #[.val (.int ai), .val (.int bi), .val (.int ci), .val (.int hi), .val (.int ni), .val (.int s0), .val (.int t0), .val (.int s1), .val (.int t1), .val (.int s2), .val (.int t2), .val (.int s3), .val (.int t3), .val (.int qs), .val (.int qt), .val (.ref a35), .val (.int gv), .val (.int (-1 : Int32))] [])) (fun _ hr => XS.icmpYes X37.here hx rfl (pc0 := 226) (pc' := 232) rfl (hb hby at_226) rfl (XT.ii_ne_t c77) (by decide) (by decide) hr) ?_
          have q : (own_w3 ni s3 t3 qs qt) = (-1 : Int32) := by simp only [own_w3, if_neg c75, if_pos c76, if_neg c77]
          rw [q] at hk44
          exact hk44
      · refine own_go (B := T37.setTop (mkF m 232 #[.val (.int ai), .val (.int bi), .val (.int ci), .val (.int hi), .val (.int ni), .val (.int s0), .val (.int t0), .val (.int s1), .val (.int t1), .val (.int s2), .val (.int t2), .val (.int s3), .val (.int t3), .val (.int qs), .val (.int qt), .val (.ref a35), .val (.int gv), .val (.int (-1 : Int32))] [])) (fun _ hr => XS.icmpYes X37.here hx rfl (pc0 := 219) (pc' := 232) rfl (hb hby at_219) rfl (XT.ii_ne_t c76) (by decide) (by decide) hr) ?_
        have q : (own_w3 ni s3 t3 qs qt) = (-1 : Int32) := by simp only [own_w3, if_neg c75, if_neg c76]
        rw [q] at hk44
        exact hk44
  have hc : kk = 0 ∨ kk = 1 ∨ kk = 2 ∨ kk = 3 ∨ kk = 4 := by omega
  rcases hc with rfl | rfl | rfl | rfl | rfl
  · obtain rfl : ni = (0 : Int32) := Int32.toInt_inj.mp (by rw [hn]; rfl)
    refine own_go (B := T36.setTop (mkF m 137 #[.val (.int ai), .val (.int bi), .val (.int ci), .val (.int hi), .val (.int (0 : Int32)), .val (.int s0), .val (.int t0), .val (.int s1), .val (.int t1), .val (.int s2), .val (.int t2), .val (.int s3), .val (.int t3), .val (.int qs), .val (.int qt), .val (.ref a35), .unset, .unset] [(.int (0 : Int32))])) (fun _ hr => XS.iload X36.here hx rfl (hb hby at_135) rfl hr) ?_
    refine own_go (B := T36.setTop (mkF m 138 #[.val (.int ai), .val (.int bi), .val (.int ci), .val (.int hi), .val (.int (0 : Int32)), .val (.int s0), .val (.int t0), .val (.int s1), .val (.int t1), .val (.int s2), .val (.int t2), .val (.int s3), .val (.int t3), .val (.int qs), .val (.int qt), .val (.ref a35), .unset, .unset] [(.int (1 : Int32)), (.int (0 : Int32))])) (fun _ hr => XT.iconstV X36.here hx rfl (1 : Int32) (hb hby at_137) (by decide) hr) ?_
    refine own_go (B := T36.setTop (mkF m 150 #[.val (.int ai), .val (.int bi), .val (.int ci), .val (.int hi), .val (.int (0 : Int32)), .val (.int s0), .val (.int t0), .val (.int s1), .val (.int t1), .val (.int s2), .val (.int t2), .val (.int s3), .val (.int t3), .val (.int qs), .val (.int qt), .val (.ref a35), .unset, .unset] [])) (fun _ hr => XS.icmpYes X36.here hx rfl (pc0 := 138) (pc' := 150) rfl (hb hby at_138) rfl (XT.ii_lt_t (by decide)) (by decide) (by decide) hr) ?_
    refine own_go (B := T36.setTop (mkF m 152 #[.val (.int ai), .val (.int bi), .val (.int ci), .val (.int hi), .val (.int (0 : Int32)), .val (.int s0), .val (.int t0), .val (.int s1), .val (.int t1), .val (.int s2), .val (.int t2), .val (.int s3), .val (.int t3), .val (.int qs), .val (.int qt), .val (.ref a35), .unset, .unset] [(.int (0 : Int32))])) (fun _ hr => XS.iload X36.here hx rfl (hb hby at_150) rfl hr) ?_
    refine own_go (B := T36.setTop (mkF m 153 #[.val (.int ai), .val (.int bi), .val (.int ci), .val (.int hi), .val (.int (0 : Int32)), .val (.int s0), .val (.int t0), .val (.int s1), .val (.int t1), .val (.int s2), .val (.int t2), .val (.int s3), .val (.int t3), .val (.int qs), .val (.int qt), .val (.ref a35), .unset, .unset] [(.int (2 : Int32)), (.int (0 : Int32))])) (fun _ hr => XT.iconstV X36.here hx rfl (2 : Int32) (hb hby at_152) (by decide) hr) ?_
    refine own_go (B := T36.setTop (mkF m 165 #[.val (.int ai), .val (.int bi), .val (.int ci), .val (.int hi), .val (.int (0 : Int32)), .val (.int s0), .val (.int t0), .val (.int s1), .val (.int t1), .val (.int s2), .val (.int t2), .val (.int s3), .val (.int t3), .val (.int qs), .val (.int qt), .val (.ref a35), .unset, .unset] [])) (fun _ hr => XS.icmpYes X36.here hx rfl (pc0 := 153) (pc' := 165) rfl (hb hby at_153) rfl (XT.ii_lt_t (by decide)) (by decide) (by decide) hr) ?_
    refine own_go (B := T36.setTop (mkF m 167 #[.val (.int ai), .val (.int bi), .val (.int ci), .val (.int hi), .val (.int (0 : Int32)), .val (.int s0), .val (.int t0), .val (.int s1), .val (.int t1), .val (.int s2), .val (.int t2), .val (.int s3), .val (.int t3), .val (.int qs), .val (.int qt), .val (.ref a35), .unset, .unset] [(.int (0 : Int32))])) (fun _ hr => XS.iload X36.here hx rfl (hb hby at_165) rfl hr) ?_
    refine own_go (B := T36.setTop (mkF m 168 #[.val (.int ai), .val (.int bi), .val (.int ci), .val (.int hi), .val (.int (0 : Int32)), .val (.int s0), .val (.int t0), .val (.int s1), .val (.int t1), .val (.int s2), .val (.int t2), .val (.int s3), .val (.int t3), .val (.int qs), .val (.int qt), .val (.ref a35), .unset, .unset] [(.int (3 : Int32)), (.int (0 : Int32))])) (fun _ hr => XT.iconstV X36.here hx rfl (3 : Int32) (hb hby at_167) (by decide) hr) ?_
    refine own_go (B := T36.setTop (mkF m 180 #[.val (.int ai), .val (.int bi), .val (.int ci), .val (.int hi), .val (.int (0 : Int32)), .val (.int s0), .val (.int t0), .val (.int s1), .val (.int t1), .val (.int s2), .val (.int t2), .val (.int s3), .val (.int t3), .val (.int qs), .val (.int qt), .val (.ref a35), .unset, .unset] [])) (fun _ hr => XS.icmpYes X36.here hx rfl (pc0 := 168) (pc' := 180) rfl (hb hby at_168) rfl (XT.ii_lt_t (by decide)) (by decide) (by decide) hr) ?_
    refine own_go (B := T36.setTop (mkF m 182 #[.val (.int ai), .val (.int bi), .val (.int ci), .val (.int hi), .val (.int (0 : Int32)), .val (.int s0), .val (.int t0), .val (.int s1), .val (.int t1), .val (.int s2), .val (.int t2), .val (.int s3), .val (.int t3), .val (.int qs), .val (.int qt), .val (.ref a35), .unset, .unset] [(.int (0 : Int32))])) (fun _ hr => XS.iload X36.here hx rfl (hb hby at_180) rfl hr) ?_
    refine own_go (B := T36.setTop (mkF m 183 #[.val (.int ai), .val (.int bi), .val (.int ci), .val (.int hi), .val (.int (0 : Int32)), .val (.int s0), .val (.int t0), .val (.int s1), .val (.int t1), .val (.int s2), .val (.int t2), .val (.int s3), .val (.int t3), .val (.int qs), .val (.int qt), .val (.ref a35), .unset, .unset] [(.int (4 : Int32)), (.int (0 : Int32))])) (fun _ hr => XT.iconstV X36.here hx rfl (4 : Int32) (hb hby at_182) (by decide) hr) ?_
    refine own_go (B := T36.setTop (mkF m 195 #[.val (.int ai), .val (.int bi), .val (.int ci), .val (.int hi), .val (.int (0 : Int32)), .val (.int s0), .val (.int t0), .val (.int s1), .val (.int t1), .val (.int s2), .val (.int t2), .val (.int s3), .val (.int t3), .val (.int qs), .val (.int qt), .val (.ref a35), .unset, .unset] [])) (fun _ hr => XS.icmpYes X36.here hx rfl (pc0 := 183) (pc' := 195) rfl (hb hby at_183) rfl (XT.ii_lt_t (by decide)) (by decide) (by decide) hr) ?_
    exact hfin _ _ X36 M36 Z2 _ _ H36 (by intro i hi; have : i = 0 ∨ i = 1 ∨ i = 2 ∨ i = 3 := (by omega); rcases this with rfl | rfl | rfl | rfl <;> first | rfl | omega) (by intro i hi; have : i = 0 ∨ i = 1 ∨ i = 2 ∨ i = 3 := (by omega); rcases this with rfl | rfl | rfl | rfl <;> first | rfl | omega)
  · obtain rfl : ni = (1 : Int32) := Int32.toInt_inj.mp (by rw [hn]; rfl)
    refine own_go (B := T36.setTop (mkF m 137 #[.val (.int ai), .val (.int bi), .val (.int ci), .val (.int hi), .val (.int (1 : Int32)), .val (.int s0), .val (.int t0), .val (.int s1), .val (.int t1), .val (.int s2), .val (.int t2), .val (.int s3), .val (.int t3), .val (.int qs), .val (.int qt), .val (.ref a35), .unset, .unset] [(.int (1 : Int32))])) (fun _ hr => XS.iload X36.here hx rfl (hb hby at_135) rfl hr) ?_
    refine own_go (B := T36.setTop (mkF m 138 #[.val (.int ai), .val (.int bi), .val (.int ci), .val (.int hi), .val (.int (1 : Int32)), .val (.int s0), .val (.int t0), .val (.int s1), .val (.int t1), .val (.int s2), .val (.int t2), .val (.int s3), .val (.int t3), .val (.int qs), .val (.int qt), .val (.ref a35), .unset, .unset] [(.int (1 : Int32)), (.int (1 : Int32))])) (fun _ hr => XT.iconstV X36.here hx rfl (1 : Int32) (hb hby at_137) (by decide) hr) ?_
    refine own_go (B := T36.setTop (mkF m 141 #[.val (.int ai), .val (.int bi), .val (.int ci), .val (.int hi), .val (.int (1 : Int32)), .val (.int s0), .val (.int t0), .val (.int s1), .val (.int t1), .val (.int s2), .val (.int t2), .val (.int s3), .val (.int t3), .val (.int qs), .val (.int qt), .val (.ref a35), .unset, .unset] [])) (fun _ hr => XS.icmpNo X36.here hx rfl (hb hby at_138) rfl (XT.ii_lt_f (by decide)) hr) ?_
    refine own_go (B := T36.setTop (mkF m 143 #[.val (.int ai), .val (.int bi), .val (.int ci), .val (.int hi), .val (.int (1 : Int32)), .val (.int s0), .val (.int t0), .val (.int s1), .val (.int t1), .val (.int s2), .val (.int t2), .val (.int s3), .val (.int t3), .val (.int qs), .val (.int qt), .val (.ref a35), .unset, .unset] [(.ref a35)])) (fun _ hr => XS.aload X36.here hx rfl (hb hby at_141) rfl rfl hr) ?_
    refine own_go (B := T36.setTop (mkF m 145 #[.val (.int ai), .val (.int bi), .val (.int ci), .val (.int hi), .val (.int (1 : Int32)), .val (.int s0), .val (.int t0), .val (.int s1), .val (.int t1), .val (.int s2), .val (.int t2), .val (.int s3), .val (.int t3), .val (.int qs), .val (.int qt), .val (.ref a35), .unset, .unset] [(.int s0), (.ref a35)])) (fun _ hr => XS.iload X36.here hx rfl (hb hby at_143) rfl hr) ?_
    refine own_go (B := T36.setTop (mkF m 147 #[.val (.int ai), .val (.int bi), .val (.int ci), .val (.int hi), .val (.int (1 : Int32)), .val (.int s0), .val (.int t0), .val (.int s1), .val (.int t1), .val (.int s2), .val (.int t2), .val (.int s3), .val (.int t3), .val (.int qs), .val (.int qt), .val (.ref a35), .unset, .unset] [(.int t0), (.int s0), (.ref a35)])) (fun _ hr => XS.iload X36.here hx rfl (hb hby at_145) rfl hr) ?_
    obtain ⟨cq78, kq78, qa78, qb78, qc78⟩ := isOf hZ rfl H36.1
    obtain ⟨_, _, ⟨T78, L78, k78, n78⟩, -, X78, ⟨Lc78, hQ78, l78, y78, z78⟩, st78⟩ := X36.virtualBack hx (y := (⟨"com/example/wachter/wachter/rbac/Relation", "add", "(II)V"⟩ : MethodName)) (z := (⟨"com/example/wachter/wachter/rbac/Relation", "add", "(II)V"⟩ : MethodName)) hown (mvT hZ (hw _ (List.mem_of_getElem? (i := 18) rfl))) (mvT hZ (hw _ (List.mem_of_getElem? (i := 19) rfl))) (notFace_of_selects (args := #[]) (mvT hZ (hw _ (List.mem_of_getElem? (i := 21) rfl)))) (mvT hZ (hw _ (List.mem_of_getElem? (i := 21) rfl))) (mvT hZ (hw _ (List.mem_of_getElem? (i := 20) rfl))) (by decide) (backOf (W := 0) (rm_add l Z a0 hw [] a35 s0 t0 S T0 0 _ _ T36.heap n0 Z2 H36 (by decide) ge geS geT) hZ (hw _ (List.mem_of_getElem? (i := 22) rfl)) (hw _ (List.mem_of_getElem? (i := 6) rfl)) (by decide) (by decide)) qa78 qc78 (g := (mkF m 147 #[.val (.int ai), .val (.int bi), .val (.int ci), .val (.int hi), .val (.int (1 : Int32)), .val (.int s0), .val (.int t0), .val (.int s1), .val (.int t1), .val (.int s2), .val (.int t2), .val (.int s3), .val (.int t3), .val (.int qs), .val (.int qt), .val (.ref a35), .unset, .unset] [(.int t0), (.int s0), (.ref a35)])) rfl (by rw [hml]; rfl) (Steps.refl _) (argsL := [(.int s0), (.int t0)]) (rest := []) (lenOf pd_add rfl) rfl (by show 2 * 0 + _ ≤ _; exact Nat.le_of_eq rfl) (hb hby at_147) (fun _ _ => ⟨rfl, rfl, (by decide : 3 + 0 ≤ _), (by decide : 35 + 0 ≤ _)⟩)
    dsimp only [Pt.U, Pt.locs, Pt.cells, Pt.slots] at X78 l78 y78 z78 st78 hQ78
    subst l78 y78 z78
    obtain ⟨rfl, N78, Z78, H78⟩ := hQ78
    refine own_gs (B := T78.setTop (mkF m 150 #[.val (.int ai), .val (.int bi), .val (.int ci), .val (.int hi), .val (.int (1 : Int32)), .val (.int s0), .val (.int t0), .val (.int s1), .val (.int t1), .val (.int s2), .val (.int t2), .val (.int s3), .val (.int t3), .val (.int qs), .val (.int qt), .val (.ref a35), .unset, .unset] [])) st78 ?_
    have M78 := Fr.app M36 N78
    refine own_go (B := T78.setTop (mkF m 152 #[.val (.int ai), .val (.int bi), .val (.int ci), .val (.int hi), .val (.int (1 : Int32)), .val (.int s0), .val (.int t0), .val (.int s1), .val (.int t1), .val (.int s2), .val (.int t2), .val (.int s3), .val (.int t3), .val (.int qs), .val (.int qt), .val (.ref a35), .unset, .unset] [(.int (1 : Int32))])) (fun _ hr => XS.iload X78.here hx rfl (hb hby at_150) rfl hr) ?_
    refine own_go (B := T78.setTop (mkF m 153 #[.val (.int ai), .val (.int bi), .val (.int ci), .val (.int hi), .val (.int (1 : Int32)), .val (.int s0), .val (.int t0), .val (.int s1), .val (.int t1), .val (.int s2), .val (.int t2), .val (.int s3), .val (.int t3), .val (.int qs), .val (.int qt), .val (.ref a35), .unset, .unset] [(.int (2 : Int32)), (.int (1 : Int32))])) (fun _ hr => XT.iconstV X78.here hx rfl (2 : Int32) (hb hby at_152) (by decide) hr) ?_
    refine own_go (B := T78.setTop (mkF m 165 #[.val (.int ai), .val (.int bi), .val (.int ci), .val (.int hi), .val (.int (1 : Int32)), .val (.int s0), .val (.int t0), .val (.int s1), .val (.int t1), .val (.int s2), .val (.int t2), .val (.int s3), .val (.int t3), .val (.int qs), .val (.int qt), .val (.ref a35), .unset, .unset] [])) (fun _ hr => XS.icmpYes X78.here hx rfl (pc0 := 153) (pc' := 165) rfl (hb hby at_153) rfl (XT.ii_lt_t (by decide)) (by decide) (by decide) hr) ?_
    refine own_go (B := T78.setTop (mkF m 167 #[.val (.int ai), .val (.int bi), .val (.int ci), .val (.int hi), .val (.int (1 : Int32)), .val (.int s0), .val (.int t0), .val (.int s1), .val (.int t1), .val (.int s2), .val (.int t2), .val (.int s3), .val (.int t3), .val (.int qs), .val (.int qt), .val (.ref a35), .unset, .unset] [(.int (1 : Int32))])) (fun _ hr => XS.iload X78.here hx rfl (hb hby at_165) rfl hr) ?_
    refine own_go (B := T78.setTop (mkF m 168 #[.val (.int ai), .val (.int bi), .val (.int ci), .val (.int hi), .val (.int (1 : Int32)), .val (.int s0), .val (.int t0), .val (.int s1), .val (.int t1), .val (.int s2), .val (.int t2), .val (.int s3), .val (.int t3), .val (.int qs), .val (.int qt), .val (.ref a35), .unset, .unset] [(.int (3 : Int32)), (.int (1 : Int32))])) (fun _ hr => XT.iconstV X78.here hx rfl (3 : Int32) (hb hby at_167) (by decide) hr) ?_
    refine own_go (B := T78.setTop (mkF m 180 #[.val (.int ai), .val (.int bi), .val (.int ci), .val (.int hi), .val (.int (1 : Int32)), .val (.int s0), .val (.int t0), .val (.int s1), .val (.int t1), .val (.int s2), .val (.int t2), .val (.int s3), .val (.int t3), .val (.int qs), .val (.int qt), .val (.ref a35), .unset, .unset] [])) (fun _ hr => XS.icmpYes X78.here hx rfl (pc0 := 168) (pc' := 180) rfl (hb hby at_168) rfl (XT.ii_lt_t (by decide)) (by decide) (by decide) hr) ?_
    refine own_go (B := T78.setTop (mkF m 182 #[.val (.int ai), .val (.int bi), .val (.int ci), .val (.int hi), .val (.int (1 : Int32)), .val (.int s0), .val (.int t0), .val (.int s1), .val (.int t1), .val (.int s2), .val (.int t2), .val (.int s3), .val (.int t3), .val (.int qs), .val (.int qt), .val (.ref a35), .unset, .unset] [(.int (1 : Int32))])) (fun _ hr => XS.iload X78.here hx rfl (hb hby at_180) rfl hr) ?_
    refine own_go (B := T78.setTop (mkF m 183 #[.val (.int ai), .val (.int bi), .val (.int ci), .val (.int hi), .val (.int (1 : Int32)), .val (.int s0), .val (.int t0), .val (.int s1), .val (.int t1), .val (.int s2), .val (.int t2), .val (.int s3), .val (.int t3), .val (.int qs), .val (.int qt), .val (.ref a35), .unset, .unset] [(.int (4 : Int32)), (.int (1 : Int32))])) (fun _ hr => XT.iconstV X78.here hx rfl (4 : Int32) (hb hby at_182) (by decide) hr) ?_
    refine own_go (B := T78.setTop (mkF m 195 #[.val (.int ai), .val (.int bi), .val (.int ci), .val (.int hi), .val (.int (1 : Int32)), .val (.int s0), .val (.int t0), .val (.int s1), .val (.int t1), .val (.int s2), .val (.int t2), .val (.int s3), .val (.int t3), .val (.int qs), .val (.int qt), .val (.ref a35), .unset, .unset] [])) (fun _ hr => XS.icmpYes X78.here hx rfl (pc0 := 183) (pc' := 195) rfl (hb hby at_183) rfl (XT.ii_lt_t (by decide)) (by decide) (by decide) hr) ?_
    exact hfin _ _ X78 M78 Z78 _ _ H78 (by intro i hi; have : i = 0 ∨ i = 1 ∨ i = 2 ∨ i = 3 := (by omega); rcases this with rfl | rfl | rfl | rfl <;> first | rfl | omega) (by intro i hi; have : i = 0 ∨ i = 1 ∨ i = 2 ∨ i = 3 := (by omega); rcases this with rfl | rfl | rfl | rfl <;> first | rfl | omega)
  · obtain rfl : ni = (2 : Int32) := Int32.toInt_inj.mp (by rw [hn]; rfl)
    refine own_go (B := T36.setTop (mkF m 137 #[.val (.int ai), .val (.int bi), .val (.int ci), .val (.int hi), .val (.int (2 : Int32)), .val (.int s0), .val (.int t0), .val (.int s1), .val (.int t1), .val (.int s2), .val (.int t2), .val (.int s3), .val (.int t3), .val (.int qs), .val (.int qt), .val (.ref a35), .unset, .unset] [(.int (2 : Int32))])) (fun _ hr => XS.iload X36.here hx rfl (hb hby at_135) rfl hr) ?_
    refine own_go (B := T36.setTop (mkF m 138 #[.val (.int ai), .val (.int bi), .val (.int ci), .val (.int hi), .val (.int (2 : Int32)), .val (.int s0), .val (.int t0), .val (.int s1), .val (.int t1), .val (.int s2), .val (.int t2), .val (.int s3), .val (.int t3), .val (.int qs), .val (.int qt), .val (.ref a35), .unset, .unset] [(.int (1 : Int32)), (.int (2 : Int32))])) (fun _ hr => XT.iconstV X36.here hx rfl (1 : Int32) (hb hby at_137) (by decide) hr) ?_
    refine own_go (B := T36.setTop (mkF m 141 #[.val (.int ai), .val (.int bi), .val (.int ci), .val (.int hi), .val (.int (2 : Int32)), .val (.int s0), .val (.int t0), .val (.int s1), .val (.int t1), .val (.int s2), .val (.int t2), .val (.int s3), .val (.int t3), .val (.int qs), .val (.int qt), .val (.ref a35), .unset, .unset] [])) (fun _ hr => XS.icmpNo X36.here hx rfl (hb hby at_138) rfl (XT.ii_lt_f (by decide)) hr) ?_
    refine own_go (B := T36.setTop (mkF m 143 #[.val (.int ai), .val (.int bi), .val (.int ci), .val (.int hi), .val (.int (2 : Int32)), .val (.int s0), .val (.int t0), .val (.int s1), .val (.int t1), .val (.int s2), .val (.int t2), .val (.int s3), .val (.int t3), .val (.int qs), .val (.int qt), .val (.ref a35), .unset, .unset] [(.ref a35)])) (fun _ hr => XS.aload X36.here hx rfl (hb hby at_141) rfl rfl hr) ?_
    refine own_go (B := T36.setTop (mkF m 145 #[.val (.int ai), .val (.int bi), .val (.int ci), .val (.int hi), .val (.int (2 : Int32)), .val (.int s0), .val (.int t0), .val (.int s1), .val (.int t1), .val (.int s2), .val (.int t2), .val (.int s3), .val (.int t3), .val (.int qs), .val (.int qt), .val (.ref a35), .unset, .unset] [(.int s0), (.ref a35)])) (fun _ hr => XS.iload X36.here hx rfl (hb hby at_143) rfl hr) ?_
    refine own_go (B := T36.setTop (mkF m 147 #[.val (.int ai), .val (.int bi), .val (.int ci), .val (.int hi), .val (.int (2 : Int32)), .val (.int s0), .val (.int t0), .val (.int s1), .val (.int t1), .val (.int s2), .val (.int t2), .val (.int s3), .val (.int t3), .val (.int qs), .val (.int qt), .val (.ref a35), .unset, .unset] [(.int t0), (.int s0), (.ref a35)])) (fun _ hr => XS.iload X36.here hx rfl (hb hby at_145) rfl hr) ?_
    obtain ⟨cq79, kq79, qa79, qb79, qc79⟩ := isOf hZ rfl H36.1
    obtain ⟨_, _, ⟨T79, L79, k79, n79⟩, -, X79, ⟨Lc79, hQ79, l79, y79, z79⟩, st79⟩ := X36.virtualBack hx (y := (⟨"com/example/wachter/wachter/rbac/Relation", "add", "(II)V"⟩ : MethodName)) (z := (⟨"com/example/wachter/wachter/rbac/Relation", "add", "(II)V"⟩ : MethodName)) hown (mvT hZ (hw _ (List.mem_of_getElem? (i := 18) rfl))) (mvT hZ (hw _ (List.mem_of_getElem? (i := 19) rfl))) (notFace_of_selects (args := #[]) (mvT hZ (hw _ (List.mem_of_getElem? (i := 21) rfl)))) (mvT hZ (hw _ (List.mem_of_getElem? (i := 21) rfl))) (mvT hZ (hw _ (List.mem_of_getElem? (i := 20) rfl))) (by decide) (backOf (W := 0) (rm_add l Z a0 hw [] a35 s0 t0 S T0 0 _ _ T36.heap n0 Z2 H36 (by decide) ge geS geT) hZ (hw _ (List.mem_of_getElem? (i := 22) rfl)) (hw _ (List.mem_of_getElem? (i := 6) rfl)) (by decide) (by decide)) qa79 qc79 (g := (mkF m 147 #[.val (.int ai), .val (.int bi), .val (.int ci), .val (.int hi), .val (.int (2 : Int32)), .val (.int s0), .val (.int t0), .val (.int s1), .val (.int t1), .val (.int s2), .val (.int t2), .val (.int s3), .val (.int t3), .val (.int qs), .val (.int qt), .val (.ref a35), .unset, .unset] [(.int t0), (.int s0), (.ref a35)])) rfl (by rw [hml]; rfl) (Steps.refl _) (argsL := [(.int s0), (.int t0)]) (rest := []) (lenOf pd_add rfl) rfl (by show 2 * 0 + _ ≤ _; exact Nat.le_of_eq rfl) (hb hby at_147) (fun _ _ => ⟨rfl, rfl, (by decide : 3 + 0 ≤ _), (by decide : 35 + 0 ≤ _)⟩)
    dsimp only [Pt.U, Pt.locs, Pt.cells, Pt.slots] at X79 l79 y79 z79 st79 hQ79
    subst l79 y79 z79
    obtain ⟨rfl, N79, Z79, H79⟩ := hQ79
    refine own_gs (B := T79.setTop (mkF m 150 #[.val (.int ai), .val (.int bi), .val (.int ci), .val (.int hi), .val (.int (2 : Int32)), .val (.int s0), .val (.int t0), .val (.int s1), .val (.int t1), .val (.int s2), .val (.int t2), .val (.int s3), .val (.int t3), .val (.int qs), .val (.int qt), .val (.ref a35), .unset, .unset] [])) st79 ?_
    have M79 := Fr.app M36 N79
    refine own_go (B := T79.setTop (mkF m 152 #[.val (.int ai), .val (.int bi), .val (.int ci), .val (.int hi), .val (.int (2 : Int32)), .val (.int s0), .val (.int t0), .val (.int s1), .val (.int t1), .val (.int s2), .val (.int t2), .val (.int s3), .val (.int t3), .val (.int qs), .val (.int qt), .val (.ref a35), .unset, .unset] [(.int (2 : Int32))])) (fun _ hr => XS.iload X79.here hx rfl (hb hby at_150) rfl hr) ?_
    refine own_go (B := T79.setTop (mkF m 153 #[.val (.int ai), .val (.int bi), .val (.int ci), .val (.int hi), .val (.int (2 : Int32)), .val (.int s0), .val (.int t0), .val (.int s1), .val (.int t1), .val (.int s2), .val (.int t2), .val (.int s3), .val (.int t3), .val (.int qs), .val (.int qt), .val (.ref a35), .unset, .unset] [(.int (2 : Int32)), (.int (2 : Int32))])) (fun _ hr => XT.iconstV X79.here hx rfl (2 : Int32) (hb hby at_152) (by decide) hr) ?_
    refine own_go (B := T79.setTop (mkF m 156 #[.val (.int ai), .val (.int bi), .val (.int ci), .val (.int hi), .val (.int (2 : Int32)), .val (.int s0), .val (.int t0), .val (.int s1), .val (.int t1), .val (.int s2), .val (.int t2), .val (.int s3), .val (.int t3), .val (.int qs), .val (.int qt), .val (.ref a35), .unset, .unset] [])) (fun _ hr => XS.icmpNo X79.here hx rfl (hb hby at_153) rfl (XT.ii_lt_f (by decide)) hr) ?_
    refine own_go (B := T79.setTop (mkF m 158 #[.val (.int ai), .val (.int bi), .val (.int ci), .val (.int hi), .val (.int (2 : Int32)), .val (.int s0), .val (.int t0), .val (.int s1), .val (.int t1), .val (.int s2), .val (.int t2), .val (.int s3), .val (.int t3), .val (.int qs), .val (.int qt), .val (.ref a35), .unset, .unset] [(.ref a35)])) (fun _ hr => XS.aload X79.here hx rfl (hb hby at_156) rfl rfl hr) ?_
    refine own_go (B := T79.setTop (mkF m 160 #[.val (.int ai), .val (.int bi), .val (.int ci), .val (.int hi), .val (.int (2 : Int32)), .val (.int s0), .val (.int t0), .val (.int s1), .val (.int t1), .val (.int s2), .val (.int t2), .val (.int s3), .val (.int t3), .val (.int qs), .val (.int qt), .val (.ref a35), .unset, .unset] [(.int s1), (.ref a35)])) (fun _ hr => XS.iload X79.here hx rfl (hb hby at_158) rfl hr) ?_
    refine own_go (B := T79.setTop (mkF m 162 #[.val (.int ai), .val (.int bi), .val (.int ci), .val (.int hi), .val (.int (2 : Int32)), .val (.int s0), .val (.int t0), .val (.int s1), .val (.int t1), .val (.int s2), .val (.int t2), .val (.int s3), .val (.int t3), .val (.int qs), .val (.int qt), .val (.ref a35), .unset, .unset] [(.int t1), (.int s1), (.ref a35)])) (fun _ hr => XS.iload X79.here hx rfl (hb hby at_160) rfl hr) ?_
    obtain ⟨cq80, kq80, qa80, qb80, qc80⟩ := isOf hZ rfl H79.1
    obtain ⟨_, _, ⟨T80, L80, k80, n80⟩, -, X80, ⟨Lc80, hQ80, l80, y80, z80⟩, st80⟩ := X79.virtualBack hx (y := (⟨"com/example/wachter/wachter/rbac/Relation", "add", "(II)V"⟩ : MethodName)) (z := (⟨"com/example/wachter/wachter/rbac/Relation", "add", "(II)V"⟩ : MethodName)) hown (mvT hZ (hw _ (List.mem_of_getElem? (i := 18) rfl))) (mvT hZ (hw _ (List.mem_of_getElem? (i := 19) rfl))) (notFace_of_selects (args := #[]) (mvT hZ (hw _ (List.mem_of_getElem? (i := 21) rfl)))) (mvT hZ (hw _ (List.mem_of_getElem? (i := 21) rfl))) (mvT hZ (hw _ (List.mem_of_getElem? (i := 20) rfl))) (by decide) (backOf (W := 0) (rm_add l Z a0 hw [] a35 s1 t1 S T0 1 _ _ T79.heap n0 Z79 H79 (by decide) ge geS geT) hZ (hw _ (List.mem_of_getElem? (i := 22) rfl)) (hw _ (List.mem_of_getElem? (i := 6) rfl)) (by decide) (by decide)) qa80 qc80 (g := (mkF m 162 #[.val (.int ai), .val (.int bi), .val (.int ci), .val (.int hi), .val (.int (2 : Int32)), .val (.int s0), .val (.int t0), .val (.int s1), .val (.int t1), .val (.int s2), .val (.int t2), .val (.int s3), .val (.int t3), .val (.int qs), .val (.int qt), .val (.ref a35), .unset, .unset] [(.int t1), (.int s1), (.ref a35)])) rfl (by rw [hml]; rfl) (Steps.refl _) (argsL := [(.int s1), (.int t1)]) (rest := []) (lenOf pd_add rfl) rfl (by show 2 * 0 + _ ≤ _; exact Nat.le_of_eq rfl) (hb hby at_162) (fun _ _ => ⟨rfl, rfl, (by decide : 3 + 0 ≤ _), (by decide : 35 + 0 ≤ _)⟩)
    dsimp only [Pt.U, Pt.locs, Pt.cells, Pt.slots] at X80 l80 y80 z80 st80 hQ80
    subst l80 y80 z80
    obtain ⟨rfl, N80, Z80, H80⟩ := hQ80
    refine own_gs (B := T80.setTop (mkF m 165 #[.val (.int ai), .val (.int bi), .val (.int ci), .val (.int hi), .val (.int (2 : Int32)), .val (.int s0), .val (.int t0), .val (.int s1), .val (.int t1), .val (.int s2), .val (.int t2), .val (.int s3), .val (.int t3), .val (.int qs), .val (.int qt), .val (.ref a35), .unset, .unset] [])) st80 ?_
    have M80 := Fr.app M79 N80
    refine own_go (B := T80.setTop (mkF m 167 #[.val (.int ai), .val (.int bi), .val (.int ci), .val (.int hi), .val (.int (2 : Int32)), .val (.int s0), .val (.int t0), .val (.int s1), .val (.int t1), .val (.int s2), .val (.int t2), .val (.int s3), .val (.int t3), .val (.int qs), .val (.int qt), .val (.ref a35), .unset, .unset] [(.int (2 : Int32))])) (fun _ hr => XS.iload X80.here hx rfl (hb hby at_165) rfl hr) ?_
    refine own_go (B := T80.setTop (mkF m 168 #[.val (.int ai), .val (.int bi), .val (.int ci), .val (.int hi), .val (.int (2 : Int32)), .val (.int s0), .val (.int t0), .val (.int s1), .val (.int t1), .val (.int s2), .val (.int t2), .val (.int s3), .val (.int t3), .val (.int qs), .val (.int qt), .val (.ref a35), .unset, .unset] [(.int (3 : Int32)), (.int (2 : Int32))])) (fun _ hr => XT.iconstV X80.here hx rfl (3 : Int32) (hb hby at_167) (by decide) hr) ?_
    refine own_go (B := T80.setTop (mkF m 180 #[.val (.int ai), .val (.int bi), .val (.int ci), .val (.int hi), .val (.int (2 : Int32)), .val (.int s0), .val (.int t0), .val (.int s1), .val (.int t1), .val (.int s2), .val (.int t2), .val (.int s3), .val (.int t3), .val (.int qs), .val (.int qt), .val (.ref a35), .unset, .unset] [])) (fun _ hr => XS.icmpYes X80.here hx rfl (pc0 := 168) (pc' := 180) rfl (hb hby at_168) rfl (XT.ii_lt_t (by decide)) (by decide) (by decide) hr) ?_
    refine own_go (B := T80.setTop (mkF m 182 #[.val (.int ai), .val (.int bi), .val (.int ci), .val (.int hi), .val (.int (2 : Int32)), .val (.int s0), .val (.int t0), .val (.int s1), .val (.int t1), .val (.int s2), .val (.int t2), .val (.int s3), .val (.int t3), .val (.int qs), .val (.int qt), .val (.ref a35), .unset, .unset] [(.int (2 : Int32))])) (fun _ hr => XS.iload X80.here hx rfl (hb hby at_180) rfl hr) ?_
    refine own_go (B := T80.setTop (mkF m 183 #[.val (.int ai), .val (.int bi), .val (.int ci), .val (.int hi), .val (.int (2 : Int32)), .val (.int s0), .val (.int t0), .val (.int s1), .val (.int t1), .val (.int s2), .val (.int t2), .val (.int s3), .val (.int t3), .val (.int qs), .val (.int qt), .val (.ref a35), .unset, .unset] [(.int (4 : Int32)), (.int (2 : Int32))])) (fun _ hr => XT.iconstV X80.here hx rfl (4 : Int32) (hb hby at_182) (by decide) hr) ?_
    refine own_go (B := T80.setTop (mkF m 195 #[.val (.int ai), .val (.int bi), .val (.int ci), .val (.int hi), .val (.int (2 : Int32)), .val (.int s0), .val (.int t0), .val (.int s1), .val (.int t1), .val (.int s2), .val (.int t2), .val (.int s3), .val (.int t3), .val (.int qs), .val (.int qt), .val (.ref a35), .unset, .unset] [])) (fun _ hr => XS.icmpYes X80.here hx rfl (pc0 := 183) (pc' := 195) rfl (hb hby at_183) rfl (XT.ii_lt_t (by decide)) (by decide) (by decide) hr) ?_
    exact hfin _ _ X80 M80 Z80 _ _ H80 (by intro i hi; have : i = 0 ∨ i = 1 ∨ i = 2 ∨ i = 3 := (by omega); rcases this with rfl | rfl | rfl | rfl <;> first | rfl | omega) (by intro i hi; have : i = 0 ∨ i = 1 ∨ i = 2 ∨ i = 3 := (by omega); rcases this with rfl | rfl | rfl | rfl <;> first | rfl | omega)
  · obtain rfl : ni = (3 : Int32) := Int32.toInt_inj.mp (by rw [hn]; rfl)
    refine own_go (B := T36.setTop (mkF m 137 #[.val (.int ai), .val (.int bi), .val (.int ci), .val (.int hi), .val (.int (3 : Int32)), .val (.int s0), .val (.int t0), .val (.int s1), .val (.int t1), .val (.int s2), .val (.int t2), .val (.int s3), .val (.int t3), .val (.int qs), .val (.int qt), .val (.ref a35), .unset, .unset] [(.int (3 : Int32))])) (fun _ hr => XS.iload X36.here hx rfl (hb hby at_135) rfl hr) ?_
    refine own_go (B := T36.setTop (mkF m 138 #[.val (.int ai), .val (.int bi), .val (.int ci), .val (.int hi), .val (.int (3 : Int32)), .val (.int s0), .val (.int t0), .val (.int s1), .val (.int t1), .val (.int s2), .val (.int t2), .val (.int s3), .val (.int t3), .val (.int qs), .val (.int qt), .val (.ref a35), .unset, .unset] [(.int (1 : Int32)), (.int (3 : Int32))])) (fun _ hr => XT.iconstV X36.here hx rfl (1 : Int32) (hb hby at_137) (by decide) hr) ?_
    refine own_go (B := T36.setTop (mkF m 141 #[.val (.int ai), .val (.int bi), .val (.int ci), .val (.int hi), .val (.int (3 : Int32)), .val (.int s0), .val (.int t0), .val (.int s1), .val (.int t1), .val (.int s2), .val (.int t2), .val (.int s3), .val (.int t3), .val (.int qs), .val (.int qt), .val (.ref a35), .unset, .unset] [])) (fun _ hr => XS.icmpNo X36.here hx rfl (hb hby at_138) rfl (XT.ii_lt_f (by decide)) hr) ?_
    refine own_go (B := T36.setTop (mkF m 143 #[.val (.int ai), .val (.int bi), .val (.int ci), .val (.int hi), .val (.int (3 : Int32)), .val (.int s0), .val (.int t0), .val (.int s1), .val (.int t1), .val (.int s2), .val (.int t2), .val (.int s3), .val (.int t3), .val (.int qs), .val (.int qt), .val (.ref a35), .unset, .unset] [(.ref a35)])) (fun _ hr => XS.aload X36.here hx rfl (hb hby at_141) rfl rfl hr) ?_
    refine own_go (B := T36.setTop (mkF m 145 #[.val (.int ai), .val (.int bi), .val (.int ci), .val (.int hi), .val (.int (3 : Int32)), .val (.int s0), .val (.int t0), .val (.int s1), .val (.int t1), .val (.int s2), .val (.int t2), .val (.int s3), .val (.int t3), .val (.int qs), .val (.int qt), .val (.ref a35), .unset, .unset] [(.int s0), (.ref a35)])) (fun _ hr => XS.iload X36.here hx rfl (hb hby at_143) rfl hr) ?_
    refine own_go (B := T36.setTop (mkF m 147 #[.val (.int ai), .val (.int bi), .val (.int ci), .val (.int hi), .val (.int (3 : Int32)), .val (.int s0), .val (.int t0), .val (.int s1), .val (.int t1), .val (.int s2), .val (.int t2), .val (.int s3), .val (.int t3), .val (.int qs), .val (.int qt), .val (.ref a35), .unset, .unset] [(.int t0), (.int s0), (.ref a35)])) (fun _ hr => XS.iload X36.here hx rfl (hb hby at_145) rfl hr) ?_
    obtain ⟨cq81, kq81, qa81, qb81, qc81⟩ := isOf hZ rfl H36.1
    obtain ⟨_, _, ⟨T81, L81, k81, n81⟩, -, X81, ⟨Lc81, hQ81, l81, y81, z81⟩, st81⟩ := X36.virtualBack hx (y := (⟨"com/example/wachter/wachter/rbac/Relation", "add", "(II)V"⟩ : MethodName)) (z := (⟨"com/example/wachter/wachter/rbac/Relation", "add", "(II)V"⟩ : MethodName)) hown (mvT hZ (hw _ (List.mem_of_getElem? (i := 18) rfl))) (mvT hZ (hw _ (List.mem_of_getElem? (i := 19) rfl))) (notFace_of_selects (args := #[]) (mvT hZ (hw _ (List.mem_of_getElem? (i := 21) rfl)))) (mvT hZ (hw _ (List.mem_of_getElem? (i := 21) rfl))) (mvT hZ (hw _ (List.mem_of_getElem? (i := 20) rfl))) (by decide) (backOf (W := 0) (rm_add l Z a0 hw [] a35 s0 t0 S T0 0 _ _ T36.heap n0 Z2 H36 (by decide) ge geS geT) hZ (hw _ (List.mem_of_getElem? (i := 22) rfl)) (hw _ (List.mem_of_getElem? (i := 6) rfl)) (by decide) (by decide)) qa81 qc81 (g := (mkF m 147 #[.val (.int ai), .val (.int bi), .val (.int ci), .val (.int hi), .val (.int (3 : Int32)), .val (.int s0), .val (.int t0), .val (.int s1), .val (.int t1), .val (.int s2), .val (.int t2), .val (.int s3), .val (.int t3), .val (.int qs), .val (.int qt), .val (.ref a35), .unset, .unset] [(.int t0), (.int s0), (.ref a35)])) rfl (by rw [hml]; rfl) (Steps.refl _) (argsL := [(.int s0), (.int t0)]) (rest := []) (lenOf pd_add rfl) rfl (by show 2 * 0 + _ ≤ _; exact Nat.le_of_eq rfl) (hb hby at_147) (fun _ _ => ⟨rfl, rfl, (by decide : 3 + 0 ≤ _), (by decide : 35 + 0 ≤ _)⟩)
    dsimp only [Pt.U, Pt.locs, Pt.cells, Pt.slots] at X81 l81 y81 z81 st81 hQ81
    subst l81 y81 z81
    obtain ⟨rfl, N81, Z81, H81⟩ := hQ81
    refine own_gs (B := T81.setTop (mkF m 150 #[.val (.int ai), .val (.int bi), .val (.int ci), .val (.int hi), .val (.int (3 : Int32)), .val (.int s0), .val (.int t0), .val (.int s1), .val (.int t1), .val (.int s2), .val (.int t2), .val (.int s3), .val (.int t3), .val (.int qs), .val (.int qt), .val (.ref a35), .unset, .unset] [])) st81 ?_
    have M81 := Fr.app M36 N81
    refine own_go (B := T81.setTop (mkF m 152 #[.val (.int ai), .val (.int bi), .val (.int ci), .val (.int hi), .val (.int (3 : Int32)), .val (.int s0), .val (.int t0), .val (.int s1), .val (.int t1), .val (.int s2), .val (.int t2), .val (.int s3), .val (.int t3), .val (.int qs), .val (.int qt), .val (.ref a35), .unset, .unset] [(.int (3 : Int32))])) (fun _ hr => XS.iload X81.here hx rfl (hb hby at_150) rfl hr) ?_
    refine own_go (B := T81.setTop (mkF m 153 #[.val (.int ai), .val (.int bi), .val (.int ci), .val (.int hi), .val (.int (3 : Int32)), .val (.int s0), .val (.int t0), .val (.int s1), .val (.int t1), .val (.int s2), .val (.int t2), .val (.int s3), .val (.int t3), .val (.int qs), .val (.int qt), .val (.ref a35), .unset, .unset] [(.int (2 : Int32)), (.int (3 : Int32))])) (fun _ hr => XT.iconstV X81.here hx rfl (2 : Int32) (hb hby at_152) (by decide) hr) ?_
    refine own_go (B := T81.setTop (mkF m 156 #[.val (.int ai), .val (.int bi), .val (.int ci), .val (.int hi), .val (.int (3 : Int32)), .val (.int s0), .val (.int t0), .val (.int s1), .val (.int t1), .val (.int s2), .val (.int t2), .val (.int s3), .val (.int t3), .val (.int qs), .val (.int qt), .val (.ref a35), .unset, .unset] [])) (fun _ hr => XS.icmpNo X81.here hx rfl (hb hby at_153) rfl (XT.ii_lt_f (by decide)) hr) ?_
    refine own_go (B := T81.setTop (mkF m 158 #[.val (.int ai), .val (.int bi), .val (.int ci), .val (.int hi), .val (.int (3 : Int32)), .val (.int s0), .val (.int t0), .val (.int s1), .val (.int t1), .val (.int s2), .val (.int t2), .val (.int s3), .val (.int t3), .val (.int qs), .val (.int qt), .val (.ref a35), .unset, .unset] [(.ref a35)])) (fun _ hr => XS.aload X81.here hx rfl (hb hby at_156) rfl rfl hr) ?_
    refine own_go (B := T81.setTop (mkF m 160 #[.val (.int ai), .val (.int bi), .val (.int ci), .val (.int hi), .val (.int (3 : Int32)), .val (.int s0), .val (.int t0), .val (.int s1), .val (.int t1), .val (.int s2), .val (.int t2), .val (.int s3), .val (.int t3), .val (.int qs), .val (.int qt), .val (.ref a35), .unset, .unset] [(.int s1), (.ref a35)])) (fun _ hr => XS.iload X81.here hx rfl (hb hby at_158) rfl hr) ?_
    refine own_go (B := T81.setTop (mkF m 162 #[.val (.int ai), .val (.int bi), .val (.int ci), .val (.int hi), .val (.int (3 : Int32)), .val (.int s0), .val (.int t0), .val (.int s1), .val (.int t1), .val (.int s2), .val (.int t2), .val (.int s3), .val (.int t3), .val (.int qs), .val (.int qt), .val (.ref a35), .unset, .unset] [(.int t1), (.int s1), (.ref a35)])) (fun _ hr => XS.iload X81.here hx rfl (hb hby at_160) rfl hr) ?_
    obtain ⟨cq82, kq82, qa82, qb82, qc82⟩ := isOf hZ rfl H81.1
    obtain ⟨_, _, ⟨T82, L82, k82, n82⟩, -, X82, ⟨Lc82, hQ82, l82, y82, z82⟩, st82⟩ := X81.virtualBack hx (y := (⟨"com/example/wachter/wachter/rbac/Relation", "add", "(II)V"⟩ : MethodName)) (z := (⟨"com/example/wachter/wachter/rbac/Relation", "add", "(II)V"⟩ : MethodName)) hown (mvT hZ (hw _ (List.mem_of_getElem? (i := 18) rfl))) (mvT hZ (hw _ (List.mem_of_getElem? (i := 19) rfl))) (notFace_of_selects (args := #[]) (mvT hZ (hw _ (List.mem_of_getElem? (i := 21) rfl)))) (mvT hZ (hw _ (List.mem_of_getElem? (i := 21) rfl))) (mvT hZ (hw _ (List.mem_of_getElem? (i := 20) rfl))) (by decide) (backOf (W := 0) (rm_add l Z a0 hw [] a35 s1 t1 S T0 1 _ _ T81.heap n0 Z81 H81 (by decide) ge geS geT) hZ (hw _ (List.mem_of_getElem? (i := 22) rfl)) (hw _ (List.mem_of_getElem? (i := 6) rfl)) (by decide) (by decide)) qa82 qc82 (g := (mkF m 162 #[.val (.int ai), .val (.int bi), .val (.int ci), .val (.int hi), .val (.int (3 : Int32)), .val (.int s0), .val (.int t0), .val (.int s1), .val (.int t1), .val (.int s2), .val (.int t2), .val (.int s3), .val (.int t3), .val (.int qs), .val (.int qt), .val (.ref a35), .unset, .unset] [(.int t1), (.int s1), (.ref a35)])) rfl (by rw [hml]; rfl) (Steps.refl _) (argsL := [(.int s1), (.int t1)]) (rest := []) (lenOf pd_add rfl) rfl (by show 2 * 0 + _ ≤ _; exact Nat.le_of_eq rfl) (hb hby at_162) (fun _ _ => ⟨rfl, rfl, (by decide : 3 + 0 ≤ _), (by decide : 35 + 0 ≤ _)⟩)
    dsimp only [Pt.U, Pt.locs, Pt.cells, Pt.slots] at X82 l82 y82 z82 st82 hQ82
    subst l82 y82 z82
    obtain ⟨rfl, N82, Z82, H82⟩ := hQ82
    refine own_gs (B := T82.setTop (mkF m 165 #[.val (.int ai), .val (.int bi), .val (.int ci), .val (.int hi), .val (.int (3 : Int32)), .val (.int s0), .val (.int t0), .val (.int s1), .val (.int t1), .val (.int s2), .val (.int t2), .val (.int s3), .val (.int t3), .val (.int qs), .val (.int qt), .val (.ref a35), .unset, .unset] [])) st82 ?_
    have M82 := Fr.app M81 N82
    refine own_go (B := T82.setTop (mkF m 167 #[.val (.int ai), .val (.int bi), .val (.int ci), .val (.int hi), .val (.int (3 : Int32)), .val (.int s0), .val (.int t0), .val (.int s1), .val (.int t1), .val (.int s2), .val (.int t2), .val (.int s3), .val (.int t3), .val (.int qs), .val (.int qt), .val (.ref a35), .unset, .unset] [(.int (3 : Int32))])) (fun _ hr => XS.iload X82.here hx rfl (hb hby at_165) rfl hr) ?_
    refine own_go (B := T82.setTop (mkF m 168 #[.val (.int ai), .val (.int bi), .val (.int ci), .val (.int hi), .val (.int (3 : Int32)), .val (.int s0), .val (.int t0), .val (.int s1), .val (.int t1), .val (.int s2), .val (.int t2), .val (.int s3), .val (.int t3), .val (.int qs), .val (.int qt), .val (.ref a35), .unset, .unset] [(.int (3 : Int32)), (.int (3 : Int32))])) (fun _ hr => XT.iconstV X82.here hx rfl (3 : Int32) (hb hby at_167) (by decide) hr) ?_
    refine own_go (B := T82.setTop (mkF m 171 #[.val (.int ai), .val (.int bi), .val (.int ci), .val (.int hi), .val (.int (3 : Int32)), .val (.int s0), .val (.int t0), .val (.int s1), .val (.int t1), .val (.int s2), .val (.int t2), .val (.int s3), .val (.int t3), .val (.int qs), .val (.int qt), .val (.ref a35), .unset, .unset] [])) (fun _ hr => XS.icmpNo X82.here hx rfl (hb hby at_168) rfl (XT.ii_lt_f (by decide)) hr) ?_
    refine own_go (B := T82.setTop (mkF m 173 #[.val (.int ai), .val (.int bi), .val (.int ci), .val (.int hi), .val (.int (3 : Int32)), .val (.int s0), .val (.int t0), .val (.int s1), .val (.int t1), .val (.int s2), .val (.int t2), .val (.int s3), .val (.int t3), .val (.int qs), .val (.int qt), .val (.ref a35), .unset, .unset] [(.ref a35)])) (fun _ hr => XS.aload X82.here hx rfl (hb hby at_171) rfl rfl hr) ?_
    refine own_go (B := T82.setTop (mkF m 175 #[.val (.int ai), .val (.int bi), .val (.int ci), .val (.int hi), .val (.int (3 : Int32)), .val (.int s0), .val (.int t0), .val (.int s1), .val (.int t1), .val (.int s2), .val (.int t2), .val (.int s3), .val (.int t3), .val (.int qs), .val (.int qt), .val (.ref a35), .unset, .unset] [(.int s2), (.ref a35)])) (fun _ hr => XS.iload X82.here hx rfl (hb hby at_173) rfl hr) ?_
    refine own_go (B := T82.setTop (mkF m 177 #[.val (.int ai), .val (.int bi), .val (.int ci), .val (.int hi), .val (.int (3 : Int32)), .val (.int s0), .val (.int t0), .val (.int s1), .val (.int t1), .val (.int s2), .val (.int t2), .val (.int s3), .val (.int t3), .val (.int qs), .val (.int qt), .val (.ref a35), .unset, .unset] [(.int t2), (.int s2), (.ref a35)])) (fun _ hr => XS.iload X82.here hx rfl (hb hby at_175) rfl hr) ?_
    obtain ⟨cq83, kq83, qa83, qb83, qc83⟩ := isOf hZ rfl H82.1
    obtain ⟨_, _, ⟨T83, L83, k83, n83⟩, -, X83, ⟨Lc83, hQ83, l83, y83, z83⟩, st83⟩ := X82.virtualBack hx (y := (⟨"com/example/wachter/wachter/rbac/Relation", "add", "(II)V"⟩ : MethodName)) (z := (⟨"com/example/wachter/wachter/rbac/Relation", "add", "(II)V"⟩ : MethodName)) hown (mvT hZ (hw _ (List.mem_of_getElem? (i := 18) rfl))) (mvT hZ (hw _ (List.mem_of_getElem? (i := 19) rfl))) (notFace_of_selects (args := #[]) (mvT hZ (hw _ (List.mem_of_getElem? (i := 21) rfl)))) (mvT hZ (hw _ (List.mem_of_getElem? (i := 21) rfl))) (mvT hZ (hw _ (List.mem_of_getElem? (i := 20) rfl))) (by decide) (backOf (W := 0) (rm_add l Z a0 hw [] a35 s2 t2 S T0 2 _ _ T82.heap n0 Z82 H82 (by decide) ge geS geT) hZ (hw _ (List.mem_of_getElem? (i := 22) rfl)) (hw _ (List.mem_of_getElem? (i := 6) rfl)) (by decide) (by decide)) qa83 qc83 (g := (mkF m 177 #[.val (.int ai), .val (.int bi), .val (.int ci), .val (.int hi), .val (.int (3 : Int32)), .val (.int s0), .val (.int t0), .val (.int s1), .val (.int t1), .val (.int s2), .val (.int t2), .val (.int s3), .val (.int t3), .val (.int qs), .val (.int qt), .val (.ref a35), .unset, .unset] [(.int t2), (.int s2), (.ref a35)])) rfl (by rw [hml]; rfl) (Steps.refl _) (argsL := [(.int s2), (.int t2)]) (rest := []) (lenOf pd_add rfl) rfl (by show 2 * 0 + _ ≤ _; exact Nat.le_of_eq rfl) (hb hby at_177) (fun _ _ => ⟨rfl, rfl, (by decide : 3 + 0 ≤ _), (by decide : 35 + 0 ≤ _)⟩)
    dsimp only [Pt.U, Pt.locs, Pt.cells, Pt.slots] at X83 l83 y83 z83 st83 hQ83
    subst l83 y83 z83
    obtain ⟨rfl, N83, Z83, H83⟩ := hQ83
    refine own_gs (B := T83.setTop (mkF m 180 #[.val (.int ai), .val (.int bi), .val (.int ci), .val (.int hi), .val (.int (3 : Int32)), .val (.int s0), .val (.int t0), .val (.int s1), .val (.int t1), .val (.int s2), .val (.int t2), .val (.int s3), .val (.int t3), .val (.int qs), .val (.int qt), .val (.ref a35), .unset, .unset] [])) st83 ?_
    have M83 := Fr.app M82 N83
    refine own_go (B := T83.setTop (mkF m 182 #[.val (.int ai), .val (.int bi), .val (.int ci), .val (.int hi), .val (.int (3 : Int32)), .val (.int s0), .val (.int t0), .val (.int s1), .val (.int t1), .val (.int s2), .val (.int t2), .val (.int s3), .val (.int t3), .val (.int qs), .val (.int qt), .val (.ref a35), .unset, .unset] [(.int (3 : Int32))])) (fun _ hr => XS.iload X83.here hx rfl (hb hby at_180) rfl hr) ?_
    refine own_go (B := T83.setTop (mkF m 183 #[.val (.int ai), .val (.int bi), .val (.int ci), .val (.int hi), .val (.int (3 : Int32)), .val (.int s0), .val (.int t0), .val (.int s1), .val (.int t1), .val (.int s2), .val (.int t2), .val (.int s3), .val (.int t3), .val (.int qs), .val (.int qt), .val (.ref a35), .unset, .unset] [(.int (4 : Int32)), (.int (3 : Int32))])) (fun _ hr => XT.iconstV X83.here hx rfl (4 : Int32) (hb hby at_182) (by decide) hr) ?_
    refine own_go (B := T83.setTop (mkF m 195 #[.val (.int ai), .val (.int bi), .val (.int ci), .val (.int hi), .val (.int (3 : Int32)), .val (.int s0), .val (.int t0), .val (.int s1), .val (.int t1), .val (.int s2), .val (.int t2), .val (.int s3), .val (.int t3), .val (.int qs), .val (.int qt), .val (.ref a35), .unset, .unset] [])) (fun _ hr => XS.icmpYes X83.here hx rfl (pc0 := 183) (pc' := 195) rfl (hb hby at_183) rfl (XT.ii_lt_t (by decide)) (by decide) (by decide) hr) ?_
    exact hfin _ _ X83 M83 Z83 _ _ H83 (by intro i hi; have : i = 0 ∨ i = 1 ∨ i = 2 ∨ i = 3 := (by omega); rcases this with rfl | rfl | rfl | rfl <;> first | rfl | omega) (by intro i hi; have : i = 0 ∨ i = 1 ∨ i = 2 ∨ i = 3 := (by omega); rcases this with rfl | rfl | rfl | rfl <;> first | rfl | omega)
  · obtain rfl : ni = (4 : Int32) := Int32.toInt_inj.mp (by rw [hn]; rfl)
    refine own_go (B := T36.setTop (mkF m 137 #[.val (.int ai), .val (.int bi), .val (.int ci), .val (.int hi), .val (.int (4 : Int32)), .val (.int s0), .val (.int t0), .val (.int s1), .val (.int t1), .val (.int s2), .val (.int t2), .val (.int s3), .val (.int t3), .val (.int qs), .val (.int qt), .val (.ref a35), .unset, .unset] [(.int (4 : Int32))])) (fun _ hr => XS.iload X36.here hx rfl (hb hby at_135) rfl hr) ?_
    refine own_go (B := T36.setTop (mkF m 138 #[.val (.int ai), .val (.int bi), .val (.int ci), .val (.int hi), .val (.int (4 : Int32)), .val (.int s0), .val (.int t0), .val (.int s1), .val (.int t1), .val (.int s2), .val (.int t2), .val (.int s3), .val (.int t3), .val (.int qs), .val (.int qt), .val (.ref a35), .unset, .unset] [(.int (1 : Int32)), (.int (4 : Int32))])) (fun _ hr => XT.iconstV X36.here hx rfl (1 : Int32) (hb hby at_137) (by decide) hr) ?_
    refine own_go (B := T36.setTop (mkF m 141 #[.val (.int ai), .val (.int bi), .val (.int ci), .val (.int hi), .val (.int (4 : Int32)), .val (.int s0), .val (.int t0), .val (.int s1), .val (.int t1), .val (.int s2), .val (.int t2), .val (.int s3), .val (.int t3), .val (.int qs), .val (.int qt), .val (.ref a35), .unset, .unset] [])) (fun _ hr => XS.icmpNo X36.here hx rfl (hb hby at_138) rfl (XT.ii_lt_f (by decide)) hr) ?_
    refine own_go (B := T36.setTop (mkF m 143 #[.val (.int ai), .val (.int bi), .val (.int ci), .val (.int hi), .val (.int (4 : Int32)), .val (.int s0), .val (.int t0), .val (.int s1), .val (.int t1), .val (.int s2), .val (.int t2), .val (.int s3), .val (.int t3), .val (.int qs), .val (.int qt), .val (.ref a35), .unset, .unset] [(.ref a35)])) (fun _ hr => XS.aload X36.here hx rfl (hb hby at_141) rfl rfl hr) ?_
    refine own_go (B := T36.setTop (mkF m 145 #[.val (.int ai), .val (.int bi), .val (.int ci), .val (.int hi), .val (.int (4 : Int32)), .val (.int s0), .val (.int t0), .val (.int s1), .val (.int t1), .val (.int s2), .val (.int t2), .val (.int s3), .val (.int t3), .val (.int qs), .val (.int qt), .val (.ref a35), .unset, .unset] [(.int s0), (.ref a35)])) (fun _ hr => XS.iload X36.here hx rfl (hb hby at_143) rfl hr) ?_
    refine own_go (B := T36.setTop (mkF m 147 #[.val (.int ai), .val (.int bi), .val (.int ci), .val (.int hi), .val (.int (4 : Int32)), .val (.int s0), .val (.int t0), .val (.int s1), .val (.int t1), .val (.int s2), .val (.int t2), .val (.int s3), .val (.int t3), .val (.int qs), .val (.int qt), .val (.ref a35), .unset, .unset] [(.int t0), (.int s0), (.ref a35)])) (fun _ hr => XS.iload X36.here hx rfl (hb hby at_145) rfl hr) ?_
    obtain ⟨cq84, kq84, qa84, qb84, qc84⟩ := isOf hZ rfl H36.1
    obtain ⟨_, _, ⟨T84, L84, k84, n84⟩, -, X84, ⟨Lc84, hQ84, l84, y84, z84⟩, st84⟩ := X36.virtualBack hx (y := (⟨"com/example/wachter/wachter/rbac/Relation", "add", "(II)V"⟩ : MethodName)) (z := (⟨"com/example/wachter/wachter/rbac/Relation", "add", "(II)V"⟩ : MethodName)) hown (mvT hZ (hw _ (List.mem_of_getElem? (i := 18) rfl))) (mvT hZ (hw _ (List.mem_of_getElem? (i := 19) rfl))) (notFace_of_selects (args := #[]) (mvT hZ (hw _ (List.mem_of_getElem? (i := 21) rfl)))) (mvT hZ (hw _ (List.mem_of_getElem? (i := 21) rfl))) (mvT hZ (hw _ (List.mem_of_getElem? (i := 20) rfl))) (by decide) (backOf (W := 0) (rm_add l Z a0 hw [] a35 s0 t0 S T0 0 _ _ T36.heap n0 Z2 H36 (by decide) ge geS geT) hZ (hw _ (List.mem_of_getElem? (i := 22) rfl)) (hw _ (List.mem_of_getElem? (i := 6) rfl)) (by decide) (by decide)) qa84 qc84 (g := (mkF m 147 #[.val (.int ai), .val (.int bi), .val (.int ci), .val (.int hi), .val (.int (4 : Int32)), .val (.int s0), .val (.int t0), .val (.int s1), .val (.int t1), .val (.int s2), .val (.int t2), .val (.int s3), .val (.int t3), .val (.int qs), .val (.int qt), .val (.ref a35), .unset, .unset] [(.int t0), (.int s0), (.ref a35)])) rfl (by rw [hml]; rfl) (Steps.refl _) (argsL := [(.int s0), (.int t0)]) (rest := []) (lenOf pd_add rfl) rfl (by show 2 * 0 + _ ≤ _; exact Nat.le_of_eq rfl) (hb hby at_147) (fun _ _ => ⟨rfl, rfl, (by decide : 3 + 0 ≤ _), (by decide : 35 + 0 ≤ _)⟩)
    dsimp only [Pt.U, Pt.locs, Pt.cells, Pt.slots] at X84 l84 y84 z84 st84 hQ84
    subst l84 y84 z84
    obtain ⟨rfl, N84, Z84, H84⟩ := hQ84
    refine own_gs (B := T84.setTop (mkF m 150 #[.val (.int ai), .val (.int bi), .val (.int ci), .val (.int hi), .val (.int (4 : Int32)), .val (.int s0), .val (.int t0), .val (.int s1), .val (.int t1), .val (.int s2), .val (.int t2), .val (.int s3), .val (.int t3), .val (.int qs), .val (.int qt), .val (.ref a35), .unset, .unset] [])) st84 ?_
    have M84 := Fr.app M36 N84
    refine own_go (B := T84.setTop (mkF m 152 #[.val (.int ai), .val (.int bi), .val (.int ci), .val (.int hi), .val (.int (4 : Int32)), .val (.int s0), .val (.int t0), .val (.int s1), .val (.int t1), .val (.int s2), .val (.int t2), .val (.int s3), .val (.int t3), .val (.int qs), .val (.int qt), .val (.ref a35), .unset, .unset] [(.int (4 : Int32))])) (fun _ hr => XS.iload X84.here hx rfl (hb hby at_150) rfl hr) ?_
    refine own_go (B := T84.setTop (mkF m 153 #[.val (.int ai), .val (.int bi), .val (.int ci), .val (.int hi), .val (.int (4 : Int32)), .val (.int s0), .val (.int t0), .val (.int s1), .val (.int t1), .val (.int s2), .val (.int t2), .val (.int s3), .val (.int t3), .val (.int qs), .val (.int qt), .val (.ref a35), .unset, .unset] [(.int (2 : Int32)), (.int (4 : Int32))])) (fun _ hr => XT.iconstV X84.here hx rfl (2 : Int32) (hb hby at_152) (by decide) hr) ?_
    refine own_go (B := T84.setTop (mkF m 156 #[.val (.int ai), .val (.int bi), .val (.int ci), .val (.int hi), .val (.int (4 : Int32)), .val (.int s0), .val (.int t0), .val (.int s1), .val (.int t1), .val (.int s2), .val (.int t2), .val (.int s3), .val (.int t3), .val (.int qs), .val (.int qt), .val (.ref a35), .unset, .unset] [])) (fun _ hr => XS.icmpNo X84.here hx rfl (hb hby at_153) rfl (XT.ii_lt_f (by decide)) hr) ?_
    refine own_go (B := T84.setTop (mkF m 158 #[.val (.int ai), .val (.int bi), .val (.int ci), .val (.int hi), .val (.int (4 : Int32)), .val (.int s0), .val (.int t0), .val (.int s1), .val (.int t1), .val (.int s2), .val (.int t2), .val (.int s3), .val (.int t3), .val (.int qs), .val (.int qt), .val (.ref a35), .unset, .unset] [(.ref a35)])) (fun _ hr => XS.aload X84.here hx rfl (hb hby at_156) rfl rfl hr) ?_
    refine own_go (B := T84.setTop (mkF m 160 #[.val (.int ai), .val (.int bi), .val (.int ci), .val (.int hi), .val (.int (4 : Int32)), .val (.int s0), .val (.int t0), .val (.int s1), .val (.int t1), .val (.int s2), .val (.int t2), .val (.int s3), .val (.int t3), .val (.int qs), .val (.int qt), .val (.ref a35), .unset, .unset] [(.int s1), (.ref a35)])) (fun _ hr => XS.iload X84.here hx rfl (hb hby at_158) rfl hr) ?_
    refine own_go (B := T84.setTop (mkF m 162 #[.val (.int ai), .val (.int bi), .val (.int ci), .val (.int hi), .val (.int (4 : Int32)), .val (.int s0), .val (.int t0), .val (.int s1), .val (.int t1), .val (.int s2), .val (.int t2), .val (.int s3), .val (.int t3), .val (.int qs), .val (.int qt), .val (.ref a35), .unset, .unset] [(.int t1), (.int s1), (.ref a35)])) (fun _ hr => XS.iload X84.here hx rfl (hb hby at_160) rfl hr) ?_
    obtain ⟨cq85, kq85, qa85, qb85, qc85⟩ := isOf hZ rfl H84.1
    obtain ⟨_, _, ⟨T85, L85, k85, n85⟩, -, X85, ⟨Lc85, hQ85, l85, y85, z85⟩, st85⟩ := X84.virtualBack hx (y := (⟨"com/example/wachter/wachter/rbac/Relation", "add", "(II)V"⟩ : MethodName)) (z := (⟨"com/example/wachter/wachter/rbac/Relation", "add", "(II)V"⟩ : MethodName)) hown (mvT hZ (hw _ (List.mem_of_getElem? (i := 18) rfl))) (mvT hZ (hw _ (List.mem_of_getElem? (i := 19) rfl))) (notFace_of_selects (args := #[]) (mvT hZ (hw _ (List.mem_of_getElem? (i := 21) rfl)))) (mvT hZ (hw _ (List.mem_of_getElem? (i := 21) rfl))) (mvT hZ (hw _ (List.mem_of_getElem? (i := 20) rfl))) (by decide) (backOf (W := 0) (rm_add l Z a0 hw [] a35 s1 t1 S T0 1 _ _ T84.heap n0 Z84 H84 (by decide) ge geS geT) hZ (hw _ (List.mem_of_getElem? (i := 22) rfl)) (hw _ (List.mem_of_getElem? (i := 6) rfl)) (by decide) (by decide)) qa85 qc85 (g := (mkF m 162 #[.val (.int ai), .val (.int bi), .val (.int ci), .val (.int hi), .val (.int (4 : Int32)), .val (.int s0), .val (.int t0), .val (.int s1), .val (.int t1), .val (.int s2), .val (.int t2), .val (.int s3), .val (.int t3), .val (.int qs), .val (.int qt), .val (.ref a35), .unset, .unset] [(.int t1), (.int s1), (.ref a35)])) rfl (by rw [hml]; rfl) (Steps.refl _) (argsL := [(.int s1), (.int t1)]) (rest := []) (lenOf pd_add rfl) rfl (by show 2 * 0 + _ ≤ _; exact Nat.le_of_eq rfl) (hb hby at_162) (fun _ _ => ⟨rfl, rfl, (by decide : 3 + 0 ≤ _), (by decide : 35 + 0 ≤ _)⟩)
    dsimp only [Pt.U, Pt.locs, Pt.cells, Pt.slots] at X85 l85 y85 z85 st85 hQ85
    subst l85 y85 z85
    obtain ⟨rfl, N85, Z85, H85⟩ := hQ85
    refine own_gs (B := T85.setTop (mkF m 165 #[.val (.int ai), .val (.int bi), .val (.int ci), .val (.int hi), .val (.int (4 : Int32)), .val (.int s0), .val (.int t0), .val (.int s1), .val (.int t1), .val (.int s2), .val (.int t2), .val (.int s3), .val (.int t3), .val (.int qs), .val (.int qt), .val (.ref a35), .unset, .unset] [])) st85 ?_
    have M85 := Fr.app M84 N85
    refine own_go (B := T85.setTop (mkF m 167 #[.val (.int ai), .val (.int bi), .val (.int ci), .val (.int hi), .val (.int (4 : Int32)), .val (.int s0), .val (.int t0), .val (.int s1), .val (.int t1), .val (.int s2), .val (.int t2), .val (.int s3), .val (.int t3), .val (.int qs), .val (.int qt), .val (.ref a35), .unset, .unset] [(.int (4 : Int32))])) (fun _ hr => XS.iload X85.here hx rfl (hb hby at_165) rfl hr) ?_
    refine own_go (B := T85.setTop (mkF m 168 #[.val (.int ai), .val (.int bi), .val (.int ci), .val (.int hi), .val (.int (4 : Int32)), .val (.int s0), .val (.int t0), .val (.int s1), .val (.int t1), .val (.int s2), .val (.int t2), .val (.int s3), .val (.int t3), .val (.int qs), .val (.int qt), .val (.ref a35), .unset, .unset] [(.int (3 : Int32)), (.int (4 : Int32))])) (fun _ hr => XT.iconstV X85.here hx rfl (3 : Int32) (hb hby at_167) (by decide) hr) ?_
    refine own_go (B := T85.setTop (mkF m 171 #[.val (.int ai), .val (.int bi), .val (.int ci), .val (.int hi), .val (.int (4 : Int32)), .val (.int s0), .val (.int t0), .val (.int s1), .val (.int t1), .val (.int s2), .val (.int t2), .val (.int s3), .val (.int t3), .val (.int qs), .val (.int qt), .val (.ref a35), .unset, .unset] [])) (fun _ hr => XS.icmpNo X85.here hx rfl (hb hby at_168) rfl (XT.ii_lt_f (by decide)) hr) ?_
    refine own_go (B := T85.setTop (mkF m 173 #[.val (.int ai), .val (.int bi), .val (.int ci), .val (.int hi), .val (.int (4 : Int32)), .val (.int s0), .val (.int t0), .val (.int s1), .val (.int t1), .val (.int s2), .val (.int t2), .val (.int s3), .val (.int t3), .val (.int qs), .val (.int qt), .val (.ref a35), .unset, .unset] [(.ref a35)])) (fun _ hr => XS.aload X85.here hx rfl (hb hby at_171) rfl rfl hr) ?_
    refine own_go (B := T85.setTop (mkF m 175 #[.val (.int ai), .val (.int bi), .val (.int ci), .val (.int hi), .val (.int (4 : Int32)), .val (.int s0), .val (.int t0), .val (.int s1), .val (.int t1), .val (.int s2), .val (.int t2), .val (.int s3), .val (.int t3), .val (.int qs), .val (.int qt), .val (.ref a35), .unset, .unset] [(.int s2), (.ref a35)])) (fun _ hr => XS.iload X85.here hx rfl (hb hby at_173) rfl hr) ?_
    refine own_go (B := T85.setTop (mkF m 177 #[.val (.int ai), .val (.int bi), .val (.int ci), .val (.int hi), .val (.int (4 : Int32)), .val (.int s0), .val (.int t0), .val (.int s1), .val (.int t1), .val (.int s2), .val (.int t2), .val (.int s3), .val (.int t3), .val (.int qs), .val (.int qt), .val (.ref a35), .unset, .unset] [(.int t2), (.int s2), (.ref a35)])) (fun _ hr => XS.iload X85.here hx rfl (hb hby at_175) rfl hr) ?_
    obtain ⟨cq86, kq86, qa86, qb86, qc86⟩ := isOf hZ rfl H85.1
    obtain ⟨_, _, ⟨T86, L86, k86, n86⟩, -, X86, ⟨Lc86, hQ86, l86, y86, z86⟩, st86⟩ := X85.virtualBack hx (y := (⟨"com/example/wachter/wachter/rbac/Relation", "add", "(II)V"⟩ : MethodName)) (z := (⟨"com/example/wachter/wachter/rbac/Relation", "add", "(II)V"⟩ : MethodName)) hown (mvT hZ (hw _ (List.mem_of_getElem? (i := 18) rfl))) (mvT hZ (hw _ (List.mem_of_getElem? (i := 19) rfl))) (notFace_of_selects (args := #[]) (mvT hZ (hw _ (List.mem_of_getElem? (i := 21) rfl)))) (mvT hZ (hw _ (List.mem_of_getElem? (i := 21) rfl))) (mvT hZ (hw _ (List.mem_of_getElem? (i := 20) rfl))) (by decide) (backOf (W := 0) (rm_add l Z a0 hw [] a35 s2 t2 S T0 2 _ _ T85.heap n0 Z85 H85 (by decide) ge geS geT) hZ (hw _ (List.mem_of_getElem? (i := 22) rfl)) (hw _ (List.mem_of_getElem? (i := 6) rfl)) (by decide) (by decide)) qa86 qc86 (g := (mkF m 177 #[.val (.int ai), .val (.int bi), .val (.int ci), .val (.int hi), .val (.int (4 : Int32)), .val (.int s0), .val (.int t0), .val (.int s1), .val (.int t1), .val (.int s2), .val (.int t2), .val (.int s3), .val (.int t3), .val (.int qs), .val (.int qt), .val (.ref a35), .unset, .unset] [(.int t2), (.int s2), (.ref a35)])) rfl (by rw [hml]; rfl) (Steps.refl _) (argsL := [(.int s2), (.int t2)]) (rest := []) (lenOf pd_add rfl) rfl (by show 2 * 0 + _ ≤ _; exact Nat.le_of_eq rfl) (hb hby at_177) (fun _ _ => ⟨rfl, rfl, (by decide : 3 + 0 ≤ _), (by decide : 35 + 0 ≤ _)⟩)
    dsimp only [Pt.U, Pt.locs, Pt.cells, Pt.slots] at X86 l86 y86 z86 st86 hQ86
    subst l86 y86 z86
    obtain ⟨rfl, N86, Z86, H86⟩ := hQ86
    refine own_gs (B := T86.setTop (mkF m 180 #[.val (.int ai), .val (.int bi), .val (.int ci), .val (.int hi), .val (.int (4 : Int32)), .val (.int s0), .val (.int t0), .val (.int s1), .val (.int t1), .val (.int s2), .val (.int t2), .val (.int s3), .val (.int t3), .val (.int qs), .val (.int qt), .val (.ref a35), .unset, .unset] [])) st86 ?_
    have M86 := Fr.app M85 N86
    refine own_go (B := T86.setTop (mkF m 182 #[.val (.int ai), .val (.int bi), .val (.int ci), .val (.int hi), .val (.int (4 : Int32)), .val (.int s0), .val (.int t0), .val (.int s1), .val (.int t1), .val (.int s2), .val (.int t2), .val (.int s3), .val (.int t3), .val (.int qs), .val (.int qt), .val (.ref a35), .unset, .unset] [(.int (4 : Int32))])) (fun _ hr => XS.iload X86.here hx rfl (hb hby at_180) rfl hr) ?_
    refine own_go (B := T86.setTop (mkF m 183 #[.val (.int ai), .val (.int bi), .val (.int ci), .val (.int hi), .val (.int (4 : Int32)), .val (.int s0), .val (.int t0), .val (.int s1), .val (.int t1), .val (.int s2), .val (.int t2), .val (.int s3), .val (.int t3), .val (.int qs), .val (.int qt), .val (.ref a35), .unset, .unset] [(.int (4 : Int32)), (.int (4 : Int32))])) (fun _ hr => XT.iconstV X86.here hx rfl (4 : Int32) (hb hby at_182) (by decide) hr) ?_
    refine own_go (B := T86.setTop (mkF m 186 #[.val (.int ai), .val (.int bi), .val (.int ci), .val (.int hi), .val (.int (4 : Int32)), .val (.int s0), .val (.int t0), .val (.int s1), .val (.int t1), .val (.int s2), .val (.int t2), .val (.int s3), .val (.int t3), .val (.int qs), .val (.int qt), .val (.ref a35), .unset, .unset] [])) (fun _ hr => XS.icmpNo X86.here hx rfl (hb hby at_183) rfl (XT.ii_lt_f (by decide)) hr) ?_
    refine own_go (B := T86.setTop (mkF m 188 #[.val (.int ai), .val (.int bi), .val (.int ci), .val (.int hi), .val (.int (4 : Int32)), .val (.int s0), .val (.int t0), .val (.int s1), .val (.int t1), .val (.int s2), .val (.int t2), .val (.int s3), .val (.int t3), .val (.int qs), .val (.int qt), .val (.ref a35), .unset, .unset] [(.ref a35)])) (fun _ hr => XS.aload X86.here hx rfl (hb hby at_186) rfl rfl hr) ?_
    refine own_go (B := T86.setTop (mkF m 190 #[.val (.int ai), .val (.int bi), .val (.int ci), .val (.int hi), .val (.int (4 : Int32)), .val (.int s0), .val (.int t0), .val (.int s1), .val (.int t1), .val (.int s2), .val (.int t2), .val (.int s3), .val (.int t3), .val (.int qs), .val (.int qt), .val (.ref a35), .unset, .unset] [(.int s3), (.ref a35)])) (fun _ hr => XS.iload X86.here hx rfl (hb hby at_188) rfl hr) ?_
    refine own_go (B := T86.setTop (mkF m 192 #[.val (.int ai), .val (.int bi), .val (.int ci), .val (.int hi), .val (.int (4 : Int32)), .val (.int s0), .val (.int t0), .val (.int s1), .val (.int t1), .val (.int s2), .val (.int t2), .val (.int s3), .val (.int t3), .val (.int qs), .val (.int qt), .val (.ref a35), .unset, .unset] [(.int t3), (.int s3), (.ref a35)])) (fun _ hr => XS.iload X86.here hx rfl (hb hby at_190) rfl hr) ?_
    obtain ⟨cq87, kq87, qa87, qb87, qc87⟩ := isOf hZ rfl H86.1
    obtain ⟨_, _, ⟨T87, L87, k87, n87⟩, -, X87, ⟨Lc87, hQ87, l87, y87, z87⟩, st87⟩ := X86.virtualBack hx (y := (⟨"com/example/wachter/wachter/rbac/Relation", "add", "(II)V"⟩ : MethodName)) (z := (⟨"com/example/wachter/wachter/rbac/Relation", "add", "(II)V"⟩ : MethodName)) hown (mvT hZ (hw _ (List.mem_of_getElem? (i := 18) rfl))) (mvT hZ (hw _ (List.mem_of_getElem? (i := 19) rfl))) (notFace_of_selects (args := #[]) (mvT hZ (hw _ (List.mem_of_getElem? (i := 21) rfl)))) (mvT hZ (hw _ (List.mem_of_getElem? (i := 21) rfl))) (mvT hZ (hw _ (List.mem_of_getElem? (i := 20) rfl))) (by decide) (backOf (W := 0) (rm_add l Z a0 hw [] a35 s3 t3 S T0 3 _ _ T86.heap n0 Z86 H86 (by decide) ge geS geT) hZ (hw _ (List.mem_of_getElem? (i := 22) rfl)) (hw _ (List.mem_of_getElem? (i := 6) rfl)) (by decide) (by decide)) qa87 qc87 (g := (mkF m 192 #[.val (.int ai), .val (.int bi), .val (.int ci), .val (.int hi), .val (.int (4 : Int32)), .val (.int s0), .val (.int t0), .val (.int s1), .val (.int t1), .val (.int s2), .val (.int t2), .val (.int s3), .val (.int t3), .val (.int qs), .val (.int qt), .val (.ref a35), .unset, .unset] [(.int t3), (.int s3), (.ref a35)])) rfl (by rw [hml]; rfl) (Steps.refl _) (argsL := [(.int s3), (.int t3)]) (rest := []) (lenOf pd_add rfl) rfl (by show 2 * 0 + _ ≤ _; exact Nat.le_of_eq rfl) (hb hby at_192) (fun _ _ => ⟨rfl, rfl, (by decide : 3 + 0 ≤ _), (by decide : 35 + 0 ≤ _)⟩)
    dsimp only [Pt.U, Pt.locs, Pt.cells, Pt.slots] at X87 l87 y87 z87 st87 hQ87
    subst l87 y87 z87
    obtain ⟨rfl, N87, Z87, H87⟩ := hQ87
    refine own_gs (B := T87.setTop (mkF m 195 #[.val (.int ai), .val (.int bi), .val (.int ci), .val (.int hi), .val (.int (4 : Int32)), .val (.int s0), .val (.int t0), .val (.int s1), .val (.int t1), .val (.int s2), .val (.int t2), .val (.int s3), .val (.int t3), .val (.int qs), .val (.int qt), .val (.ref a35), .unset, .unset] [])) st87 ?_
    have M87 := Fr.app M86 N87
    exact hfin _ _ X87 M87 Z87 _ _ H87 (by intro i hi; have : i = 0 ∨ i = 1 ∨ i = 2 ∨ i = 3 := (by omega); rcases this with rfl | rfl | rfl | rfl <;> first | rfl | omega) (by intro i hi; have : i = 0 ∨ i = 1 ∨ i = 2 ∨ i = 3 := (by omega); rcases this with rfl | rfl | rfl | rfl <;> first | rfl | omega)
set_option maxRecDepth 65536 in
set_option maxHeartbeats 40000000 in
theorem comes_1 {Post : Tables → Env → Array Value → State → Outcome → State → Prop} (hpost : ∀ tb e args s v u, (limb_1_1.after args s (.returned v) u = true ∧ limb_1_2.after args s (.returned v) u = true ∧ True) → FrameEnd s (.returned v) u (Jvm.fieldLocs frame_1_writes args s ++ Jvm.arrayLocs frame_1_arrays args s ++ Jvm.staticLocs frame_1_statics s) 16 192 → Post tb e args s (.returned v) u) :
    ArmFor flags0 classFile x code maxLocals ret World_1 tables_1 room_1 Calls_1 rest_1 Pre_1 Post := by
  intro l hfl _ _ p e ha hc hk s m args below hf hA hF happ hP
  obtain ⟨hcalls, hrest, hpre⟩ := hP
  obtain ⟨-, -, -, hnamed, -, -, -, hat⟩ := (Spec.applies_iff hf).mp happ
  obtain ⟨hg, hn⟩ := and_e (Cond.before_iff.mp (show (Jvm.Cond.and given_1 narrow_1).before args s = true from hpre))
  obtain ⟨h1, g0⟩ := and_e hg
  obtain ⟨f0, g1⟩ := and_e g0
  obtain ⟨f1, g2⟩ := and_e g1
  obtain ⟨f2, g3⟩ := and_e g2
  obtain ⟨w0, w1, w2, w3, rfl⟩ : ∃ w0 w1 w2 w3 : Value, args = #[w0, w1, w2, w3] := by
    have hs : args.size = 4 := by simpa [Cond.value, given_1] using h1
    obtain ⟨L⟩ := args
    match L, hs with
    | [w0, w1, w2, w3], _ => exact ⟨w0, w1, w2, w3, rfl⟩
  have hw := fun d (hd : d ∈ tables_1) => atoms_spec (ws := Jvm.Cond.code x code maxLocals ret :: tables_1) hat d (List.mem_cons_of_mem _ hd)
  obtain ⟨i0, q0⟩ := is_v f0
  obtain rfl : w0 = (.int i0) := Option.some.inj q0
  obtain ⟨i1, q1⟩ := is_v f1
  obtain rfl : w1 = (.int i1) := Option.some.inj q1
  obtain ⟨i2, q2⟩ := is_v f2
  obtain rfl : w2 = (.int i2) := Option.some.inj q2
  obtain ⟨i3, q3⟩ := is_v g3
  obtain rfl : w3 = (.int i3) := Option.some.inj q3
  obtain ⟨n, o, h1, h2, h3, _, L, rfl, ⟨rfl, N⟩, hq⟩ := rm_law l s _ hw tables_1 i0 i1 i2 i3 s.heap s.heap.size (Nat.le_refl _) p e ha hc hk s m _ below hf ((Spec.applies_iff_loose hf).mp happ).1 ⟨rfl, State.Warmed39.refl s, rfl⟩ trivial
  refine ⟨n, _, h1, h2, h3, hpost _ _ _ _ _ _ ⟨Cond.after_iff.mpr rfl, Cond.after_iff.mpr (eq_i res_at (Term.int_eval (1)) rfl), trivial⟩ ⟨hq.1, hq.2.1, (hq.2.2.sift fun y hy => Or.inr (N y hy)).mono (by decide) (by decide)⟩⟩
theorem main_1_1 : Claimed_1_1 := comes_1 fun _ _ _ _ _ _ h hF => ⟨h.1, hF⟩
theorem main_1_2 : Claimed_1_2 := comes_1 fun _ _ _ _ _ _ h hF => ⟨h.2.1, hF⟩
end Jvm.Pilot.@@N@@
namespace Jvm.Pilot.@@N@@
open Jvm Jvm.ClassFile Sem Op Lib Jvm.Free Jvm.Stand Jvm.Pilot.@@N@@.Jvm.D
/-! MADE BY PROGRAM (witnessworld.py) out of the Statement's table words and the real class files: 9 classes; the members and pool entries that the words name. The judged class is class 1, her method 1. -/
namespace start1
open Jvm.ClassFile
def u (s : String) : CpInfo := .utf8 (stringToUtf16 s)
/-- a pool by its gaps: so many unusable entries, then the entry; so many at the end -/
def gap : Nat → List CpInfo → List CpInfo
  | 0, r => r
  | n + 1, r => .unusable :: gap n r
def poolList (es : List (Nat × CpInfo)) (last : Nat) : List CpInfo := es.foldr (fun e r => gap e.1 (e.2 :: r)) (gap last [])
def pool (es : List (Nat × CpInfo)) (last : Nat) : Array CpInfo := ⟨poolList es last⟩
def fileOf (pool : Array CpInfo) (this : Nat) (attrs : Array Attribute := #[]) (ms : Array MethodInfo := #[]) (fl : Nat := 33) (sup : Nat := 0) (ifs : Array Nat := #[]) (fds : Array FieldInfo := #[]) : ClassFile where
  minorVersion := 0
  majorVersion := 65
  constantPool := pool
  accessFlags := fl
  thisClass := this
  superClass := sup
  interfaces := ifs
  fields := fds
  methods := ms
  attributes := attrs
def plain (name : String) (sup : Option ClassId) : Class where
  name := name
  kind := .ordinary
  loader := none
  accessFlags := 33
  super := sup
  interfaces := #[]
  cf := none
  fields := #[]
  methods := #[]
  instanceTypes := #[]
  staticTypes := #[]
  resolved := #[]
  callSites := []
  init := .initialized
  statics := none
  mirror := none

def pool0 : Array CpInfo := pool [(5, u "<init>"), (0, u "()V"), (1, .class_ 10), (1, u "java/lang/Object")] 113

def k0c0 : Code := { maxStack := 0, maxLocals := 1, code := object_method_1_code, exceptionTable := #[], attributes := #[] }
def k0m0 : Method := { name := "<init>", desc := "()V", sig := { parameters := [], returnType := none }, accessFlags := 1, code := some k0c0 }
/-- java/lang/Object -/
def k0 : Class := { plain "java/lang/Object" none with
  accessFlags := 33
  interfaces := #[]
  cf := some (fileOf pool0 8 #[] #[{ accessFlags := 1, nameIndex := 5, descriptorIndex := 6, attributes := #[] }] 33 0 #[] #[])
  fields := #[]
  methods := #[k0m0]
  instanceTypes := #[]
  staticTypes := #[]
  resolved := Array.replicate 124 none
  statics := none }

def pool1 : Array CpInfo := pool [(2, .class_ 4), (0, .nameAndType 5 6), (0, u "java/lang/Object"), (0, u "<init>"), (0, u "()V"), (0, .methodref 8 9), (0, .class_ 10), (0, .nameAndType 11 12), (0, u "com/example/wachter/wachter/rbac/RelationIndexOfPinLaw"), (0, u "pick"), (0, u "(IIII)I"), (0, .class_ 14), (0, u "com/example/wachter/wachter/rbac/Relation"), (0, .methodref 13 3), (0, .methodref 13 17), (0, .nameAndType 18 19), (0, u "add"), (0, u "(II)V"), (0, .methodref 13 21), (0, .nameAndType 22 23), (0, u "indexOf"), (0, u "(II)I"), (2, u "law"), (0, u "(IIII)Z")] 3

def k1m0 : Method := { name := "<init>", desc := "()V", sig := { parameters := [], returnType := none }, accessFlags := 1, code := none }
def k1c1 : Code := { maxStack := 4, maxLocals := 18, code := code, exceptionTable := #[], attributes := #[] }
def k1m1 : Method := { name := "law", desc := "(IIII)Z", sig := { parameters := [.int, .int, .int, .int], returnType := some .boolean }, accessFlags := 9, code := some k1c1 }
def k1c2 : Code := { maxStack := 2, maxLocals := 5, code := method_3_code, exceptionTable := #[], attributes := #[] }
def k1m2 : Method := { name := "pick", desc := "(IIII)I", sig := { parameters := [.int, .int, .int, .int], returnType := some .int }, accessFlags := 10, code := some k1c2 }
/-- com/example/wachter/wachter/rbac/RelationIndexOfPinLaw -/
def k1 : Class := { plain "com/example/wachter/wachter/rbac/RelationIndexOfPinLaw" (some 0) with
  accessFlags := 49
  interfaces := #[]
  cf := some (fileOf pool1 8 #[] #[{ accessFlags := 1, nameIndex := 5, descriptorIndex := 6, attributes := #[] }, { accessFlags := 9, nameIndex := 26, descriptorIndex := 27, attributes := #[] }, { accessFlags := 10, nameIndex := 11, descriptorIndex := 12, attributes := #[] }] 49 2 #[] #[])
  fields := #[]
  methods := #[k1m0, k1m1, k1m2]
  instanceTypes := #[]
  staticTypes := #[]
  resolved := Array.replicate 31 none
  statics := none }

def pool2 : Array CpInfo := pool [(1, .methodref 2 3), (0, .class_ 4), (0, .nameAndType 5 6), (0, u "java/lang/Object"), (0, u "<init>"), (0, u "()V"), (0, .fieldref 8 9), (0, .class_ 10), (0, .nameAndType 11 12), (0, u "com/example/wachter/wachter/rbac/Relation"), (0, u "sources"), (0, u "[I"), (0, .fieldref 8 14), (0, .nameAndType 15 12), (0, u "targets"), (0, .fieldref 8 17), (0, .nameAndType 18 19), (0, u "size"), (0, u "I"), (13, u "EMPTY"), (10, u "add"), (0, u "(II)V"), (1, u "indexOf"), (0, u "(II)I")] 8

def k2c0 : Code := { maxStack := 2, maxLocals := 1, code := prog_15_method_1_code, exceptionTable := #[], attributes := #[] }
def k2m0 : Method := { name := "<init>", desc := "()V", sig := { parameters := [], returnType := none }, accessFlags := 0, code := some k2c0 }
def k2c1 : Code := { maxStack := 4, maxLocals := 3, code := prog_15_method_2_code, exceptionTable := #[], attributes := #[] }
def k2m1 : Method := { name := "add", desc := "(II)V", sig := { parameters := [.int, .int], returnType := none }, accessFlags := 0, code := some k2c1 }
def k2c2 : Code := { maxStack := 2, maxLocals := 4, code := prog_15_method_3_code, exceptionTable := #[], attributes := #[] }
def k2m2 : Method := { name := "indexOf", desc := "(II)I", sig := { parameters := [.int, .int], returnType := some .int }, accessFlags := 0, code := some k2c2 }
/-- com/example/wachter/wachter/rbac/Relation -/
def k2 : Class := { plain "com/example/wachter/wachter/rbac/Relation" (some 0) with
  accessFlags := 32
  interfaces := #[]
  cf := some (fileOf pool2 8 #[] #[{ accessFlags := 0, nameIndex := 5, descriptorIndex := 6, attributes := #[] }, { accessFlags := 0, nameIndex := 44, descriptorIndex := 45, attributes := #[] }, { accessFlags := 0, nameIndex := 47, descriptorIndex := 48, attributes := #[] }] 32 2 #[] #[{ accessFlags := 26, nameIndex := 33, descriptorIndex := 12, attributes := #[] }, { accessFlags := 2, nameIndex := 11, descriptorIndex := 12, attributes := #[] }, { accessFlags := 2, nameIndex := 15, descriptorIndex := 12, attributes := #[] }, { accessFlags := 2, nameIndex := 18, descriptorIndex := 19, attributes := #[] }])
  fields := #[{ name := "EMPTY", type := (.array .int), accessFlags := 26, slot := 0, constantValue := 0 }, { name := "sources", type := (.array .int), accessFlags := 2, slot := 0, constantValue := 0 }, { name := "targets", type := (.array .int), accessFlags := 2, slot := 1, constantValue := 0 }, { name := "size", type := .int, accessFlags := 2, slot := 2, constantValue := 0 }]
  methods := #[k2m0, k2m1, k2m2]
  instanceTypes := #[(.array .int), (.array .int), .int]
  staticTypes := #[(.array .int)]
  resolved := Array.replicate 57 none
  statics := none }

def pool3 : Array CpInfo := pool [(1, u "java/lang/Cloneable"), (0, .class_ 1), (0, u "java/lang/Object"), (0, .class_ 3)] 3

/-- java/lang/Cloneable -/
def k3 : Class := { plain "java/lang/Cloneable" (some 0) with
  accessFlags := 1537
  interfaces := #[]
  cf := some (fileOf pool3 2 #[] #[] 1537 4 #[] #[])
  fields := #[]
  methods := #[]
  instanceTypes := #[]
  staticTypes := #[]
  resolved := Array.replicate 8 none
  statics := none }

def pool4 : Array CpInfo := pool [(1, u "java/io/Serializable"), (0, .class_ 1), (0, u "java/lang/Object"), (0, .class_ 3)] 3

/-- java/io/Serializable -/
def k4 : Class := { plain "java/io/Serializable" (some 0) with
  accessFlags := 1537
  interfaces := #[]
  cf := some (fileOf pool4 2 #[] #[] 1537 4 #[] #[])
  fields := #[]
  methods := #[]
  instanceTypes := #[]
  staticTypes := #[]
  resolved := Array.replicate 8 none
  statics := none }

/-- the primitive byte -/
def k5 : Class := { plain "byte" none with kind := .primitive 'B', accessFlags := 0x411 }
/-- [B -/
def k6 : Class := { plain "[B" (some 0) with kind := .array 5 .byte, interfaces := #[3, 4], accessFlags := 1041 }

/-- the primitive int -/
def k7 : Class := { plain "int" none with kind := .primitive 'I', accessFlags := 0x411 }
/-- [I -/
def k8 : Class := { plain "[I" (some 0) with kind := .array 7 .int, interfaces := #[3, 4], accessFlags := 1041 }

def heap : Heap := #[]
def classes : Array Class := #[k0, k1, k2, k3, k4, k5, k6, k7, k8]
def interned : List (Array UInt16 × Addr) := []
def slotsUsed : Nat := 0
def theMethod : MethodId := ⟨1, 1⟩
def args0 : Array Value := #[.int 5, .int 7, .int 1, .int 9]
def aboutOver (below : List Frame) : State where
  vm := { classes := classes, interned := interned.toArray }
  heap := heap
  slotsUsed := slotsUsed
  threads := #[{ frames := .invoking theMethod args0 :: below }]
def below0 : List Frame := [.native { method := ⟨0, 0⟩, args := #[] }]
def about1 : State := aboutOver below0
def p0 : Program := .bare "" "" ""
def e0 : Env := launch0.env 0 0 0
theorem w_frames : about1.frames = Frame.invoking theMethod args0 :: below0 := rfl
set_option maxRecDepth 65536 in
theorem w_args : argsFit about1.vm theMethod args0 = true := by decide +kernel
set_option maxRecDepth 65536 in
theorem w_heap : heapFits about1 = true := by decide +kernel
set_option maxRecDepth 65536 in
theorem w_runnable : about1.curStatus? = some .runnable := by decide +kernel
set_option maxRecDepth 65536 in
theorem w_alone : about1.alone = true := by decide +kernel
set_option maxRecDepth 65536 in
theorem w_named : about1.methodNamed? x = some theMethod := by decide +kernel
set_option maxRecDepth 65536 in
theorem w_hears : about1.hears theMethod below0 = true := by decide +kernel
set_option maxRecDepth 65536 in
theorem w_ripe : about1.ripe theMethod args0 below0 = true := by decide +kernel
theorem w_running : about1.status = .running := rfl
set_option maxRecDepth 65536 in
theorem w_room : about1.hasRoom e0.platform room_1 = true :=
  launch0.hasRoom_least _ room_1 (by decide +kernel) (by decide +kernel) (by decide +kernel) (by decide +kernel) (by decide +kernel) (by decide +kernel)
theorem allAtoms_all (ts : List Jvm.Cond) (a : Array Jvm.Value) (st : Jvm.State) : (allAtoms ts).before a st = ts.all (fun c => c.before a st) := by
  induction ts with
  | nil => rfl
  | cons c t ih =>
    show (Jvm.Cond.and c (allAtoms t)).before a st = _
    rw [Jvm.Cond.before_and, ih, List.all_cons]
def words1 : List Jvm.Cond := Jvm.Cond.code x code maxLocals ret :: tables_1
/-- a 'code' word, met by the world's own term for the bytes: nothing is compared byte by byte -/
theorem code_word {y : MethodName} {bytes : ByteArray} {mx : Nat} {rt : Option FieldType} {a : Array Value} {s : State} {m : MethodId} {meth : Method} {c : Code} (h1 : s.methodNamed? y = some m) (h2 : s.vm.method? m = some meth) (h3 : meth.code = some c) (h4 : c.code = bytes)
    (h5 : (c.maxLocals == mx && c.exceptionTable.isEmpty && decide (c.maxStack ≤ mostOperands) && decide (meth.sig.returnType = rt) && !meth.locks && decide (parseMethodDescriptor y.desc = some meth.sig)) = true) : (Jvm.Cond.code y bytes mx rt).before a s = true := by
  simp only [Bool.and_eq_true, beq_iff_eq, Bool.not_eq_true', decide_eq_true_eq] at h5
  obtain ⟨⟨⟨⟨⟨g1, g2⟩, g3⟩, g4⟩, g5⟩, g6⟩ := h5
  simp [Cond.before, Cond.holds, Cond.value, h1, h2, h3, h4, g1, g2, g3, g4, g5, g6]
def isCode : Jvm.Cond → Bool
  | .code _ _ _ _ => true
  | _ => false
theorem all_split {L : List Jvm.Cond} {P : Jvm.Cond → Bool} (h1 : L.all (fun c => isCode c || P c) = true) (h2 : ∀ c ∈ L.filter isCode, P c = true) : L.all P = true := by
  refine List.all_eq_true.mpr fun c hc => ?_
  have h := List.all_eq_true.mp h1 c hc
  rcases Bool.eq_false_or_eq_true (isCode c) with hi | hi
  · exact h2 c (List.mem_filter.mpr ⟨hc, hi⟩)
  · simpa [hi] using h
set_option maxRecDepth 65536 in
theorem w_c0 : (Jvm.Cond.code x code maxLocals ret).before args0 about1 = true := code_word (m := ⟨1, 1⟩) (meth := k1m1) (c := k1c1) (by decide +kernel) rfl rfl rfl (by decide +kernel)
set_option maxRecDepth 65536 in
theorem w_c1 : (Jvm.Cond.code ({ cls := "com/example/wachter/wachter/rbac/RelationIndexOfPinLaw", name := "pick", desc := "(IIII)I" } : Jvm.MethodName) method_3_code (5 : Nat) (Option.some Jvm.ClassFile.FieldType.int)).before args0 about1 = true := code_word (m := ⟨1, 2⟩) (meth := k1m2) (c := k1c2) (by decide +kernel) rfl rfl rfl (by decide +kernel)
set_option maxRecDepth 65536 in
theorem w_c2 : (Jvm.Cond.code ({ cls := "com/example/wachter/wachter/rbac/Relation", name := "<init>", desc := "()V" } : Jvm.MethodName) prog_15_method_1_code (1 : Nat) (Option.none : Option Jvm.ClassFile.FieldType)).before args0 about1 = true := code_word (m := ⟨2, 0⟩) (meth := k2m0) (c := k2c0) (by decide +kernel) rfl rfl rfl (by decide +kernel)
set_option maxRecDepth 65536 in
theorem w_c3 : (Jvm.Cond.code ({ cls := "java/lang/Object", name := "<init>", desc := "()V" } : Jvm.MethodName) object_method_1_code (1 : Nat) (Option.none : Option Jvm.ClassFile.FieldType)).before args0 about1 = true := code_word (m := ⟨0, 0⟩) (meth := k0m0) (c := k0c0) (by decide +kernel) rfl rfl rfl (by decide +kernel)
set_option maxRecDepth 65536 in
theorem w_c4 : (Jvm.Cond.code ({ cls := "com/example/wachter/wachter/rbac/Relation", name := "add", desc := "(II)V" } : Jvm.MethodName) prog_15_method_2_code (3 : Nat) (Option.none : Option Jvm.ClassFile.FieldType)).before args0 about1 = true := code_word (m := ⟨2, 1⟩) (meth := k2m1) (c := k2c1) (by decide +kernel) rfl rfl rfl (by decide +kernel)
set_option maxRecDepth 65536 in
theorem w_c5 : (Jvm.Cond.code ({ cls := "com/example/wachter/wachter/rbac/Relation", name := "indexOf", desc := "(II)I" } : Jvm.MethodName) prog_15_method_3_code (4 : Nat) (Option.some Jvm.ClassFile.FieldType.int)).before args0 about1 = true := code_word (m := ⟨2, 2⟩) (meth := k2m2) (c := k2c2) (by decide +kernel) rfl rfl rfl (by decide +kernel)
def codes1 : List Jvm.Cond := [Jvm.Cond.code x code maxLocals ret, Jvm.Cond.code ({ cls := "com/example/wachter/wachter/rbac/RelationIndexOfPinLaw", name := "pick", desc := "(IIII)I" } : Jvm.MethodName) method_3_code (5 : Nat) (Option.some Jvm.ClassFile.FieldType.int), Jvm.Cond.code ({ cls := "com/example/wachter/wachter/rbac/Relation", name := "<init>", desc := "()V" } : Jvm.MethodName) prog_15_method_1_code (1 : Nat) (Option.none : Option Jvm.ClassFile.FieldType), Jvm.Cond.code ({ cls := "java/lang/Object", name := "<init>", desc := "()V" } : Jvm.MethodName) object_method_1_code (1 : Nat) (Option.none : Option Jvm.ClassFile.FieldType), Jvm.Cond.code ({ cls := "com/example/wachter/wachter/rbac/Relation", name := "add", desc := "(II)V" } : Jvm.MethodName) prog_15_method_2_code (3 : Nat) (Option.none : Option Jvm.ClassFile.FieldType), Jvm.Cond.code ({ cls := "com/example/wachter/wachter/rbac/Relation", name := "indexOf", desc := "(II)I" } : Jvm.MethodName) prog_15_method_3_code (4 : Nat) (Option.some Jvm.ClassFile.FieldType.int)]
set_option maxRecDepth 65536 in
theorem codes_eq : words1.filter isCode = codes1 := rfl
theorem w_codes : ∀ c ∈ words1.filter isCode, c.before args0 about1 = true := by
  rw [codes_eq]
  intro c hc
  simp only [codes1, List.mem_cons, List.not_mem_nil, or_false] at hc
  rcases hc with rfl | rfl | rfl | rfl | rfl | rfl
  · exact w_c0
  · exact w_c1
  · exact w_c2
  · exact w_c3
  · exact w_c4
  · exact w_c5
set_option maxRecDepth 65536 in
theorem w_t1 : (words1.take 24).all (fun c => isCode c || c.before args0 about1) = true := by decide +kernel
set_option maxRecDepth 65536 in
theorem w_t2 : (words1.drop 24).all (fun c => isCode c || c.before args0 about1) = true := by decide +kernel
theorem w_tables : (allAtoms (Jvm.Cond.code x code maxLocals ret :: tables_1)).before args0 about1 = true := by
  rw [allAtoms_all]
  show words1.all (fun c => c.before args0 about1) = true
  refine all_split ?_ w_codes
  rw [← List.take_append_drop 24 words1, List.all_append, w_t1, w_t2]
  rfl
set_option maxRecDepth 65536 in
theorem w_case : (Jvm.Cond.and given_1 narrow_1).before args0 about1 = true := by decide +kernel
theorem w_applies : (headSpec (Jvm.Cond.code x code maxLocals ret :: tables_1) room_1).applies x e0.platform about1 = true :=
  (Spec.applies_iff w_frames).mpr ⟨w_running, w_runnable, w_alone, w_named, w_hears, w_ripe, w_room, w_tables⟩
theorem atStart : AtStart classFile x code maxLocals ret World_1 tables_1 room_1 Calls_1 rest_1 Pre_1 launch0 p0 e0 about1 theMethod args0 below0 :=
  ⟨lists_1, trivial, launch0.admits_env _ _ _, launch0.least_env, fairChoices_fair.cas, fairChoices_fair.clock, w_frames, w_args, w_heap, w_applies, trivial, trivial, w_case⟩
end start1
theorem witness_1 : WitnessClaimed_1 := ⟨start1.p0, start1.e0, start1.about1, start1.theMethod, start1.args0, start1.below0, start1.atStart⟩
end Jvm.Pilot.@@N@@
