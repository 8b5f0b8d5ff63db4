import JvmDerived
import JvmDerived.Pilot.@@N@@Statement
import JvmDerived.Pilot.@@N@@Code
set_option linter.unusedVariables false
set_option linter.unusedSimpArgs false
@@BLOCK:NumsL.lean.txt@@
namespace Jvm.Pilot.@@N@@
open Jvm Jvm.ClassFile Sem Op Lib Jvm.Free Jvm.Stand Jvm.LawKit Jvm.RoadKit Bundle Jvm.Pilot.@@N@@.Jvm.D
section Own
variable {p : Program} {l : Launch} {e : Env} {R : Room} {s : State} {m : MethodId} {args : Array Value} {below : List Frame} {meth : Method} {c : Code} {T : State} {locs : List Loc} {cells slots : Nat}
/-- from A the run comes to an end of which P holds -/
def own_G (p : Program) (e : Env) (below : List Frame) (P : State → Outcome → Prop) (A : State) : Prop := ∃ s₂ o, Steps p.tables e below A s₂ ∧ P s₂ o
/-- the end of a body: it returned, Q holds of the answer, the heap and the places written, and the frame is kept -/
def own_P (s : State) (below : List Frame) (Q : Option Value → Heap → List Loc → Prop) (k n : Nat) (s₂ : State) (o : Outcome) : Prop := s₂.status = .running ∧ Ended s₂ below o ∧ ∃ v L, o = .returned v ∧ Q v s₂.heap L ∧ FrameEnd s o s₂ L k n
theorem own_go {P : State → Outcome → Prop} {A B : State} (k : ∀ t, Steps p.tables e below B t → Steps p.tables e below A t) (h : own_G p e below P B) : own_G p e below P A := by
  obtain ⟨s₂, o, h1, h2⟩ := h
  exact ⟨s₂, o, k _ h1, h2⟩
theorem own_gs {P : State → Outcome → Prop} {A B : State} (k : Steps p.tables e below A B) (h : own_G p e below P B) : own_G p e below P A := own_go (fun _ hr => k.trans hr) h
theorem own_end (X : Stand p l e R s m args below meth c T locs cells slots) (hlk : meth.locks = false) {v : Option Value} (hv : meth.sig.returnType = none → v = none) {A : State} {Q : Option Value → Heap → List Loc → Prop} {k n : Nat} (hk : cells ≤ k) (hn : slots ≤ n)
    (st : ∀ fs, (∀ (f : JFrame) (acts : List Action), f.method = m → f.locked = none → f.entered = [] → (doReturn e (T.setTop f) acts v).1 = T.setFrames fs) → Steps p.tables e below A (T.setFrames fs)) (q : Q v T.heap locs) : own_G p e below (own_P s below Q k n) A := by
  obtain ⟨fs, hr, hrun, hended, hW, hsame⟩ := X.leave (v := v) hv hlk
  exact ⟨_, _, st fs hr, hrun, hended, _, _, rfl, q, ⟨_, rfl⟩, hW, hsame.mono hk hn⟩
theorem own_retI (X : Stand p l e R s m args below meth c T locs cells slots) (hx : p.tables.exec = Jvm.exec) (hlk : meth.locks = false) {pc : Nat} {Ls : Array Slot} {z : Int32} {rest : List Value} {Q : Option Value → Heap → List Loc → Prop} {k n : Nat} (hret : meth.sig.returnType = some .int) (hd : decode c.code pc = .ok (.ireturn, 1)) (hk : cells ≤ k) (hn : slots ≤ n)
    (q : Q (some (.int z)) T.heap locs) : own_G p e below (own_P s below Q k n) (T.setTop (mkF m pc Ls (.int z :: rest))) :=
  own_end X hlk (fun h => by rw [hret] at h; cases h) hk hn (fun fs hr => retOut X hx hret rfl (Or.inl ⟨rfl, Or.inl rfl, z, rfl⟩) hd hr) q
theorem own_bit {z : Int32} (hz : z = 0 ∨ z = 1) : narrow .boolean (.int z) = .int z := by rcases hz with rfl | rfl <;> rfl
theorem own_retZ (X : Stand p l e R s m args below meth c T locs cells slots) (hx : p.tables.exec = Jvm.exec) (hlk : meth.locks = false) {pc : Nat} {Ls : Array Slot} {z : Int32} {rest : List Value} {Q : Option Value → Heap → List Loc → Prop} {k n : Nat} (hret : meth.sig.returnType = some .boolean) (hz : z = 0 ∨ z = 1) (hd : decode c.code pc = .ok (.ireturn, 1)) (hk : cells ≤ k) (hn : slots ≤ n)
    (q : Q (some (.int z)) T.heap locs) : own_G p e below (own_P s below Q k n) (T.setTop (mkF m pc Ls (.int z :: rest))) :=
  own_end X hlk (fun h => by rw [hret] at h; cases h) hk hn (fun fs hr => retOut X hx hret (own_bit hz) (Or.inl ⟨rfl, Or.inr (Or.inl rfl), z, rfl⟩) hd hr) q
theorem own_retJ (X : Stand p l e R s m args below meth c T locs cells slots) (hx : p.tables.exec = Jvm.exec) (hlk : meth.locks = false) {pc : Nat} {Ls : Array Slot} {z : Int64} {rest : List Value} {Q : Option Value → Heap → List Loc → Prop} {k n : Nat} (hret : meth.sig.returnType = some .long) (hd : decode c.code pc = .ok (.lreturn, 1)) (hk : cells ≤ k) (hn : slots ≤ n)
    (q : Q (some (.long z)) T.heap locs) : own_G p e below (own_P s below Q k n) (T.setTop (mkF m pc Ls (.long z :: rest))) :=
  own_end X hlk (fun h => by rw [hret] at h; cases h) hk hn (fun fs hr => retOut X hx hret rfl (Or.inr (Or.inl ⟨rfl, rfl, z, rfl⟩)) hd hr) q
theorem own_retA (X : Stand p l e R s m args below meth c T locs cells slots) (hx : p.tables.exec = Jvm.exec) (hlk : meth.locks = false) {pc : Nat} {Ls : Array Slot} {z : Addr} {t : FieldType} {rest : List Value} {Q : Option Value → Heap → List Loc → Prop} {k n : Nat} (hret : meth.sig.returnType = some t) (ht : t.isReference = true) (hn0 : narrow t (.ref z) = .ref z) (hd : decode c.code pc = .ok (.areturn, 1)) (hk : cells ≤ k) (hn : slots ≤ n)
    (q : Q (some (.ref z)) T.heap locs) : own_G p e below (own_P s below Q k n) (T.setTop (mkF m pc Ls (.ref z :: rest))) :=
  own_end X hlk (fun h => by rw [hret] at h; cases h) hk hn (fun fs hr => retOut X hx hret hn0 (Or.inr (Or.inr (Or.inr (Or.inr ⟨rfl, ht, rfl⟩)))) hd hr) q
theorem own_retV (X : Stand p l e R s m args below meth c T locs cells slots) (hx : p.tables.exec = Jvm.exec) (hlk : meth.locks = false) {pc : Nat} {Ls : Array Slot} {Q : Option Value → Heap → List Loc → Prop} {k n : Nat} (hret : meth.sig.returnType = none) (hd : decode c.code pc = .ok (.return_, 1)) (hk : cells ≤ k) (hn : slots ≤ n)
    (q : Q none T.heap locs) : own_G p e below (own_P s below Q k n) (T.setTop (mkF m pc Ls [])) :=
  own_end X hlk (fun _ => rfl) hk hn (fun fs hr => X.returnOut hx hret hd hr) q
end Own

section OwnArr
variable {p : Program} {l : Launch} {e : Env} {R : Room} {s : State} {m : MethodId} {args : Array Value} {below : List Frame} {meth : Method} {c : Code} {T : State} {locs : List Loc} {cells slots : Nat} {Z : State} {h h' : Heap} {a b : Addr} {ty : FieldType} {n : Nat} {f : Nat → Value}
/-- an array of n places, place i holds f i -/
def own_Ar (Z : State) (h : Heap) (a : Addr) (ty : FieldType) (n : Nat) (f : Nat → Value) : Prop := ∃ cl : Cell, Arr Z h a cl ty ∧ cl.slots.size = n ∧ ∀ i, i < n → cl.slots[i]? = some (f i)
theorem own_ltE {C : String} (F : Exa Z h a C) : @LT.lt Nat _ a h.size := F.lt
theorem own_Ar.lt (F : own_Ar Z h a ty n f) : @LT.lt Nat _ a h.size := by obtain ⟨cl, A, -⟩ := F; exact A.lt
theorem own_Ar.ext (F : own_Ar Z h a ty n f) (E : Ext h h') : own_Ar Z h' a ty n f := by obtain ⟨cl, A, r⟩ := F; exact ⟨cl, A.ext E, r⟩
theorem own_Ar.keep {ws : List Addr} (F : own_Ar Z h a ty n f) (K : Keep h h' ws) (q : a ∉ ws) : own_Ar Z h' a ty n f := by obtain ⟨cl, A, r⟩ := F; exact ⟨cl, ⟨K.2.1 a cl A.1 q, A.2⟩, r⟩
theorem own_Ar.other {sl : Nat} {v : Value} (F : own_Ar Z h b ty n f) (W : Wr h h' a sl v) (q : b ≠ a) : own_Ar Z h' b ty n f := by obtain ⟨cl, A, r⟩ := F; exact ⟨cl, A.other W q, r⟩
theorem own_Ar.set {j : Nat} {v : Value} (F : own_Ar Z h a ty n f) (W : Wr h h' a j v) : own_Ar Z h' a ty n (fun i => if i = j then v else f i) := by
  obtain ⟨cl, A, S, H⟩ := F
  refine ⟨_, A.same W, by rw [sz_set]; exact S, fun i hi => ?_⟩
  have hs : i < cl.slots.size := by rw [S]; exact hi
  show (cl.slots.setIfInBounds j v)[i]? = _
  rw [Array.getElem?_setIfInBounds]
  by_cases q : j = i
  · subst q; simp [hs]
  · have r : ¬ i = j := fun r => q r.symm
    show (if j = i then _ else cl.slots[i]?) = some (if i = j then v else f i)
    rw [if_neg q, if_neg r]; exact H i hi
theorem own_Ar.new {cA : ClassId} {nn : Int32} (A : Arr Z h a (newA cA ty nn) ty) (hn : nn.toInt = (n : Int)) : own_Ar Z h a ty n (fun _ => defaultValue ty) := by
  have hn' : nn.toNatClampNeg = n := by show nn.toInt.toNat = n; omega
  exact ⟨_, A, by rw [sz_new]; exact hn', fun i hi => by simp [newA, hn', hi]⟩
theorem own_Ar.congr {f' : Nat → Value} (F : own_Ar Z h a ty n f) (q : ∀ i, i < n → f i = f' i) : own_Ar Z h a ty n f' := by obtain ⟨cl, A, S, H⟩ := F; exact ⟨cl, A, S, fun i hi => by rw [← q i hi]; exact H i hi⟩
theorem own_Ar.setJ {j : Nat} {x : Int64} {g : Nat → Int64} (F : own_Ar Z h a ty n (fun i => .long (g i))) (W : Wr h h' a j (.long x)) : own_Ar Z h' a ty n (fun i => .long (if i = j then x else g i)) := (F.set W).congr fun i _ => by by_cases q : i = j <;> simp [q]
theorem own_Ar.setI {j : Nat} {x : Int32} {g : Nat → Int32} (F : own_Ar Z h a ty n (fun i => .int (g i))) (W : Wr h h' a j (.int x)) : own_Ar Z h' a ty n (fun i => .int (if i = j then x else g i)) := (F.set W).congr fun i _ => by by_cases q : i = j <;> simp [q]
theorem own_at {j : Int32} {i : Nat} (hj : j.toInt = (i : Int)) : ¬ j < 0 ∧ j.toNatClampNeg = i := ⟨by rw [Int32.lt_iff_toInt_lt, hj]; show ¬ ((i : Int) < 0); omega, by show j.toInt.toNat = i; omega⟩
theorem own_in {j : Int32} {i : Nat} (hj : j.toInt = (i : Int)) (hi : i < n) : ¬ (j < 0 ∨ n ≤ j.toNatClampNeg) := by
  obtain ⟨q1, q2⟩ := own_at hj
  rw [q2]
  rintro (r | r)
  · exact q1 r
  · omega
theorem own_plus {j k : Int32} {i q : Nat} (hj : j.toInt = (i : Int)) (hk : k.toInt = (q : Int)) (hb : i + q < 2147483648) : (j + k).toInt = ((i + q : Nat) : Int) := by
  have c := c_iadd j k
  have r := rng32 (j + k)
  omega
theorem own_minus {j k : Int32} {i q : Nat} (hj : j.toInt = (i : Int)) (hk : k.toInt = (q : Int)) (hb : q ≤ i) : (j - k).toInt = ((i - q : Nat) : Int) := by
  have c := c_isub j k
  have r := rng32 (j - k)
  have r2 := rng32 j
  omega
theorem own_stB (X : Stand p l e R s m args below meth c T locs cells slots) (hx : p.tables.exec = Jvm.exec) (hZ : Z.Warmed39 s.vm) (eT : T.heap = h) (F : own_Ar Z h a .byte n f) {j x y : Int32} {i : Nat} (hj : j.toInt = (i : Int)) (hi : i < n) (hy : x.toInt8.toInt32 = y) {g : JFrame} (hg : g.method = m) {rest : List Value} (hs : g.stack = .int x :: .int j :: .ref a :: rest) (hd : decode c.code g.pc = .ok (.bastore, 1)) :
    ∃ T' h', Stand p l e R s m args below meth c T' (locs ++ [⟨a, j.toNatClampNeg⟩]) cells slots ∧ T'.heap = h' ∧ Wr h h' a i (.int y) ∧ own_Ar Z h' a .byte n (fun k => if k = i then .int y else f k) ∧ ∀ target, Steps p.tables e below (T'.setTop { g with pc := g.pc + 1, stack := rest }) target → Steps p.tables e below (T.setTop g) target := by
  obtain ⟨cl, A, S, H⟩ := F
  obtain ⟨T', h', X', e', W', st⟩ := stB X hx hZ eT A (by rw [S]; exact own_in hj hi) hg hs hd
  have W2 : Wr h h' a i (.int y) := by
    have w := W'
    rw [(own_at hj).2] at w
    exact hy ▸ w
  exact ⟨T', h', X', e', W2, own_Ar.set ⟨cl, A, S, H⟩ W2, st⟩
theorem own_stI (X : Stand p l e R s m args below meth c T locs cells slots) (hx : p.tables.exec = Jvm.exec) (hZ : Z.Warmed39 s.vm) (eT : T.heap = h) (F : own_Ar Z h a .int n f) {j x : Int32} {i : Nat} (hj : j.toInt = (i : Int)) (hi : i < n) {g : JFrame} (hg : g.method = m) {rest : List Value} (hs : g.stack = .int x :: .int j :: .ref a :: rest) (hd : decode c.code g.pc = .ok (.iastore, 1)) :
    ∃ T' h', Stand p l e R s m args below meth c T' (locs ++ [⟨a, j.toNatClampNeg⟩]) cells slots ∧ T'.heap = h' ∧ Wr h h' a i (.int x) ∧ own_Ar Z h' a .int n (fun k => if k = i then .int x else f k) ∧ ∀ target, Steps p.tables e below (T'.setTop { g with pc := g.pc + 1, stack := rest }) target → Steps p.tables e below (T.setTop g) target := by
  obtain ⟨cl, A, S, H⟩ := F
  obtain ⟨T', h', X', e', W', st⟩ := stI X hx hZ eT A (by rw [S]; exact own_in hj hi) hg hs hd
  rw [(own_at hj).2] at W'
  exact ⟨T', h', X', e', W', own_Ar.set ⟨cl, A, S, H⟩ W', st⟩
theorem own_stJ (X : Stand p l e R s m args below meth c T locs cells slots) (hx : p.tables.exec = Jvm.exec) (hZ : Z.Warmed39 s.vm) (eT : T.heap = h) (F : own_Ar Z h a .long n f) {j : Int32} {x : Int64} {i : Nat} (hj : j.toInt = (i : Int)) (hi : i < n) {g : JFrame} (hg : g.method = m) {rest : List Value} (hs : g.stack = .long x :: .int j :: .ref a :: rest) (hd : decode c.code g.pc = .ok (.lastore, 1)) :
    ∃ T' h', Stand p l e R s m args below meth c T' (locs ++ [⟨a, j.toNatClampNeg⟩]) cells slots ∧ T'.heap = h' ∧ Wr h h' a i (.long x) ∧ own_Ar Z h' a .long n (fun k => if k = i then .long x else f k) ∧ ∀ target, Steps p.tables e below (T'.setTop { g with pc := g.pc + 1, stack := rest }) target → Steps p.tables e below (T.setTop g) target := by
  obtain ⟨cl, A, S, H⟩ := F
  obtain ⟨T', h', X', e', W', st⟩ := stJ X hx hZ eT A (by rw [S]; exact own_in hj hi) hg hs hd
  rw [(own_at hj).2] at W'
  exact ⟨T', h', X', e', W', own_Ar.set ⟨cl, A, S, H⟩ W', st⟩
theorem own_ldB (X : Stand p l e R s m args below meth c T locs cells slots) (hx : p.tables.exec = Jvm.exec) (hZ : Z.Warmed39 s.vm) (eT : T.heap = h) (F : own_Ar Z h a .byte n f) {j : Int32} {i : Nat} {v : Value} (hj : j.toInt = (i : Int)) (hi : i < n) (hv : f i = v) {g : JFrame} (hg : g.method = m) {rest : List Value} (hs : g.stack = .int j :: .ref a :: rest) (hd : decode c.code g.pc = .ok (.baload, 1)) (target : State)
    (hr : Steps p.tables e below (T.setTop { g with pc := g.pc + 1, stack := v :: rest }) target) : Steps p.tables e below (T.setTop g) target := by
  obtain ⟨cl, A, S, H⟩ := F
  exact X.baloadBytes hx (j := j) (v := v) (by rw [eT]; exact A.1) (State.isArrayOf_alike hZ.alike A.2.1) A.2.2 (by rw [S]; exact own_in hj hi) (by rw [(own_at hj).2, H i hi, hv]) hg hs hd _ hr
theorem own_ldI (X : Stand p l e R s m args below meth c T locs cells slots) (hx : p.tables.exec = Jvm.exec) (hZ : Z.Warmed39 s.vm) (eT : T.heap = h) (F : own_Ar Z h a .int n f) {j : Int32} {i : Nat} {v : Value} (hj : j.toInt = (i : Int)) (hi : i < n) (hv : f i = v) {g : JFrame} (hg : g.method = m) {rest : List Value} (hs : g.stack = .int j :: .ref a :: rest) (hd : decode c.code g.pc = .ok (.iaload, 1)) (target : State)
    (hr : Steps p.tables e below (T.setTop { g with pc := g.pc + 1, stack := v :: rest }) target) : Steps p.tables e below (T.setTop g) target := by
  obtain ⟨cl, A, S, H⟩ := F
  exact X.iaload hx (j := j) (v := v) (by rw [eT]; exact A.1) (State.isArrayOf_alike hZ.alike A.2.1) A.2.2 (by rw [S]; exact own_in hj hi) (by rw [(own_at hj).2, H i hi, hv]) hg hs hd _ hr
theorem own_ldJ (X : Stand p l e R s m args below meth c T locs cells slots) (hx : p.tables.exec = Jvm.exec) (hZ : Z.Warmed39 s.vm) (eT : T.heap = h) (F : own_Ar Z h a .long n f) {j : Int32} {i : Nat} {v : Value} (hj : j.toInt = (i : Int)) (hi : i < n) (hv : f i = v) {g : JFrame} (hg : g.method = m) {rest : List Value} (hs : g.stack = .int j :: .ref a :: rest) (hd : decode c.code g.pc = .ok (.laload, 1)) (target : State)
    (hr : Steps p.tables e below (T.setTop { g with pc := g.pc + 1, stack := v :: rest }) target) : Steps p.tables e below (T.setTop g) target := by
  obtain ⟨cl, A, S, H⟩ := F
  exact X.laload hx (j := j) (v := v) (by rw [eT]; exact A.1) (State.isArrayOf_alike hZ.alike A.2.1) A.2.2 (by rw [S]; exact own_in hj hi) (by rw [(own_at hj).2, H i hi, hv]) hg hs hd _ hr
theorem own_len (X : Stand p l e R s m args below meth c T locs cells slots) (hx : p.tables.exec = Jvm.exec) (hZ : Z.Warmed39 s.vm) (eT : T.heap = h) (F : own_Ar Z h a ty n f) {N : Int32} (hN : N.toInt = (n : Int)) {g : JFrame} (hg : g.method = m) {rest : List Value} (hs : g.stack = .ref a :: rest) (hd : decode c.code g.pc = .ok (.arraylength, 1)) (target : State)
    (hr : Steps p.tables e below (T.setTop { g with pc := g.pc + 1, stack := .int N :: rest }) target) : Steps p.tables e below (T.setTop g) target := by
  obtain ⟨cl, A, S, H⟩ := F
  have q : cl.slots.size.toInt32 = N := by
    have b := rng32 N
    rw [← Int32.toInt_inj, S, hN]
    exact len_toInt (by omega)
  exact X.arraylength hx (by rw [eT]; exact A.1) (State.isArrayOf_alike hZ.alike A.2.1) hg hs hd _ (by rw [q]; exact hr)
end OwnArr

/-- the number that four longs hold -/
def own_n (x : Int64) : Nat := x.toUInt64.toNat
def own_val (g : Nat → Int64) : Nat := own_n (g 0) + own_n (g 1) * 2 ^ 64 + own_n (g 2) * 2 ^ 128 + own_n (g 3) * 2 ^ 192
def own_K (Z : State) (h : Heap) (a S : Addr) (g : Nat → Int64) : Prop := Exa Z h a "com/example/fullbranch/fullbranch/compress/KraftSum" ∧ Fld Z h a "com/example/fullbranch/fullbranch/compress/KraftSum" "words" "[J" (.ref S) ∧ own_Ar Z h S .long 4 (fun i => .long (g i)) ∧ S ≠ a
def own_cmp (x y : Int64) : Int32 := (if x < y then (-1 : Int32) else (if x = y then (0 : Int32) else (1 : Int32)))
theorem d5_0 : decode jdk_35_method_42_code 0 = .ok (.lload_n 0, 1) := by decide +kernel
theorem d5_1 : decode jdk_35_method_42_code 1 = .ok (.lload_n 2, 1) := by decide +kernel
theorem d5_2 : decode jdk_35_method_42_code 2 = .ok (.lcmp, 1) := by decide +kernel
theorem d5_3 : decode jdk_35_method_42_code 3 = .ok (.ifCond .ge 7, 3) := by decide +kernel
theorem d5_6 : decode jdk_35_method_42_code 6 = .ok (.iconst (-1), 1) := by decide +kernel
theorem d5_7 : decode jdk_35_method_42_code 7 = .ok (.goto 14, 3) := by decide +kernel
theorem d5_10 : decode jdk_35_method_42_code 10 = .ok (.lload_n 0, 1) := by decide +kernel
theorem d5_11 : decode jdk_35_method_42_code 11 = .ok (.lload_n 2, 1) := by decide +kernel
theorem d5_12 : decode jdk_35_method_42_code 12 = .ok (.lcmp, 1) := by decide +kernel
theorem d5_13 : decode jdk_35_method_42_code 13 = .ok (.ifCond .ne 7, 3) := by decide +kernel
theorem d5_16 : decode jdk_35_method_42_code 16 = .ok (.iconst 0, 1) := by decide +kernel
theorem d5_17 : decode jdk_35_method_42_code 17 = .ok (.goto 4, 3) := by decide +kernel
theorem d5_20 : decode jdk_35_method_42_code 20 = .ok (.iconst 1, 1) := by decide +kernel
theorem d5_21 : decode jdk_35_method_42_code 21 = .ok (.ireturn, 1) := by decide +kernel
theorem pn_cmp : plainName "java/lang/Long" = true := by first | (simp [plainName, overriddenIn]; done) | decide +kernel
theorem pd_cmp : parseMethodDescriptor "(JJ)I" = some ⟨[.long, .long], some .int⟩ := by decide +kernel
theorem ef_cmp (m : MethodId) (x0 : Int64) (x1 : Int64) : entryFrame m #[(.long x0), (.long x1)] 4 = mkF m 0 #[.val (.long x0), .second, .val (.long x1), .second] [] := by first | (simp [entryFrame, mkF, argsToLocals, Value.category, maxLocals]; done) | rfl
def Q_cmp (Z : State) (xi : Int64) (yi : Int64) (h0 : Heap) (n0 : Nat) (v : Option Value) (h : Heap) (L : List Loc) : Prop := v = some (.int (own_cmp xi yi)) ∧ Fr n0 L ∧ h = h0
set_option maxRecDepth 65536 in
set_option maxHeartbeats 40000000 in
theorem rm_cmp (l : Launch) (Z : State) (a0 : Array Value) (hw : ∀ d ∈ tables_1, d.before a0 Z = true) (ws : List Jvm.Cond) (xi : Int64) (yi : Int64) (h0 : Heap) (n0 : Nat) (Z0 : n0 ≤ h0.size)  :
    MetFree l (⟨"java/lang/Long", "compare", "(JJ)I"⟩ : MethodName) (head1 (Jvm.Cond.code (⟨"java/lang/Long", "compare", "(JJ)I"⟩ : MethodName) jdk_35_method_42_code 4 (some .int) :: ws) ({ frames := 0, cells := 0, slots := 0, locals := 0 } : Room)) (fun as U => as = #[(.long xi), (.long yi)] ∧ Z.Warmed39 U.vm ∧ U.heap = h0) (fun _ _ _ _ _ => True) (fun _ U o U' => ∃ v L, o = .returned v ∧ Q_cmp Z xi yi h0 n0 v U'.heap L ∧ FrameEnd U o U' L ({ frames := 0, cells := 0, slots := 0, locals := 0 } : Room).cells ({ frames := 0, cells := 0, slots := 0, locals := 0 } : Room).slots) := by
  refine MetFree.of_bodySF (plainFor_of_name pn_cmp) hisR ?_
  intro p e s m args below meth c s₁ Bd hml0 hP hK
  obtain ⟨rfl, hZ, hh⟩ := hP
  have hx := Bd.exec
  have hby := Bd.bytes
  have hml : c.maxLocals = 4 := hml0
  have hown : s.vm.findClass "java/lang/Long" = some m.cls := findClass_of_methodNamed Bd.named
  have hnm := (name_of_methodNamed Bd.named Bd.method).1
  have hlk := BodyLoose.notSynchronized Bd
  have hret := Bd.returns
  have X0 : Stand p l e ({ frames := 0, cells := 0, slots := 0, locals := 0 } : Room) s m #[(.long xi), (.long yi)] below meth c s₁ [] 0 0 := Stand.of_body Bd
  have e0 : s₁.heap = h0 := by rw [← hh, Bd.state]; rfl
  have N0 := Fr.nil n0
  show own_G p e below (own_P s below (Q_cmp Z xi yi h0 n0) ({ frames := 0, cells := 0, slots := 0, locals := 0 } : Room).cells ({ frames := 0, cells := 0, slots := 0, locals := 0 } : Room).slots) _
  refine own_go (B := s₁.setTop (mkF m 0 #[.val (.long xi), .second, .val (.long yi), .second] [])) (fun t k => castTop (ef_cmp m xi yi) k) ?_
  refine own_go (B := s₁.setTop (mkF m 1 #[.val (.long xi), .second, .val (.long yi), .second] [(.long xi)])) (fun _ hr => XT.lloadN X0.here hx rfl (hb hby d5_0) rfl hr) ?_
  refine own_go (B := s₁.setTop (mkF m 2 #[.val (.long xi), .second, .val (.long yi), .second] [(.long yi), (.long xi)])) (fun _ hr => XT.lloadN X0.here hx rfl (hb hby d5_1) rfl hr) ?_
  refine own_go (B := s₁.setTop (mkF m 3 #[.val (.long xi), .second, .val (.long yi), .second] [(.int (XT.cmpL xi yi))])) (fun _ hr => XT.lcmp X0.here hx rfl (hb hby d5_2) rfl hr) ?_
  by_cases c3 : xi < yi
  · refine own_go (B := s₁.setTop (mkF m 6 #[.val (.long xi), .second, .val (.long yi), .second] [])) (fun _ hr => XS.ifNo X0.here hx rfl (hb hby d5_3) rfl (XT.ll_ge_f c3) hr) ?_
    refine own_go (B := s₁.setTop (mkF m 7 #[.val (.long xi), .second, .val (.long yi), .second] [(.int (-1 : Int32))])) (fun _ hr => XT.iconstV X0.here hx rfl (-1 : Int32) (hb hby d5_6) (by decide) hr) ?_
    refine own_go (B := s₁.setTop (mkF m 21 #[.val (.long xi), .second, .val (.long yi), .second] [(.int (-1 : Int32))])) (fun _ hr => XS.goto X0.here hx rfl (pc0 := 7) (pc' := 21) rfl (hb hby d5_7) (by decide) (by decide) hr) ?_
    exact own_retI X0 hx hlk hret  (hb hby d5_21) (by decide) (by decide) ⟨by simp only [own_cmp, if_pos c3], N0, e0⟩
  · refine own_go (B := s₁.setTop (mkF m 10 #[.val (.long xi), .second, .val (.long yi), .second] [])) (fun _ hr => XS.ifYes X0.here hx rfl (pc0 := 3) (pc' := 10) rfl (hb hby d5_3) rfl (XT.ll_ge_t c3) (by decide) (by decide) hr) ?_
    refine own_go (B := s₁.setTop (mkF m 11 #[.val (.long xi), .second, .val (.long yi), .second] [(.long xi)])) (fun _ hr => XT.lloadN X0.here hx rfl (hb hby d5_10) rfl hr) ?_
    refine own_go (B := s₁.setTop (mkF m 12 #[.val (.long xi), .second, .val (.long yi), .second] [(.long yi), (.long xi)])) (fun _ hr => XT.lloadN X0.here hx rfl (hb hby d5_11) rfl hr) ?_
    refine own_go (B := s₁.setTop (mkF m 13 #[.val (.long xi), .second, .val (.long yi), .second] [(.int (XT.cmpL xi yi))])) (fun _ hr => XT.lcmp X0.here hx rfl (hb hby d5_12) rfl hr) ?_
    by_cases c4 : xi = yi
    · refine own_go (B := s₁.setTop (mkF m 16 #[.val (.long xi), .second, .val (.long yi), .second] [])) (fun _ hr => XS.ifNo X0.here hx rfl (hb hby d5_13) rfl (XT.ll_ne_f c4) hr) ?_
      refine own_go (B := s₁.setTop (mkF m 17 #[.val (.long xi), .second, .val (.long yi), .second] [(.int (0 : Int32))])) (fun _ hr => XT.iconstV X0.here hx rfl (0 : Int32) (hb hby d5_16) (by decide) hr) ?_
      refine own_go (B := s₁.setTop (mkF m 21 #[.val (.long xi), .second, .val (.long yi), .second] [(.int (0 : Int32))])) (fun _ hr => XS.goto X0.here hx rfl (pc0 := 17) (pc' := 21) rfl (hb hby d5_17) (by decide) (by decide) hr) ?_
      exact own_retI X0 hx hlk hret  (hb hby d5_21) (by decide) (by decide) ⟨by simp only [own_cmp, if_neg c3, if_pos c4], N0, e0⟩
    · refine own_go (B := s₁.setTop (mkF m 20 #[.val (.long xi), .second, .val (.long yi), .second] [])) (fun _ hr => XS.ifYes X0.here hx rfl (pc0 := 13) (pc' := 20) rfl (hb hby d5_13) rfl (XT.ll_ne_t c4) (by decide) (by decide) hr) ?_
      refine own_go (B := s₁.setTop (mkF m 21 #[.val (.long xi), .second, .val (.long yi), .second] [(.int (1 : Int32))])) (fun _ hr => XT.iconstV X0.here hx rfl (1 : Int32) (hb hby d5_20) (by decide) hr) ?_
      exact own_retI X0 hx hlk hret  (hb hby d5_21) (by decide) (by decide) ⟨by simp only [own_cmp, if_neg c3, if_neg c4], N0, e0⟩
theorem d4_0 : decode jdk_35_method_43_code 0 = .ok (.lload_n 0, 1) := by decide +kernel
theorem d4_1 : decode jdk_35_method_43_code 1 = .ok (.ldc2_w 168, 3) := by decide +kernel
theorem d4_4 : decode jdk_35_method_43_code 4 = .ok (.ladd, 1) := by decide +kernel
theorem d4_5 : decode jdk_35_method_43_code 5 = .ok (.lload_n 2, 1) := by decide +kernel
theorem d4_6 : decode jdk_35_method_43_code 6 = .ok (.ldc2_w 168, 3) := by decide +kernel
theorem d4_9 : decode jdk_35_method_43_code 9 = .ok (.ladd, 1) := by decide +kernel
theorem d4_10 : decode jdk_35_method_43_code 10 = .ok (.invokestatic 302, 3) := by decide +kernel
theorem d4_13 : decode jdk_35_method_43_code 13 = .ok (.ireturn, 1) := by decide +kernel
theorem pn_cmpu : plainName "java/lang/Long" = true := by first | (simp [plainName, overriddenIn]; done) | decide +kernel
theorem pd_cmpu : parseMethodDescriptor "(JJ)I" = some ⟨[.long, .long], some .int⟩ := by decide +kernel
theorem ef_cmpu (m : MethodId) (x0 : Int64) (x1 : Int64) : entryFrame m #[(.long x0), (.long x1)] 4 = mkF m 0 #[.val (.long x0), .second, .val (.long x1), .second] [] := by first | (simp [entryFrame, mkF, argsToLocals, Value.category, maxLocals]; done) | rfl
def Q_cmpu (Z : State) (xi : Int64) (yi : Int64) (h0 : Heap) (n0 : Nat) (v : Option Value) (h : Heap) (L : List Loc) : Prop := v = some (.int (own_cmp (xi + (-9223372036854775808 : Int64)) (yi + (-9223372036854775808 : Int64)))) ∧ Fr n0 L ∧ h = h0
set_option maxRecDepth 65536 in
set_option maxHeartbeats 40000000 in
theorem rm_cmpu (l : Launch) (Z : State) (a0 : Array Value) (hw : ∀ d ∈ tables_1, d.before a0 Z = true) (ws : List Jvm.Cond) (xi : Int64) (yi : Int64) (h0 : Heap) (n0 : Nat) (Z0 : n0 ≤ h0.size)  :
    MetFree l (⟨"java/lang/Long", "compareUnsigned", "(JJ)I"⟩ : MethodName) (head1 (Jvm.Cond.code (⟨"java/lang/Long", "compareUnsigned", "(JJ)I"⟩ : MethodName) jdk_35_method_43_code 4 (some .int) :: ws) ({ frames := 1, cells := 0, slots := 0, locals := 15 } : Room)) (fun as U => as = #[(.long xi), (.long yi)] ∧ Z.Warmed39 U.vm ∧ U.heap = h0) (fun _ _ _ _ _ => True) (fun _ U o U' => ∃ v L, o = .returned v ∧ Q_cmpu Z xi yi h0 n0 v U'.heap L ∧ FrameEnd U o U' L ({ frames := 1, cells := 0, slots := 0, locals := 15 } : Room).cells ({ frames := 1, cells := 0, slots := 0, locals := 15 } : Room).slots) := by
  refine MetFree.of_bodySF (plainFor_of_name pn_cmpu) hisR ?_
  intro p e s m args below meth c s₁ Bd hml0 hP hK
  obtain ⟨rfl, hZ, hh⟩ := hP
  have hx := Bd.exec
  have hby := Bd.bytes
  have hml : c.maxLocals = 4 := hml0
  have hown : s.vm.findClass "java/lang/Long" = some m.cls := findClass_of_methodNamed Bd.named
  have hnm := (name_of_methodNamed Bd.named Bd.method).1
  have hlk := BodyLoose.notSynchronized Bd
  have hret := Bd.returns
  have X0 : Stand p l e ({ frames := 1, cells := 0, slots := 0, locals := 15 } : Room) s m #[(.long xi), (.long yi)] below meth c s₁ [] 0 0 := Stand.of_body Bd
  have e0 : s₁.heap = h0 := by rw [← hh, Bd.state]; rfl
  have N0 := Fr.nil n0
  show own_G p e below (own_P s below (Q_cmpu Z xi yi h0 n0) ({ frames := 1, cells := 0, slots := 0, locals := 15 } : Room).cells ({ frames := 1, cells := 0, slots := 0, locals := 15 } : Room).slots) _
  refine own_go (B := s₁.setTop (mkF m 0 #[.val (.long xi), .second, .val (.long yi), .second] [])) (fun t k => castTop (ef_cmpu m xi yi) k) ?_
  refine own_go (B := s₁.setTop (mkF m 1 #[.val (.long xi), .second, .val (.long yi), .second] [(.long xi)])) (fun _ hr => XT.lloadN X0.here hx rfl (hb hby d4_0) rfl hr) ?_
  refine own_go (B := s₁.setTop (mkF m 4 #[.val (.long xi), .second, .val (.long yi), .second] [(.long (-9223372036854775808 : Int64)), (.long xi)])) (fun _ hr => X0.ldc2J hx hown (mvT hZ (hw _ (List.mem_of_getElem? (i := 22) rfl))) rfl (hb hby d4_1) hr) ?_
  refine own_go (B := s₁.setTop (mkF m 5 #[.val (.long xi), .second, .val (.long yi), .second] [(.long (xi + (-9223372036854775808 : Int64)))])) (fun _ hr => XT.ladd X0.here hx rfl (hb hby d4_4) rfl hr) ?_
  refine own_go (B := s₁.setTop (mkF m 6 #[.val (.long xi), .second, .val (.long yi), .second] [(.long yi), (.long (xi + (-9223372036854775808 : Int64)))])) (fun _ hr => XT.lloadN X0.here hx rfl (hb hby d4_5) rfl hr) ?_
  refine own_go (B := s₁.setTop (mkF m 9 #[.val (.long xi), .second, .val (.long yi), .second] [(.long (-9223372036854775808 : Int64)), (.long yi), (.long (xi + (-9223372036854775808 : Int64)))])) (fun _ hr => X0.ldc2J hx hown (mvT hZ (hw _ (List.mem_of_getElem? (i := 22) rfl))) rfl (hb hby d4_6) hr) ?_
  refine own_go (B := s₁.setTop (mkF m 10 #[.val (.long xi), .second, .val (.long yi), .second] [(.long (yi + (-9223372036854775808 : Int64))), (.long (xi + (-9223372036854775808 : Int64)))])) (fun _ hr => XT.ladd X0.here hx rfl (hb hby d4_9) rfl hr) ?_
  obtain ⟨_, _, ⟨T5, L5, k5, n5⟩, -, X5, ⟨Lc5, hQ5, l5, y5, z5⟩, st5⟩ := Jvm.LawKit.callS X0 hx (y := (⟨"java/lang/Long", "compare", "(JJ)I"⟩ : MethodName)) hown (mvT hZ (hw _ (List.mem_of_getElem? (i := 23) rfl))) (mvT hZ (hw _ (List.mem_of_getElem? (i := 24) rfl))) (mvT hZ (hw _ (List.mem_of_getElem? (i := 20) rfl))) (mvT hZ (hw _ (List.mem_of_getElem? (i := 25) rfl))) (by decide) (backOf (W := 0) (rm_cmp l Z a0 hw [] (xi + (-9223372036854775808 : Int64)) (yi + (-9223372036854775808 : Int64)) h0 n0 Z0) hZ (hw _ (List.mem_of_getElem? (i := 25) rfl)) (hw _ (List.mem_of_getElem? (i := 20) rfl)) (by decide) (by decide)) (g := (mkF m 10 #[.val (.long xi), .second, .val (.long yi), .second] [(.long (yi + (-9223372036854775808 : Int64))), (.long (xi + (-9223372036854775808 : Int64)))])) rfl (by rw [hml]; rfl) (argsL := [(.long (xi + (-9223372036854775808 : Int64))), (.long (yi + (-9223372036854775808 : Int64)))]) (rest := []) (lenOf pd_cmp rfl) rfl (by show 2 * 0 + _ ≤ _; exact Nat.le_of_eq rfl) (hb hby d4_10) (fun _ _ => ⟨rfl, e0, (by decide : 0 + 0 ≤ _), (by decide : 0 + 0 ≤ _)⟩)
  dsimp only [Pt.U, Pt.locs, Pt.cells, Pt.slots] at X5 l5 y5 z5 st5 hQ5
  subst l5 y5 z5
  obtain ⟨rfl, N5, e5⟩ := hQ5
  have M5 := Fr.app N0 N5
  refine own_go (B := T5.setTop (mkF m 13 #[.val (.long xi), .second, .val (.long yi), .second] [(.int (own_cmp (xi + (-9223372036854775808 : Int64)) (yi + (-9223372036854775808 : Int64))))])) (fun t hr => st5 t hr) ?_
  exact own_retI X5 hx hlk hret  (hb hby d4_13) (by decide) (by decide) ⟨rfl, M5, e5⟩
theorem d1_0 : decode prog_4_method_1_code 0 = .ok (.aload_n 0, 1) := by decide +kernel
theorem d1_1 : decode prog_4_method_1_code 1 = .ok (.invokespecial 1, 3) := by decide +kernel
theorem d1_4 : decode prog_4_method_1_code 4 = .ok (.aload_n 0, 1) := by decide +kernel
theorem d1_5 : decode prog_4_method_1_code 5 = .ok (.iconst 4, 1) := by decide +kernel
theorem d1_6 : decode prog_4_method_1_code 6 = .ok (.newarray .long, 2) := by decide +kernel
theorem d1_8 : decode prog_4_method_1_code 8 = .ok (.putfield 7, 3) := by decide +kernel
theorem d1_11 : decode prog_4_method_1_code 11 = .ok (.return_, 1) := by decide +kernel
theorem pn_init : plainName "com/example/fullbranch/fullbranch/compress/KraftSum" = true := by first | (simp [plainName, overriddenIn]; done) | decide +kernel
theorem pd_init : parseMethodDescriptor "()V" = some ⟨[], none⟩ := by decide +kernel
theorem ef_init (m : MethodId) (x0 : Addr) : entryFrame m #[(.ref x0)] 1 = mkF m 0 #[.val (.ref x0)] [] := by first | (simp [entryFrame, mkF, argsToLocals, Value.category, maxLocals]; done) | rfl
def Q_init (Z : State) (a : Addr) (h0 : Heap) (n0 : Nat) (v : Option Value) (h : Heap) (L : List Loc) : Prop := v = none ∧ Fr n0 L ∧ n0 ≤ h.size ∧ ∃ S : Addr, n0 ≤ S ∧ own_K Z h a S (fun _ => 0)
set_option maxRecDepth 65536 in
set_option maxHeartbeats 40000000 in
theorem rm_init (l : Launch) (Z : State) (a0 : Array Value) (hw : ∀ d ∈ tables_1, d.before a0 Z = true) (ws : List Jvm.Cond) (a : Addr) (h0 : Heap) (n0 : Nat) (Z0 : n0 ≤ h0.size) (F1 : Fld Z h0 a "com/example/fullbranch/fullbranch/compress/KraftSum" "words" "[J" .null) (E1 : Exa Z h0 a "com/example/fullbranch/fullbranch/compress/KraftSum") (ge : n0 ≤ a) :
    MetFree l (⟨"com/example/fullbranch/fullbranch/compress/KraftSum", "<init>", "()V"⟩ : MethodName) (head1 (Jvm.Cond.code (⟨"com/example/fullbranch/fullbranch/compress/KraftSum", "<init>", "()V"⟩ : MethodName) prog_4_method_1_code 1 (none) :: ws) ({ frames := 1, cells := 1, slots := 4, locals := 12 } : Room)) (fun as U => as = #[(.ref a)] ∧ Z.Warmed39 U.vm ∧ U.heap = h0) (fun _ _ _ _ _ => True) (fun _ U o U' => ∃ v L, o = .returned v ∧ Q_init Z a h0 n0 v U'.heap L ∧ FrameEnd U o U' L ({ frames := 1, cells := 1, slots := 4, locals := 12 } : Room).cells ({ frames := 1, cells := 1, slots := 4, locals := 12 } : Room).slots) := by
  refine MetFree.of_bodySF (plainFor_of_name pn_init) hisR ?_
  intro p e s m args below meth c s₁ Bd hml0 hP hK
  obtain ⟨rfl, hZ, hh⟩ := hP
  have hx := Bd.exec
  have hby := Bd.bytes
  have hml : c.maxLocals = 1 := hml0
  have hown : s.vm.findClass "com/example/fullbranch/fullbranch/compress/KraftSum" = some m.cls := findClass_of_methodNamed Bd.named
  have hnm := (name_of_methodNamed Bd.named Bd.method).1
  have hlk := BodyLoose.notSynchronized Bd
  have hret := Bd.returns
  have X0 : Stand p l e ({ frames := 1, cells := 1, slots := 4, locals := 12 } : Room) s m #[(.ref a)] below meth c s₁ [] 0 0 := Stand.of_body Bd
  have e0 : s₁.heap = h0 := by rw [← hh, Bd.state]; rfl
  have N0 := Fr.nil n0
  show own_G p e below (own_P s below (Q_init Z a h0 n0) ({ frames := 1, cells := 1, slots := 4, locals := 12 } : Room).cells ({ frames := 1, cells := 1, slots := 4, locals := 12 } : Room).slots) _
  refine own_go (B := s₁.setTop (mkF m 0 #[.val (.ref a)] [])) (fun t k => castTop (ef_init m a) k) ?_
  refine own_go (B := s₁.setTop (mkF m 1 #[.val (.ref a)] [(.ref a)])) (fun _ hr => XS.aloadN X0.here hx rfl (hb hby d1_0) rfl rfl hr) ?_
  obtain ⟨T6, X6, e6, st6⟩ := initO X0 hx hZ hown (hw _ (List.mem_of_getElem? (i := 7) rfl)) (hw _ (List.mem_of_getElem? (i := 8) rfl)) (hw _ (List.mem_of_getElem? (i := 9) rfl)) e0 (g := (mkF m 1 #[.val (.ref a)] [(.ref a)])) rfl (by rw [hml]; rfl) rfl (hb hby d1_1) (by decide) (W := 0) (by show 2 * 0 + _ ≤ _; exact Nat.le_of_eq rfl) (by decide)
  refine own_go (B := T6.setTop (mkF m 4 #[.val (.ref a)] [])) (fun t hr => st6 t hr) ?_
  refine own_go (B := T6.setTop (mkF m 5 #[.val (.ref a)] [(.ref a)])) (fun _ hr => XS.aloadN X6.here hx rfl (hb hby d1_4) rfl rfl hr) ?_
  refine own_go (B := T6.setTop (mkF m 6 #[.val (.ref a)] [(.int (4 : Int32)), (.ref a)])) (fun _ hr => XT.iconstV X6.here hx rfl (4 : Int32) (hb hby d1_5) (by decide) hr) ?_
  have la := own_ltE E1
  obtain ⟨T7, h7, cA7, X7, e7, E7, A7, st7⟩ := newP X6 hx hZ (hw _ (List.mem_of_getElem? (i := 10) rfl)) e6 (g := (mkF m 6 #[.val (.ref a)] [(.int (4 : Int32)), (.ref a)])) rfl (hb hby d1_6) rfl (by decide) (cap := 4) (by rw [(own_at (by decide : (4 : Int32).toInt = ((4 : Nat) : Int))).2]; omega) (by decide) (by decide) (by decide)
  obtain ⟨a7, g7⟩ : ∃ z, z = h0.size := ⟨_, rfl⟩
  rw [← g7] at A7 st7
  have V7 := own_Ar.new A7 (by decide : (4 : Int32).toInt = ((4 : Nat) : Int))
  refine own_go (B := T7.setTop (mkF m 8 #[.val (.ref a)] [(.ref a7), (.ref a)])) (fun t hr => st7 t hr) ?_
  obtain ⟨T8, h8, X8, e8, W8, st8⟩ := putF X7 hx hZ hown (host := "") (Or.inl (hw _ (List.mem_of_getElem? (i := 11) rfl))) Via.refl e7 (F1.ext E7) (E1.ext E7) (Or.inr ⟨(hw _ (List.mem_of_getElem? (i := 12) rfl)), rfl, hnm⟩) (hw _ (List.mem_of_getElem? (i := 2) rfl)) (ty := (.array .long)) (by decide) rfl rfl (g := (mkF m 8 #[.val (.ref a)] [(.ref a7), (.ref a)])) rfl rfl (hb hby d1_8)
  have N8 := Fr.snoc X8 N0 ge
  refine own_go (B := T8.setTop (mkF m 11 #[.val (.ref a)] [])) (fun t hr => st8 t hr) ?_
  have nSa : a7 ≠ a := by omega
  have zs : n0 ≤ h8.size := by rw [W8.size]; exact Nat.le_trans Z0 E7.1
  exact own_retV X8 hx hlk hret  (hb hby d1_11) (by decide) (by decide) (by rw [e8]; exact ⟨rfl, N8, zs, a7, by omega, (E1.ext E7).wr W8, (F1.ext E7).same W8, V7.other W8 nSa, nSa⟩)
theorem d3_0 : decode prog_4_method_2_code 0 = .ok (.sipush 255, 3) := by decide +kernel
theorem d3_3 : decode prog_4_method_2_code 3 = .ok (.iload_n 1, 1) := by decide +kernel
theorem d3_4 : decode prog_4_method_2_code 4 = .ok (.isub, 1) := by decide +kernel
theorem d3_5 : decode prog_4_method_2_code 5 = .ok (.istore_n 2, 1) := by decide +kernel
theorem d3_6 : decode prog_4_method_2_code 6 = .ok (.lconst 1, 1) := by decide +kernel
theorem d3_7 : decode prog_4_method_2_code 7 = .ok (.iload_n 2, 1) := by decide +kernel
theorem d3_8 : decode prog_4_method_2_code 8 = .ok (.lshl, 1) := by decide +kernel
theorem d3_9 : decode prog_4_method_2_code 9 = .ok (.lstore_n 3, 1) := by decide +kernel
theorem d3_10 : decode prog_4_method_2_code 10 = .ok (.iload_n 2, 1) := by decide +kernel
theorem d3_11 : decode prog_4_method_2_code 11 = .ok (.bipush 6, 2) := by decide +kernel
theorem d3_13 : decode prog_4_method_2_code 13 = .ok (.iushr, 1) := by decide +kernel
theorem d3_14 : decode prog_4_method_2_code 14 = .ok (.istore 5, 2) := by decide +kernel
theorem d3_16 : decode prog_4_method_2_code 16 = .ok (.lload_n 3, 1) := by decide +kernel
theorem d3_17 : decode prog_4_method_2_code 17 = .ok (.lconst 0, 1) := by decide +kernel
theorem d3_18 : decode prog_4_method_2_code 18 = .ok (.lcmp, 1) := by decide +kernel
theorem d3_19 : decode prog_4_method_2_code 19 = .ok (.ifCond .eq 40, 3) := by decide +kernel
theorem d3_22 : decode prog_4_method_2_code 22 = .ok (.aload_n 0, 1) := by decide +kernel
theorem d3_23 : decode prog_4_method_2_code 23 = .ok (.getfield 7, 3) := by decide +kernel
theorem d3_26 : decode prog_4_method_2_code 26 = .ok (.iload 5, 2) := by decide +kernel
theorem d3_28 : decode prog_4_method_2_code 28 = .ok (.dup2, 1) := by decide +kernel
theorem d3_29 : decode prog_4_method_2_code 29 = .ok (.laload, 1) := by decide +kernel
theorem d3_30 : decode prog_4_method_2_code 30 = .ok (.lload_n 3, 1) := by decide +kernel
theorem d3_31 : decode prog_4_method_2_code 31 = .ok (.ladd, 1) := by decide +kernel
theorem d3_32 : decode prog_4_method_2_code 32 = .ok (.lastore, 1) := by decide +kernel
theorem d3_33 : decode prog_4_method_2_code 33 = .ok (.aload_n 0, 1) := by decide +kernel
theorem d3_34 : decode prog_4_method_2_code 34 = .ok (.getfield 7, 3) := by decide +kernel
theorem d3_37 : decode prog_4_method_2_code 37 = .ok (.iload 5, 2) := by decide +kernel
theorem d3_39 : decode prog_4_method_2_code 39 = .ok (.laload, 1) := by decide +kernel
theorem d3_40 : decode prog_4_method_2_code 40 = .ok (.lload_n 3, 1) := by decide +kernel
theorem d3_41 : decode prog_4_method_2_code 41 = .ok (.invokestatic 13, 3) := by decide +kernel
theorem d3_44 : decode prog_4_method_2_code 44 = .ok (.ifCond .ge 7, 3) := by decide +kernel
theorem d3_47 : decode prog_4_method_2_code 47 = .ok (.lconst 1, 1) := by decide +kernel
theorem d3_48 : decode prog_4_method_2_code 48 = .ok (.goto 4, 3) := by decide +kernel
theorem d3_51 : decode prog_4_method_2_code 51 = .ok (.lconst 0, 1) := by decide +kernel
theorem d3_52 : decode prog_4_method_2_code 52 = .ok (.lstore_n 3, 1) := by decide +kernel
theorem d3_53 : decode prog_4_method_2_code 53 = .ok (.iinc 5 1, 3) := by decide +kernel
theorem d3_56 : decode prog_4_method_2_code 56 = .ok (.goto (-40), 3) := by decide +kernel
theorem d3_59 : decode prog_4_method_2_code 59 = .ok (.return_, 1) := by decide +kernel
def own_carry (sm : Int64) (cv : Int64) : Int64 := (if (own_cmp (sm + (-9223372036854775808 : Int64)) (cv + (-9223372036854775808 : Int64))) < 0 then (1 : Int64) else (0 : Int64))
theorem own_n_lt (x : Int64) : own_n x < 18446744073709551616 := x.toBitVec.isLt
theorem own_n_inj {x y : Int64} (h : own_n x = own_n y) : x = y := Int64.toBitVec_inj.mp (BitVec.eq_of_toNat_eq h)
theorem own_n0 : own_n 0 = 0 := rfl
theorem own_n_add (x y : Int64) : own_n (x + y) = (own_n x + own_n y) % 18446744073709551616 := BitVec.toNat_add x.toBitVec y.toBitVec
theorem own_n_toInt (x : Int64) : (x.toInt - (own_n x : Int)) % 18446744073709551616 = 0 := by
  have e : x.toInt = ((own_n x : Int)).bmod (2 ^ 64) := BitVec.toInt_eq_toNat_bmod x.toBitVec
  rw [e]; exact bm64 _
theorem own_min_toInt (x : Int64) : (x + (-9223372036854775808 : Int64)).toInt = (own_n x : Int) - 9223372036854775808 := by
  have h1 := Int64.toInt_add x (-9223372036854775808)
  have h2 := bm64 (x.toInt + (-9223372036854775808 : Int64).toInt)
  rw [← h1] at h2
  have h3 : (-9223372036854775808 : Int64).toInt = -9223372036854775808 := rfl
  have h4 := own_n_toInt x
  have h5 := rng64 (x + (-9223372036854775808 : Int64))
  have h6 := own_n_lt x
  omega
theorem own_cmp_neg (x y : Int64) : own_cmp x y < 0 ↔ x < y := by
  simp only [own_cmp]
  by_cases h : x < y
  · rw [if_pos h]; exact ⟨fun _ => h, fun _ => by decide⟩
  · rw [if_neg h]
    refine ⟨fun q => ?_, fun q => absurd q h⟩
    by_cases h2 : x = y
    · rw [if_pos h2] at q; exact absurd q (by decide)
    · rw [if_neg h2] at q; exact absurd q (by decide)
theorem own_carry_n (x c : Int64) : own_n (own_carry x c) = if own_n x < own_n c then 1 else 0 := by
  have k : own_cmp (x + (-9223372036854775808 : Int64)) (c + (-9223372036854775808 : Int64)) < 0 ↔ own_n x < own_n c := by
    rw [own_cmp_neg, Int64.lt_iff_toInt_lt, own_min_toInt, own_min_toInt]; omega
  simp only [own_carry]
  by_cases h : own_n x < own_n c
  · rw [if_pos (k.mpr h), if_pos h]; rfl
  · rw [if_neg (fun q => h (k.mp q)), if_neg h]; rfl
theorem own_addc (x c : Int64) : own_n (x + c) + own_n (own_carry (x + c) c) * 18446744073709551616 = own_n x + own_n c := by
  rw [own_carry_n, own_n_add]
  have h1 := own_n_lt x
  have h2 := own_n_lt c
  split <;> omega
theorem own_over {g : Nat → Int64} {cv : Int64} {i tot : Nat} (h : ¬ cv = 0) (hi : i = 4) (ht : tot < 2 ^ 256) : ¬ (own_val g + own_n cv * 2 ^ (64 * i) = tot) := by
  subst hi
  intro e
  have p : 0 < own_n cv := Nat.pos_of_ne_zero (fun q => h (own_n_inj q))
  have q : 2 ^ (64 * 4) ≤ own_n cv * 2 ^ (64 * 4) := Nat.le_mul_of_pos_left _ p
  have r : 2 ^ 256 = 2 ^ (64 * 4) := rfl
  omega
theorem own_lin {s c x y p q A t : Nat} (h : s + c * 18446744073709551616 = x + y) (hq : q = 18446744073709551616 * p) (ht : A + x * p + y * p = t) : A + s * p + c * q = t := by
  rw [← ht, hq, ← Nat.mul_assoc, Nat.add_assoc A, ← Nat.add_mul, h, Nat.add_mul, Nat.add_assoc]
theorem own_step {g : Nat → Int64} {cv sm : Int64} {i tot : Nat} (hi : i < 4) (ht : own_val g + own_n cv * 2 ^ (64 * i) = tot) (hsm : sm = g i + cv) : own_val (fun k => if k = i then g i + cv else g k) + own_n (own_carry sm cv) * 2 ^ (64 * (i + 1)) = tot := by
  have a := own_addc (g i) cv
  rw [← hsm] at a ⊢
  have hc : i = 0 ∨ i = 1 ∨ i = 2 ∨ i = 3 := by omega
  have sw : ∀ a b c d e : Nat, a + b + c + d + e = (a + b + d) + c + e := fun a b c d e => by omega
  have sw1 : ∀ a b c d e : Nat, a + b + c + d + e = (a + c + d) + b + e := fun a b c d e => by omega
  rcases hc with rfl | rfl | rfl | rfl
  · have h : own_n (g 0) + own_n (g 1) * 2 ^ 64 + own_n (g 2) * 2 ^ 128 + own_n (g 3) * 2 ^ 192 + own_n cv * 2 ^ 0 = tot := ht
    show own_n sm + own_n (g 1) * 2 ^ 64 + own_n (g 2) * 2 ^ 128 + own_n (g 3) * 2 ^ 192 + own_n (own_carry sm cv) * 2 ^ 64 = tot
    omega
  · have h : own_n (g 0) + own_n (g 1) * 2 ^ 64 + own_n (g 2) * 2 ^ 128 + own_n (g 3) * 2 ^ 192 + own_n cv * 2 ^ 64 = tot := ht
    show own_n (g 0) + own_n sm * 2 ^ 64 + own_n (g 2) * 2 ^ 128 + own_n (g 3) * 2 ^ 192 + own_n (own_carry sm cv) * 2 ^ 128 = tot
    rw [sw1] at h ⊢
    exact own_lin a (by decide) h
  · have h : own_n (g 0) + own_n (g 1) * 2 ^ 64 + own_n (g 2) * 2 ^ 128 + own_n (g 3) * 2 ^ 192 + own_n cv * 2 ^ 128 = tot := ht
    show own_n (g 0) + own_n (g 1) * 2 ^ 64 + own_n sm * 2 ^ 128 + own_n (g 3) * 2 ^ 192 + own_n (own_carry sm cv) * 2 ^ 192 = tot
    rw [sw] at h ⊢
    exact own_lin a (by decide) h
  · have h : own_n (g 0) + own_n (g 1) * 2 ^ 64 + own_n (g 2) * 2 ^ 128 + own_n (g 3) * 2 ^ 192 + own_n cv * 2 ^ 192 = tot := ht
    show own_n (g 0) + own_n (g 1) * 2 ^ 64 + own_n (g 2) * 2 ^ 128 + own_n sm * 2 ^ 192 + own_n (own_carry sm cv) * 2 ^ 256 = tot
    exact own_lin a (by decide) h
theorem own_bvn (b : BitVec 64) (k : Nat) (h : b.toInt = (k : Int)) : b.toNat = k := by
  rw [BitVec.toInt_eq_toNat_cond] at h
  have := b.isLt
  split at h <;> omega
theorem own_and6 (y : Int32) : (y.toInt64 &&& 63).toInt = y.toInt % 64 := by
  have h1 : (y.toInt64 &&& 63).toInt = y.toInt64.toInt % 2 ^ 6 := Jvm.Kit.i64_mask y.toInt64 63 (k := 6) (by decide) (by decide)
  rw [Int32.toInt_toInt64] at h1
  exact h1
theorem own_shl {x : Int64} {y : Int32} {k : Nat} (hy : y.toInt % 64 = (k : Int)) : own_n (x <<< (y.toInt64 &&& 63)) = (own_n x * 2 ^ k) % 2 ^ 64 := by
  have h1 := own_and6 y
  have hk : ((y.toInt64 &&& 63).toBitVec.smod 64).toNat = k := by
    refine own_bvn _ _ ?_
    rw [BitVec.toInt_smod]
    show ((y.toInt64 &&& 63).toInt).fmod 64 = _
    rw [h1, Int.fmod_eq_emod_of_nonneg _ (by decide)]
    omega
  show (x.toBitVec <<< ((y.toInt64 &&& 63).toBitVec.smod 64)).toNat = _
  rw [BitVec.shiftLeft_eq', BitVec.toNat_shiftLeft, hk, Nat.shiftLeft_eq]
  rfl
theorem own_ushrL {x : Int64} {y : Int32} {k : Nat} (hy : y.toInt = (k : Int)) (hk : k < 64) : own_n (XT.ushrL x y) = own_n x / 2 ^ k := by
  have h1 := own_and6 y
  have h2 : (y.toInt64 &&& 63).toBitVec.toNat = k := own_bvn _ _ (by show (y.toInt64 &&& 63).toInt = _; omega)
  have h3 : (y.toInt64.toUInt64 &&& Int64.toUInt64 63).toNat = k := h2
  show (x.toUInt64 >>> (y.toInt64.toUInt64 &&& Int64.toUInt64 63)).toNat = _
  rw [UInt64.toNat_shiftRight, h3, Nat.mod_eq_of_lt hk, Nat.shiftRight_eq_div_pow]
  rfl
theorem own_pow_lt {k : Nat} (h : k ≤ 63) : 2 ^ k < 2 ^ 64 := Nat.pow_lt_pow_right (by decide) (by omega)
theorem own_one {c : Int32} {cn : Nat} (hc : c.toInt = (cn : Int)) (h63 : cn ≤ 63) : own_n ((1 : Int64) <<< (c.toInt64 &&& 63)) = 2 ^ cn := by
  rw [own_shl (k := cn) (by omega)]
  have e : own_n 1 = 1 := rfl
  rw [e, Nat.one_mul, Nat.mod_eq_of_lt (own_pow_lt h63)]
theorem own_mask {x : Int64} {c : Int32} {cn : Nat} (hc : c.toInt = (cn : Int)) (h63 : cn ≤ 63) : own_n (x &&& (((1 : Int64) <<< (c.toInt64 &&& 63)) - (1 : Int64))) = own_n x % 2 ^ cn := by
  have h1 := own_one hc h63
  have hp : 0 < 2 ^ cn := Nat.pow_pos (by decide)
  have hl := own_pow_lt h63
  have h2 : own_n (((1 : Int64) <<< (c.toInt64 &&& 63)) - (1 : Int64)) = 2 ^ cn - 1 := by
    have e := BitVec.toNat_sub ((1 : Int64) <<< (c.toInt64 &&& 63)).toBitVec (1 : Int64).toBitVec
    have e1 : ((1 : Int64).toBitVec).toNat = 1 := rfl
    have e2 : ((1 : Int64) <<< (c.toInt64 &&& 63)).toBitVec.toNat = 2 ^ cn := h1
    rw [e1, e2] at e
    show (((1 : Int64) <<< (c.toInt64 &&& 63)).toBitVec - (1 : Int64).toBitVec).toNat = _
    rw [e]
    omega
  show (x.toBitVec &&& (((1 : Int64) <<< (c.toInt64 &&& 63)) - (1 : Int64)).toBitVec).toNat = _
  rw [BitVec.toNat_and]
  have h3 : (((1 : Int64) <<< (c.toInt64 &&& 63)) - (1 : Int64)).toBitVec.toNat = 2 ^ cn - 1 := h2
  rw [h3, Nat.and_two_pow_sub_one_eq_mod]
  rfl
theorem own_ushr6 {sh : Int32} {sn : Nat} (h : sh.toInt = (sn : Int)) (hs : sn < 256) : (XT.ushr sh (6 : Int32)).toInt = ((sn / 64 : Nat) : Int) := by
  have q : 0 ≤ sh := by rw [Int32.le_iff_toInt_le, h]; show (0 : Int) ≤ _; omega
  have e : (XT.ushr sh (6 : Int32)).toInt = sh.toInt / 2 ^ 6 := Jvm.Kit.i32_iushr q (n := ((6 : Int32) &&& 31).toUInt32) (k := 6) (by decide) (by decide)
  rw [e, h]; omega
theorem own_and63 {sh : Int32} {sn : Nat} (h : sh.toInt = (sn : Int)) : (sh &&& (63 : Int32)).toInt = ((sn % 64 : Nat) : Int) := by
  have h1 : (sh &&& (63 : Int32)).toInt = sh.toInt % 2 ^ 6 := Jvm.Kit.i32_mask sh 63 (k := 6) (by decide) (by decide)
  rw [h1, h]; omega
theorem own_start {g : Nat → Int64} {pi : Int32} {pn : Nat} (hp : pi.toInt = (pn : Int)) (hp2 : pn < 256) : own_val g + own_n ((1 : Int64) <<< (pi.toInt64 &&& 63)) * 2 ^ (64 * (pn / 64)) = own_val g + 2 ^ pn := by
  rw [own_shl (k := pn % 64) (by omega)]
  have e : own_n 1 = 1 := rfl
  rw [e, Nat.one_mul, Nat.mod_eq_of_lt (own_pow_lt (by omega)), ← Nat.pow_add]
  have q : pn % 64 + 64 * (pn / 64) = pn := by omega
  rw [q]
theorem own_gt {of ci : Int32} {o cn : Nat} (ho : of.toInt = (o : Int)) (hc : ci.toInt = (cn : Int)) (hb : o + cn < 200) (h : (64 : Int32) < of + ci) : 64 < o + cn := by
  rw [Int32.lt_iff_toInt_lt, own_plus ho hc (by omega)] at h
  have e : (64 : Int32).toInt = 64 := rfl
  omega
theorem own_le {of ci : Int32} {o cn : Nat} (ho : of.toInt = (o : Int)) (hc : ci.toInt = (cn : Int)) (hb : o + cn < 200) (h : ¬ (64 : Int32) < of + ci) : o + cn ≤ 64 := by
  rw [Int32.lt_iff_toInt_lt, own_plus ho hc (by omega)] at h
  have e : (64 : Int32).toInt = 64 := rfl
  omega
theorem own_word (g : Nat → Int64) (q : Nat) (hq : q < 4) : ∃ R, own_val g / 2 ^ (64 * q) = own_n (g q) + 18446744073709551616 * R ∧ (q < 3 → ∃ R', R = own_n (g (q + 1)) + 18446744073709551616 * R') := by
  have h0 := own_n_lt (g 0)
  have h1 := own_n_lt (g 1)
  have h2 := own_n_lt (g 2)
  have h3 := own_n_lt (g 3)
  have hc : q = 0 ∨ q = 1 ∨ q = 2 ∨ q = 3 := by omega
  rcases hc with rfl | rfl | rfl | rfl
  · exact ⟨own_n (g 1) + 18446744073709551616 * (own_n (g 2) + 18446744073709551616 * own_n (g 3)), by simp only [own_val]; omega, fun _ => ⟨_, rfl⟩⟩
  · exact ⟨own_n (g 2) + 18446744073709551616 * own_n (g 3), by simp only [own_val]; omega, fun _ => ⟨_, rfl⟩⟩
  · exact ⟨own_n (g 3), by simp only [own_val]; omega, fun _ => ⟨0, by simp⟩⟩
  · exact ⟨0, by simp only [own_val]; omega, fun h => absurd h (by decide)⟩
theorem own_cut {V sn : Nat} {w R : Nat} (h : V / 2 ^ (64 * (sn / 64)) = w + 18446744073709551616 * R) : V / 2 ^ sn = w / 2 ^ (sn % 64) + 2 ^ (64 - sn % 64) * R := by
  have e : sn = 64 * (sn / 64) + sn % 64 := by omega
  have e1 : V / 2 ^ sn = V / 2 ^ (64 * (sn / 64)) / 2 ^ (sn % 64) := by
    rw [Nat.div_div_eq_div_mul, ← Nat.pow_add, ← e]
  have e2 : (18446744073709551616 : Nat) = 2 ^ (sn % 64) * 2 ^ (64 - sn % 64) := by
    rw [← Nat.pow_add]
    have : sn % 64 + (64 - sn % 64) = 64 := by omega
    rw [this]
  rw [e1, h, e2, Nat.mul_assoc, Nat.add_mul_div_left _ _ (Nat.pow_pos (by decide))]
theorem own_bits1 {g : Nat → Int64} {of ci : Int32} {sn cn : Nat} (ho : of.toInt = ((sn % 64 : Nat) : Int)) (hc : ci.toInt = (cn : Int)) (h63 : cn ≤ 63) (hle : sn % 64 + cn ≤ 64) (hs : sn + cn ≤ 255) :
    own_n ((XT.ushrL (g (sn / 64)) of) &&& (((1 : Int64) <<< (ci.toInt64 &&& 63)) - (1 : Int64))) = own_val g / 2 ^ sn % 2 ^ cn := by
  obtain ⟨R, h1, -⟩ := own_word g (sn / 64) (by omega)
  rw [own_mask hc h63, own_ushrL ho (by omega), own_cut h1]
  have e : 2 ^ (64 - sn % 64) = 2 ^ cn * 2 ^ (64 - sn % 64 - cn) := by
    rw [← Nat.pow_add]
    have : cn + (64 - sn % 64 - cn) = 64 - sn % 64 := by omega
    rw [this]
  rw [e, Nat.mul_assoc, Nat.add_mul_mod_self_left]
theorem own_bits2 {g : Nat → Int64} {of ci : Int32} {sn cn : Nat} (ho : of.toInt = ((sn % 64 : Nat) : Int)) (hc : ci.toInt = (cn : Int)) (h63 : cn ≤ 63) (hgt : 64 < sn % 64 + cn) (hs : sn + cn ≤ 255) :
    own_n (((XT.ushrL (g (sn / 64)) of) ||| ((g (sn / 64 + 1)) <<< (((64 : Int32) - of).toInt64 &&& 63))) &&& (((1 : Int64) <<< (ci.toInt64 &&& 63)) - (1 : Int64))) = own_val g / 2 ^ sn % 2 ^ cn := by
  obtain ⟨R, h1, h2⟩ := own_word g (sn / 64) (by omega)
  obtain ⟨R', rfl⟩ := h2 (by omega)
  have hsub : ((64 : Int32) - of).toInt = ((64 - sn % 64 : Nat) : Int) := own_minus (i := 64) (by decide) ho (by omega)
  rw [own_mask hc h63, own_cut h1]
  have eor : own_n ((XT.ushrL (g (sn / 64)) of) ||| ((g (sn / 64 + 1)) <<< (((64 : Int32) - of).toInt64 &&& 63))) = own_n (XT.ushrL (g (sn / 64)) of) ||| own_n ((g (sn / 64 + 1)) <<< (((64 : Int32) - of).toInt64 &&& 63)) := BitVec.toNat_or _ _
  rw [eor, own_ushrL ho (by omega), own_shl (k := 64 - sn % 64) (by omega)]
  generalize hw : own_n (g (sn / 64)) = w
  generalize hw' : own_n (g (sn / 64 + 1)) = w'
  have hwl : w < 18446744073709551616 := hw ▸ own_n_lt _
  obtain ⟨o, ho'⟩ : ∃ o, o = sn % 64 := ⟨_, rfl⟩
  rw [← ho'] at hgt ⊢
  have ho64 : o < 64 := by omega
  have e64 : (18446744073709551616 : Nat) = 2 ^ o * 2 ^ (64 - o) := by
    rw [← Nat.pow_add]
    have : o + (64 - o) = 64 := by omega
    rw [this]
  have ep : (2 : Nat) ^ 64 = 2 ^ (64 - o) * 2 ^ o := by
    rw [← Nat.pow_add]
    have : 64 - o + o = 64 := by omega
    rw [this]
  have hx : w / 2 ^ o < 2 ^ (64 - o) := by
    rw [Nat.div_lt_iff_lt_mul (Nat.pow_pos (by decide)), Nat.mul_comm]
    rw [← e64]; exact hwl
  have em : (w' * 2 ^ (64 - o)) % 2 ^ 64 = 2 ^ (64 - o) * (w' % 2 ^ o) := by
    rw [ep, Nat.mul_comm w', Nat.mul_mod_mul_left]
  rw [em, Nat.or_comm, ← Nat.two_pow_add_eq_or_of_lt hx]
  have ec : (18446744073709551616 : Nat) = 2 ^ cn * 2 ^ (64 - cn) := by
    rw [← Nat.pow_add]
    have : cn + (64 - cn) = 64 := by omega
    rw [this]
  have ew : 2 ^ (64 - o) * (w' + 18446744073709551616 * R') = 2 ^ (64 - o) * (w' % 2 ^ o) + 2 ^ cn * (2 ^ (64 - cn) * (w' / 2 ^ o + 2 ^ (64 - o) * R')) := by
    have q : w' = w' % 2 ^ o + 2 ^ o * (w' / 2 ^ o) := (Nat.mod_add_div w' (2 ^ o)).symm
    have r : 2 ^ cn * (2 ^ (64 - cn) * (w' / 2 ^ o + 2 ^ (64 - o) * R')) = 2 ^ (64 - o) * (2 ^ o * (w' / 2 ^ o)) + 2 ^ (64 - o) * (18446744073709551616 * R') := by
      rw [← Nat.mul_assoc, ← ec, Nat.mul_add, ← Nat.mul_assoc (2 ^ (64 - o)) (2 ^ o), Nat.mul_comm (2 ^ (64 - o)) (2 ^ o), ← e64]
      rw [Nat.mul_left_comm (2 ^ (64 - o)) 18446744073709551616 R']
    have u : 2 ^ (64 - o) * w' = 2 ^ (64 - o) * (w' % 2 ^ o) + 2 ^ (64 - o) * (2 ^ o * (w' / 2 ^ o)) := by rw [← Nat.mul_add, ← q]
    rw [r, Nat.mul_add, u, Nat.add_assoc]
  rw [ew, ← Nat.add_assoc, Nat.add_mul_mod_self_left, Nat.add_comm]
theorem own_l1 (x : Int32) : ∃ t : Nat, (((x &&& (2147483647 : Int32)) % (255 : Int32)) + (1 : Int32)).toInt = (t : Int) ∧ 1 ≤ t ∧ t ≤ 255 := by
  have h1 : (x &&& (2147483647 : Int32)).toInt = x.toInt % 2 ^ 31 := Jvm.Kit.i32_mask x 2147483647 (k := 31) (by decide) (by decide)
  have h2 : ((x &&& (2147483647 : Int32)) % (255 : Int32)).toInt = (x &&& (2147483647 : Int32)).toInt % (255 : Int32).toInt := Jvm.Kit.i32_rem_nonneg (by omega)
  have h3 : (255 : Int32).toInt = 255 := rfl
  rw [h3] at h2
  obtain ⟨t, ht, ht2⟩ : ∃ t : Nat, ((x &&& (2147483647 : Int32)) % (255 : Int32)).toInt = (t : Int) ∧ t < 255 := ⟨((x &&& (2147483647 : Int32)) % (255 : Int32)).toInt.toNat, by omega, by omega⟩
  exact ⟨t + 1, own_plus (q := 1) ht (by decide) (by omega), by omega, by omega⟩
theorem own_l2 (x : Int32) : ∃ t : Nat, ((x &&& (2147483647 : Int32)) % (256 : Int32)).toInt = (t : Int) ∧ t ≤ 255 := by
  have h1 : (x &&& (2147483647 : Int32)).toInt = x.toInt % 2 ^ 31 := Jvm.Kit.i32_mask x 2147483647 (k := 31) (by decide) (by decide)
  have h2 : ((x &&& (2147483647 : Int32)) % (256 : Int32)).toInt = (x &&& (2147483647 : Int32)).toInt % (256 : Int32).toInt := Jvm.Kit.i32_rem_nonneg (by omega)
  have h3 : (256 : Int32).toInt = 256 := rfl
  rw [h3] at h2
  exact ⟨((x &&& (2147483647 : Int32)) % (256 : Int32)).toInt.toNat, by omega, by omega⟩
theorem own_c63 (x : Int32) : ∃ t : Nat, (x &&& (63 : Int32)).toInt = (t : Int) ∧ t ≤ 63 := by
  have h1 : (x &&& (63 : Int32)).toInt = x.toInt % 2 ^ 6 := Jvm.Kit.i32_mask x 63 (k := 6) (by decide) (by decide)
  exact ⟨(x &&& (63 : Int32)).toInt.toNat, by omega, by omega⟩
theorem own_nz {cc : Int32} {cn : Nat} (hc : cc.toInt = (cn : Int)) (h63 : cn ≤ 63) : (256 : Int32) - cc ≠ 0 := by
  intro q
  have r : ((256 : Int32) - cc).toInt = ((256 - cn : Nat) : Int) := own_minus (i := 256) (by decide) hc (by omega)
  rw [q] at r
  have e : (0 : Int32).toInt = 0 := rfl
  omega
theorem own_from (x : Int32) {cc : Int32} {cn : Nat} (hc : cc.toInt = (cn : Int)) (h63 : cn ≤ 63) : ∃ t : Nat, ((x &&& (2147483647 : Int32)) % ((256 : Int32) - cc)).toInt = (t : Int) ∧ t + cn ≤ 255 := by
  have h1 : (x &&& (2147483647 : Int32)).toInt = x.toInt % 2 ^ 31 := Jvm.Kit.i32_mask x 2147483647 (k := 31) (by decide) (by decide)
  have h2 : ((x &&& (2147483647 : Int32)) % ((256 : Int32) - cc)).toInt = (x &&& (2147483647 : Int32)).toInt % ((256 : Int32) - cc).toInt := Jvm.Kit.i32_rem_nonneg (by omega)
  have r : ((256 : Int32) - cc).toInt = ((256 - cn : Nat) : Int) := own_minus (i := 256) (by decide) hc (by omega)
  rw [r] at h2
  have h4 : 0 ≤ (x &&& (2147483647 : Int32)).toInt := by omega
  have h5 := Int.emod_nonneg (x &&& (2147483647 : Int32)).toInt (b := ((256 - cn : Nat) : Int)) (by omega)
  have h6 := Int.emod_lt_of_pos (x &&& (2147483647 : Int32)).toInt (b := ((256 - cn : Nat) : Int)) (by omega)
  exact ⟨((x &&& (2147483647 : Int32)) % ((256 : Int32) - cc)).toInt.toNat, by omega, by omega⟩
set_option maxRecDepth 65536 in
set_option maxHeartbeats 4000000 in
theorem own_loop {p : Program} {l : Launch} {e : Env} {s : State} {m : MethodId} {args : Array Value} {below : List Frame} {meth : Method} {c : Code} {Z : State} {a0 : Array Value} (hx : p.tables.exec = Jvm.exec) (hby : c.code = prog_4_method_2_code) (hml : c.maxLocals = 6) (hw : ∀ d ∈ tables_1, d.before a0 Z = true) (hZ : Z.Warmed39 s.vm) (hown : s.vm.findClass "com/example/fullbranch/fullbranch/compress/KraftSum" = some m.cls) (hlk : meth.locks = false) (hret : meth.sig.returnType = none) {a S : Addr} {li pi : Int32} {tot n0 : Nat} (htot : tot < 2 ^ 256) (geS : n0 ≤ S) {Q : Option Value → Heap → List Loc → Prop} (hQ : ∀ (h : Heap) (L : List Loc) (g : Nat → Int64), Fr n0 L → n0 ≤ h.size → own_K Z h a S g → own_val g = tot → Q none h L) :
    ∀ (k i : Nat) (T : State) (locs : List Loc) (h : Heap) (g : Nat → Int64) (cv : Int64) (Ii : Int32), Stand p l e ({ frames := 2, cells := 0, slots := 0, locals := 40 } : Room) s m args below meth c T locs 0 0 → T.heap = h → Fr n0 locs → n0 ≤ h.size → own_K Z h a S g → Ii.toInt = (i : Int) → i + k = 4 → own_val g + own_n cv * 2 ^ (64 * i) = tot → own_G p e below (own_P s below Q 0 0) (T.setTop (mkF m 16 #[.val (.ref a), .val (.int li), .val (.int pi), .val (.long cv), .second, .val (.int Ii)] [])) := by
  intro k
  induction k with
  | zero =>
    intro i T locs h g cv Ii X eT N0 Z0 H hi hk ht
    refine own_go (B := T.setTop (mkF m 17 #[.val (.ref a), .val (.int li), .val (.int pi), .val (.long cv), .second, .val (.int Ii)] [(.long cv)])) (fun _ hr => XT.lloadN X.here hx rfl (hb hby d3_16) rfl hr) ?_
    refine own_go (B := T.setTop (mkF m 18 #[.val (.ref a), .val (.int li), .val (.int pi), .val (.long cv), .second, .val (.int Ii)] [(.long (0 : Int64)), (.long cv)])) (fun _ hr => XT.lconstV X.here hx rfl (0 : Int64) (hb hby d3_17) (by decide) hr) ?_
    refine own_go (B := T.setTop (mkF m 19 #[.val (.ref a), .val (.int li), .val (.int pi), .val (.long cv), .second, .val (.int Ii)] [(.int (XT.cmpL cv (0 : Int64)))])) (fun _ hr => XT.lcmp X.here hx rfl (hb hby d3_18) rfl hr) ?_
    by_cases c9 : cv = (0 : Int64)
    · refine own_go (B := T.setTop (mkF m 59 #[.val (.ref a), .val (.int li), .val (.int pi), .val (.long cv), .second, .val (.int Ii)] [])) (fun _ hr => XS.ifYes X.here hx rfl (pc0 := 19) (pc' := 59) rfl (hb hby d3_19) rfl (XT.ll_eq_t c9) (by decide) (by decide) hr) ?_
      exact own_retV X hx hlk hret (hb hby d3_59) (by decide) (by decide) (by rw [eT]; exact hQ h locs g N0 Z0 H (by rw [c9, own_n0, Nat.zero_mul, Nat.add_zero] at ht; exact ht))
    · refine own_go (B := T.setTop (mkF m 22 #[.val (.ref a), .val (.int li), .val (.int pi), .val (.long cv), .second, .val (.int Ii)] [])) (fun _ hr => XS.ifNo X.here hx rfl (hb hby d3_19) rfl (XT.ll_eq_f c9) hr) ?_
      exact absurd ht (own_over c9 (by omega) htot)
  | succ k ih =>
    intro i T locs h g cv Ii X eT N0 Z0 H hi hk ht
    refine own_go (B := T.setTop (mkF m 17 #[.val (.ref a), .val (.int li), .val (.int pi), .val (.long cv), .second, .val (.int Ii)] [(.long cv)])) (fun _ hr => XT.lloadN X.here hx rfl (hb hby d3_16) rfl hr) ?_
    refine own_go (B := T.setTop (mkF m 18 #[.val (.ref a), .val (.int li), .val (.int pi), .val (.long cv), .second, .val (.int Ii)] [(.long (0 : Int64)), (.long cv)])) (fun _ hr => XT.lconstV X.here hx rfl (0 : Int64) (hb hby d3_17) (by decide) hr) ?_
    refine own_go (B := T.setTop (mkF m 19 #[.val (.ref a), .val (.int li), .val (.int pi), .val (.long cv), .second, .val (.int Ii)] [(.int (XT.cmpL cv (0 : Int64)))])) (fun _ hr => XT.lcmp X.here hx rfl (hb hby d3_18) rfl hr) ?_
    by_cases c10 : cv = (0 : Int64)
    · refine own_go (B := T.setTop (mkF m 59 #[.val (.ref a), .val (.int li), .val (.int pi), .val (.long cv), .second, .val (.int Ii)] [])) (fun _ hr => XS.ifYes X.here hx rfl (pc0 := 19) (pc' := 59) rfl (hb hby d3_19) rfl (XT.ll_eq_t c10) (by decide) (by decide) hr) ?_
      exact own_retV X hx hlk hret (hb hby d3_59) (by decide) (by decide) (by rw [eT]; exact hQ h locs g N0 Z0 H (by rw [c10, own_n0, Nat.zero_mul, Nat.add_zero] at ht; exact ht))
    · refine own_go (B := T.setTop (mkF m 22 #[.val (.ref a), .val (.int li), .val (.int pi), .val (.long cv), .second, .val (.int Ii)] [])) (fun _ hr => XS.ifNo X.here hx rfl (hb hby d3_19) rfl (XT.ll_eq_f c10) hr) ?_
      have hi4 : i < 4 := by omega
      obtain ⟨E1, F1, V1, nSa⟩ := H
      refine own_go (B := T.setTop (mkF m 23 #[.val (.ref a), .val (.int li), .val (.int pi), .val (.long cv), .second, .val (.int Ii)] [(.ref a)])) (fun _ hr => XS.aloadN X.here hx rfl (hb hby d3_22) rfl rfl hr) ?_
      obtain ⟨T11, X11, e11, st11⟩ := getF X hx hZ hown (host := "") (Or.inl (hw _ (List.mem_of_getElem? (i := 11) rfl))) Via.refl eT F1 (g := (mkF m 23 #[.val (.ref a), .val (.int li), .val (.int pi), .val (.long cv), .second, .val (.int Ii)] [(.ref a)])) rfl rfl (hb hby d3_23)
      refine own_go (B := T11.setTop (mkF m 26 #[.val (.ref a), .val (.int li), .val (.int pi), .val (.long cv), .second, .val (.int Ii)] [(.ref S)])) (fun t hr => st11 t hr) ?_
      refine own_go (B := T11.setTop (mkF m 28 #[.val (.ref a), .val (.int li), .val (.int pi), .val (.long cv), .second, .val (.int Ii)] [(.int Ii), (.ref S)])) (fun _ hr => XS.iload X11.here hx rfl (hb hby d3_26) rfl hr) ?_
      refine own_go (B := T11.setTop (mkF m 29 #[.val (.ref a), .val (.int li), .val (.int pi), .val (.long cv), .second, .val (.int Ii)] [(.int Ii), (.ref S), (.int Ii), (.ref S)])) (fun _ hr => XT.dup2 X11.here hx rfl (hb hby d3_28) rfl rfl rfl hr) ?_
      refine own_go (B := T11.setTop (mkF m 30 #[.val (.ref a), .val (.int li), .val (.int pi), .val (.long cv), .second, .val (.int Ii)] [(.long (g i)), (.int Ii), (.ref S)])) (fun _ hr => own_ldJ X11 hx hZ e11 V1 hi hi4 rfl (g := (mkF m 29 #[.val (.ref a), .val (.int li), .val (.int pi), .val (.long cv), .second, .val (.int Ii)] [(.int Ii), (.ref S), (.int Ii), (.ref S)])) rfl rfl (hb hby d3_29) _ hr) ?_
      refine own_go (B := T11.setTop (mkF m 31 #[.val (.ref a), .val (.int li), .val (.int pi), .val (.long cv), .second, .val (.int Ii)] [(.long cv), (.long (g i)), (.int Ii), (.ref S)])) (fun _ hr => XT.lloadN X11.here hx rfl (hb hby d3_30) rfl hr) ?_
      refine own_go (B := T11.setTop (mkF m 32 #[.val (.ref a), .val (.int li), .val (.int pi), .val (.long cv), .second, .val (.int Ii)] [(.long ((g i) + cv)), (.int Ii), (.ref S)])) (fun _ hr => XT.ladd X11.here hx rfl (hb hby d3_31) rfl hr) ?_
      obtain ⟨T12, h12, X12, e12, W12, V12, st12⟩ := own_stJ X11 hx hZ e11 V1 hi hi4 (g := (mkF m 32 #[.val (.ref a), .val (.int li), .val (.int pi), .val (.long cv), .second, .val (.int Ii)] [(.long ((g i) + cv)), (.int Ii), (.ref S)])) rfl rfl (hb hby d3_32)
      have N12 := Fr.snoc X12 N0 geS
      refine own_go (B := T12.setTop (mkF m 33 #[.val (.ref a), .val (.int li), .val (.int pi), .val (.long cv), .second, .val (.int Ii)] [])) (fun t hr => st12 t hr) ?_
      have V2 := V1.setJ W12
      have F2 := F1.other W12 (Or.inl nSa.symm)
      have E2 := E1.wr W12
      have Z1 : n0 ≤ h12.size := by rw [W12.size]; exact Z0
      refine own_go (B := T12.setTop (mkF m 34 #[.val (.ref a), .val (.int li), .val (.int pi), .val (.long cv), .second, .val (.int Ii)] [(.ref a)])) (fun _ hr => XS.aloadN X12.here hx rfl (hb hby d3_33) rfl rfl hr) ?_
      obtain ⟨T13, X13, e13, st13⟩ := getF X12 hx hZ hown (host := "") (Or.inl (hw _ (List.mem_of_getElem? (i := 11) rfl))) Via.refl e12 F2 (g := (mkF m 34 #[.val (.ref a), .val (.int li), .val (.int pi), .val (.long cv), .second, .val (.int Ii)] [(.ref a)])) rfl rfl (hb hby d3_34)
      refine own_go (B := T13.setTop (mkF m 37 #[.val (.ref a), .val (.int li), .val (.int pi), .val (.long cv), .second, .val (.int Ii)] [(.ref S)])) (fun t hr => st13 t hr) ?_
      refine own_go (B := T13.setTop (mkF m 39 #[.val (.ref a), .val (.int li), .val (.int pi), .val (.long cv), .second, .val (.int Ii)] [(.int Ii), (.ref S)])) (fun _ hr => XS.iload X13.here hx rfl (hb hby d3_37) rfl hr) ?_
      refine own_go (B := T13.setTop (mkF m 40 #[.val (.ref a), .val (.int li), .val (.int pi), .val (.long cv), .second, .val (.int Ii)] [(.long (g i + cv))])) (fun _ hr => own_ldJ X13 hx hZ e13 V2 hi hi4 (congrArg Value.long (if_pos rfl)) (g := (mkF m 39 #[.val (.ref a), .val (.int li), .val (.int pi), .val (.long cv), .second, .val (.int Ii)] [(.int Ii), (.ref S)])) rfl rfl (hb hby d3_39) _ hr) ?_
      refine own_go (B := T13.setTop (mkF m 41 #[.val (.ref a), .val (.int li), .val (.int pi), .val (.long cv), .second, .val (.int Ii)] [(.long cv), (.long (g i + cv))])) (fun _ hr => XT.lloadN X13.here hx rfl (hb hby d3_40) rfl hr) ?_
      obtain ⟨_, _, ⟨T14, L14, k14, n14⟩, -, X14, ⟨Lc14, hQ14, l14, y14, z14⟩, st14⟩ := Jvm.LawKit.callS X13 hx (y := (⟨"java/lang/Long", "compareUnsigned", "(JJ)I"⟩ : MethodName)) hown (mvT hZ (hw _ (List.mem_of_getElem? (i := 18) rfl))) (mvT hZ (hw _ (List.mem_of_getElem? (i := 19) rfl))) (mvT hZ (hw _ (List.mem_of_getElem? (i := 20) rfl))) (mvT hZ (hw _ (List.mem_of_getElem? (i := 21) rfl))) (by decide) (backOf (W := 0) (rm_cmpu l Z a0 hw [] (g i + cv) cv h12 n0 Z1) hZ (hw _ (List.mem_of_getElem? (i := 21) rfl)) (hw _ (List.mem_of_getElem? (i := 20) rfl)) (by decide) (by decide)) (g := (mkF m 41 #[.val (.ref a), .val (.int li), .val (.int pi), .val (.long cv), .second, .val (.int Ii)] [(.long cv), (.long (g i + cv))])) rfl (by rw [hml]; rfl) (argsL := [(.long (g i + cv)), (.long cv)]) (rest := []) (lenOf pd_cmpu rfl) rfl (by show 2 * 0 + _ ≤ _; exact Nat.le_of_eq rfl) (hb hby d3_41) (fun _ _ => ⟨rfl, e13, (by decide : 0 + 0 ≤ _), (by decide : 0 + 0 ≤ _)⟩)
      dsimp only [Pt.U, Pt.locs, Pt.cells, Pt.slots] at X14 l14 y14 z14 st14 hQ14
      subst l14 y14 z14
      obtain ⟨rfl, N14, e14⟩ := hQ14
      have M14 := Fr.app N12 N14
      refine own_go (B := T14.setTop (mkF m 44 #[.val (.ref a), .val (.int li), .val (.int pi), .val (.long cv), .second, .val (.int Ii)] [(.int (own_cmp ((g i + cv) + (-9223372036854775808 : Int64)) (cv + (-9223372036854775808 : Int64))))])) (fun t hr => st14 t hr) ?_
      obtain ⟨sm, hsm⟩ : ∃ z, z = g i + cv := ⟨_, rfl⟩
      rw [← hsm]
      have hk17 : own_G p e below (own_P s below Q 0 0) (T14.setTop (mkF m 52 #[.val (.ref a), .val (.int li), .val (.int pi), .val (.long cv), .second, .val (.int Ii)] [(.long (own_carry sm cv))])) := by
        refine own_go (B := T14.setTop (mkF m 53 #[.val (.ref a), .val (.int li), .val (.int pi), .val (.long (own_carry sm cv)), .second, .val (.int Ii)] [])) (fun _ hr => XT.lstoreN X14.here hx rfl (hb hby d3_52) rfl (l' := #[.val (.ref a), .val (.int li), .val (.int pi), .val (.long (own_carry sm cv)), .second, .val (.int Ii)]) rfl hr) ?_
        refine own_go (B := T14.setTop (mkF m 56 #[.val (.ref a), .val (.int li), .val (.int pi), .val (.long (own_carry sm cv)), .second, .val (.int (Ii + (1 : Int32)))] [])) (fun _ hr => XT.iincV X14.here hx rfl (1 : Int32) (hb hby d3_53) (by decide) rfl (l' := #[.val (.ref a), .val (.int li), .val (.int pi), .val (.long (own_carry sm cv)), .second, .val (.int (Ii + (1 : Int32)))]) rfl hr) ?_
        refine own_go (B := T14.setTop (mkF m 16 #[.val (.ref a), .val (.int li), .val (.int pi), .val (.long (own_carry sm cv)), .second, .val (.int (Ii + (1 : Int32)))] [])) (fun _ hr => XS.goto X14.here hx rfl (pc0 := 56) (pc' := 16) rfl (hb hby d3_56) (by decide) (by decide) hr) ?_
        exact ih (i + 1) _ _ _ _ _ _ X14 e14 M14 Z1 ⟨E2, F2, V2, nSa⟩ (own_plus (q := 1) hi (by decide) (by omega)) (by omega) (own_step hi4 ht hsm)
      by_cases c18 : (own_cmp (sm + (-9223372036854775808 : Int64)) (cv + (-9223372036854775808 : Int64))) < 0
      · refine own_go (B := T14.setTop (mkF m 47 #[.val (.ref a), .val (.int li), .val (.int pi), .val (.long cv), .second, .val (.int Ii)] [])) (fun _ hr => XS.ifNo X14.here hx rfl (hb hby d3_44) rfl (XT.i0_ge_f c18) hr) ?_
        refine own_go (B := T14.setTop (mkF m 48 #[.val (.ref a), .val (.int li), .val (.int pi), .val (.long cv), .second, .val (.int Ii)] [(.long (1 : Int64))])) (fun _ hr => XT.lconstV X14.here hx rfl (1 : Int64) (hb hby d3_47) (by decide) hr) ?_
        refine own_go (B := T14.setTop (mkF m 52 #[.val (.ref a), .val (.int li), .val (.int pi), .val (.long cv), .second, .val (.int Ii)] [(.long (1 : Int64))])) (fun _ hr => XS.goto X14.here hx rfl (pc0 := 48) (pc' := 52) rfl (hb hby d3_48) (by decide) (by decide) hr) ?_
        have q : (own_carry sm cv) = (1 : Int64) := by simp only [own_carry, if_neg c10, if_pos c18]
        rw [q] at hk17
        exact hk17
      · refine own_go (B := T14.setTop (mkF m 51 #[.val (.ref a), .val (.int li), .val (.int pi), .val (.long cv), .second, .val (.int Ii)] [])) (fun _ hr => XS.ifYes X14.here hx rfl (pc0 := 44) (pc' := 51) rfl (hb hby d3_44) rfl (XT.i0_ge_t c18) (by decide) (by decide) hr) ?_
        refine own_go (B := T14.setTop (mkF m 52 #[.val (.ref a), .val (.int li), .val (.int pi), .val (.long cv), .second, .val (.int Ii)] [(.long (0 : Int64))])) (fun _ hr => XT.lconstV X14.here hx rfl (0 : Int64) (hb hby d3_51) (by decide) hr) ?_
        have q : (own_carry sm cv) = (0 : Int64) := by simp only [own_carry, if_neg c10, if_neg c18]
        rw [q] at hk17
        exact hk17
theorem pn_add : plainName "com/example/fullbranch/fullbranch/compress/KraftSum" = true := by first | (simp [plainName, overriddenIn]; done) | decide +kernel
theorem pd_add : parseMethodDescriptor "(I)V" = some ⟨[.int], none⟩ := by decide +kernel
theorem ef_add (m : MethodId) (x0 : Addr) (x1 : Int32) : entryFrame m #[(.ref x0), (.int x1)] 6 = mkF m 0 #[.val (.ref x0), .val (.int x1), .unset, .unset, .unset, .unset] [] := by first | (simp [entryFrame, mkF, argsToLocals, Value.category, maxLocals]; done) | rfl
def Q_add (Z : State) (a : Addr) (li : Int32) (S : Addr) (g : Nat → Int64) (pn : Nat) (h0 : Heap) (n0 : Nat) (v : Option Value) (h : Heap) (L : List Loc) : Prop := v = none ∧ Fr n0 L ∧ n0 ≤ h.size ∧ ∃ g' : Nat → Int64, own_K Z h a S g' ∧ own_val g' = own_val g + 2 ^ pn
set_option maxRecDepth 65536 in
set_option maxHeartbeats 40000000 in
theorem rm_add (l : Launch) (Z : State) (a0 : Array Value) (hw : ∀ d ∈ tables_1, d.before a0 Z = true) (ws : List Jvm.Cond) (a : Addr) (li : Int32) (S : Addr) (g : Nat → Int64) (pn : Nat) (h0 : Heap) (n0 : Nat) (Z0 : n0 ≤ h0.size) (H : own_K Z h0 a S g) (geS : n0 ≤ S) (hp : ((255 : Int32) - li).toInt = (pn : Int)) (hp2 : pn < 256) (htot : own_val g + 2 ^ pn < 2 ^ 256) :
    MetFree l (⟨"com/example/fullbranch/fullbranch/compress/KraftSum", "add", "(I)V"⟩ : MethodName) (head1 (Jvm.Cond.code (⟨"com/example/fullbranch/fullbranch/compress/KraftSum", "add", "(I)V"⟩ : MethodName) prog_4_method_2_code 6 (none) :: ws) ({ frames := 2, cells := 0, slots := 0, locals := 40 } : Room)) (fun as U => as = #[(.ref a), (.int li)] ∧ Z.Warmed39 U.vm ∧ U.heap = h0) (fun _ _ _ _ _ => True) (fun _ U o U' => ∃ v L, o = .returned v ∧ Q_add Z a li S g pn h0 n0 v U'.heap L ∧ FrameEnd U o U' L ({ frames := 2, cells := 0, slots := 0, locals := 40 } : Room).cells ({ frames := 2, cells := 0, slots := 0, locals := 40 } : Room).slots) := by
  refine MetFree.of_bodySF (plainFor_of_name pn_add) hisR ?_
  intro p e s m args below meth c s₁ Bd hml0 hP hK
  obtain ⟨rfl, hZ, hh⟩ := hP
  have hx := Bd.exec
  have hby := Bd.bytes
  have hml : c.maxLocals = 6 := hml0
  have hown : s.vm.findClass "com/example/fullbranch/fullbranch/compress/KraftSum" = some m.cls := findClass_of_methodNamed Bd.named
  have hnm := (name_of_methodNamed Bd.named Bd.method).1
  have hlk := BodyLoose.notSynchronized Bd
  have hret := Bd.returns
  have X0 : Stand p l e ({ frames := 2, cells := 0, slots := 0, locals := 40 } : Room) s m #[(.ref a), (.int li)] below meth c s₁ [] 0 0 := Stand.of_body Bd
  have e0 : s₁.heap = h0 := by rw [← hh, Bd.state]; rfl
  have N0 := Fr.nil n0
  show own_G p e below (own_P s below (Q_add Z a li S g pn h0 n0) ({ frames := 2, cells := 0, slots := 0, locals := 40 } : Room).cells ({ frames := 2, cells := 0, slots := 0, locals := 40 } : Room).slots) _
  refine own_go (B := s₁.setTop (mkF m 0 #[.val (.ref a), .val (.int li), .unset, .unset, .unset, .unset] [])) (fun t k => castTop (ef_add m a li) k) ?_
  refine own_go (B := s₁.setTop (mkF m 3 #[.val (.ref a), .val (.int li), .unset, .unset, .unset, .unset] [(.int (255 : Int32))])) (fun _ hr => XT.sipushV X0.here hx rfl (255 : Int32) (hb hby d3_0) (by decide) hr) ?_
  refine own_go (B := s₁.setTop (mkF m 4 #[.val (.ref a), .val (.int li), .unset, .unset, .unset, .unset] [(.int li), (.int (255 : Int32))])) (fun _ hr => XS.iloadN X0.here hx rfl (hb hby d3_3) rfl hr) ?_
  refine own_go (B := s₁.setTop (mkF m 5 #[.val (.ref a), .val (.int li), .unset, .unset, .unset, .unset] [(.int ((255 : Int32) - li))])) (fun _ hr => XS.isub X0.here hx rfl (hb hby d3_4) rfl hr) ?_
  refine own_go (B := s₁.setTop (mkF m 6 #[.val (.ref a), .val (.int li), .val (.int ((255 : Int32) - li)), .unset, .unset, .unset] [])) (fun _ hr => XS.istoreN X0.here hx rfl (hb hby d3_5) rfl (l' := #[.val (.ref a), .val (.int li), .val (.int ((255 : Int32) - li)), .unset, .unset, .unset]) rfl hr) ?_
  obtain ⟨pi, hpi⟩ : ∃ z, z = (255 : Int32) - li := ⟨_, rfl⟩
  rw [← hpi] at hp ⊢
  refine own_go (B := s₁.setTop (mkF m 7 #[.val (.ref a), .val (.int li), .val (.int pi), .unset, .unset, .unset] [(.long (1 : Int64))])) (fun _ hr => XT.lconstV X0.here hx rfl (1 : Int64) (hb hby d3_6) (by decide) hr) ?_
  refine own_go (B := s₁.setTop (mkF m 8 #[.val (.ref a), .val (.int li), .val (.int pi), .unset, .unset, .unset] [(.int pi), (.long (1 : Int64))])) (fun _ hr => XS.iloadN X0.here hx rfl (hb hby d3_7) rfl hr) ?_
  refine own_go (B := s₁.setTop (mkF m 9 #[.val (.ref a), .val (.int li), .val (.int pi), .unset, .unset, .unset] [(.long ((1 : Int64) <<< (pi.toInt64 &&& 63)))])) (fun _ hr => XT.lshl X0.here hx rfl (hb hby d3_8) rfl hr) ?_
  refine own_go (B := s₁.setTop (mkF m 10 #[.val (.ref a), .val (.int li), .val (.int pi), .val (.long ((1 : Int64) <<< (pi.toInt64 &&& 63))), .second, .unset] [])) (fun _ hr => XT.lstoreN X0.here hx rfl (hb hby d3_9) rfl (l' := #[.val (.ref a), .val (.int li), .val (.int pi), .val (.long ((1 : Int64) <<< (pi.toInt64 &&& 63))), .second, .unset]) rfl hr) ?_
  refine own_go (B := s₁.setTop (mkF m 11 #[.val (.ref a), .val (.int li), .val (.int pi), .val (.long ((1 : Int64) <<< (pi.toInt64 &&& 63))), .second, .unset] [(.int pi)])) (fun _ hr => XS.iloadN X0.here hx rfl (hb hby d3_10) rfl hr) ?_
  refine own_go (B := s₁.setTop (mkF m 13 #[.val (.ref a), .val (.int li), .val (.int pi), .val (.long ((1 : Int64) <<< (pi.toInt64 &&& 63))), .second, .unset] [(.int (6 : Int32)), (.int pi)])) (fun _ hr => XT.bipushV X0.here hx rfl (6 : Int32) (hb hby d3_11) (by decide) hr) ?_
  refine own_go (B := s₁.setTop (mkF m 14 #[.val (.ref a), .val (.int li), .val (.int pi), .val (.long ((1 : Int64) <<< (pi.toInt64 &&& 63))), .second, .unset] [(.int (XT.ushr pi (6 : Int32)))])) (fun _ hr => XT.iushr X0.here hx rfl (hb hby d3_13) rfl hr) ?_
  refine own_go (B := s₁.setTop (mkF m 16 #[.val (.ref a), .val (.int li), .val (.int pi), .val (.long ((1 : Int64) <<< (pi.toInt64 &&& 63))), .second, .val (.int (XT.ushr pi (6 : Int32)))] [])) (fun _ hr => XS.istore X0.here hx rfl (hb hby d3_14) rfl (l' := #[.val (.ref a), .val (.int li), .val (.int pi), .val (.long ((1 : Int64) <<< (pi.toInt64 &&& 63))), .second, .val (.int (XT.ushr pi (6 : Int32)))]) rfl hr) ?_
  exact own_loop hx hby hml hw hZ hown hlk hret htot geS (Q := Q_add Z a li S g pn h0 n0) (fun h L g1 N1 Z1 H1 hv => ⟨rfl, N1, Z1, g1, H1, hv⟩) (4 - pn / 64) (pn / 64) _ _ _ _ _ _ X0 e0 N0 Z0 H (own_ushr6 hp hp2) (by omega) (own_start hp hp2)
theorem d6_0 : decode prog_4_method_5_code 0 = .ok (.sipush 255, 3) := by decide +kernel
theorem d6_3 : decode prog_4_method_5_code 3 = .ok (.iload_n 1, 1) := by decide +kernel
theorem d6_4 : decode prog_4_method_5_code 4 = .ok (.isub, 1) := by decide +kernel
theorem d6_5 : decode prog_4_method_5_code 5 = .ok (.iload_n 2, 1) := by decide +kernel
theorem d6_6 : decode prog_4_method_5_code 6 = .ok (.isub, 1) := by decide +kernel
theorem d6_7 : decode prog_4_method_5_code 7 = .ok (.istore_n 3, 1) := by decide +kernel
theorem d6_8 : decode prog_4_method_5_code 8 = .ok (.iload_n 3, 1) := by decide +kernel
theorem d6_9 : decode prog_4_method_5_code 9 = .ok (.bipush 6, 2) := by decide +kernel
theorem d6_11 : decode prog_4_method_5_code 11 = .ok (.iushr, 1) := by decide +kernel
theorem d6_12 : decode prog_4_method_5_code 12 = .ok (.istore 4, 2) := by decide +kernel
theorem d6_14 : decode prog_4_method_5_code 14 = .ok (.iload_n 3, 1) := by decide +kernel
theorem d6_15 : decode prog_4_method_5_code 15 = .ok (.bipush 63, 2) := by decide +kernel
theorem d6_17 : decode prog_4_method_5_code 17 = .ok (.iand, 1) := by decide +kernel
theorem d6_18 : decode prog_4_method_5_code 18 = .ok (.istore 5, 2) := by decide +kernel
theorem d6_20 : decode prog_4_method_5_code 20 = .ok (.aload_n 0, 1) := by decide +kernel
theorem d6_21 : decode prog_4_method_5_code 21 = .ok (.getfield 7, 3) := by decide +kernel
theorem d6_24 : decode prog_4_method_5_code 24 = .ok (.iload 4, 2) := by decide +kernel
theorem d6_26 : decode prog_4_method_5_code 26 = .ok (.laload, 1) := by decide +kernel
theorem d6_27 : decode prog_4_method_5_code 27 = .ok (.iload 5, 2) := by decide +kernel
theorem d6_29 : decode prog_4_method_5_code 29 = .ok (.lushr, 1) := by decide +kernel
theorem d6_30 : decode prog_4_method_5_code 30 = .ok (.lstore 6, 2) := by decide +kernel
theorem d6_32 : decode prog_4_method_5_code 32 = .ok (.iload 5, 2) := by decide +kernel
theorem d6_34 : decode prog_4_method_5_code 34 = .ok (.iload_n 2, 1) := by decide +kernel
theorem d6_35 : decode prog_4_method_5_code 35 = .ok (.iadd, 1) := by decide +kernel
theorem d6_36 : decode prog_4_method_5_code 36 = .ok (.bipush 64, 2) := by decide +kernel
theorem d6_38 : decode prog_4_method_5_code 38 = .ok (.if_icmp .le 23, 3) := by decide +kernel
theorem d6_41 : decode prog_4_method_5_code 41 = .ok (.lload 6, 2) := by decide +kernel
theorem d6_43 : decode prog_4_method_5_code 43 = .ok (.aload_n 0, 1) := by decide +kernel
theorem d6_44 : decode prog_4_method_5_code 44 = .ok (.getfield 7, 3) := by decide +kernel
theorem d6_47 : decode prog_4_method_5_code 47 = .ok (.iload 4, 2) := by decide +kernel
theorem d6_49 : decode prog_4_method_5_code 49 = .ok (.iconst 1, 1) := by decide +kernel
theorem d6_50 : decode prog_4_method_5_code 50 = .ok (.iadd, 1) := by decide +kernel
theorem d6_51 : decode prog_4_method_5_code 51 = .ok (.laload, 1) := by decide +kernel
theorem d6_52 : decode prog_4_method_5_code 52 = .ok (.bipush 64, 2) := by decide +kernel
theorem d6_54 : decode prog_4_method_5_code 54 = .ok (.iload 5, 2) := by decide +kernel
theorem d6_56 : decode prog_4_method_5_code 56 = .ok (.isub, 1) := by decide +kernel
theorem d6_57 : decode prog_4_method_5_code 57 = .ok (.lshl, 1) := by decide +kernel
theorem d6_58 : decode prog_4_method_5_code 58 = .ok (.lor, 1) := by decide +kernel
theorem d6_59 : decode prog_4_method_5_code 59 = .ok (.lstore 6, 2) := by decide +kernel
theorem d6_61 : decode prog_4_method_5_code 61 = .ok (.lload 6, 2) := by decide +kernel
theorem d6_63 : decode prog_4_method_5_code 63 = .ok (.lconst 1, 1) := by decide +kernel
theorem d6_64 : decode prog_4_method_5_code 64 = .ok (.iload_n 2, 1) := by decide +kernel
theorem d6_65 : decode prog_4_method_5_code 65 = .ok (.lshl, 1) := by decide +kernel
theorem d6_66 : decode prog_4_method_5_code 66 = .ok (.lconst 1, 1) := by decide +kernel
theorem d6_67 : decode prog_4_method_5_code 67 = .ok (.lsub, 1) := by decide +kernel
theorem d6_68 : decode prog_4_method_5_code 68 = .ok (.land, 1) := by decide +kernel
theorem d6_69 : decode prog_4_method_5_code 69 = .ok (.lreturn, 1) := by decide +kernel
theorem pn_bits : plainName "com/example/fullbranch/fullbranch/compress/KraftSum" = true := by first | (simp [plainName, overriddenIn]; done) | decide +kernel
theorem pd_bits : parseMethodDescriptor "(II)J" = some ⟨[.int, .int], some .long⟩ := by decide +kernel
theorem ef_bits (m : MethodId) (x0 : Addr) (x1 : Int32) (x2 : Int32) : entryFrame m #[(.ref x0), (.int x1), (.int x2)] 8 = mkF m 0 #[.val (.ref x0), .val (.int x1), .val (.int x2), .unset, .unset, .unset, .unset, .unset] [] := by first | (simp [entryFrame, mkF, argsToLocals, Value.category, maxLocals]; done) | rfl
def Q_bits (Z : State) (a : Addr) (fi : Int32) (ci : Int32) (S : Addr) (g : Nat → Int64) (fn : Nat) (cn : Nat) (h0 : Heap) (n0 : Nat) (v : Option Value) (h : Heap) (L : List Loc) : Prop := (∃ rv : Int64, v = some (.long rv) ∧ own_n rv = (own_val g / 2 ^ (255 - fn - cn)) % 2 ^ cn) ∧ Fr n0 L ∧ h = h0
set_option maxRecDepth 65536 in
set_option maxHeartbeats 40000000 in
theorem rm_bits (l : Launch) (Z : State) (a0 : Array Value) (hw : ∀ d ∈ tables_1, d.before a0 Z = true) (ws : List Jvm.Cond) (a : Addr) (fi : Int32) (ci : Int32) (S : Addr) (g : Nat → Int64) (fn : Nat) (cn : Nat) (h0 : Heap) (n0 : Nat) (Z0 : n0 ≤ h0.size) (H : own_K Z h0 a S g) (hf : fi.toInt = (fn : Int)) (hc : ci.toInt = (cn : Int)) (hs : fn + cn ≤ 255) (hc63 : cn ≤ 63) :
    MetFree l (⟨"com/example/fullbranch/fullbranch/compress/KraftSum", "bits", "(II)J"⟩ : MethodName) (head1 (Jvm.Cond.code (⟨"com/example/fullbranch/fullbranch/compress/KraftSum", "bits", "(II)J"⟩ : MethodName) prog_4_method_5_code 8 (some .long) :: ws) ({ frames := 0, cells := 0, slots := 0, locals := 0 } : Room)) (fun as U => as = #[(.ref a), (.int fi), (.int ci)] ∧ Z.Warmed39 U.vm ∧ U.heap = h0) (fun _ _ _ _ _ => True) (fun _ U o U' => ∃ v L, o = .returned v ∧ Q_bits Z a fi ci S g fn cn h0 n0 v U'.heap L ∧ FrameEnd U o U' L ({ frames := 0, cells := 0, slots := 0, locals := 0 } : Room).cells ({ frames := 0, cells := 0, slots := 0, locals := 0 } : Room).slots) := by
  refine MetFree.of_bodySF (plainFor_of_name pn_bits) hisR ?_
  intro p e s m args below meth c s₁ Bd hml0 hP hK
  obtain ⟨rfl, hZ, hh⟩ := hP
  have hx := Bd.exec
  have hby := Bd.bytes
  have hml : c.maxLocals = 8 := hml0
  have hown : s.vm.findClass "com/example/fullbranch/fullbranch/compress/KraftSum" = some m.cls := findClass_of_methodNamed Bd.named
  have hnm := (name_of_methodNamed Bd.named Bd.method).1
  have hlk := BodyLoose.notSynchronized Bd
  have hret := Bd.returns
  have X0 : Stand p l e ({ frames := 0, cells := 0, slots := 0, locals := 0 } : Room) s m #[(.ref a), (.int fi), (.int ci)] below meth c s₁ [] 0 0 := Stand.of_body Bd
  have e0 : s₁.heap = h0 := by rw [← hh, Bd.state]; rfl
  have N0 := Fr.nil n0
  show own_G p e below (own_P s below (Q_bits Z a fi ci S g fn cn h0 n0) ({ frames := 0, cells := 0, slots := 0, locals := 0 } : Room).cells ({ frames := 0, cells := 0, slots := 0, locals := 0 } : Room).slots) _
  refine own_go (B := s₁.setTop (mkF m 0 #[.val (.ref a), .val (.int fi), .val (.int ci), .unset, .unset, .unset, .unset, .unset] [])) (fun t k => castTop (ef_bits m a fi ci) k) ?_
  obtain ⟨E1, F1, V1, nSa⟩ := H
  refine own_go (B := s₁.setTop (mkF m 3 #[.val (.ref a), .val (.int fi), .val (.int ci), .unset, .unset, .unset, .unset, .unset] [(.int (255 : Int32))])) (fun _ hr => XT.sipushV X0.here hx rfl (255 : Int32) (hb hby d6_0) (by decide) hr) ?_
  refine own_go (B := s₁.setTop (mkF m 4 #[.val (.ref a), .val (.int fi), .val (.int ci), .unset, .unset, .unset, .unset, .unset] [(.int fi), (.int (255 : Int32))])) (fun _ hr => XS.iloadN X0.here hx rfl (hb hby d6_3) rfl hr) ?_
  refine own_go (B := s₁.setTop (mkF m 5 #[.val (.ref a), .val (.int fi), .val (.int ci), .unset, .unset, .unset, .unset, .unset] [(.int ((255 : Int32) - fi))])) (fun _ hr => XS.isub X0.here hx rfl (hb hby d6_4) rfl hr) ?_
  refine own_go (B := s₁.setTop (mkF m 6 #[.val (.ref a), .val (.int fi), .val (.int ci), .unset, .unset, .unset, .unset, .unset] [(.int ci), (.int ((255 : Int32) - fi))])) (fun _ hr => XS.iloadN X0.here hx rfl (hb hby d6_5) rfl hr) ?_
  refine own_go (B := s₁.setTop (mkF m 7 #[.val (.ref a), .val (.int fi), .val (.int ci), .unset, .unset, .unset, .unset, .unset] [(.int (((255 : Int32) - fi) - ci))])) (fun _ hr => XS.isub X0.here hx rfl (hb hby d6_6) rfl hr) ?_
  refine own_go (B := s₁.setTop (mkF m 8 #[.val (.ref a), .val (.int fi), .val (.int ci), .val (.int (((255 : Int32) - fi) - ci)), .unset, .unset, .unset, .unset] [])) (fun _ hr => XS.istoreN X0.here hx rfl (hb hby d6_7) rfl (l' := #[.val (.ref a), .val (.int fi), .val (.int ci), .val (.int (((255 : Int32) - fi) - ci)), .unset, .unset, .unset, .unset]) rfl hr) ?_
  obtain ⟨sn, hsn⟩ : ∃ z, z = 255 - fn - cn := ⟨_, rfl⟩
  have hsh : (((255 : Int32) - fi) - ci).toInt = (sn : Int) := by rw [hsn]; exact own_minus (own_minus (i := 255) (by decide) hf (by omega)) hc (by omega)
  generalize (((255 : Int32) - fi) - ci) = sh at hsh ⊢
  refine own_go (B := s₁.setTop (mkF m 9 #[.val (.ref a), .val (.int fi), .val (.int ci), .val (.int sh), .unset, .unset, .unset, .unset] [(.int sh)])) (fun _ hr => XS.iloadN X0.here hx rfl (hb hby d6_8) rfl hr) ?_
  refine own_go (B := s₁.setTop (mkF m 11 #[.val (.ref a), .val (.int fi), .val (.int ci), .val (.int sh), .unset, .unset, .unset, .unset] [(.int (6 : Int32)), (.int sh)])) (fun _ hr => XT.bipushV X0.here hx rfl (6 : Int32) (hb hby d6_9) (by decide) hr) ?_
  refine own_go (B := s₁.setTop (mkF m 12 #[.val (.ref a), .val (.int fi), .val (.int ci), .val (.int sh), .unset, .unset, .unset, .unset] [(.int (XT.ushr sh (6 : Int32)))])) (fun _ hr => XT.iushr X0.here hx rfl (hb hby d6_11) rfl hr) ?_
  refine own_go (B := s₁.setTop (mkF m 14 #[.val (.ref a), .val (.int fi), .val (.int ci), .val (.int sh), .val (.int (XT.ushr sh (6 : Int32))), .unset, .unset, .unset] [])) (fun _ hr => XS.istore X0.here hx rfl (hb hby d6_12) rfl (l' := #[.val (.ref a), .val (.int fi), .val (.int ci), .val (.int sh), .val (.int (XT.ushr sh (6 : Int32))), .unset, .unset, .unset]) rfl hr) ?_
  have hq : (XT.ushr sh (6 : Int32)).toInt = ((sn / 64 : Nat) : Int) := own_ushr6 hsh (by omega)
  generalize (XT.ushr sh (6 : Int32)) = wd at hq ⊢
  refine own_go (B := s₁.setTop (mkF m 15 #[.val (.ref a), .val (.int fi), .val (.int ci), .val (.int sh), .val (.int wd), .unset, .unset, .unset] [(.int sh)])) (fun _ hr => XS.iloadN X0.here hx rfl (hb hby d6_14) rfl hr) ?_
  refine own_go (B := s₁.setTop (mkF m 17 #[.val (.ref a), .val (.int fi), .val (.int ci), .val (.int sh), .val (.int wd), .unset, .unset, .unset] [(.int (63 : Int32)), (.int sh)])) (fun _ hr => XT.bipushV X0.here hx rfl (63 : Int32) (hb hby d6_15) (by decide) hr) ?_
  refine own_go (B := s₁.setTop (mkF m 18 #[.val (.ref a), .val (.int fi), .val (.int ci), .val (.int sh), .val (.int wd), .unset, .unset, .unset] [(.int (sh &&& (63 : Int32)))])) (fun _ hr => XS.iand X0.here hx rfl (hb hby d6_17) rfl hr) ?_
  refine own_go (B := s₁.setTop (mkF m 20 #[.val (.ref a), .val (.int fi), .val (.int ci), .val (.int sh), .val (.int wd), .val (.int (sh &&& (63 : Int32))), .unset, .unset] [])) (fun _ hr => XS.istore X0.here hx rfl (hb hby d6_18) rfl (l' := #[.val (.ref a), .val (.int fi), .val (.int ci), .val (.int sh), .val (.int wd), .val (.int (sh &&& (63 : Int32))), .unset, .unset]) rfl hr) ?_
  have ho : (sh &&& (63 : Int32)).toInt = ((sn % 64 : Nat) : Int) := own_and63 hsh
  generalize (sh &&& (63 : Int32)) = of at ho ⊢
  refine own_go (B := s₁.setTop (mkF m 21 #[.val (.ref a), .val (.int fi), .val (.int ci), .val (.int sh), .val (.int wd), .val (.int of), .unset, .unset] [(.ref a)])) (fun _ hr => XS.aloadN X0.here hx rfl (hb hby d6_20) rfl rfl hr) ?_
  obtain ⟨T19, X19, e19, st19⟩ := getF X0 hx hZ hown (host := "") (Or.inl (hw _ (List.mem_of_getElem? (i := 11) rfl))) Via.refl e0 F1 (g := (mkF m 21 #[.val (.ref a), .val (.int fi), .val (.int ci), .val (.int sh), .val (.int wd), .val (.int of), .unset, .unset] [(.ref a)])) rfl rfl (hb hby d6_21)
  refine own_go (B := T19.setTop (mkF m 24 #[.val (.ref a), .val (.int fi), .val (.int ci), .val (.int sh), .val (.int wd), .val (.int of), .unset, .unset] [(.ref S)])) (fun t hr => st19 t hr) ?_
  refine own_go (B := T19.setTop (mkF m 26 #[.val (.ref a), .val (.int fi), .val (.int ci), .val (.int sh), .val (.int wd), .val (.int of), .unset, .unset] [(.int wd), (.ref S)])) (fun _ hr => XS.iload X19.here hx rfl (hb hby d6_24) rfl hr) ?_
  refine own_go (B := T19.setTop (mkF m 27 #[.val (.ref a), .val (.int fi), .val (.int ci), .val (.int sh), .val (.int wd), .val (.int of), .unset, .unset] [(.long (g (sn / 64)))])) (fun _ hr => own_ldJ X19 hx hZ e19 V1 hq (by omega) rfl (g := (mkF m 26 #[.val (.ref a), .val (.int fi), .val (.int ci), .val (.int sh), .val (.int wd), .val (.int of), .unset, .unset] [(.int wd), (.ref S)])) rfl rfl (hb hby d6_26) _ hr) ?_
  refine own_go (B := T19.setTop (mkF m 29 #[.val (.ref a), .val (.int fi), .val (.int ci), .val (.int sh), .val (.int wd), .val (.int of), .unset, .unset] [(.int of), (.long (g (sn / 64)))])) (fun _ hr => XS.iload X19.here hx rfl (hb hby d6_27) rfl hr) ?_
  refine own_go (B := T19.setTop (mkF m 30 #[.val (.ref a), .val (.int fi), .val (.int ci), .val (.int sh), .val (.int wd), .val (.int of), .unset, .unset] [(.long (XT.ushrL (g (sn / 64)) of))])) (fun _ hr => XT.lushr X19.here hx rfl (hb hby d6_29) rfl hr) ?_
  refine own_go (B := T19.setTop (mkF m 32 #[.val (.ref a), .val (.int fi), .val (.int ci), .val (.int sh), .val (.int wd), .val (.int of), .val (.long (XT.ushrL (g (sn / 64)) of)), .second] [])) (fun _ hr => XT.lstore X19.here hx rfl (hb hby d6_30) rfl (l' := #[.val (.ref a), .val (.int fi), .val (.int ci), .val (.int sh), .val (.int wd), .val (.int of), .val (.long (XT.ushrL (g (sn / 64)) of)), .second]) rfl hr) ?_
  refine own_go (B := T19.setTop (mkF m 34 #[.val (.ref a), .val (.int fi), .val (.int ci), .val (.int sh), .val (.int wd), .val (.int of), .val (.long (XT.ushrL (g (sn / 64)) of)), .second] [(.int of)])) (fun _ hr => XS.iload X19.here hx rfl (hb hby d6_32) rfl hr) ?_
  refine own_go (B := T19.setTop (mkF m 35 #[.val (.ref a), .val (.int fi), .val (.int ci), .val (.int sh), .val (.int wd), .val (.int of), .val (.long (XT.ushrL (g (sn / 64)) of)), .second] [(.int ci), (.int of)])) (fun _ hr => XS.iloadN X19.here hx rfl (hb hby d6_34) rfl hr) ?_
  refine own_go (B := T19.setTop (mkF m 36 #[.val (.ref a), .val (.int fi), .val (.int ci), .val (.int sh), .val (.int wd), .val (.int of), .val (.long (XT.ushrL (g (sn / 64)) of)), .second] [(.int (of + ci))])) (fun _ hr => XS.iadd X19.here hx rfl (hb hby d6_35) rfl hr) ?_
  refine own_go (B := T19.setTop (mkF m 38 #[.val (.ref a), .val (.int fi), .val (.int ci), .val (.int sh), .val (.int wd), .val (.int of), .val (.long (XT.ushrL (g (sn / 64)) of)), .second] [(.int (64 : Int32)), (.int (of + ci))])) (fun _ hr => XT.bipushV X19.here hx rfl (64 : Int32) (hb hby d6_36) (by decide) hr) ?_
  by_cases c20 : (64 : Int32) < (of + ci)
  · refine own_go (B := T19.setTop (mkF m 41 #[.val (.ref a), .val (.int fi), .val (.int ci), .val (.int sh), .val (.int wd), .val (.int of), .val (.long (XT.ushrL (g (sn / 64)) of)), .second] [])) (fun _ hr => XS.icmpNo X19.here hx rfl (hb hby d6_38) rfl (XT.ii_le_f c20) hr) ?_
    have hbig : 64 < sn % 64 + cn := own_gt ho hc (by omega) c20
    refine own_go (B := T19.setTop (mkF m 43 #[.val (.ref a), .val (.int fi), .val (.int ci), .val (.int sh), .val (.int wd), .val (.int of), .val (.long (XT.ushrL (g (sn / 64)) of)), .second] [(.long (XT.ushrL (g (sn / 64)) of))])) (fun _ hr => XT.lload X19.here hx rfl (hb hby d6_41) rfl hr) ?_
    refine own_go (B := T19.setTop (mkF m 44 #[.val (.ref a), .val (.int fi), .val (.int ci), .val (.int sh), .val (.int wd), .val (.int of), .val (.long (XT.ushrL (g (sn / 64)) of)), .second] [(.ref a), (.long (XT.ushrL (g (sn / 64)) of))])) (fun _ hr => XS.aloadN X19.here hx rfl (hb hby d6_43) rfl rfl hr) ?_
    obtain ⟨T21, X21, e21, st21⟩ := getF X19 hx hZ hown (host := "") (Or.inl (hw _ (List.mem_of_getElem? (i := 11) rfl))) Via.refl e19 F1 (g := (mkF m 44 #[.val (.ref a), .val (.int fi), .val (.int ci), .val (.int sh), .val (.int wd), .val (.int of), .val (.long (XT.ushrL (g (sn / 64)) of)), .second] [(.ref a), (.long (XT.ushrL (g (sn / 64)) of))])) rfl rfl (hb hby d6_44)
    refine own_go (B := T21.setTop (mkF m 47 #[.val (.ref a), .val (.int fi), .val (.int ci), .val (.int sh), .val (.int wd), .val (.int of), .val (.long (XT.ushrL (g (sn / 64)) of)), .second] [(.ref S), (.long (XT.ushrL (g (sn / 64)) of))])) (fun t hr => st21 t hr) ?_
    refine own_go (B := T21.setTop (mkF m 49 #[.val (.ref a), .val (.int fi), .val (.int ci), .val (.int sh), .val (.int wd), .val (.int of), .val (.long (XT.ushrL (g (sn / 64)) of)), .second] [(.int wd), (.ref S), (.long (XT.ushrL (g (sn / 64)) of))])) (fun _ hr => XS.iload X21.here hx rfl (hb hby d6_47) rfl hr) ?_
    refine own_go (B := T21.setTop (mkF m 50 #[.val (.ref a), .val (.int fi), .val (.int ci), .val (.int sh), .val (.int wd), .val (.int of), .val (.long (XT.ushrL (g (sn / 64)) of)), .second] [(.int (1 : Int32)), (.int wd), (.ref S), (.long (XT.ushrL (g (sn / 64)) of))])) (fun _ hr => XT.iconstV X21.here hx rfl (1 : Int32) (hb hby d6_49) (by decide) hr) ?_
    refine own_go (B := T21.setTop (mkF m 51 #[.val (.ref a), .val (.int fi), .val (.int ci), .val (.int sh), .val (.int wd), .val (.int of), .val (.long (XT.ushrL (g (sn / 64)) of)), .second] [(.int (wd + (1 : Int32))), (.ref S), (.long (XT.ushrL (g (sn / 64)) of))])) (fun _ hr => XS.iadd X21.here hx rfl (hb hby d6_50) rfl hr) ?_
    refine own_go (B := T21.setTop (mkF m 52 #[.val (.ref a), .val (.int fi), .val (.int ci), .val (.int sh), .val (.int wd), .val (.int of), .val (.long (XT.ushrL (g (sn / 64)) of)), .second] [(.long (g (sn / 64 + 1))), (.long (XT.ushrL (g (sn / 64)) of))])) (fun _ hr => own_ldJ X21 hx hZ e21 V1 (own_plus (q := 1) hq (by decide) (by omega)) (by omega) rfl (g := (mkF m 51 #[.val (.ref a), .val (.int fi), .val (.int ci), .val (.int sh), .val (.int wd), .val (.int of), .val (.long (XT.ushrL (g (sn / 64)) of)), .second] [(.int (wd + (1 : Int32))), (.ref S), (.long (XT.ushrL (g (sn / 64)) of))])) rfl rfl (hb hby d6_51) _ hr) ?_
    refine own_go (B := T21.setTop (mkF m 54 #[.val (.ref a), .val (.int fi), .val (.int ci), .val (.int sh), .val (.int wd), .val (.int of), .val (.long (XT.ushrL (g (sn / 64)) of)), .second] [(.int (64 : Int32)), (.long (g (sn / 64 + 1))), (.long (XT.ushrL (g (sn / 64)) of))])) (fun _ hr => XT.bipushV X21.here hx rfl (64 : Int32) (hb hby d6_52) (by decide) hr) ?_
    refine own_go (B := T21.setTop (mkF m 56 #[.val (.ref a), .val (.int fi), .val (.int ci), .val (.int sh), .val (.int wd), .val (.int of), .val (.long (XT.ushrL (g (sn / 64)) of)), .second] [(.int of), (.int (64 : Int32)), (.long (g (sn / 64 + 1))), (.long (XT.ushrL (g (sn / 64)) of))])) (fun _ hr => XS.iload X21.here hx rfl (hb hby d6_54) rfl hr) ?_
    refine own_go (B := T21.setTop (mkF m 57 #[.val (.ref a), .val (.int fi), .val (.int ci), .val (.int sh), .val (.int wd), .val (.int of), .val (.long (XT.ushrL (g (sn / 64)) of)), .second] [(.int ((64 : Int32) - of)), (.long (g (sn / 64 + 1))), (.long (XT.ushrL (g (sn / 64)) of))])) (fun _ hr => XS.isub X21.here hx rfl (hb hby d6_56) rfl hr) ?_
    refine own_go (B := T21.setTop (mkF m 58 #[.val (.ref a), .val (.int fi), .val (.int ci), .val (.int sh), .val (.int wd), .val (.int of), .val (.long (XT.ushrL (g (sn / 64)) of)), .second] [(.long ((g (sn / 64 + 1)) <<< (((64 : Int32) - of).toInt64 &&& 63))), (.long (XT.ushrL (g (sn / 64)) of))])) (fun _ hr => XT.lshl X21.here hx rfl (hb hby d6_57) rfl hr) ?_
    refine own_go (B := T21.setTop (mkF m 59 #[.val (.ref a), .val (.int fi), .val (.int ci), .val (.int sh), .val (.int wd), .val (.int of), .val (.long (XT.ushrL (g (sn / 64)) of)), .second] [(.long ((XT.ushrL (g (sn / 64)) of) ||| ((g (sn / 64 + 1)) <<< (((64 : Int32) - of).toInt64 &&& 63))))])) (fun _ hr => XT.lor X21.here hx rfl (hb hby d6_58) rfl hr) ?_
    refine own_go (B := T21.setTop (mkF m 61 #[.val (.ref a), .val (.int fi), .val (.int ci), .val (.int sh), .val (.int wd), .val (.int of), .val (.long ((XT.ushrL (g (sn / 64)) of) ||| ((g (sn / 64 + 1)) <<< (((64 : Int32) - of).toInt64 &&& 63)))), .second] [])) (fun _ hr => XT.lstore X21.here hx rfl (hb hby d6_59) rfl (l' := #[.val (.ref a), .val (.int fi), .val (.int ci), .val (.int sh), .val (.int wd), .val (.int of), .val (.long ((XT.ushrL (g (sn / 64)) of) ||| ((g (sn / 64 + 1)) <<< (((64 : Int32) - of).toInt64 &&& 63)))), .second]) rfl hr) ?_
    refine own_go (B := T21.setTop (mkF m 63 #[.val (.ref a), .val (.int fi), .val (.int ci), .val (.int sh), .val (.int wd), .val (.int of), .val (.long ((XT.ushrL (g (sn / 64)) of) ||| ((g (sn / 64 + 1)) <<< (((64 : Int32) - of).toInt64 &&& 63)))), .second] [(.long ((XT.ushrL (g (sn / 64)) of) ||| ((g (sn / 64 + 1)) <<< (((64 : Int32) - of).toInt64 &&& 63))))])) (fun _ hr => XT.lload X21.here hx rfl (hb hby d6_61) rfl hr) ?_
    refine own_go (B := T21.setTop (mkF m 64 #[.val (.ref a), .val (.int fi), .val (.int ci), .val (.int sh), .val (.int wd), .val (.int of), .val (.long ((XT.ushrL (g (sn / 64)) of) ||| ((g (sn / 64 + 1)) <<< (((64 : Int32) - of).toInt64 &&& 63)))), .second] [(.long (1 : Int64)), (.long ((XT.ushrL (g (sn / 64)) of) ||| ((g (sn / 64 + 1)) <<< (((64 : Int32) - of).toInt64 &&& 63))))])) (fun _ hr => XT.lconstV X21.here hx rfl (1 : Int64) (hb hby d6_63) (by decide) hr) ?_
    refine own_go (B := T21.setTop (mkF m 65 #[.val (.ref a), .val (.int fi), .val (.int ci), .val (.int sh), .val (.int wd), .val (.int of), .val (.long ((XT.ushrL (g (sn / 64)) of) ||| ((g (sn / 64 + 1)) <<< (((64 : Int32) - of).toInt64 &&& 63)))), .second] [(.int ci), (.long (1 : Int64)), (.long ((XT.ushrL (g (sn / 64)) of) ||| ((g (sn / 64 + 1)) <<< (((64 : Int32) - of).toInt64 &&& 63))))])) (fun _ hr => XS.iloadN X21.here hx rfl (hb hby d6_64) rfl hr) ?_
    refine own_go (B := T21.setTop (mkF m 66 #[.val (.ref a), .val (.int fi), .val (.int ci), .val (.int sh), .val (.int wd), .val (.int of), .val (.long ((XT.ushrL (g (sn / 64)) of) ||| ((g (sn / 64 + 1)) <<< (((64 : Int32) - of).toInt64 &&& 63)))), .second] [(.long ((1 : Int64) <<< (ci.toInt64 &&& 63))), (.long ((XT.ushrL (g (sn / 64)) of) ||| ((g (sn / 64 + 1)) <<< (((64 : Int32) - of).toInt64 &&& 63))))])) (fun _ hr => XT.lshl X21.here hx rfl (hb hby d6_65) rfl hr) ?_
    refine own_go (B := T21.setTop (mkF m 67 #[.val (.ref a), .val (.int fi), .val (.int ci), .val (.int sh), .val (.int wd), .val (.int of), .val (.long ((XT.ushrL (g (sn / 64)) of) ||| ((g (sn / 64 + 1)) <<< (((64 : Int32) - of).toInt64 &&& 63)))), .second] [(.long (1 : Int64)), (.long ((1 : Int64) <<< (ci.toInt64 &&& 63))), (.long ((XT.ushrL (g (sn / 64)) of) ||| ((g (sn / 64 + 1)) <<< (((64 : Int32) - of).toInt64 &&& 63))))])) (fun _ hr => XT.lconstV X21.here hx rfl (1 : Int64) (hb hby d6_66) (by decide) hr) ?_
    refine own_go (B := T21.setTop (mkF m 68 #[.val (.ref a), .val (.int fi), .val (.int ci), .val (.int sh), .val (.int wd), .val (.int of), .val (.long ((XT.ushrL (g (sn / 64)) of) ||| ((g (sn / 64 + 1)) <<< (((64 : Int32) - of).toInt64 &&& 63)))), .second] [(.long (((1 : Int64) <<< (ci.toInt64 &&& 63)) - (1 : Int64))), (.long ((XT.ushrL (g (sn / 64)) of) ||| ((g (sn / 64 + 1)) <<< (((64 : Int32) - of).toInt64 &&& 63))))])) (fun _ hr => XT.lsub X21.here hx rfl (hb hby d6_67) rfl hr) ?_
    refine own_go (B := T21.setTop (mkF m 69 #[.val (.ref a), .val (.int fi), .val (.int ci), .val (.int sh), .val (.int wd), .val (.int of), .val (.long ((XT.ushrL (g (sn / 64)) of) ||| ((g (sn / 64 + 1)) <<< (((64 : Int32) - of).toInt64 &&& 63)))), .second] [(.long (((XT.ushrL (g (sn / 64)) of) ||| ((g (sn / 64 + 1)) <<< (((64 : Int32) - of).toInt64 &&& 63))) &&& (((1 : Int64) <<< (ci.toInt64 &&& 63)) - (1 : Int64))))])) (fun _ hr => XT.land X21.here hx rfl (hb hby d6_68) rfl hr) ?_
    exact own_retJ X21 hx hlk hret  (hb hby d6_69) (by decide) (by decide) ⟨⟨_, rfl, by rw [← hsn]; exact own_bits2 ho hc hc63 hbig (by omega)⟩, N0, e21⟩
  · refine own_go (B := T19.setTop (mkF m 61 #[.val (.ref a), .val (.int fi), .val (.int ci), .val (.int sh), .val (.int wd), .val (.int of), .val (.long (XT.ushrL (g (sn / 64)) of)), .second] [])) (fun _ hr => XS.icmpYes X19.here hx rfl (pc0 := 38) (pc' := 61) rfl (hb hby d6_38) rfl (XT.ii_le_t c20) (by decide) (by decide) hr) ?_
    have hsml : sn % 64 + cn ≤ 64 := own_le ho hc (by omega) c20
    refine own_go (B := T19.setTop (mkF m 63 #[.val (.ref a), .val (.int fi), .val (.int ci), .val (.int sh), .val (.int wd), .val (.int of), .val (.long (XT.ushrL (g (sn / 64)) of)), .second] [(.long (XT.ushrL (g (sn / 64)) of))])) (fun _ hr => XT.lload X19.here hx rfl (hb hby d6_61) rfl hr) ?_
    refine own_go (B := T19.setTop (mkF m 64 #[.val (.ref a), .val (.int fi), .val (.int ci), .val (.int sh), .val (.int wd), .val (.int of), .val (.long (XT.ushrL (g (sn / 64)) of)), .second] [(.long (1 : Int64)), (.long (XT.ushrL (g (sn / 64)) of))])) (fun _ hr => XT.lconstV X19.here hx rfl (1 : Int64) (hb hby d6_63) (by decide) hr) ?_
    refine own_go (B := T19.setTop (mkF m 65 #[.val (.ref a), .val (.int fi), .val (.int ci), .val (.int sh), .val (.int wd), .val (.int of), .val (.long (XT.ushrL (g (sn / 64)) of)), .second] [(.int ci), (.long (1 : Int64)), (.long (XT.ushrL (g (sn / 64)) of))])) (fun _ hr => XS.iloadN X19.here hx rfl (hb hby d6_64) rfl hr) ?_
    refine own_go (B := T19.setTop (mkF m 66 #[.val (.ref a), .val (.int fi), .val (.int ci), .val (.int sh), .val (.int wd), .val (.int of), .val (.long (XT.ushrL (g (sn / 64)) of)), .second] [(.long ((1 : Int64) <<< (ci.toInt64 &&& 63))), (.long (XT.ushrL (g (sn / 64)) of))])) (fun _ hr => XT.lshl X19.here hx rfl (hb hby d6_65) rfl hr) ?_
    refine own_go (B := T19.setTop (mkF m 67 #[.val (.ref a), .val (.int fi), .val (.int ci), .val (.int sh), .val (.int wd), .val (.int of), .val (.long (XT.ushrL (g (sn / 64)) of)), .second] [(.long (1 : Int64)), (.long ((1 : Int64) <<< (ci.toInt64 &&& 63))), (.long (XT.ushrL (g (sn / 64)) of))])) (fun _ hr => XT.lconstV X19.here hx rfl (1 : Int64) (hb hby d6_66) (by decide) hr) ?_
    refine own_go (B := T19.setTop (mkF m 68 #[.val (.ref a), .val (.int fi), .val (.int ci), .val (.int sh), .val (.int wd), .val (.int of), .val (.long (XT.ushrL (g (sn / 64)) of)), .second] [(.long (((1 : Int64) <<< (ci.toInt64 &&& 63)) - (1 : Int64))), (.long (XT.ushrL (g (sn / 64)) of))])) (fun _ hr => XT.lsub X19.here hx rfl (hb hby d6_67) rfl hr) ?_
    refine own_go (B := T19.setTop (mkF m 69 #[.val (.ref a), .val (.int fi), .val (.int ci), .val (.int sh), .val (.int wd), .val (.int of), .val (.long (XT.ushrL (g (sn / 64)) of)), .second] [(.long ((XT.ushrL (g (sn / 64)) of) &&& (((1 : Int64) <<< (ci.toInt64 &&& 63)) - (1 : Int64))))])) (fun _ hr => XT.land X19.here hx rfl (hb hby d6_68) rfl hr) ?_
    exact own_retJ X19 hx hlk hret  (hb hby d6_69) (by decide) (by decide) ⟨⟨_, rfl, by rw [← hsn]; exact own_bits1 ho hc hc63 hsml (by omega)⟩, N0, e19⟩
def own_term (x y z : Int32) : Int64 := (if y < x then (0 : Int64) else (if (y - x) < z then ((1 : Int64) <<< ((y - x).toInt64 &&& 63)) else (0 : Int64)))
theorem d7_0 : decode method_3_code 0 = .ok (.iload_n 0, 1) := by decide +kernel
theorem d7_1 : decode method_3_code 1 = .ok (.iload_n 1, 1) := by decide +kernel
theorem d7_2 : decode method_3_code 2 = .ok (.if_icmp .gt 16, 3) := by decide +kernel
theorem d7_5 : decode method_3_code 5 = .ok (.iload_n 1, 1) := by decide +kernel
theorem d7_6 : decode method_3_code 6 = .ok (.iload_n 0, 1) := by decide +kernel
theorem d7_7 : decode method_3_code 7 = .ok (.isub, 1) := by decide +kernel
theorem d7_8 : decode method_3_code 8 = .ok (.iload_n 2, 1) := by decide +kernel
theorem d7_9 : decode method_3_code 9 = .ok (.if_icmp .ge 9, 3) := by decide +kernel
theorem d7_12 : decode method_3_code 12 = .ok (.lconst 1, 1) := by decide +kernel
theorem d7_13 : decode method_3_code 13 = .ok (.iload_n 1, 1) := by decide +kernel
theorem d7_14 : decode method_3_code 14 = .ok (.iload_n 0, 1) := by decide +kernel
theorem d7_15 : decode method_3_code 15 = .ok (.isub, 1) := by decide +kernel
theorem d7_16 : decode method_3_code 16 = .ok (.lshl, 1) := by decide +kernel
theorem d7_17 : decode method_3_code 17 = .ok (.lreturn, 1) := by decide +kernel
theorem d7_18 : decode method_3_code 18 = .ok (.lconst 0, 1) := by decide +kernel
theorem d7_19 : decode method_3_code 19 = .ok (.lreturn, 1) := by decide +kernel
theorem pn_term : plainName "com/example/fullbranch/fullbranch/compress/KraftSumBitsPinLaw" = true := by first | (simp [plainName, overriddenIn]; done) | decide +kernel
theorem pd_term : parseMethodDescriptor "(III)J" = some ⟨[.int, .int, .int], some .long⟩ := by decide +kernel
theorem ef_term (m : MethodId) (x0 : Int32) (x1 : Int32) (x2 : Int32) : entryFrame m #[(.int x0), (.int x1), (.int x2)] 3 = mkF m 0 #[.val (.int x0), .val (.int x1), .val (.int x2)] [] := by first | (simp [entryFrame, mkF, argsToLocals, Value.category, maxLocals]; done) | rfl
def Q_term (Z : State) (xi : Int32) (yi : Int32) (zi : Int32) (h0 : Heap) (n0 : Nat) (v : Option Value) (h : Heap) (L : List Loc) : Prop := v = some (.long (own_term xi yi zi)) ∧ Fr n0 L ∧ h = h0
set_option maxRecDepth 65536 in
set_option maxHeartbeats 40000000 in
theorem rm_term (l : Launch) (Z : State) (a0 : Array Value) (hw : ∀ d ∈ tables_1, d.before a0 Z = true) (ws : List Jvm.Cond) (xi : Int32) (yi : Int32) (zi : Int32) (h0 : Heap) (n0 : Nat) (Z0 : n0 ≤ h0.size)  :
    MetFree l (⟨"com/example/fullbranch/fullbranch/compress/KraftSumBitsPinLaw", "term", "(III)J"⟩ : MethodName) (head1 (Jvm.Cond.code (⟨"com/example/fullbranch/fullbranch/compress/KraftSumBitsPinLaw", "term", "(III)J"⟩ : MethodName) method_3_code 3 (some .long) :: ws) ({ frames := 0, cells := 0, slots := 0, locals := 0 } : Room)) (fun as U => as = #[(.int xi), (.int yi), (.int zi)] ∧ Z.Warmed39 U.vm ∧ U.heap = h0) (fun _ _ _ _ _ => True) (fun _ U o U' => ∃ v L, o = .returned v ∧ Q_term Z xi yi zi h0 n0 v U'.heap L ∧ FrameEnd U o U' L ({ frames := 0, cells := 0, slots := 0, locals := 0 } : Room).cells ({ frames := 0, cells := 0, slots := 0, locals := 0 } : Room).slots) := by
  refine MetFree.of_bodySF (plainFor_of_name pn_term) hisR ?_
  intro p e s m args below meth c s₁ Bd hml0 hP hK
  obtain ⟨rfl, hZ, hh⟩ := hP
  have hx := Bd.exec
  have hby := Bd.bytes
  have hml : c.maxLocals = 3 := hml0
  have hown : s.vm.findClass "com/example/fullbranch/fullbranch/compress/KraftSumBitsPinLaw" = some m.cls := findClass_of_methodNamed Bd.named
  have hnm := (name_of_methodNamed Bd.named Bd.method).1
  have hlk := BodyLoose.notSynchronized Bd
  have hret := Bd.returns
  have X0 : Stand p l e ({ frames := 0, cells := 0, slots := 0, locals := 0 } : Room) s m #[(.int xi), (.int yi), (.int zi)] below meth c s₁ [] 0 0 := Stand.of_body Bd
  have e0 : s₁.heap = h0 := by rw [← hh, Bd.state]; rfl
  have N0 := Fr.nil n0
  show own_G p e below (own_P s below (Q_term Z xi yi zi h0 n0) ({ frames := 0, cells := 0, slots := 0, locals := 0 } : Room).cells ({ frames := 0, cells := 0, slots := 0, locals := 0 } : Room).slots) _
  refine own_go (B := s₁.setTop (mkF m 0 #[.val (.int xi), .val (.int yi), .val (.int zi)] [])) (fun t k => castTop (ef_term m xi yi zi) k) ?_
  refine own_go (B := s₁.setTop (mkF m 1 #[.val (.int xi), .val (.int yi), .val (.int zi)] [(.int xi)])) (fun _ hr => XS.iloadN X0.here hx rfl (hb hby d7_0) rfl hr) ?_
  refine own_go (B := s₁.setTop (mkF m 2 #[.val (.int xi), .val (.int yi), .val (.int zi)] [(.int yi), (.int xi)])) (fun _ hr => XS.iloadN X0.here hx rfl (hb hby d7_1) rfl hr) ?_
  by_cases c24 : yi < xi
  · refine own_go (B := s₁.setTop (mkF m 18 #[.val (.int xi), .val (.int yi), .val (.int zi)] [])) (fun _ hr => XS.icmpYes X0.here hx rfl (pc0 := 2) (pc' := 18) rfl (hb hby d7_2) rfl (XT.ii_gt_t c24) (by decide) (by decide) hr) ?_
    refine own_go (B := s₁.setTop (mkF m 19 #[.val (.int xi), .val (.int yi), .val (.int zi)] [(.long (0 : Int64))])) (fun _ hr => XT.lconstV X0.here hx rfl (0 : Int64) (hb hby d7_18) (by decide) hr) ?_
    exact own_retJ X0 hx hlk hret  (hb hby d7_19) (by decide) (by decide) ⟨by simp only [own_term, if_pos c24], N0, e0⟩
  · refine own_go (B := s₁.setTop (mkF m 5 #[.val (.int xi), .val (.int yi), .val (.int zi)] [])) (fun _ hr => XS.icmpNo X0.here hx rfl (hb hby d7_2) rfl (XT.ii_gt_f c24) hr) ?_
    refine own_go (B := s₁.setTop (mkF m 6 #[.val (.int xi), .val (.int yi), .val (.int zi)] [(.int yi)])) (fun _ hr => XS.iloadN X0.here hx rfl (hb hby d7_5) rfl hr) ?_
    refine own_go (B := s₁.setTop (mkF m 7 #[.val (.int xi), .val (.int yi), .val (.int zi)] [(.int xi), (.int yi)])) (fun _ hr => XS.iloadN X0.here hx rfl (hb hby d7_6) rfl hr) ?_
    refine own_go (B := s₁.setTop (mkF m 8 #[.val (.int xi), .val (.int yi), .val (.int zi)] [(.int (yi - xi))])) (fun _ hr => XS.isub X0.here hx rfl (hb hby d7_7) rfl hr) ?_
    refine own_go (B := s₁.setTop (mkF m 9 #[.val (.int xi), .val (.int yi), .val (.int zi)] [(.int zi), (.int (yi - xi))])) (fun _ hr => XS.iloadN X0.here hx rfl (hb hby d7_8) rfl hr) ?_
    by_cases c25 : (yi - xi) < zi
    · refine own_go (B := s₁.setTop (mkF m 12 #[.val (.int xi), .val (.int yi), .val (.int zi)] [])) (fun _ hr => XS.icmpNo X0.here hx rfl (hb hby d7_9) rfl (XT.ii_ge_f c25) hr) ?_
      refine own_go (B := s₁.setTop (mkF m 13 #[.val (.int xi), .val (.int yi), .val (.int zi)] [(.long (1 : Int64))])) (fun _ hr => XT.lconstV X0.here hx rfl (1 : Int64) (hb hby d7_12) (by decide) hr) ?_
      refine own_go (B := s₁.setTop (mkF m 14 #[.val (.int xi), .val (.int yi), .val (.int zi)] [(.int yi), (.long (1 : Int64))])) (fun _ hr => XS.iloadN X0.here hx rfl (hb hby d7_13) rfl hr) ?_
      refine own_go (B := s₁.setTop (mkF m 15 #[.val (.int xi), .val (.int yi), .val (.int zi)] [(.int xi), (.int yi), (.long (1 : Int64))])) (fun _ hr => XS.iloadN X0.here hx rfl (hb hby d7_14) rfl hr) ?_
      refine own_go (B := s₁.setTop (mkF m 16 #[.val (.int xi), .val (.int yi), .val (.int zi)] [(.int (yi - xi)), (.long (1 : Int64))])) (fun _ hr => XS.isub X0.here hx rfl (hb hby d7_15) rfl hr) ?_
      refine own_go (B := s₁.setTop (mkF m 17 #[.val (.int xi), .val (.int yi), .val (.int zi)] [(.long ((1 : Int64) <<< ((yi - xi).toInt64 &&& 63)))])) (fun _ hr => XT.lshl X0.here hx rfl (hb hby d7_16) rfl hr) ?_
      exact own_retJ X0 hx hlk hret  (hb hby d7_17) (by decide) (by decide) ⟨by simp only [own_term, if_neg c24, if_pos c25], N0, e0⟩
    · refine own_go (B := s₁.setTop (mkF m 18 #[.val (.int xi), .val (.int yi), .val (.int zi)] [])) (fun _ hr => XS.icmpYes X0.here hx rfl (pc0 := 9) (pc' := 18) rfl (hb hby d7_9) rfl (XT.ii_ge_t c25) (by decide) (by decide) hr) ?_
      refine own_go (B := s₁.setTop (mkF m 19 #[.val (.int xi), .val (.int yi), .val (.int zi)] [(.long (0 : Int64))])) (fun _ hr => XT.lconstV X0.here hx rfl (0 : Int64) (hb hby d7_18) (by decide) hr) ?_
      exact own_retJ X0 hx hlk hret  (hb hby d7_19) (by decide) (by decide) ⟨by simp only [own_term, if_neg c24, if_neg c25], N0, e0⟩
theorem pn_law : plainName "com/example/fullbranch/fullbranch/compress/KraftSumBitsPinLaw" = true := by first | (simp [plainName, overriddenIn]; done) | decide +kernel
theorem ef_law (m : MethodId) (x0 : Int32) (x1 : Int32) (x2 : Int32) (x3 : Int32) : entryFrame m #[(.int x0), (.int x1), (.int x2), (.int x3)] maxLocals = mkF m 0 #[.val (.int x0), .val (.int x1), .val (.int x2), .val (.int x3), .unset, .unset, .unset, .unset, .unset, .unset, .unset, .unset, .unset, .unset, .unset, .unset] [] := by first | (simp [entryFrame, mkF, argsToLocals, Value.category, maxLocals]; done) | rfl
def Q_law (Z : State) (ai : Int32) (bi : Int32) (fi : Int32) (ci : Int32) (h0 : Heap) (n0 : Nat) (v : Option Value) (h : Heap) (L : List Loc) : Prop := v = some (.int 1) ∧ Fr n0 L
def own_cy (l1 : Int32) (l2 : Int32) (en : Int32) : Int64 := (if l1 = (en + (1 : Int32)) then (if l2 = (en + (1 : Int32)) then (1 : Int64) else (0 : Int64)) else (0 : Int64))
/-- what 'term' is worth as a number -/
def own_tn (n e c : Nat) : Nat := if n ≤ e ∧ e - n < c then 2 ^ (e - n) else 0
theorem own_term_n {x y z : Int32} {n e c : Nat} (hx : x.toInt = (n : Int)) (hy : y.toInt = (e : Int)) (hz : z.toInt = (c : Int)) (hc : c ≤ 63) : own_n (own_term x y z) = own_tn n e c := by
  simp only [own_term, own_tn]
  by_cases h1 : y < x
  · have q : e < n := by rw [Int32.lt_iff_toInt_lt, hx, hy] at h1; omega
    rw [if_pos h1, if_neg (by omega)]; rfl
  · have q : n ≤ e := by rw [Int32.lt_iff_toInt_lt, hx, hy] at h1; omega
    rw [if_neg h1]
    have r : (y - x).toInt = ((e - n : Nat) : Int) := own_minus hy hx q
    by_cases h2 : (y - x) < z
    · have q2 : e - n < c := by rw [Int32.lt_iff_toInt_lt, r, hz] at h2; omega
      rw [if_pos h2, if_pos ⟨q, q2⟩, own_one r (by omega)]
    · have q2 : ¬ (e - n < c) := by rw [Int32.lt_iff_toInt_lt, r, hz] at h2; omega
      rw [if_neg h2, if_neg (by omega)]; rfl
theorem own_cy_n {x y en : Int32} {n1 n2 e : Nat} (hx : x.toInt = (n1 : Int)) (hy : y.toInt = (n2 : Int)) (he : en.toInt = (e : Int)) (hb : e ≤ 255) : own_n (own_cy x y en) = if n1 = e + 1 ∧ n2 = e + 1 then 1 else 0 := by
  have r : (en + (1 : Int32)).toInt = ((e + 1 : Nat) : Int) := own_plus (q := 1) he (by decide) (by omega)
  simp only [own_cy, ← Int32.toInt_inj, r, hx, hy]
  by_cases h1 : n1 = e + 1
  · rw [if_pos (by omega)]
    by_cases h2 : n2 = e + 1
    · rw [if_pos (by omega), if_pos ⟨h1, h2⟩]; rfl
    · rw [if_neg (by omega), if_neg (by omega)]; rfl
  · rw [if_neg (by omega), if_neg (by omega)]; rfl
theorem own_tn_mod {n e c : Nat} (h : n ≤ e) : own_tn n e c % 2 ^ c = 2 ^ (e - n) % 2 ^ c := by
  simp only [own_tn]
  by_cases q : e - n < c
  · rw [if_pos ⟨h, q⟩]
  · rw [if_neg (by omega), Nat.zero_mod]
    have r : e - n = c + (e - n - c) := by omega
    rw [r, Nat.pow_add, Nat.mul_mod_right]
theorem own_tn_lt {n e c : Nat} (hc : c ≤ 63) : own_tn n e c < 4611686018427387905 := by
  simp only [own_tn]
  split
  · rename_i h
    have : 2 ^ (e - n) ≤ 2 ^ 62 := Nat.pow_le_pow_right (by decide) (by omega)
    omega
  · decide
theorem own_plain {n1 n2 e c s : Nat} (h1 : n1 ≤ 255) (h2 : n2 ≤ 255) (hs : s = 255 - e) (he : e ≤ 255) : ((2 ^ (255 - n1) + 2 ^ (255 - n2)) / 2 ^ s) % 2 ^ c = (own_tn n1 e c + own_tn n2 e c + (if n1 = e + 1 ∧ n2 = e + 1 then 1 else 0)) % 2 ^ c := by
  have hp : 0 < 2 ^ s := Nat.pow_pos (by decide)
  have up : ∀ n, n ≤ 255 → n ≤ e → 2 ^ (255 - n) = 2 ^ s * 2 ^ (e - n) := fun n hn hne => by
    rw [← Nat.pow_add]
    have : s + (e - n) = 255 - n := by omega
    rw [this]
  have lo : ∀ n, n ≤ 255 → e < n → 2 ^ (255 - n) < 2 ^ s := fun n hn hne => Nat.pow_lt_pow_right (by decide) (by omega)
  have z : ∀ n, e < n → own_tn n e c = 0 := fun n hne => by simp only [own_tn]; rw [if_neg (by omega)]
  by_cases a1 : n1 ≤ e
  · by_cases a2 : n2 ≤ e
    · rw [if_neg (by omega), Nat.add_zero, up n1 h1 a1, up n2 h2 a2, ← Nat.mul_add, Nat.mul_div_cancel_left _ hp, Nat.add_mod, ← own_tn_mod a1, ← own_tn_mod a2, ← Nat.add_mod]
    · rw [if_neg (by omega), Nat.add_zero, z n2 (by omega), Nat.add_zero, up n1 h1 a1, Nat.add_comm, Nat.add_mul_div_left _ _ hp, Nat.div_eq_of_lt (lo n2 h2 (by omega)), Nat.zero_add, own_tn_mod a1]
  · by_cases a2 : n2 ≤ e
    · rw [if_neg (by omega), Nat.add_zero, z n1 (by omega), Nat.zero_add, up n2 h2 a2, Nat.add_mul_div_left _ _ hp, Nat.div_eq_of_lt (lo n1 h1 (by omega)), Nat.zero_add, own_tn_mod a2]
    · rw [z n1 (by omega), z n2 (by omega)]
      have d : 2 ^ s = 2 * 2 ^ (s - 1) := by
        have : s = (s - 1) + 1 := by omega
        rw [this, Nat.pow_succ]; simp; omega
      have q1 : 2 ^ (255 - n1) ≤ 2 ^ (s - 1) := Nat.pow_le_pow_right (by decide) (by omega)
      have q2 : 2 ^ (255 - n2) ≤ 2 ^ (s - 1) := Nat.pow_le_pow_right (by decide) (by omega)
      by_cases a3 : n1 = e + 1 ∧ n2 = e + 1
      · rw [if_pos a3]
        have e1 : 255 - n1 = s - 1 := by omega
        have e2 : 255 - n2 = s - 1 := by omega
        have t : 2 ^ (255 - n1) + 2 ^ (255 - n2) = 2 ^ s := by rw [e1, e2]; omega
        rw [t, Nat.div_self hp]
      · rw [if_neg a3]
        have t : 2 ^ (255 - n1) + 2 ^ (255 - n2) < 2 ^ s := by
          rcases (by omega : n1 ≠ e + 1 ∨ n2 ≠ e + 1) with b | b
          · have : 2 ^ (255 - n1) < 2 ^ (s - 1) := Nat.pow_lt_pow_right (by decide) (by omega)
            omega
          · have : 2 ^ (255 - n2) < 2 ^ (s - 1) := Nat.pow_lt_pow_right (by decide) (by omega)
            omega
        rw [Nat.div_eq_of_lt t]
theorem own_law {l1 l2 cc fr en : Int32} {n1 n2 cn fn : Nat} {rv : Int64} (h1 : l1.toInt = (n1 : Int)) (h1a : 1 ≤ n1) (h1b : n1 ≤ 255) (h2 : l2.toInt = (n2 : Int)) (h2b : n2 ≤ 255) (hc : cc.toInt = (cn : Int)) (hc63 : cn ≤ 63) (hf : fr.toInt = (fn : Int)) (hfs : fn + cn ≤ 255) (he : en.toInt = ((fn + cn : Nat) : Int))
    (hrv : own_n rv = (2 ^ (255 - n1) + 2 ^ (255 - n2)) / 2 ^ (255 - fn - cn) % 2 ^ cn) : rv = (((own_term l1 en cc) + (own_term l2 en cc)) + (own_cy l1 l2 en)) &&& (((1 : Int64) <<< (cc.toInt64 &&& 63)) - (1 : Int64)) := by
  refine own_n_inj ?_
  have t1 := own_tn_lt (n := n1) (e := fn + cn) hc63
  have t2 := own_tn_lt (n := n2) (e := fn + cn) hc63
  rw [hrv, own_mask hc hc63, own_n_add, own_n_add, own_term_n h1 he hc hc63, own_term_n h2 he hc hc63, own_cy_n h1 h2 he (by omega), own_plain (e := fn + cn) h1b h2b (by omega) (by omega)]
  have t3 : (if n1 = fn + cn + 1 ∧ n2 = fn + cn + 1 then 1 else 0) ≤ 1 := by split <;> omega
  rw [Nat.mod_eq_of_lt (a := own_tn n1 (fn + cn) cn + own_tn n2 (fn + cn) cn) (by omega)]
  have big : (own_tn n1 (fn + cn) cn + own_tn n2 (fn + cn) cn + (if n1 = fn + cn + 1 ∧ n2 = fn + cn + 1 then 1 else 0)) % 18446744073709551616 = own_tn n1 (fn + cn) cn + own_tn n2 (fn + cn) cn + (if n1 = fn + cn + 1 ∧ n2 = fn + cn + 1 then 1 else 0) := Nat.mod_eq_of_lt (by omega)
  rw [big]
set_option maxRecDepth 65536 in
set_option maxHeartbeats 40000000 in
theorem rm_law (l : Launch) (Z : State) (a0 : Array Value) (hw : ∀ d ∈ tables_1, d.before a0 Z = true) (ws : List Jvm.Cond) (ai : Int32) (bi : Int32) (fi : Int32) (ci : Int32) (h0 : Heap) (n0 : Nat) (Z0 : n0 ≤ h0.size)  :
    MetFree l x (head1 (Jvm.Cond.code x code maxLocals ret :: ws) room_1) (fun as U => as = #[(.int ai), (.int bi), (.int fi), (.int ci)] ∧ Z.Warmed39 U.vm ∧ U.heap = h0) (fun _ _ _ _ _ => True) (fun _ U o U' => ∃ v L, o = .returned v ∧ Q_law Z ai bi fi ci h0 n0 v U'.heap L ∧ FrameEnd U o U' L 16 128) := by
  refine MetFree.of_bodySF (plainFor_of_name pn_law) hisR ?_
  intro p e s m args below meth c s₁ Bd hml0 hP hK
  obtain ⟨rfl, hZ, hh⟩ := hP
  have hx := Bd.exec
  have hby := Bd.bytes
  have hml : c.maxLocals = 16 := hml0
  have hown : s.vm.findClass "com/example/fullbranch/fullbranch/compress/KraftSumBitsPinLaw" = some m.cls := findClass_of_methodNamed Bd.named
  have hnm := (name_of_methodNamed Bd.named Bd.method).1
  have hlk := BodyLoose.notSynchronized Bd
  have hret := Bd.returns
  have X0 : Stand p l e room_1 s m #[(.int ai), (.int bi), (.int fi), (.int ci)] below meth c s₁ [] 0 0 := Stand.of_body Bd
  have e0 : s₁.heap = h0 := by rw [← hh, Bd.state]; rfl
  have N0 := Fr.nil n0
  show own_G p e below (own_P s below (Q_law Z ai bi fi ci h0 n0) 16 128) _
  refine own_go (B := s₁.setTop (mkF m 0 #[.val (.int ai), .val (.int bi), .val (.int fi), .val (.int ci), .unset, .unset, .unset, .unset, .unset, .unset, .unset, .unset, .unset, .unset, .unset, .unset] [])) (fun t k => castTop (ef_law m ai bi fi ci) k) ?_
  refine own_go (B := s₁.setTop (mkF m 1 #[.val (.int ai), .val (.int bi), .val (.int fi), .val (.int ci), .unset, .unset, .unset, .unset, .unset, .unset, .unset, .unset, .unset, .unset, .unset, .unset] [(.int ai)])) (fun _ hr => XS.iloadN X0.here hx rfl (hb hby at_0) rfl hr) ?_
  refine own_go (B := s₁.setTop (mkF m 3 #[.val (.int ai), .val (.int bi), .val (.int fi), .val (.int ci), .unset, .unset, .unset, .unset, .unset, .unset, .unset, .unset, .unset, .unset, .unset, .unset] [(.int (2147483647 : Int32)), (.int ai)])) (fun _ hr => X0.ldcI hx hown (mvT hZ (hw _ (List.mem_of_getElem? (i := 0) rfl))) rfl (hb hby at_1) hr) ?_
  refine own_go (B := s₁.setTop (mkF m 4 #[.val (.int ai), .val (.int bi), .val (.int fi), .val (.int ci), .unset, .unset, .unset, .unset, .unset, .unset, .unset, .unset, .unset, .unset, .unset, .unset] [(.int (ai &&& (2147483647 : Int32)))])) (fun _ hr => XS.iand X0.here hx rfl (hb hby at_3) rfl hr) ?_
  refine own_go (B := s₁.setTop (mkF m 7 #[.val (.int ai), .val (.int bi), .val (.int fi), .val (.int ci), .unset, .unset, .unset, .unset, .unset, .unset, .unset, .unset, .unset, .unset, .unset, .unset] [(.int (255 : Int32)), (.int (ai &&& (2147483647 : Int32)))])) (fun _ hr => XT.sipushV X0.here hx rfl (255 : Int32) (hb hby at_4) (by decide) hr) ?_
  refine own_go (B := s₁.setTop (mkF m 8 #[.val (.int ai), .val (.int bi), .val (.int fi), .val (.int ci), .unset, .unset, .unset, .unset, .unset, .unset, .unset, .unset, .unset, .unset, .unset, .unset] [(.int ((ai &&& (2147483647 : Int32)) % (255 : Int32)))])) (fun _ hr => iremM X0 hx rfl (hb hby at_7) rfl (by decide) hr) ?_
  refine own_go (B := s₁.setTop (mkF m 9 #[.val (.int ai), .val (.int bi), .val (.int fi), .val (.int ci), .unset, .unset, .unset, .unset, .unset, .unset, .unset, .unset, .unset, .unset, .unset, .unset] [(.int (1 : Int32)), (.int ((ai &&& (2147483647 : Int32)) % (255 : Int32)))])) (fun _ hr => XT.iconstV X0.here hx rfl (1 : Int32) (hb hby at_8) (by decide) hr) ?_
  refine own_go (B := s₁.setTop (mkF m 10 #[.val (.int ai), .val (.int bi), .val (.int fi), .val (.int ci), .unset, .unset, .unset, .unset, .unset, .unset, .unset, .unset, .unset, .unset, .unset, .unset] [(.int (((ai &&& (2147483647 : Int32)) % (255 : Int32)) + (1 : Int32)))])) (fun _ hr => XS.iadd X0.here hx rfl (hb hby at_9) rfl hr) ?_
  refine own_go (B := s₁.setTop (mkF m 12 #[.val (.int ai), .val (.int bi), .val (.int fi), .val (.int ci), .val (.int (((ai &&& (2147483647 : Int32)) % (255 : Int32)) + (1 : Int32))), .unset, .unset, .unset, .unset, .unset, .unset, .unset, .unset, .unset, .unset, .unset] [])) (fun _ hr => XS.istore X0.here hx rfl (hb hby at_10) rfl (l' := #[.val (.int ai), .val (.int bi), .val (.int fi), .val (.int ci), .val (.int (((ai &&& (2147483647 : Int32)) % (255 : Int32)) + (1 : Int32))), .unset, .unset, .unset, .unset, .unset, .unset, .unset, .unset, .unset, .unset, .unset]) rfl hr) ?_
  obtain ⟨n1, h1, h1a, h1b⟩ := own_l1 ai
  generalize (((ai &&& (2147483647 : Int32)) % (255 : Int32)) + (1 : Int32)) = l1 at h1 ⊢
  refine own_go (B := s₁.setTop (mkF m 13 #[.val (.int ai), .val (.int bi), .val (.int fi), .val (.int ci), .val (.int l1), .unset, .unset, .unset, .unset, .unset, .unset, .unset, .unset, .unset, .unset, .unset] [(.int bi)])) (fun _ hr => XS.iloadN X0.here hx rfl (hb hby at_12) rfl hr) ?_
  refine own_go (B := s₁.setTop (mkF m 15 #[.val (.int ai), .val (.int bi), .val (.int fi), .val (.int ci), .val (.int l1), .unset, .unset, .unset, .unset, .unset, .unset, .unset, .unset, .unset, .unset, .unset] [(.int (2147483647 : Int32)), (.int bi)])) (fun _ hr => X0.ldcI hx hown (mvT hZ (hw _ (List.mem_of_getElem? (i := 0) rfl))) rfl (hb hby at_13) hr) ?_
  refine own_go (B := s₁.setTop (mkF m 16 #[.val (.int ai), .val (.int bi), .val (.int fi), .val (.int ci), .val (.int l1), .unset, .unset, .unset, .unset, .unset, .unset, .unset, .unset, .unset, .unset, .unset] [(.int (bi &&& (2147483647 : Int32)))])) (fun _ hr => XS.iand X0.here hx rfl (hb hby at_15) rfl hr) ?_
  refine own_go (B := s₁.setTop (mkF m 19 #[.val (.int ai), .val (.int bi), .val (.int fi), .val (.int ci), .val (.int l1), .unset, .unset, .unset, .unset, .unset, .unset, .unset, .unset, .unset, .unset, .unset] [(.int (256 : Int32)), (.int (bi &&& (2147483647 : Int32)))])) (fun _ hr => XT.sipushV X0.here hx rfl (256 : Int32) (hb hby at_16) (by decide) hr) ?_
  refine own_go (B := s₁.setTop (mkF m 20 #[.val (.int ai), .val (.int bi), .val (.int fi), .val (.int ci), .val (.int l1), .unset, .unset, .unset, .unset, .unset, .unset, .unset, .unset, .unset, .unset, .unset] [(.int ((bi &&& (2147483647 : Int32)) % (256 : Int32)))])) (fun _ hr => iremM X0 hx rfl (hb hby at_19) rfl (by decide) hr) ?_
  refine own_go (B := s₁.setTop (mkF m 22 #[.val (.int ai), .val (.int bi), .val (.int fi), .val (.int ci), .val (.int l1), .val (.int ((bi &&& (2147483647 : Int32)) % (256 : Int32))), .unset, .unset, .unset, .unset, .unset, .unset, .unset, .unset, .unset, .unset] [])) (fun _ hr => XS.istore X0.here hx rfl (hb hby at_20) rfl (l' := #[.val (.int ai), .val (.int bi), .val (.int fi), .val (.int ci), .val (.int l1), .val (.int ((bi &&& (2147483647 : Int32)) % (256 : Int32))), .unset, .unset, .unset, .unset, .unset, .unset, .unset, .unset, .unset, .unset]) rfl hr) ?_
  obtain ⟨n2, h2, h2b⟩ := own_l2 bi
  generalize ((bi &&& (2147483647 : Int32)) % (256 : Int32)) = l2 at h2 ⊢
  refine own_go (B := s₁.setTop (mkF m 23 #[.val (.int ai), .val (.int bi), .val (.int fi), .val (.int ci), .val (.int l1), .val (.int l2), .unset, .unset, .unset, .unset, .unset, .unset, .unset, .unset, .unset, .unset] [(.int ci)])) (fun _ hr => XS.iloadN X0.here hx rfl (hb hby at_22) rfl hr) ?_
  refine own_go (B := s₁.setTop (mkF m 25 #[.val (.int ai), .val (.int bi), .val (.int fi), .val (.int ci), .val (.int l1), .val (.int l2), .unset, .unset, .unset, .unset, .unset, .unset, .unset, .unset, .unset, .unset] [(.int (63 : Int32)), (.int ci)])) (fun _ hr => XT.bipushV X0.here hx rfl (63 : Int32) (hb hby at_23) (by decide) hr) ?_
  refine own_go (B := s₁.setTop (mkF m 26 #[.val (.int ai), .val (.int bi), .val (.int fi), .val (.int ci), .val (.int l1), .val (.int l2), .unset, .unset, .unset, .unset, .unset, .unset, .unset, .unset, .unset, .unset] [(.int (ci &&& (63 : Int32)))])) (fun _ hr => XS.iand X0.here hx rfl (hb hby at_25) rfl hr) ?_
  refine own_go (B := s₁.setTop (mkF m 28 #[.val (.int ai), .val (.int bi), .val (.int fi), .val (.int ci), .val (.int l1), .val (.int l2), .val (.int (ci &&& (63 : Int32))), .unset, .unset, .unset, .unset, .unset, .unset, .unset, .unset, .unset] [])) (fun _ hr => XS.istore X0.here hx rfl (hb hby at_26) rfl (l' := #[.val (.int ai), .val (.int bi), .val (.int fi), .val (.int ci), .val (.int l1), .val (.int l2), .val (.int (ci &&& (63 : Int32))), .unset, .unset, .unset, .unset, .unset, .unset, .unset, .unset, .unset]) rfl hr) ?_
  obtain ⟨cn, hc, hc63⟩ := own_c63 ci
  generalize (ci &&& (63 : Int32)) = cc at hc ⊢
  refine own_go (B := s₁.setTop (mkF m 29 #[.val (.int ai), .val (.int bi), .val (.int fi), .val (.int ci), .val (.int l1), .val (.int l2), .val (.int cc), .unset, .unset, .unset, .unset, .unset, .unset, .unset, .unset, .unset] [(.int fi)])) (fun _ hr => XS.iloadN X0.here hx rfl (hb hby at_28) rfl hr) ?_
  refine own_go (B := s₁.setTop (mkF m 31 #[.val (.int ai), .val (.int bi), .val (.int fi), .val (.int ci), .val (.int l1), .val (.int l2), .val (.int cc), .unset, .unset, .unset, .unset, .unset, .unset, .unset, .unset, .unset] [(.int (2147483647 : Int32)), (.int fi)])) (fun _ hr => X0.ldcI hx hown (mvT hZ (hw _ (List.mem_of_getElem? (i := 0) rfl))) rfl (hb hby at_29) hr) ?_
  refine own_go (B := s₁.setTop (mkF m 32 #[.val (.int ai), .val (.int bi), .val (.int fi), .val (.int ci), .val (.int l1), .val (.int l2), .val (.int cc), .unset, .unset, .unset, .unset, .unset, .unset, .unset, .unset, .unset] [(.int (fi &&& (2147483647 : Int32)))])) (fun _ hr => XS.iand X0.here hx rfl (hb hby at_31) rfl hr) ?_
  refine own_go (B := s₁.setTop (mkF m 35 #[.val (.int ai), .val (.int bi), .val (.int fi), .val (.int ci), .val (.int l1), .val (.int l2), .val (.int cc), .unset, .unset, .unset, .unset, .unset, .unset, .unset, .unset, .unset] [(.int (256 : Int32)), (.int (fi &&& (2147483647 : Int32)))])) (fun _ hr => XT.sipushV X0.here hx rfl (256 : Int32) (hb hby at_32) (by decide) hr) ?_
  refine own_go (B := s₁.setTop (mkF m 37 #[.val (.int ai), .val (.int bi), .val (.int fi), .val (.int ci), .val (.int l1), .val (.int l2), .val (.int cc), .unset, .unset, .unset, .unset, .unset, .unset, .unset, .unset, .unset] [(.int cc), (.int (256 : Int32)), (.int (fi &&& (2147483647 : Int32)))])) (fun _ hr => XS.iload X0.here hx rfl (hb hby at_35) rfl hr) ?_
  refine own_go (B := s₁.setTop (mkF m 38 #[.val (.int ai), .val (.int bi), .val (.int fi), .val (.int ci), .val (.int l1), .val (.int l2), .val (.int cc), .unset, .unset, .unset, .unset, .unset, .unset, .unset, .unset, .unset] [(.int ((256 : Int32) - cc)), (.int (fi &&& (2147483647 : Int32)))])) (fun _ hr => XS.isub X0.here hx rfl (hb hby at_37) rfl hr) ?_
  refine own_go (B := s₁.setTop (mkF m 39 #[.val (.int ai), .val (.int bi), .val (.int fi), .val (.int ci), .val (.int l1), .val (.int l2), .val (.int cc), .unset, .unset, .unset, .unset, .unset, .unset, .unset, .unset, .unset] [(.int ((fi &&& (2147483647 : Int32)) % ((256 : Int32) - cc)))])) (fun _ hr => iremM X0 hx rfl (hb hby at_38) rfl (own_nz hc hc63) hr) ?_
  refine own_go (B := s₁.setTop (mkF m 41 #[.val (.int ai), .val (.int bi), .val (.int fi), .val (.int ci), .val (.int l1), .val (.int l2), .val (.int cc), .val (.int ((fi &&& (2147483647 : Int32)) % ((256 : Int32) - cc))), .unset, .unset, .unset, .unset, .unset, .unset, .unset, .unset] [])) (fun _ hr => XS.istore X0.here hx rfl (hb hby at_39) rfl (l' := #[.val (.int ai), .val (.int bi), .val (.int fi), .val (.int ci), .val (.int l1), .val (.int l2), .val (.int cc), .val (.int ((fi &&& (2147483647 : Int32)) % ((256 : Int32) - cc))), .unset, .unset, .unset, .unset, .unset, .unset, .unset, .unset]) rfl hr) ?_
  obtain ⟨fn, hf, hfs⟩ := own_from fi hc hc63
  generalize ((fi &&& (2147483647 : Int32)) % ((256 : Int32) - cc)) = fr at hf ⊢
  obtain ⟨T26, h26, X26, e26, E26, A26, D26, -, st26⟩ := newO X0 hx hZ hown (hw _ (List.mem_of_getElem? (i := 1) rfl)) (hw _ (List.mem_of_getElem? (i := 2) rfl)) (hw _ (List.mem_of_getElem? (i := 3) rfl)) e0 (g := (mkF m 41 #[.val (.int ai), .val (.int bi), .val (.int fi), .val (.int ci), .val (.int l1), .val (.int l2), .val (.int cc), .val (.int fr), .unset, .unset, .unset, .unset, .unset, .unset, .unset, .unset] [])) rfl (hb hby at_41) (by decide) (by decide)
  obtain ⟨a26, g26⟩ : ∃ z, z = h0.size := ⟨_, rfl⟩
  rw [← g26] at A26 D26 st26
  refine own_go (B := T26.setTop (mkF m 44 #[.val (.int ai), .val (.int bi), .val (.int fi), .val (.int ci), .val (.int l1), .val (.int l2), .val (.int cc), .val (.int fr), .unset, .unset, .unset, .unset, .unset, .unset, .unset, .unset] [(.ref a26)])) (fun t hr => st26 t hr) ?_
  have F1 : Fld Z h26 a26 "com/example/fullbranch/fullbranch/compress/KraftSum" "words" "[J" .null := D26 (Or.inr (hw _ (List.mem_of_getElem? (i := 12) rfl))) (ty := .array .long) (by decide)
  have Z1 : n0 ≤ h26.size := Nat.le_trans Z0 E26.1
  have ge : n0 ≤ a26 := Nat.le_trans Z0 (Nat.le_of_eq g26.symm)
  refine own_go (B := T26.setTop (mkF m 45 #[.val (.int ai), .val (.int bi), .val (.int fi), .val (.int ci), .val (.int l1), .val (.int l2), .val (.int cc), .val (.int fr), .unset, .unset, .unset, .unset, .unset, .unset, .unset, .unset] [(.ref a26), (.ref a26)])) (fun _ hr => XS.dup X26.here hx rfl (hb hby at_44) rfl rfl hr) ?_
  obtain ⟨_, _, ⟨T27, L27, k27, n27⟩, -, X27, ⟨Lc27, hQ27, l27, y27, z27⟩, st27⟩ := X26.specialBack hx (y := (⟨"com/example/fullbranch/fullbranch/compress/KraftSum", "<init>", "()V"⟩ : MethodName)) rfl hown (mvT hZ (hw _ (List.mem_of_getElem? (i := 4) rfl))) (mvT hZ (hw _ (List.mem_of_getElem? (i := 5) rfl))) (mvT hZ (hw _ (List.mem_of_getElem? (i := 6) rfl))) (by decide) (backOf (W := 1) (rm_init l Z a0 hw [] a26 h26 n0 Z1 F1 A26 ge) hZ (hw _ (List.mem_of_getElem? (i := 6) rfl)) (hw _ (List.mem_of_getElem? (i := 3) rfl)) (by decide) (by decide)) (g := (mkF m 45 #[.val (.int ai), .val (.int bi), .val (.int fi), .val (.int ci), .val (.int l1), .val (.int l2), .val (.int cc), .val (.int fr), .unset, .unset, .unset, .unset, .unset, .unset, .unset, .unset] [(.ref a26), (.ref a26)])) rfl (by rw [hml]; rfl) (Steps.refl _) (a := a26) (argsL := []) (rest := [(.ref a26)]) (lenOf pd_init rfl) rfl (by show 2 * 0 + _ ≤ _; exact Nat.le_of_eq rfl) (hb hby at_45) (fun _ _ => ⟨rfl, e26, (by decide : 1 + 1 ≤ _), (by decide : 1 + 4 ≤ _)⟩)
  dsimp only [Pt.U, Pt.locs, Pt.cells, Pt.slots] at X27 l27 y27 z27 st27 hQ27
  subst l27 y27 z27
  obtain ⟨rfl, N27, Z27, S, geS, H27⟩ := hQ27
  refine own_gs (B := T27.setTop (mkF m 48 #[.val (.int ai), .val (.int bi), .val (.int fi), .val (.int ci), .val (.int l1), .val (.int l2), .val (.int cc), .val (.int fr), .unset, .unset, .unset, .unset, .unset, .unset, .unset, .unset] [(.ref a26)])) st27 ?_
  have M27 := Fr.app N0 N27
  refine own_go (B := T27.setTop (mkF m 50 #[.val (.int ai), .val (.int bi), .val (.int fi), .val (.int ci), .val (.int l1), .val (.int l2), .val (.int cc), .val (.int fr), .val (.ref a26), .unset, .unset, .unset, .unset, .unset, .unset, .unset] [])) (fun _ hr => XS.astore X27.here hx rfl (hb hby at_48) rfl rfl (l' := #[.val (.int ai), .val (.int bi), .val (.int fi), .val (.int ci), .val (.int l1), .val (.int l2), .val (.int cc), .val (.int fr), .val (.ref a26), .unset, .unset, .unset, .unset, .unset, .unset, .unset]) rfl hr) ?_
  refine own_go (B := T27.setTop (mkF m 52 #[.val (.int ai), .val (.int bi), .val (.int fi), .val (.int ci), .val (.int l1), .val (.int l2), .val (.int cc), .val (.int fr), .val (.ref a26), .unset, .unset, .unset, .unset, .unset, .unset, .unset] [(.ref a26)])) (fun _ hr => XS.aload X27.here hx rfl (hb hby at_50) rfl rfl hr) ?_
  refine own_go (B := T27.setTop (mkF m 54 #[.val (.int ai), .val (.int bi), .val (.int fi), .val (.int ci), .val (.int l1), .val (.int l2), .val (.int cc), .val (.int fr), .val (.ref a26), .unset, .unset, .unset, .unset, .unset, .unset, .unset] [(.int l1), (.ref a26)])) (fun _ hr => XS.iload X27.here hx rfl (hb hby at_52) rfl hr) ?_
  have v0 : own_val (fun _ => (0 : Int64)) = 0 := rfl
  have b1 : 2 ^ (255 - n1) ≤ 2 ^ 254 := Nat.pow_le_pow_right (by decide) (by omega)
  have b2 : 2 ^ (255 - n2) ≤ 2 ^ 255 := Nat.pow_le_pow_right (by decide) (by omega)
  obtain ⟨cq28, kq28, qa28, qb28, qc28⟩ := isOf hZ rfl H27.1
  obtain ⟨_, _, ⟨T28, L28, k28, n28⟩, -, X28, ⟨Lc28, hQ28, l28, y28, z28⟩, st28⟩ := X27.virtualBack hx (y := (⟨"com/example/fullbranch/fullbranch/compress/KraftSum", "add", "(I)V"⟩ : MethodName)) (z := (⟨"com/example/fullbranch/fullbranch/compress/KraftSum", "add", "(I)V"⟩ : MethodName)) hown (mvT hZ (hw _ (List.mem_of_getElem? (i := 13) rfl))) (mvT hZ (hw _ (List.mem_of_getElem? (i := 14) rfl))) (notFace_of_selects (args := #[]) (mvT hZ (hw _ (List.mem_of_getElem? (i := 16) rfl)))) (mvT hZ (hw _ (List.mem_of_getElem? (i := 16) rfl))) (mvT hZ (hw _ (List.mem_of_getElem? (i := 15) rfl))) (by decide) (backOf (W := 0) (rm_add l Z a0 hw [] a26 l1 S _ (255 - n1) T27.heap n0 Z27 H27 geS (own_minus (i := 255) (by decide) h1 (by omega)) (by omega) (by rw [v0]; omega)) hZ (hw _ (List.mem_of_getElem? (i := 17) rfl)) (hw _ (List.mem_of_getElem? (i := 3) rfl)) (by decide) (by decide)) qa28 qc28 (g := (mkF m 54 #[.val (.int ai), .val (.int bi), .val (.int fi), .val (.int ci), .val (.int l1), .val (.int l2), .val (.int cc), .val (.int fr), .val (.ref a26), .unset, .unset, .unset, .unset, .unset, .unset, .unset] [(.int l1), (.ref a26)])) rfl (by rw [hml]; rfl) (Steps.refl _) (argsL := [(.int l1)]) (rest := []) (lenOf pd_add rfl) rfl (by show 2 * 0 + _ ≤ _; exact Nat.le_of_eq rfl) (hb hby at_54) (fun _ _ => ⟨rfl, rfl, (by decide : 2 + 0 ≤ _), (by decide : 5 + 0 ≤ _)⟩)
  dsimp only [Pt.U, Pt.locs, Pt.cells, Pt.slots] at X28 l28 y28 z28 st28 hQ28
  subst l28 y28 z28
  obtain ⟨rfl, N28, Z28, ga, H28, v1⟩ := hQ28
  refine own_gs (B := T28.setTop (mkF m 57 #[.val (.int ai), .val (.int bi), .val (.int fi), .val (.int ci), .val (.int l1), .val (.int l2), .val (.int cc), .val (.int fr), .val (.ref a26), .unset, .unset, .unset, .unset, .unset, .unset, .unset] [])) st28 ?_
  have M28 := Fr.app M27 N28
  rw [v0, Nat.zero_add] at v1
  refine own_go (B := T28.setTop (mkF m 59 #[.val (.int ai), .val (.int bi), .val (.int fi), .val (.int ci), .val (.int l1), .val (.int l2), .val (.int cc), .val (.int fr), .val (.ref a26), .unset, .unset, .unset, .unset, .unset, .unset, .unset] [(.ref a26)])) (fun _ hr => XS.aload X28.here hx rfl (hb hby at_57) rfl rfl hr) ?_
  refine own_go (B := T28.setTop (mkF m 61 #[.val (.int ai), .val (.int bi), .val (.int fi), .val (.int ci), .val (.int l1), .val (.int l2), .val (.int cc), .val (.int fr), .val (.ref a26), .unset, .unset, .unset, .unset, .unset, .unset, .unset] [(.int l2), (.ref a26)])) (fun _ hr => XS.iload X28.here hx rfl (hb hby at_59) rfl hr) ?_
  obtain ⟨cq29, kq29, qa29, qb29, qc29⟩ := isOf hZ rfl H28.1
  obtain ⟨_, _, ⟨T29, L29, k29, n29⟩, -, X29, ⟨Lc29, hQ29, l29, y29, z29⟩, st29⟩ := X28.virtualBack hx (y := (⟨"com/example/fullbranch/fullbranch/compress/KraftSum", "add", "(I)V"⟩ : MethodName)) (z := (⟨"com/example/fullbranch/fullbranch/compress/KraftSum", "add", "(I)V"⟩ : MethodName)) hown (mvT hZ (hw _ (List.mem_of_getElem? (i := 13) rfl))) (mvT hZ (hw _ (List.mem_of_getElem? (i := 14) rfl))) (notFace_of_selects (args := #[]) (mvT hZ (hw _ (List.mem_of_getElem? (i := 16) rfl)))) (mvT hZ (hw _ (List.mem_of_getElem? (i := 16) rfl))) (mvT hZ (hw _ (List.mem_of_getElem? (i := 15) rfl))) (by decide) (backOf (W := 0) (rm_add l Z a0 hw [] a26 l2 S ga (255 - n2) T28.heap n0 Z28 H28 geS (own_minus (i := 255) (by decide) h2 (by omega)) (by omega) (by rw [v1]; omega)) hZ (hw _ (List.mem_of_getElem? (i := 17) rfl)) (hw _ (List.mem_of_getElem? (i := 3) rfl)) (by decide) (by decide)) qa29 qc29 (g := (mkF m 61 #[.val (.int ai), .val (.int bi), .val (.int fi), .val (.int ci), .val (.int l1), .val (.int l2), .val (.int cc), .val (.int fr), .val (.ref a26), .unset, .unset, .unset, .unset, .unset, .unset, .unset] [(.int l2), (.ref a26)])) rfl (by rw [hml]; rfl) (Steps.refl _) (argsL := [(.int l2)]) (rest := []) (lenOf pd_add rfl) rfl (by show 2 * 0 + _ ≤ _; exact Nat.le_of_eq rfl) (hb hby at_61) (fun _ _ => ⟨rfl, rfl, (by decide : 2 + 0 ≤ _), (by decide : 5 + 0 ≤ _)⟩)
  dsimp only [Pt.U, Pt.locs, Pt.cells, Pt.slots] at X29 l29 y29 z29 st29 hQ29
  subst l29 y29 z29
  obtain ⟨rfl, N29, Z29, gb, H29, v2⟩ := hQ29
  refine own_gs (B := T29.setTop (mkF m 64 #[.val (.int ai), .val (.int bi), .val (.int fi), .val (.int ci), .val (.int l1), .val (.int l2), .val (.int cc), .val (.int fr), .val (.ref a26), .unset, .unset, .unset, .unset, .unset, .unset, .unset] [])) st29 ?_
  have M29 := Fr.app M28 N29
  rw [v1] at v2
  refine own_go (B := T29.setTop (mkF m 66 #[.val (.int ai), .val (.int bi), .val (.int fi), .val (.int ci), .val (.int l1), .val (.int l2), .val (.int cc), .val (.int fr), .val (.ref a26), .unset, .unset, .unset, .unset, .unset, .unset, .unset] [(.ref a26)])) (fun _ hr => XS.aload X29.here hx rfl (hb hby at_64) rfl rfl hr) ?_
  refine own_go (B := T29.setTop (mkF m 68 #[.val (.int ai), .val (.int bi), .val (.int fi), .val (.int ci), .val (.int l1), .val (.int l2), .val (.int cc), .val (.int fr), .val (.ref a26), .unset, .unset, .unset, .unset, .unset, .unset, .unset] [(.int fr), (.ref a26)])) (fun _ hr => XS.iload X29.here hx rfl (hb hby at_66) rfl hr) ?_
  refine own_go (B := T29.setTop (mkF m 70 #[.val (.int ai), .val (.int bi), .val (.int fi), .val (.int ci), .val (.int l1), .val (.int l2), .val (.int cc), .val (.int fr), .val (.ref a26), .unset, .unset, .unset, .unset, .unset, .unset, .unset] [(.int cc), (.int fr), (.ref a26)])) (fun _ hr => XS.iload X29.here hx rfl (hb hby at_68) rfl hr) ?_
  obtain ⟨cq30, kq30, qa30, qb30, qc30⟩ := isOf hZ rfl H29.1
  obtain ⟨_, _, ⟨T30, L30, k30, n30⟩, -, X30, ⟨Lc30, hQ30, l30, y30, z30⟩, st30⟩ := X29.virtualBack hx (y := (⟨"com/example/fullbranch/fullbranch/compress/KraftSum", "bits", "(II)J"⟩ : MethodName)) (z := (⟨"com/example/fullbranch/fullbranch/compress/KraftSum", "bits", "(II)J"⟩ : MethodName)) hown (mvT hZ (hw _ (List.mem_of_getElem? (i := 26) rfl))) (mvT hZ (hw _ (List.mem_of_getElem? (i := 27) rfl))) (notFace_of_selects (args := #[]) (mvT hZ (hw _ (List.mem_of_getElem? (i := 29) rfl)))) (mvT hZ (hw _ (List.mem_of_getElem? (i := 29) rfl))) (mvT hZ (hw _ (List.mem_of_getElem? (i := 28) rfl))) (by decide) (backOf (W := 0) (rm_bits l Z a0 hw [] a26 fr cc S gb fn cn T29.heap n0 Z29 H29 hf hc hfs hc63) hZ (hw _ (List.mem_of_getElem? (i := 30) rfl)) (hw _ (List.mem_of_getElem? (i := 3) rfl)) (by decide) (by decide)) qa30 qc30 (g := (mkF m 70 #[.val (.int ai), .val (.int bi), .val (.int fi), .val (.int ci), .val (.int l1), .val (.int l2), .val (.int cc), .val (.int fr), .val (.ref a26), .unset, .unset, .unset, .unset, .unset, .unset, .unset] [(.int cc), (.int fr), (.ref a26)])) rfl (by rw [hml]; rfl) (Steps.refl _) (argsL := [(.int fr), (.int cc)]) (rest := []) (lenOf pd_bits rfl) rfl (by show 2 * 0 + _ ≤ _; exact Nat.le_of_eq rfl) (hb hby at_70) (fun _ _ => ⟨rfl, rfl, (by decide : 2 + 0 ≤ _), (by decide : 5 + 0 ≤ _)⟩)
  dsimp only [Pt.U, Pt.locs, Pt.cells, Pt.slots] at X30 l30 y30 z30 st30 hQ30
  subst l30 y30 z30
  obtain ⟨⟨rv, rfl, hrv⟩, N30, e30⟩ := hQ30
  refine own_gs (B := T30.setTop (mkF m 73 #[.val (.int ai), .val (.int bi), .val (.int fi), .val (.int ci), .val (.int l1), .val (.int l2), .val (.int cc), .val (.int fr), .val (.ref a26), .unset, .unset, .unset, .unset, .unset, .unset, .unset] [(.long rv)])) st30 ?_
  have M30 := Fr.app M29 N30
  rw [v2] at hrv
  refine own_go (B := T30.setTop (mkF m 75 #[.val (.int ai), .val (.int bi), .val (.int fi), .val (.int ci), .val (.int l1), .val (.int l2), .val (.int cc), .val (.int fr), .val (.ref a26), .val (.long rv), .second, .unset, .unset, .unset, .unset, .unset] [])) (fun _ hr => XT.lstore X30.here hx rfl (hb hby at_73) rfl (l' := #[.val (.int ai), .val (.int bi), .val (.int fi), .val (.int ci), .val (.int l1), .val (.int l2), .val (.int cc), .val (.int fr), .val (.ref a26), .val (.long rv), .second, .unset, .unset, .unset, .unset, .unset]) rfl hr) ?_
  refine own_go (B := T30.setTop (mkF m 77 #[.val (.int ai), .val (.int bi), .val (.int fi), .val (.int ci), .val (.int l1), .val (.int l2), .val (.int cc), .val (.int fr), .val (.ref a26), .val (.long rv), .second, .unset, .unset, .unset, .unset, .unset] [(.int fr)])) (fun _ hr => XS.iload X30.here hx rfl (hb hby at_75) rfl hr) ?_
  refine own_go (B := T30.setTop (mkF m 79 #[.val (.int ai), .val (.int bi), .val (.int fi), .val (.int ci), .val (.int l1), .val (.int l2), .val (.int cc), .val (.int fr), .val (.ref a26), .val (.long rv), .second, .unset, .unset, .unset, .unset, .unset] [(.int cc), (.int fr)])) (fun _ hr => XS.iload X30.here hx rfl (hb hby at_77) rfl hr) ?_
  refine own_go (B := T30.setTop (mkF m 80 #[.val (.int ai), .val (.int bi), .val (.int fi), .val (.int ci), .val (.int l1), .val (.int l2), .val (.int cc), .val (.int fr), .val (.ref a26), .val (.long rv), .second, .unset, .unset, .unset, .unset, .unset] [(.int (fr + cc))])) (fun _ hr => XS.iadd X30.here hx rfl (hb hby at_79) rfl hr) ?_
  refine own_go (B := T30.setTop (mkF m 82 #[.val (.int ai), .val (.int bi), .val (.int fi), .val (.int ci), .val (.int l1), .val (.int l2), .val (.int cc), .val (.int fr), .val (.ref a26), .val (.long rv), .second, .val (.int (fr + cc)), .unset, .unset, .unset, .unset] [])) (fun _ hr => XS.istore X30.here hx rfl (hb hby at_80) rfl (l' := #[.val (.int ai), .val (.int bi), .val (.int fi), .val (.int ci), .val (.int l1), .val (.int l2), .val (.int cc), .val (.int fr), .val (.ref a26), .val (.long rv), .second, .val (.int (fr + cc)), .unset, .unset, .unset, .unset]) rfl hr) ?_
  have he : (fr + cc).toInt = ((fn + cn : Nat) : Int) := own_plus hf hc (by omega)
  generalize (fr + cc) = en at he ⊢
  have hk35 : own_G p e below (own_P s below (Q_law Z ai bi fi ci h0 n0) 16 128) (T30.setTop (mkF m 105 #[.val (.int ai), .val (.int bi), .val (.int fi), .val (.int ci), .val (.int l1), .val (.int l2), .val (.int cc), .val (.int fr), .val (.ref a26), .val (.long rv), .second, .val (.int en), .unset, .unset, .unset, .unset] [(.long (own_cy l1 l2 en))])) := by
    refine own_go (B := T30.setTop (mkF m 107 #[.val (.int ai), .val (.int bi), .val (.int fi), .val (.int ci), .val (.int l1), .val (.int l2), .val (.int cc), .val (.int fr), .val (.ref a26), .val (.long rv), .second, .val (.int en), .val (.long (own_cy l1 l2 en)), .second, .unset, .unset] [])) (fun _ hr => XT.lstore X30.here hx rfl (hb hby at_105) rfl (l' := #[.val (.int ai), .val (.int bi), .val (.int fi), .val (.int ci), .val (.int l1), .val (.int l2), .val (.int cc), .val (.int fr), .val (.ref a26), .val (.long rv), .second, .val (.int en), .val (.long (own_cy l1 l2 en)), .second, .unset, .unset]) rfl hr) ?_
    refine own_go (B := T30.setTop (mkF m 109 #[.val (.int ai), .val (.int bi), .val (.int fi), .val (.int ci), .val (.int l1), .val (.int l2), .val (.int cc), .val (.int fr), .val (.ref a26), .val (.long rv), .second, .val (.int en), .val (.long (own_cy l1 l2 en)), .second, .unset, .unset] [(.int l1)])) (fun _ hr => XS.iload X30.here hx rfl (hb hby at_107) rfl hr) ?_
    refine own_go (B := T30.setTop (mkF m 111 #[.val (.int ai), .val (.int bi), .val (.int fi), .val (.int ci), .val (.int l1), .val (.int l2), .val (.int cc), .val (.int fr), .val (.ref a26), .val (.long rv), .second, .val (.int en), .val (.long (own_cy l1 l2 en)), .second, .unset, .unset] [(.int en), (.int l1)])) (fun _ hr => XS.iload X30.here hx rfl (hb hby at_109) rfl hr) ?_
    refine own_go (B := T30.setTop (mkF m 113 #[.val (.int ai), .val (.int bi), .val (.int fi), .val (.int ci), .val (.int l1), .val (.int l2), .val (.int cc), .val (.int fr), .val (.ref a26), .val (.long rv), .second, .val (.int en), .val (.long (own_cy l1 l2 en)), .second, .unset, .unset] [(.int cc), (.int en), (.int l1)])) (fun _ hr => XS.iload X30.here hx rfl (hb hby at_111) rfl hr) ?_
    obtain ⟨_, _, ⟨T36, L36, k36, n36⟩, -, X36, ⟨Lc36, hQ36, l36, y36, z36⟩, st36⟩ := Jvm.LawKit.callS X30 hx (y := (⟨"com/example/fullbranch/fullbranch/compress/KraftSumBitsPinLaw", "term", "(III)J"⟩ : MethodName)) hown (mvT hZ (hw _ (List.mem_of_getElem? (i := 31) rfl))) (mvT hZ (hw _ (List.mem_of_getElem? (i := 32) rfl))) (mvT hZ (hw _ (List.mem_of_getElem? (i := 33) rfl))) (mvT hZ (hw _ (List.mem_of_getElem? (i := 34) rfl))) (by decide) (backOf (W := 0) (rm_term l Z a0 hw [] l1 en cc T29.heap n0 Z29) hZ (hw _ (List.mem_of_getElem? (i := 34) rfl)) (hw _ (List.mem_of_getElem? (i := 33) rfl)) (by decide) (by decide)) (g := (mkF m 113 #[.val (.int ai), .val (.int bi), .val (.int fi), .val (.int ci), .val (.int l1), .val (.int l2), .val (.int cc), .val (.int fr), .val (.ref a26), .val (.long rv), .second, .val (.int en), .val (.long (own_cy l1 l2 en)), .second, .unset, .unset] [(.int cc), (.int en), (.int l1)])) rfl (by rw [hml]; rfl) (argsL := [(.int l1), (.int en), (.int cc)]) (rest := []) (lenOf pd_term rfl) rfl (by show 2 * 0 + _ ≤ _; exact Nat.le_of_eq rfl) (hb hby at_113) (fun _ _ => ⟨rfl, e30, (by decide : 2 + 0 ≤ _), (by decide : 5 + 0 ≤ _)⟩)
    dsimp only [Pt.U, Pt.locs, Pt.cells, Pt.slots] at X36 l36 y36 z36 st36 hQ36
    subst l36 y36 z36
    obtain ⟨rfl, N36, e36⟩ := hQ36
    have M36 := Fr.app M30 N36
    refine own_go (B := T36.setTop (mkF m 116 #[.val (.int ai), .val (.int bi), .val (.int fi), .val (.int ci), .val (.int l1), .val (.int l2), .val (.int cc), .val (.int fr), .val (.ref a26), .val (.long rv), .second, .val (.int en), .val (.long (own_cy l1 l2 en)), .second, .unset, .unset] [(.long (own_term l1 en cc))])) (fun t hr => st36 t hr) ?_
    refine own_go (B := T36.setTop (mkF m 118 #[.val (.int ai), .val (.int bi), .val (.int fi), .val (.int ci), .val (.int l1), .val (.int l2), .val (.int cc), .val (.int fr), .val (.ref a26), .val (.long rv), .second, .val (.int en), .val (.long (own_cy l1 l2 en)), .second, .unset, .unset] [(.int l2), (.long (own_term l1 en cc))])) (fun _ hr => XS.iload X36.here hx rfl (hb hby at_116) rfl hr) ?_
    refine own_go (B := T36.setTop (mkF m 120 #[.val (.int ai), .val (.int bi), .val (.int fi), .val (.int ci), .val (.int l1), .val (.int l2), .val (.int cc), .val (.int fr), .val (.ref a26), .val (.long rv), .second, .val (.int en), .val (.long (own_cy l1 l2 en)), .second, .unset, .unset] [(.int en), (.int l2), (.long (own_term l1 en cc))])) (fun _ hr => XS.iload X36.here hx rfl (hb hby at_118) rfl hr) ?_
    refine own_go (B := T36.setTop (mkF m 122 #[.val (.int ai), .val (.int bi), .val (.int fi), .val (.int ci), .val (.int l1), .val (.int l2), .val (.int cc), .val (.int fr), .val (.ref a26), .val (.long rv), .second, .val (.int en), .val (.long (own_cy l1 l2 en)), .second, .unset, .unset] [(.int cc), (.int en), (.int l2), (.long (own_term l1 en cc))])) (fun _ hr => XS.iload X36.here hx rfl (hb hby at_120) rfl hr) ?_
    obtain ⟨_, _, ⟨T37, L37, k37, n37⟩, -, X37, ⟨Lc37, hQ37, l37, y37, z37⟩, st37⟩ := Jvm.LawKit.callS X36 hx (y := (⟨"com/example/fullbranch/fullbranch/compress/KraftSumBitsPinLaw", "term", "(III)J"⟩ : MethodName)) hown (mvT hZ (hw _ (List.mem_of_getElem? (i := 31) rfl))) (mvT hZ (hw _ (List.mem_of_getElem? (i := 32) rfl))) (mvT hZ (hw _ (List.mem_of_getElem? (i := 33) rfl))) (mvT hZ (hw _ (List.mem_of_getElem? (i := 34) rfl))) (by decide) (backOf (W := 2) (rm_term l Z a0 hw [] l2 en cc T29.heap n0 Z29) hZ (hw _ (List.mem_of_getElem? (i := 34) rfl)) (hw _ (List.mem_of_getElem? (i := 33) rfl)) (by decide) (by decide)) (g := (mkF m 122 #[.val (.int ai), .val (.int bi), .val (.int fi), .val (.int ci), .val (.int l1), .val (.int l2), .val (.int cc), .val (.int fr), .val (.ref a26), .val (.long rv), .second, .val (.int en), .val (.long (own_cy l1 l2 en)), .second, .unset, .unset] [(.int cc), (.int en), (.int l2), (.long (own_term l1 en cc))])) rfl (by rw [hml]; rfl) (argsL := [(.int l2), (.int en), (.int cc)]) (rest := [(.long (own_term l1 en cc))]) (lenOf pd_term rfl) rfl (by show 2 * 0 + _ ≤ _; exact Nat.le_of_eq rfl) (hb hby at_122) (fun _ _ => ⟨rfl, e36, (by decide : 2 + 0 ≤ _), (by decide : 5 + 0 ≤ _)⟩)
    dsimp only [Pt.U, Pt.locs, Pt.cells, Pt.slots] at X37 l37 y37 z37 st37 hQ37
    subst l37 y37 z37
    obtain ⟨rfl, N37, e37⟩ := hQ37
    have M37 := Fr.app M36 N37
    refine own_go (B := T37.setTop (mkF m 125 #[.val (.int ai), .val (.int bi), .val (.int fi), .val (.int ci), .val (.int l1), .val (.int l2), .val (.int cc), .val (.int fr), .val (.ref a26), .val (.long rv), .second, .val (.int en), .val (.long (own_cy l1 l2 en)), .second, .unset, .unset] [(.long (own_term l2 en cc)), (.long (own_term l1 en cc))])) (fun t hr => st37 t hr) ?_
    refine own_go (B := T37.setTop (mkF m 126 #[.val (.int ai), .val (.int bi), .val (.int fi), .val (.int ci), .val (.int l1), .val (.int l2), .val (.int cc), .val (.int fr), .val (.ref a26), .val (.long rv), .second, .val (.int en), .val (.long (own_cy l1 l2 en)), .second, .unset, .unset] [(.long ((own_term l1 en cc) + (own_term l2 en cc)))])) (fun _ hr => XT.ladd X37.here hx rfl (hb hby at_125) rfl hr) ?_
    refine own_go (B := T37.setTop (mkF m 128 #[.val (.int ai), .val (.int bi), .val (.int fi), .val (.int ci), .val (.int l1), .val (.int l2), .val (.int cc), .val (.int fr), .val (.ref a26), .val (.long rv), .second, .val (.int en), .val (.long (own_cy l1 l2 en)), .second, .unset, .unset] [(.long (own_cy l1 l2 en)), (.long ((own_term l1 en cc) + (own_term l2 en cc)))])) (fun _ hr => XT.lload X37.here hx rfl (hb hby at_126) rfl hr) ?_
    refine own_go (B := T37.setTop (mkF m 129 #[.val (.int ai), .val (.int bi), .val (.int fi), .val (.int ci), .val (.int l1), .val (.int l2), .val (.int cc), .val (.int fr), .val (.ref a26), .val (.long rv), .second, .val (.int en), .val (.long (own_cy l1 l2 en)), .second, .unset, .unset] [(.long (((own_term l1 en cc) + (own_term l2 en cc)) + (own_cy l1 l2 en)))])) (fun _ hr => XT.ladd X37.here hx rfl (hb hby at_128) rfl hr) ?_
    refine own_go (B := T37.setTop (mkF m 130 #[.val (.int ai), .val (.int bi), .val (.int fi), .val (.int ci), .val (.int l1), .val (.int l2), .val (.int cc), .val (.int fr), .val (.ref a26), .val (.long rv), .second, .val (.int en), .val (.long (own_cy l1 l2 en)), .second, .unset, .unset] [(.long (1 : Int64)), (.long (((own_term l1 en cc) + (own_term l2 en cc)) + (own_cy l1 l2 en)))])) (fun _ hr => XT.lconstV X37.here hx rfl (1 : Int64) (hb hby at_129) (by decide) hr) ?_
    refine own_go (B := T37.setTop (mkF m 132 #[.val (.int ai), .val (.int bi), .val (.int fi), .val (.int ci), .val (.int l1), .val (.int l2), .val (.int cc), .val (.int fr), .val (.ref a26), .val (.long rv), .second, .val (.int en), .val (.long (own_cy l1 l2 en)), .second, .unset, .unset] [(.int cc), (.long (1 : Int64)), (.long (((own_term l1 en cc) + (own_term l2 en cc)) + (own_cy l1 l2 en)))])) (fun _ hr => XS.iload X37.here hx rfl (hb hby at_130) rfl hr) ?_
    refine own_go (B := T37.setTop (mkF m 133 #[.val (.int ai), .val (.int bi), .val (.int fi), .val (.int ci), .val (.int l1), .val (.int l2), .val (.int cc), .val (.int fr), .val (.ref a26), .val (.long rv), .second, .val (.int en), .val (.long (own_cy l1 l2 en)), .second, .unset, .unset] [(.long ((1 : Int64) <<< (cc.toInt64 &&& 63))), (.long (((own_term l1 en cc) + (own_term l2 en cc)) + (own_cy l1 l2 en)))])) (fun _ hr => XT.lshl X37.here hx rfl (hb hby at_132) rfl hr) ?_
    refine own_go (B := T37.setTop (mkF m 134 #[.val (.int ai), .val (.int bi), .val (.int fi), .val (.int ci), .val (.int l1), .val (.int l2), .val (.int cc), .val (.int fr), .val (.ref a26), .val (.long rv), .second, .val (.int en), .val (.long (own_cy l1 l2 en)), .second, .unset, .unset] [(.long (1 : Int64)), (.long ((1 : Int64) <<< (cc.toInt64 &&& 63))), (.long (((own_term l1 en cc) + (own_term l2 en cc)) + (own_cy l1 l2 en)))])) (fun _ hr => XT.lconstV X37.here hx rfl (1 : Int64) (hb hby at_133) (by decide) hr) ?_
    refine own_go (B := T37.setTop (mkF m 135 #[.val (.int ai), .val (.int bi), .val (.int fi), .val (.int ci), .val (.int l1), .val (.int l2), .val (.int cc), .val (.int fr), .val (.ref a26), .val (.long rv), .second, .val (.int en), .val (.long (own_cy l1 l2 en)), .second, .unset, .unset] [(.long (((1 : Int64) <<< (cc.toInt64 &&& 63)) - (1 : Int64))), (.long (((own_term l1 en cc) + (own_term l2 en cc)) + (own_cy l1 l2 en)))])) (fun _ hr => XT.lsub X37.here hx rfl (hb hby at_134) rfl hr) ?_
    refine own_go (B := T37.setTop (mkF m 136 #[.val (.int ai), .val (.int bi), .val (.int fi), .val (.int ci), .val (.int l1), .val (.int l2), .val (.int cc), .val (.int fr), .val (.ref a26), .val (.long rv), .second, .val (.int en), .val (.long (own_cy l1 l2 en)), .second, .unset, .unset] [(.long ((((own_term l1 en cc) + (own_term l2 en cc)) + (own_cy l1 l2 en)) &&& (((1 : Int64) <<< (cc.toInt64 &&& 63)) - (1 : Int64))))])) (fun _ hr => XT.land X37.here hx rfl (hb hby at_135) rfl hr) ?_
    refine own_go (B := T37.setTop (mkF m 138 #[.val (.int ai), .val (.int bi), .val (.int fi), .val (.int ci), .val (.int l1), .val (.int l2), .val (.int cc), .val (.int fr), .val (.ref a26), .val (.long rv), .second, .val (.int en), .val (.long (own_cy l1 l2 en)), .second, .val (.long ((((own_term l1 en cc) + (own_term l2 en cc)) + (own_cy l1 l2 en)) &&& (((1 : Int64) <<< (cc.toInt64 &&& 63)) - (1 : Int64)))), .second] [])) (fun _ hr => XT.lstore X37.here hx rfl (hb hby at_136) rfl (l' := #[.val (.int ai), .val (.int bi), .val (.int fi), .val (.int ci), .val (.int l1), .val (.int l2), .val (.int cc), .val (.int fr), .val (.ref a26), .val (.long rv), .second, .val (.int en), .val (.long (own_cy l1 l2 en)), .second, .val (.long ((((own_term l1 en cc) + (own_term l2 en cc)) + (own_cy l1 l2 en)) &&& (((1 : Int64) <<< (cc.toInt64 &&& 63)) - (1 : Int64)))), .second]) rfl hr) ?_
    refine own_go (B := T37.setTop (mkF m 140 #[.val (.int ai), .val (.int bi), .val (.int fi), .val (.int ci), .val (.int l1), .val (.int l2), .val (.int cc), .val (.int fr), .val (.ref a26), .val (.long rv), .second, .val (.int en), .val (.long (own_cy l1 l2 en)), .second, .val (.long ((((own_term l1 en cc) + (own_term l2 en cc)) + (own_cy l1 l2 en)) &&& (((1 : Int64) <<< (cc.toInt64 &&& 63)) - (1 : Int64)))), .second] [(.long rv)])) (fun _ hr => XT.lload X37.here hx rfl (hb hby at_138) rfl hr) ?_
    refine own_go (B := T37.setTop (mkF m 142 #[.val (.int ai), .val (.int bi), .val (.int fi), .val (.int ci), .val (.int l1), .val (.int l2), .val (.int cc), .val (.int fr), .val (.ref a26), .val (.long rv), .second, .val (.int en), .val (.long (own_cy l1 l2 en)), .second, .val (.long ((((own_term l1 en cc) + (own_term l2 en cc)) + (own_cy l1 l2 en)) &&& (((1 : Int64) <<< (cc.toInt64 &&& 63)) - (1 : Int64)))), .second] [(.long ((((own_term l1 en cc) + (own_term l2 en cc)) + (own_cy l1 l2 en)) &&& (((1 : Int64) <<< (cc.toInt64 &&& 63)) - (1 : Int64)))), (.long rv)])) (fun _ hr => XT.lload X37.here hx rfl (hb hby at_140) rfl hr) ?_
    refine own_go (B := T37.setTop (mkF m 143 #[.val (.int ai), .val (.int bi), .val (.int fi), .val (.int ci), .val (.int l1), .val (.int l2), .val (.int cc), .val (.int fr), .val (.ref a26), .val (.long rv), .second, .val (.int en), .val (.long (own_cy l1 l2 en)), .second, .val (.long ((((own_term l1 en cc) + (own_term l2 en cc)) + (own_cy l1 l2 en)) &&& (((1 : Int64) <<< (cc.toInt64 &&& 63)) - (1 : Int64)))), .second] [(.int (XT.cmpL rv ((((own_term l1 en cc) + (own_term l2 en cc)) + (own_cy l1 l2 en)) &&& (((1 : Int64) <<< (cc.toInt64 &&& 63)) - (1 : Int64)))))])) (fun _ hr => XT.lcmp X37.here hx rfl (hb hby at_142) rfl hr) ?_
    refine own_go (B := T37.setTop (mkF m 146 #[.val (.int ai), .val (.int bi), .val (.int fi), .val (.int ci), .val (.int l1), .val (.int l2), .val (.int cc), .val (.int fr), .val (.ref a26), .val (.long rv), .second, .val (.int en), .val (.long (own_cy l1 l2 en)), .second, .val (.long ((((own_term l1 en cc) + (own_term l2 en cc)) + (own_cy l1 l2 en)) &&& (((1 : Int64) <<< (cc.toInt64 &&& 63)) - (1 : Int64)))), .second] [])) (fun _ hr => XS.ifNo X37.here hx rfl (hb hby at_143) rfl (XT.ll_ne_f (own_law h1 h1a h1b h2 h2b hc hc63 hf hfs he hrv)) hr) ?_
    refine own_go (B := T37.setTop (mkF m 147 #[.val (.int ai), .val (.int bi), .val (.int fi), .val (.int ci), .val (.int l1), .val (.int l2), .val (.int cc), .val (.int fr), .val (.ref a26), .val (.long rv), .second, .val (.int en), .val (.long (own_cy l1 l2 en)), .second, .val (.long ((((own_term l1 en cc) + (own_term l2 en cc)) + (own_cy l1 l2 en)) &&& (((1 : Int64) <<< (cc.toInt64 &&& 63)) - (1 : Int64)))), .second] [(.int (1 : Int32))])) (fun _ hr => XT.iconstV X37.here hx rfl (1 : Int32) (hb hby at_146) (by decide) hr) ?_
    refine own_go (B := T37.setTop (mkF m 151 #[.val (.int ai), .val (.int bi), .val (.int fi), .val (.int ci), .val (.int l1), .val (.int l2), .val (.int cc), .val (.int fr), .val (.ref a26), .val (.long rv), .second, .val (.int en), .val (.long (own_cy l1 l2 en)), .second, .val (.long ((((own_term l1 en cc) + (own_term l2 en cc)) + (own_cy l1 l2 en)) &&& (((1 : Int64) <<< (cc.toInt64 &&& 63)) - (1 : Int64)))), .second] [(.int (1 : Int32))])) (fun _ hr => XS.goto X37.here hx rfl (pc0 := 147) (pc' := 151) rfl (hb hby at_147) (by decide) (by decide) hr) ?_
    exact own_retZ X37 hx hlk hret (by decide) (hb hby at_151) (by decide) (by decide) ⟨rfl, M37⟩
  refine own_go (B := T30.setTop (mkF m 84 #[.val (.int ai), .val (.int bi), .val (.int fi), .val (.int ci), .val (.int l1), .val (.int l2), .val (.int cc), .val (.int fr), .val (.ref a26), .val (.long rv), .second, .val (.int en), .unset, .unset, .unset, .unset] [(.int l1)])) (fun _ hr => XS.iload X30.here hx rfl (hb hby at_82) rfl hr) ?_
  refine own_go (B := T30.setTop (mkF m 86 #[.val (.int ai), .val (.int bi), .val (.int fi), .val (.int ci), .val (.int l1), .val (.int l2), .val (.int cc), .val (.int fr), .val (.ref a26), .val (.long rv), .second, .val (.int en), .unset, .unset, .unset, .unset] [(.int en), (.int l1)])) (fun _ hr => XS.iload X30.here hx rfl (hb hby at_84) rfl hr) ?_
  refine own_go (B := T30.setTop (mkF m 87 #[.val (.int ai), .val (.int bi), .val (.int fi), .val (.int ci), .val (.int l1), .val (.int l2), .val (.int cc), .val (.int fr), .val (.ref a26), .val (.long rv), .second, .val (.int en), .unset, .unset, .unset, .unset] [(.int (1 : Int32)), (.int en), (.int l1)])) (fun _ hr => XT.iconstV X30.here hx rfl (1 : Int32) (hb hby at_86) (by decide) hr) ?_
  refine own_go (B := T30.setTop (mkF m 88 #[.val (.int ai), .val (.int bi), .val (.int fi), .val (.int ci), .val (.int l1), .val (.int l2), .val (.int cc), .val (.int fr), .val (.ref a26), .val (.long rv), .second, .val (.int en), .unset, .unset, .unset, .unset] [(.int (en + (1 : Int32))), (.int l1)])) (fun _ hr => XS.iadd X30.here hx rfl (hb hby at_87) rfl hr) ?_
  by_cases c38 : l1 = (en + (1 : Int32))
  · refine own_go (B := T30.setTop (mkF m 91 #[.val (.int ai), .val (.int bi), .val (.int fi), .val (.int ci), .val (.int l1), .val (.int l2), .val (.int cc), .val (.int fr), .val (.ref a26), .val (.long rv), .second, .val (.int en), .unset, .unset, .unset, .unset] [])) (fun _ hr => XS.icmpNo X30.here hx rfl (hb hby at_88) rfl (XT.ii_ne_f c38) hr) ?_
    refine own_go (B := T30.setTop (mkF m 93 #[.val (.int ai), .val (.int bi), .val (.int fi), .val (.int ci), .val (.int l1), .val (.int l2), .val (.int cc), .val (.int fr), .val (.ref a26), .val (.long rv), .second, .val (.int en), .unset, .unset, .unset, .unset] [(.int l2)])) (fun _ hr => XS.iload X30.here hx rfl (hb hby at_91) rfl hr) ?_
    refine own_go (B := T30.setTop (mkF m 95 #[.val (.int ai), .val (.int bi), .val (.int fi), .val (.int ci), .val (.int l1), .val (.int l2), .val (.int cc), .val (.int fr), .val (.ref a26), .val (.long rv), .second, .val (.int en), .unset, .unset, .unset, .unset] [(.int en), (.int l2)])) (fun _ hr => XS.iload X30.here hx rfl (hb hby at_93) rfl hr) ?_
    refine own_go (B := T30.setTop (mkF m 96 #[.val (.int ai), .val (.int bi), .val (.int fi), .val (.int ci), .val (.int l1), .val (.int l2), .val (.int cc), .val (.int fr), .val (.ref a26), .val (.long rv), .second, .val (.int en), .unset, .unset, .unset, .unset] [(.int (1 : Int32)), (.int en), (.int l2)])) (fun _ hr => XT.iconstV X30.here hx rfl (1 : Int32) (hb hby at_95) (by decide) hr) ?_
    refine own_go (B := T30.setTop (mkF m 97 #[.val (.int ai), .val (.int bi), .val (.int fi), .val (.int ci), .val (.int l1), .val (.int l2), .val (.int cc), .val (.int fr), .val (.ref a26), .val (.long rv), .second, .val (.int en), .unset, .unset, .unset, .unset] [(.int (en + (1 : Int32))), (.int l2)])) (fun _ hr => XS.iadd X30.here hx rfl (hb hby at_96) rfl hr) ?_
    by_cases c39 : l2 = (en + (1 : Int32))
    · refine own_go (B := T30.setTop (mkF m 100 #[.val (.int ai), .val (.int bi), .val (.int fi), .val (.int ci), .val (.int l1), .val (.int l2), .val (.int cc), .val (.int fr), .val (.ref a26), .val (.long rv), .second, .val (.int en), .unset, .unset, .unset, .unset] [])) (fun _ hr => XS.icmpNo X30.here hx rfl (hb hby at_97) rfl (XT.ii_ne_f c39) hr) ?_
      refine own_go (B := T30.setTop (mkF m 101 #[.val (.int ai), .val (.int bi), .val (.int fi), .val (.int ci), .val (.int l1), .val (.int l2), .val (.int cc), .val (.int fr), .val (.ref a26), .val (.long rv), .second, .val (.int en), .unset, .unset, .unset, .unset] [(.long (1 : Int64))])) (fun _ hr => XT.lconstV X30.here hx rfl (1 : Int64) (hb hby at_100) (by decide) hr) ?_
      refine own_go (B := T30.setTop (mkF m 105 #[.val (.int ai), .val (.int bi), .val (.int fi), .val (.int ci), .val (.int l1), .val (.int l2), .val (.int cc), .val (.int fr), .val (.ref a26), .val (.long rv), .second, .val (.int en), .unset, .unset, .unset, .unset] [(.long (1 : Int64))])) (fun _ hr => XS.goto X30.here hx rfl (pc0 := 101) (pc' := 105) rfl (hb hby at_101) (by decide) (by decide) hr) ?_
      have q : (own_cy l1 l2 en) = (1 : Int64) := by simp only [own_cy, if_pos c38, if_pos c39]
      rw [q] at hk35
      exact hk35
    · refine own_go (B := T30.setTop (mkF m 104 #[.val (.int ai), .val (.int bi), .val (.int fi), .val (.int ci), .val (.int l1), .val (.int l2), .val (.int cc), .val (.int fr), .val (.ref a26), .val (.long rv), .second, .val (.int en), .unset, .unset, .unset, .unset] [])) (fun _ hr => XS.icmpYes X30.here hx rfl (pc0 := 97) (pc' := 104) rfl (hb hby at_97) rfl (XT.ii_ne_t c39) (by decide) (by decide) hr) ?_
      refine own_go (B := T30.setTop (mkF m 105 #[.val (.int ai), .val (.int bi), .val (.int fi), .val (.int ci), .val (.int l1), .val (.int l2), .val (.int cc), .val (.int fr), .val (.ref a26), .val (.long rv), .second, .val (.int en), .unset, .unset, .unset, .unset] [(.long (0 : Int64))])) (fun _ hr => XT.lconstV X30.here hx rfl (0 : Int64) (hb hby at_104) (by decide) hr) ?_
      have q : (own_cy l1 l2 en) = (0 : Int64) := by simp only [own_cy, if_pos c38, if_neg c39]
      rw [q] at hk35
      exact hk35
  · refine own_go (B := T30.setTop (mkF m 104 #[.val (.int ai), .val (.int bi), .val (.int fi), .val (.int ci), .val (.int l1), .val (.int l2), .val (.int cc), .val (.int fr), .val (.ref a26), .val (.long rv), .second, .val (.int en), .unset, .unset, .unset, .unset] [])) (fun _ hr => XS.icmpYes X30.here hx rfl (pc0 := 88) (pc' := 104) rfl (hb hby at_88) rfl (XT.ii_ne_t c38) (by decide) (by decide) hr) ?_
    refine own_go (B := T30.setTop (mkF m 105 #[.val (.int ai), .val (.int bi), .val (.int fi), .val (.int ci), .val (.int l1), .val (.int l2), .val (.int cc), .val (.int fr), .val (.ref a26), .val (.long rv), .second, .val (.int en), .unset, .unset, .unset, .unset] [(.long (0 : Int64))])) (fun _ hr => XT.lconstV X30.here hx rfl (0 : Int64) (hb hby at_104) (by decide) hr) ?_
    have q : (own_cy l1 l2 en) = (0 : Int64) := by simp only [own_cy, if_neg c38]
    rw [q] at hk35
    exact hk35
set_option maxRecDepth 65536 in
set_option maxHeartbeats 40000000 in
theorem comes_1 {Post : Tables → Env → Array Value → State → Outcome → State → Prop} (hpost : ∀ tb e args s v u, (limb_1_1.after args s (.returned v) u = true ∧ limb_1_2.after args s (.returned v) u = true ∧ True) → FrameEnd s (.returned v) u (Jvm.fieldLocs frame_1_writes args s ++ Jvm.arrayLocs frame_1_arrays args s ++ Jvm.staticLocs frame_1_statics s) 16 128 → Post tb e args s (.returned v) u) :
    ArmFor flags0 classFile x code maxLocals ret World_1 tables_1 room_1 Calls_1 rest_1 Pre_1 Post := by
  intro l hfl _ _ p e ha hc hk s m args below hf hA hF happ hP
  obtain ⟨hcalls, hrest, hpre⟩ := hP
  obtain ⟨-, -, -, hnamed, -, -, -, hat⟩ := (Spec.applies_iff hf).mp happ
  obtain ⟨hg, hn⟩ := and_e (Cond.before_iff.mp (show (Jvm.Cond.and given_1 narrow_1).before args s = true from hpre))
  obtain ⟨h1, g0⟩ := and_e hg
  obtain ⟨f0, g1⟩ := and_e g0
  obtain ⟨f1, g2⟩ := and_e g1
  obtain ⟨f2, g3⟩ := and_e g2
  obtain ⟨w0, w1, w2, w3, rfl⟩ : ∃ w0 w1 w2 w3 : Value, args = #[w0, w1, w2, w3] := by
    have hs : args.size = 4 := by simpa [Cond.value, given_1] using h1
    obtain ⟨L⟩ := args
    match L, hs with
    | [w0, w1, w2, w3], _ => exact ⟨w0, w1, w2, w3, rfl⟩
  have hw := fun d (hd : d ∈ tables_1) => atoms_spec (ws := Jvm.Cond.code x code maxLocals ret :: tables_1) hat d (List.mem_cons_of_mem _ hd)
  obtain ⟨i0, q0⟩ := is_v f0
  obtain rfl : w0 = (.int i0) := Option.some.inj q0
  obtain ⟨i1, q1⟩ := is_v f1
  obtain rfl : w1 = (.int i1) := Option.some.inj q1
  obtain ⟨i2, q2⟩ := is_v f2
  obtain rfl : w2 = (.int i2) := Option.some.inj q2
  obtain ⟨i3, q3⟩ := is_v g3
  obtain rfl : w3 = (.int i3) := Option.some.inj q3
  obtain ⟨n, o, h1, h2, h3, _, L, rfl, ⟨rfl, N⟩, hq⟩ := rm_law l s _ hw tables_1 i0 i1 i2 i3 s.heap s.heap.size (Nat.le_refl _) p e ha hc hk s m _ below hf ((Spec.applies_iff_loose hf).mp happ).1 ⟨rfl, State.Warmed39.refl s, rfl⟩ trivial
  refine ⟨n, _, h1, h2, h3, hpost _ _ _ _ _ _ ⟨Cond.after_iff.mpr rfl, Cond.after_iff.mpr (eq_i res_at (Term.int_eval (1)) rfl), trivial⟩ ⟨hq.1, hq.2.1, (hq.2.2.sift fun y hy => Or.inr (N y hy)).mono (by decide) (by decide)⟩⟩
theorem main_1_1 : Claimed_1_1 := comes_1 fun _ _ _ _ _ _ h hF => ⟨h.1, hF⟩
theorem main_1_2 : Claimed_1_2 := comes_1 fun _ _ _ _ _ _ h hF => ⟨h.2.1, hF⟩
end Jvm.Pilot.@@N@@
namespace Jvm.Pilot.@@N@@
open Jvm Jvm.ClassFile Sem Op Lib Jvm.Free Jvm.Stand Jvm.Pilot.@@N@@.Jvm.D
/-! MADE BY PROGRAM (witnessworld.py) out of the Statement's table words and the real class files: 16 classes; the members and pool entries that the words name. The judged class is class 1, her method 1. -/
namespace start1
open Jvm.ClassFile
def u (s : String) : CpInfo := .utf8 (stringToUtf16 s)
/-- a pool by its gaps: so many unusable entries, then the entry; so many at the end -/
def gap : Nat → List CpInfo → List CpInfo
  | 0, r => r
  | n + 1, r => .unusable :: gap n r
def poolList (es : List (Nat × CpInfo)) (last : Nat) : List CpInfo := es.foldr (fun e r => gap e.1 (e.2 :: r)) (gap last [])
def pool (es : List (Nat × CpInfo)) (last : Nat) : Array CpInfo := ⟨poolList es last⟩
def fileOf (pool : Array CpInfo) (this : Nat) (attrs : Array Attribute := #[]) (ms : Array MethodInfo := #[]) (fl : Nat := 33) (sup : Nat := 0) (ifs : Array Nat := #[]) (fds : Array FieldInfo := #[]) : ClassFile where
  minorVersion := 0
  majorVersion := 65
  constantPool := pool
  accessFlags := fl
  thisClass := this
  superClass := sup
  interfaces := ifs
  fields := fds
  methods := ms
  attributes := attrs
def plain (name : String) (sup : Option ClassId) : Class where
  name := name
  kind := .ordinary
  loader := none
  accessFlags := 33
  super := sup
  interfaces := #[]
  cf := none
  fields := #[]
  methods := #[]
  instanceTypes := #[]
  staticTypes := #[]
  resolved := #[]
  callSites := []
  init := .initialized
  statics := none
  mirror := none

def pool0 : Array CpInfo := pool [(5, u "<init>"), (0, u "()V"), (1, .class_ 10), (1, u "java/lang/Object")] 113

def k0c0 : Code := { maxStack := 0, maxLocals := 1, code := object_method_1_code, exceptionTable := #[], attributes := #[] }
def k0m0 : Method := { name := "<init>", desc := "()V", sig := { parameters := [], returnType := none }, accessFlags := 1, code := some k0c0 }
/-- java/lang/Object -/
def k0 : Class := { plain "java/lang/Object" none with
  accessFlags := 33
  interfaces := #[]
  cf := some (fileOf pool0 8 #[] #[{ accessFlags := 1, nameIndex := 5, descriptorIndex := 6, attributes := #[] }] 33 0 #[] #[])
  fields := #[]
  methods := #[k0m0]
  instanceTypes := #[]
  staticTypes := #[]
  resolved := Array.replicate 124 none
  statics := none }

def pool1 : Array CpInfo := pool [(2, .class_ 4), (0, .nameAndType 5 6), (0, u "java/lang/Object"), (0, u "<init>"), (0, u "()V"), (0, .integer 2147483647), (0, .class_ 9), (0, u "com/example/fullbranch/fullbranch/compress/KraftSum"), (0, .methodref 8 3), (0, .methodref 8 12), (0, .nameAndType 13 14), (0, u "add"), (0, u "(I)V"), (0, .methodref 8 16), (0, .nameAndType 17 18), (0, u "bits"), (0, u "(II)J"), (0, .methodref 20 21), (0, .class_ 22), (0, .nameAndType 23 24), (0, u "com/example/fullbranch/fullbranch/compress/KraftSumBitsPinLaw"), (0, u "term"), (0, u "(III)J"), (2, u "law"), (0, u "(IIII)Z")] 3

def k1m0 : Method := { name := "<init>", desc := "()V", sig := { parameters := [], returnType := none }, accessFlags := 1, code := none }
def k1c1 : Code := { maxStack := 6, maxLocals := 16, code := code, exceptionTable := #[], attributes := #[] }
def k1m1 : Method := { name := "law", desc := "(IIII)Z", sig := { parameters := [.int, .int, .int, .int], returnType := some .boolean }, accessFlags := 9, code := some k1c1 }
def k1c2 : Code := { maxStack := 4, maxLocals := 3, code := method_3_code, exceptionTable := #[], attributes := #[] }
def k1m2 : Method := { name := "term", desc := "(III)J", sig := { parameters := [.int, .int, .int], returnType := some .long }, accessFlags := 10, code := some k1c2 }
/-- com/example/fullbranch/fullbranch/compress/KraftSumBitsPinLaw -/
def k1 : Class := { plain "com/example/fullbranch/fullbranch/compress/KraftSumBitsPinLaw" (some 0) with
  accessFlags := 49
  interfaces := #[]
  cf := some (fileOf pool1 20 #[] #[{ accessFlags := 1, nameIndex := 5, descriptorIndex := 6, attributes := #[] }, { accessFlags := 9, nameIndex := 27, descriptorIndex := 28, attributes := #[] }, { accessFlags := 10, nameIndex := 23, descriptorIndex := 24, attributes := #[] }] 49 2 #[] #[])
  fields := #[]
  methods := #[k1m0, k1m1, k1m2]
  instanceTypes := #[]
  staticTypes := #[]
  resolved := Array.replicate 32 none
  statics := none }

def pool2 : Array CpInfo := pool [(1, .methodref 2 3), (0, .class_ 4), (0, .nameAndType 5 6), (0, u "java/lang/Object"), (0, u "<init>"), (0, u "()V"), (0, .fieldref 8 9), (0, .class_ 10), (0, .nameAndType 11 12), (0, u "com/example/fullbranch/fullbranch/compress/KraftSum"), (0, u "words"), (0, u "[J"), (0, .methodref 14 15), (0, .class_ 16), (0, .nameAndType 17 18), (0, u "java/lang/Long"), (0, u "compareUnsigned"), (0, u "(JJ)I"), (6, u "MOST_LENGTH"), (0, u "I"), (4, u "add"), (0, u "(I)V"), (4, u "bits"), (0, u "(II)J")] 4

def k2c0 : Code := { maxStack := 2, maxLocals := 1, code := prog_4_method_1_code, exceptionTable := #[], attributes := #[] }
def k2m0 : Method := { name := "<init>", desc := "()V", sig := { parameters := [], returnType := none }, accessFlags := 0, code := some k2c0 }
def k2c1 : Code := { maxStack := 6, maxLocals := 6, code := prog_4_method_2_code, exceptionTable := #[], attributes := #[] }
def k2m1 : Method := { name := "add", desc := "(I)V", sig := { parameters := [.int], returnType := none }, accessFlags := 0, code := some k2c1 }
def k2c2 : Code := { maxStack := 6, maxLocals := 8, code := prog_4_method_5_code, exceptionTable := #[], attributes := #[] }
def k2m2 : Method := { name := "bits", desc := "(II)J", sig := { parameters := [.int, .int], returnType := some .long }, accessFlags := 0, code := some k2c2 }
/-- com/example/fullbranch/fullbranch/compress/KraftSum -/
def k2 : Class := { plain "com/example/fullbranch/fullbranch/compress/KraftSum" (some 0) with
  accessFlags := 48
  interfaces := #[]
  cf := some (fileOf pool2 8 #[] #[{ accessFlags := 0, nameIndex := 5, descriptorIndex := 6, attributes := #[] }, { accessFlags := 0, nameIndex := 31, descriptorIndex := 32, attributes := #[] }, { accessFlags := 0, nameIndex := 37, descriptorIndex := 38, attributes := #[] }] 48 2 #[] #[{ accessFlags := 24, nameIndex := 25, descriptorIndex := 26, attributes := #[] }, { accessFlags := 18, nameIndex := 11, descriptorIndex := 12, attributes := #[] }])
  fields := #[{ name := "MOST_LENGTH", type := .int, accessFlags := 24, slot := 0, constantValue := 0 }, { name := "words", type := (.array .long), accessFlags := 18, slot := 0, constantValue := 0 }]
  methods := #[k2m0, k2m1, k2m2]
  instanceTypes := #[(.array .long)]
  staticTypes := #[.int]
  resolved := Array.replicate 43 none
  statics := none }

def pool3 : Array CpInfo := pool [(1, .class_ 2), (0, u "java/io/Serializable"), (0, .class_ 4), (0, u "java/lang/Object")] 2

/-- java/io/Serializable -/
def k3 : Class := { plain "java/io/Serializable" (some 0) with
  accessFlags := 1537
  interfaces := #[]
  cf := some (fileOf pool3 1 #[] #[] 1537 3 #[] #[])
  fields := #[]
  methods := #[]
  instanceTypes := #[]
  staticTypes := #[]
  resolved := Array.replicate 7 none
  statics := none }

def pool4 : Array CpInfo := pool [(2, .class_ 4), (1, u "java/lang/Object"), (0, u "<init>"), (0, u "()V"), (1, .class_ 10), (1, u "java/lang/Number"), (2, .class_ 14), (0, u "java/io/Serializable"), (0, u "serialVersionUID"), (0, u "J")] 20

def k4m0 : Method := { name := "<init>", desc := "()V", sig := { parameters := [], returnType := none }, accessFlags := 1, code := none }
/-- java/lang/Number -/
def k4 : Class := { plain "java/lang/Number" (some 0) with
  accessFlags := 1057
  interfaces := #[3]
  cf := some (fileOf pool4 8 #[] #[{ accessFlags := 1, nameIndex := 5, descriptorIndex := 6, attributes := #[] }] 1057 2 #[13] #[{ accessFlags := 26, nameIndex := 15, descriptorIndex := 16, attributes := #[] }])
  fields := #[{ name := "serialVersionUID", type := .long, accessFlags := 26, slot := 0, constantValue := 0 }]
  methods := #[k4m0]
  instanceTypes := #[]
  staticTypes := #[.long]
  resolved := Array.replicate 37 none
  statics := none }

def pool5 : Array CpInfo := pool [(1, .class_ 2), (0, u "java/lang/Comparable"), (0, .class_ 4), (0, u "java/lang/Object")] 7

/-- java/lang/Comparable -/
def k5 : Class := { plain "java/lang/Comparable" (some 0) with
  accessFlags := 1537
  interfaces := #[]
  cf := some (fileOf pool5 1 #[] #[] 1537 3 #[] #[])
  fields := #[]
  methods := #[]
  instanceTypes := #[]
  staticTypes := #[]
  resolved := Array.replicate 12 none
  statics := none }

def pool6 : Array CpInfo := pool [(1, .class_ 2), (0, u "java/lang/constant/Constable"), (0, .class_ 4), (0, u "java/lang/Object")] 6

/-- java/lang/constant/Constable -/
def k6 : Class := { plain "java/lang/constant/Constable" (some 0) with
  accessFlags := 1537
  interfaces := #[]
  cf := some (fileOf pool6 1 #[] #[] 1537 3 #[] #[])
  fields := #[]
  methods := #[]
  instanceTypes := #[]
  staticTypes := #[]
  resolved := Array.replicate 11 none
  statics := none }

def pool7 : Array CpInfo := pool [(1, .class_ 2), (0, u "java/lang/constant/ConstantDesc"), (0, .class_ 4), (0, u "java/lang/Object")] 32

/-- java/lang/constant/ConstantDesc -/
def k7 : Class := { plain "java/lang/constant/ConstantDesc" (some 0) with
  accessFlags := 1537
  interfaces := #[]
  cf := some (fileOf pool7 1 #[] #[] 1537 3 #[] #[])
  fields := #[]
  methods := #[]
  instanceTypes := #[]
  staticTypes := #[]
  resolved := Array.replicate 37 none
  statics := none }

def pool8 : Array CpInfo := pool [(1, .class_ 2), (0, u "java/lang/Long"), (165, .long 9223372036854775808), (66, .class_ 237), (1, u "java/lang/Long$LongCache"), (33, .class_ 272), (0, u "java/lang/Number"), (2, u "value"), (0, u "J"), (25, .methodref 1 303), (0, .nameAndType 304 305), (0, u "compare"), (0, u "(JJ)I"), (55, u "TYPE"), (0, u "Ljava/lang/Class;"), (0, .class_ 364), (0, u "java/lang/Comparable"), (0, .class_ 366), (0, u "java/lang/constant/Constable"), (0, .class_ 368), (0, u "java/lang/constant/ConstantDesc"), (0, u "MIN_VALUE"), (1, u "MAX_VALUE"), (4, u "SIZE"), (0, u "I"), (1, u "BYTES"), (1, u "serialVersionUID"), (87, u "compareUnsigned")] 54

def k8c0 : Code := { maxStack := 4, maxLocals := 4, code := jdk_35_method_42_code, exceptionTable := #[], attributes := #[] }
def k8m0 : Method := { name := "compare", desc := "(JJ)I", sig := { parameters := [.long, .long], returnType := some .int }, accessFlags := 9, code := some k8c0 }
def k8c1 : Code := { maxStack := 6, maxLocals := 4, code := jdk_35_method_43_code, exceptionTable := #[], attributes := #[] }
def k8m1 : Method := { name := "compareUnsigned", desc := "(JJ)I", sig := { parameters := [.long, .long], returnType := some .int }, accessFlags := 9, code := some k8c1 }
/-- java/lang/Long -/
def k8 : Class := { plain "java/lang/Long" (some 4) with
  accessFlags := 49
  interfaces := #[5, 6, 7]
  cf := some (fileOf pool8 1 #[.nestMembers #[235]] #[{ accessFlags := 9, nameIndex := 304, descriptorIndex := 305, attributes := #[] }, { accessFlags := 9, nameIndex := 469, descriptorIndex := 305, attributes := #[] }] 49 271 #[363, 365, 367] #[{ accessFlags := 25, nameIndex := 369, descriptorIndex := 276, attributes := #[] }, { accessFlags := 25, nameIndex := 371, descriptorIndex := 276, attributes := #[] }, { accessFlags := 25, nameIndex := 361, descriptorIndex := 362, attributes := #[] }, { accessFlags := 18, nameIndex := 275, descriptorIndex := 276, attributes := #[] }, { accessFlags := 25, nameIndex := 376, descriptorIndex := 377, attributes := #[] }, { accessFlags := 25, nameIndex := 379, descriptorIndex := 377, attributes := #[] }, { accessFlags := 26, nameIndex := 381, descriptorIndex := 276, attributes := #[] }])
  fields := #[{ name := "MIN_VALUE", type := .long, accessFlags := 25, slot := 0, constantValue := 0 }, { name := "MAX_VALUE", type := .long, accessFlags := 25, slot := 1, constantValue := 0 }, { name := "TYPE", type := (.object "java/lang/Class"), accessFlags := 25, slot := 2, constantValue := 0 }, { name := "value", type := .long, accessFlags := 18, slot := 0, constantValue := 0 }, { name := "SIZE", type := .int, accessFlags := 25, slot := 3, constantValue := 0 }, { name := "BYTES", type := .int, accessFlags := 25, slot := 4, constantValue := 0 }, { name := "serialVersionUID", type := .long, accessFlags := 26, slot := 5, constantValue := 0 }]
  methods := #[k8m0, k8m1]
  instanceTypes := #[.long]
  staticTypes := #[.long, .long, (.object "java/lang/Class"), .int, .int, .long]
  resolved := Array.replicate 524 none
  statics := none }

def pool9 : Array CpInfo := pool [(1, u "java/lang/Cloneable"), (0, .class_ 1), (0, u "java/lang/Object"), (0, .class_ 3)] 3

/-- java/lang/Cloneable -/
def k9 : Class := { plain "java/lang/Cloneable" (some 0) with
  accessFlags := 1537
  interfaces := #[]
  cf := some (fileOf pool9 2 #[] #[] 1537 4 #[] #[])
  fields := #[]
  methods := #[]
  instanceTypes := #[]
  staticTypes := #[]
  resolved := Array.replicate 8 none
  statics := none }

/-- the primitive byte -/
def k10 : Class := { plain "byte" none with kind := .primitive 'B', accessFlags := 0x411 }
/-- [B -/
def k11 : Class := { plain "[B" (some 0) with kind := .array 10 .byte, interfaces := #[9, 3], accessFlags := 1041 }

/-- the primitive int -/
def k12 : Class := { plain "int" none with kind := .primitive 'I', accessFlags := 0x411 }
/-- [I -/
def k13 : Class := { plain "[I" (some 0) with kind := .array 12 .int, interfaces := #[9, 3], accessFlags := 1041 }

/-- the primitive long -/
def k14 : Class := { plain "long" none with kind := .primitive 'J', accessFlags := 0x411 }
/-- [J -/
def k15 : Class := { plain "[J" (some 0) with kind := .array 14 .long, interfaces := #[9, 3], accessFlags := 1041 }

def heap : Heap := #[]
def classes : Array Class := #[k0, k1, k2, k3, k4, k5, k6, k7, k8, k9, k10, k11, k12, k13, k14, k15]
def interned : List (Array UInt16 × Addr) := []
def slotsUsed : Nat := 0
def theMethod : MethodId := ⟨1, 1⟩
def args0 : Array Value := #[.int 5, .int 7, .int 1, .int 9]
def aboutOver (below : List Frame) : State where
  vm := { classes := classes, interned := interned.toArray }
  heap := heap
  slotsUsed := slotsUsed
  threads := #[{ frames := .invoking theMethod args0 :: below }]
def below0 : List Frame := [.native { method := ⟨0, 0⟩, args := #[] }]
def about1 : State := aboutOver below0
def p0 : Program := .bare "" "" ""
def e0 : Env := launch0.env 0 0 0
theorem w_frames : about1.frames = Frame.invoking theMethod args0 :: below0 := rfl
set_option maxRecDepth 65536 in
theorem w_args : argsFit about1.vm theMethod args0 = true := by decide +kernel
set_option maxRecDepth 65536 in
theorem w_heap : heapFits about1 = true := by decide +kernel
set_option maxRecDepth 65536 in
theorem w_runnable : about1.curStatus? = some .runnable := by decide +kernel
set_option maxRecDepth 65536 in
theorem w_alone : about1.alone = true := by decide +kernel
set_option maxRecDepth 65536 in
theorem w_named : about1.methodNamed? x = some theMethod := by decide +kernel
set_option maxRecDepth 65536 in
theorem w_hears : about1.hears theMethod below0 = true := by decide +kernel
set_option maxRecDepth 65536 in
theorem w_ripe : about1.ripe theMethod args0 below0 = true := by decide +kernel
theorem w_running : about1.status = .running := rfl
set_option maxRecDepth 65536 in
theorem w_room : about1.hasRoom e0.platform room_1 = true :=
  launch0.hasRoom_least _ room_1 (by decide +kernel) (by decide +kernel) (by decide +kernel) (by decide +kernel) (by decide +kernel) (by decide +kernel)
theorem allAtoms_all (ts : List Jvm.Cond) (a : Array Jvm.Value) (st : Jvm.State) : (allAtoms ts).before a st = ts.all (fun c => c.before a st) := by
  induction ts with
  | nil => rfl
  | cons c t ih =>
    show (Jvm.Cond.and c (allAtoms t)).before a st = _
    rw [Jvm.Cond.before_and, ih, List.all_cons]
def words1 : List Jvm.Cond := Jvm.Cond.code x code maxLocals ret :: tables_1
/-- a 'code' word, met by the world's own term for the bytes: nothing is compared byte by byte -/
theorem code_word {y : MethodName} {bytes : ByteArray} {mx : Nat} {rt : Option FieldType} {a : Array Value} {s : State} {m : MethodId} {meth : Method} {c : Code} (h1 : s.methodNamed? y = some m) (h2 : s.vm.method? m = some meth) (h3 : meth.code = some c) (h4 : c.code = bytes)
    (h5 : (c.maxLocals == mx && c.exceptionTable.isEmpty && decide (c.maxStack ≤ mostOperands) && decide (meth.sig.returnType = rt) && !meth.locks && decide (parseMethodDescriptor y.desc = some meth.sig)) = true) : (Jvm.Cond.code y bytes mx rt).before a s = true := by
  simp only [Bool.and_eq_true, beq_iff_eq, Bool.not_eq_true', decide_eq_true_eq] at h5
  obtain ⟨⟨⟨⟨⟨g1, g2⟩, g3⟩, g4⟩, g5⟩, g6⟩ := h5
  simp [Cond.before, Cond.holds, Cond.value, h1, h2, h3, h4, g1, g2, g3, g4, g5, g6]
def isCode : Jvm.Cond → Bool
  | .code _ _ _ _ => true
  | _ => false
theorem all_split {L : List Jvm.Cond} {P : Jvm.Cond → Bool} (h1 : L.all (fun c => isCode c || P c) = true) (h2 : ∀ c ∈ L.filter isCode, P c = true) : L.all P = true := by
  refine List.all_eq_true.mpr fun c hc => ?_
  have h := List.all_eq_true.mp h1 c hc
  rcases Bool.eq_false_or_eq_true (isCode c) with hi | hi
  · exact h2 c (List.mem_filter.mpr ⟨hc, hi⟩)
  · simpa [hi] using h
set_option maxRecDepth 65536 in
theorem w_c0 : (Jvm.Cond.code x code maxLocals ret).before args0 about1 = true := code_word (m := ⟨1, 1⟩) (meth := k1m1) (c := k1c1) (by decide +kernel) rfl rfl rfl (by decide +kernel)
set_option maxRecDepth 65536 in
theorem w_c1 : (Jvm.Cond.code ({ cls := "com/example/fullbranch/fullbranch/compress/KraftSum", name := "<init>", desc := "()V" } : Jvm.MethodName) prog_4_method_1_code (1 : Nat) (Option.none : Option Jvm.ClassFile.FieldType)).before args0 about1 = true := code_word (m := ⟨2, 0⟩) (meth := k2m0) (c := k2c0) (by decide +kernel) rfl rfl rfl (by decide +kernel)
set_option maxRecDepth 65536 in
theorem w_c2 : (Jvm.Cond.code ({ cls := "java/lang/Object", name := "<init>", desc := "()V" } : Jvm.MethodName) object_method_1_code (1 : Nat) (Option.none : Option Jvm.ClassFile.FieldType)).before args0 about1 = true := code_word (m := ⟨0, 0⟩) (meth := k0m0) (c := k0c0) (by decide +kernel) rfl rfl rfl (by decide +kernel)
set_option maxRecDepth 65536 in
theorem w_c3 : (Jvm.Cond.code ({ cls := "com/example/fullbranch/fullbranch/compress/KraftSum", name := "add", desc := "(I)V" } : Jvm.MethodName) prog_4_method_2_code (6 : Nat) (Option.none : Option Jvm.ClassFile.FieldType)).before args0 about1 = true := code_word (m := ⟨2, 1⟩) (meth := k2m1) (c := k2c1) (by decide +kernel) rfl rfl rfl (by decide +kernel)
set_option maxRecDepth 65536 in
theorem w_c4 : (Jvm.Cond.code ({ cls := "java/lang/Long", name := "compareUnsigned", desc := "(JJ)I" } : Jvm.MethodName) jdk_35_method_43_code (4 : Nat) (Option.some Jvm.ClassFile.FieldType.int)).before args0 about1 = true := code_word (m := ⟨8, 1⟩) (meth := k8m1) (c := k8c1) (by decide +kernel) rfl rfl rfl (by decide +kernel)
set_option maxRecDepth 65536 in
theorem w_c5 : (Jvm.Cond.code ({ cls := "java/lang/Long", name := "compare", desc := "(JJ)I" } : Jvm.MethodName) jdk_35_method_42_code (4 : Nat) (Option.some Jvm.ClassFile.FieldType.int)).before args0 about1 = true := code_word (m := ⟨8, 0⟩) (meth := k8m0) (c := k8c0) (by decide +kernel) rfl rfl rfl (by decide +kernel)
set_option maxRecDepth 65536 in
theorem w_c6 : (Jvm.Cond.code ({ cls := "com/example/fullbranch/fullbranch/compress/KraftSum", name := "bits", desc := "(II)J" } : Jvm.MethodName) prog_4_method_5_code (8 : Nat) (Option.some Jvm.ClassFile.FieldType.long)).before args0 about1 = true := code_word (m := ⟨2, 2⟩) (meth := k2m2) (c := k2c2) (by decide +kernel) rfl rfl rfl (by decide +kernel)
set_option maxRecDepth 65536 in
theorem w_c7 : (Jvm.Cond.code ({ cls := "com/example/fullbranch/fullbranch/compress/KraftSumBitsPinLaw", name := "term", desc := "(III)J" } : Jvm.MethodName) method_3_code (3 : Nat) (Option.some Jvm.ClassFile.FieldType.long)).before args0 about1 = true := code_word (m := ⟨1, 2⟩) (meth := k1m2) (c := k1c2) (by decide +kernel) rfl rfl rfl (by decide +kernel)
def codes1 : List Jvm.Cond := [Jvm.Cond.code x code maxLocals ret, Jvm.Cond.code ({ cls := "com/example/fullbranch/fullbranch/compress/KraftSum", name := "<init>", desc := "()V" } : Jvm.MethodName) prog_4_method_1_code (1 : Nat) (Option.none : Option Jvm.ClassFile.FieldType), Jvm.Cond.code ({ cls := "java/lang/Object", name := "<init>", desc := "()V" } : Jvm.MethodName) object_method_1_code (1 : Nat) (Option.none : Option Jvm.ClassFile.FieldType), Jvm.Cond.code ({ cls := "com/example/fullbranch/fullbranch/compress/KraftSum", name := "add", desc := "(I)V" } : Jvm.MethodName) prog_4_method_2_code (6 : Nat) (Option.none : Option Jvm.ClassFile.FieldType), Jvm.Cond.code ({ cls := "java/lang/Long", name := "compareUnsigned", desc := "(JJ)I" } : Jvm.MethodName) jdk_35_method_43_code (4 : Nat) (Option.some Jvm.ClassFile.FieldType.int), Jvm.Cond.code ({ cls := "java/lang/Long", name := "compare", desc := "(JJ)I" } : Jvm.MethodName) jdk_35_method_42_code (4 : Nat) (Option.some Jvm.ClassFile.FieldType.int), Jvm.Cond.code ({ cls := "com/example/fullbranch/fullbranch/compress/KraftSum", name := "bits", desc := "(II)J" } : Jvm.MethodName) prog_4_method_5_code (8 : Nat) (Option.some Jvm.ClassFile.FieldType.long), Jvm.Cond.code ({ cls := "com/example/fullbranch/fullbranch/compress/KraftSumBitsPinLaw", name := "term", desc := "(III)J" } : Jvm.MethodName) method_3_code (3 : Nat) (Option.some Jvm.ClassFile.FieldType.long)]
set_option maxRecDepth 65536 in
theorem codes_eq : words1.filter isCode = codes1 := rfl
theorem w_codes : ∀ c ∈ words1.filter isCode, c.before args0 about1 = true := by
  rw [codes_eq]
  intro c hc
  simp only [codes1, List.mem_cons, List.not_mem_nil, or_false] at hc
  rcases hc with rfl | rfl | rfl | rfl | rfl | rfl | rfl | rfl
  · exact w_c0
  · exact w_c1
  · exact w_c2
  · exact w_c3
  · exact w_c4
  · exact w_c5
  · exact w_c6
  · exact w_c7
set_option maxRecDepth 65536 in
theorem w_t1 : (words1.take 24).all (fun c => isCode c || c.before args0 about1) = true := by decide +kernel
set_option maxRecDepth 65536 in
theorem w_t2 : (words1.drop 24).all (fun c => isCode c || c.before args0 about1) = true := by decide +kernel
theorem w_tables : (allAtoms (Jvm.Cond.code x code maxLocals ret :: tables_1)).before args0 about1 = true := by
  rw [allAtoms_all]
  show words1.all (fun c => c.before args0 about1) = true
  refine all_split ?_ w_codes
  rw [← List.take_append_drop 24 words1, List.all_append, w_t1, w_t2]
  rfl
set_option maxRecDepth 65536 in
theorem w_case : (Jvm.Cond.and given_1 narrow_1).before args0 about1 = true := by decide +kernel
theorem w_applies : (headSpec (Jvm.Cond.code x code maxLocals ret :: tables_1) room_1).applies x e0.platform about1 = true :=
  (Spec.applies_iff w_frames).mpr ⟨w_running, w_runnable, w_alone, w_named, w_hears, w_ripe, w_room, w_tables⟩
theorem atStart : AtStart classFile x code maxLocals ret World_1 tables_1 room_1 Calls_1 rest_1 Pre_1 launch0 p0 e0 about1 theMethod args0 below0 :=
  ⟨lists_1, trivial, launch0.admits_env _ _ _, launch0.least_env, fairChoices_fair.cas, fairChoices_fair.clock, w_frames, w_args, w_heap, w_applies, trivial, trivial, w_case⟩
end start1
theorem witness_1 : WitnessClaimed_1 := ⟨start1.p0, start1.e0, start1.about1, start1.theMethod, start1.args0, start1.below0, start1.atStart⟩
end Jvm.Pilot.@@N@@
