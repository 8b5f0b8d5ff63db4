import JvmDerived
import JvmDerived.Pilot.@@N@@Statement
import JvmDerived.Pilot.@@N@@Code
set_option linter.unusedVariables false
set_option linter.unusedSimpArgs false
@@BLOCK:NumsL.lean.txt@@
namespace Jvm.Pilot.@@N@@
open Jvm Jvm.ClassFile Sem Op Lib Jvm.Free Jvm.Stand Jvm.LawKit Jvm.RoadKit Bundle Jvm.Pilot.@@N@@.Jvm.D
section Own
variable {p : Program} {l : Launch} {e : Env} {R : Room} {s : State} {m : MethodId} {args : Array Value} {below : List Frame} {meth : Method} {c : Code} {T : State} {locs : List Loc} {cells slots : Nat}
/-- from A the run comes to an end of which P holds -/
def own_G (p : Program) (e : Env) (below : List Frame) (P : State → Outcome → Prop) (A : State) : Prop := ∃ s₂ o, Steps p.tables e below A s₂ ∧ P s₂ o
/-- the end of a body: it returned, Q holds of the answer, the heap and the places written, and the frame is kept -/
def own_P (s : State) (below : List Frame) (Q : Option Value → Heap → List Loc → Prop) (k n : Nat) (s₂ : State) (o : Outcome) : Prop := s₂.status = .running ∧ Ended s₂ below o ∧ ∃ v L, o = .returned v ∧ Q v s₂.heap L ∧ FrameEnd s o s₂ L k n
theorem own_go {P : State → Outcome → Prop} {A B : State} (k : ∀ t, Steps p.tables e below B t → Steps p.tables e below A t) (h : own_G p e below P B) : own_G p e below P A := by
  obtain ⟨s₂, o, h1, h2⟩ := h
  exact ⟨s₂, o, k _ h1, h2⟩
theorem own_gs {P : State → Outcome → Prop} {A B : State} (k : Steps p.tables e below A B) (h : own_G p e below P B) : own_G p e below P A := own_go (fun _ hr => k.trans hr) h
theorem own_end (X : Stand p l e R s m args below meth c T locs cells slots) (hlk : meth.locks = false) {v : Option Value} (hv : meth.sig.returnType = none → v = none) {A : State} {Q : Option Value → Heap → List Loc → Prop} {k n : Nat} (hk : cells ≤ k) (hn : slots ≤ n)
    (st : ∀ fs, (∀ (f : JFrame) (acts : List Action), f.method = m → f.locked = none → f.entered = [] → (doReturn e (T.setTop f) acts v).1 = T.setFrames fs) → Steps p.tables e below A (T.setFrames fs)) (q : Q v T.heap locs) : own_G p e below (own_P s below Q k n) A := by
  obtain ⟨fs, hr, hrun, hended, hW, hsame⟩ := X.leave (v := v) hv hlk
  exact ⟨_, _, st fs hr, hrun, hended, _, _, rfl, q, ⟨_, rfl⟩, hW, hsame.mono hk hn⟩
theorem own_retI (X : Stand p l e R s m args below meth c T locs cells slots) (hx : p.tables.exec = Jvm.exec) (hlk : meth.locks = false) {pc : Nat} {Ls : Array Slot} {z : Int32} {rest : List Value} {Q : Option Value → Heap → List Loc → Prop} {k n : Nat} (hret : meth.sig.returnType = some .int) (hd : decode c.code pc = .ok (.ireturn, 1)) (hk : cells ≤ k) (hn : slots ≤ n)
    (q : Q (some (.int z)) T.heap locs) : own_G p e below (own_P s below Q k n) (T.setTop (mkF m pc Ls (.int z :: rest))) :=
  own_end X hlk (fun h => by rw [hret] at h; cases h) hk hn (fun fs hr => retOut X hx hret rfl (Or.inl ⟨rfl, Or.inl rfl, z, rfl⟩) hd hr) q
theorem own_bit {z : Int32} (hz : z = 0 ∨ z = 1) : narrow .boolean (.int z) = .int z := by rcases hz with rfl | rfl <;> rfl
theorem own_retZ (X : Stand p l e R s m args below meth c T locs cells slots) (hx : p.tables.exec = Jvm.exec) (hlk : meth.locks = false) {pc : Nat} {Ls : Array Slot} {z : Int32} {rest : List Value} {Q : Option Value → Heap → List Loc → Prop} {k n : Nat} (hret : meth.sig.returnType = some .boolean) (hz : z = 0 ∨ z = 1) (hd : decode c.code pc = .ok (.ireturn, 1)) (hk : cells ≤ k) (hn : slots ≤ n)
    (q : Q (some (.int z)) T.heap locs) : own_G p e below (own_P s below Q k n) (T.setTop (mkF m pc Ls (.int z :: rest))) :=
  own_end X hlk (fun h => by rw [hret] at h; cases h) hk hn (fun fs hr => retOut X hx hret (own_bit hz) (Or.inl ⟨rfl, Or.inr (Or.inl rfl), z, rfl⟩) hd hr) q
theorem own_retJ (X : Stand p l e R s m args below meth c T locs cells slots) (hx : p.tables.exec = Jvm.exec) (hlk : meth.locks = false) {pc : Nat} {Ls : Array Slot} {z : Int64} {rest : List Value} {Q : Option Value → Heap → List Loc → Prop} {k n : Nat} (hret : meth.sig.returnType = some .long) (hd : decode c.code pc = .ok (.lreturn, 1)) (hk : cells ≤ k) (hn : slots ≤ n)
    (q : Q (some (.long z)) T.heap locs) : own_G p e below (own_P s below Q k n) (T.setTop (mkF m pc Ls (.long z :: rest))) :=
  own_end X hlk (fun h => by rw [hret] at h; cases h) hk hn (fun fs hr => retOut X hx hret rfl (Or.inr (Or.inl ⟨rfl, rfl, z, rfl⟩)) hd hr) q
theorem own_retA (X : Stand p l e R s m args below meth c T locs cells slots) (hx : p.tables.exec = Jvm.exec) (hlk : meth.locks = false) {pc : Nat} {Ls : Array Slot} {z : Addr} {t : FieldType} {rest : List Value} {Q : Option Value → Heap → List Loc → Prop} {k n : Nat} (hret : meth.sig.returnType = some t) (ht : t.isReference = true) (hn0 : narrow t (.ref z) = .ref z) (hd : decode c.code pc = .ok (.areturn, 1)) (hk : cells ≤ k) (hn : slots ≤ n)
    (q : Q (some (.ref z)) T.heap locs) : own_G p e below (own_P s below Q k n) (T.setTop (mkF m pc Ls (.ref z :: rest))) :=
  own_end X hlk (fun h => by rw [hret] at h; cases h) hk hn (fun fs hr => retOut X hx hret hn0 (Or.inr (Or.inr (Or.inr (Or.inr ⟨rfl, ht, rfl⟩)))) hd hr) q
theorem own_retV (X : Stand p l e R s m args below meth c T locs cells slots) (hx : p.tables.exec = Jvm.exec) (hlk : meth.locks = false) {pc : Nat} {Ls : Array Slot} {Q : Option Value → Heap → List Loc → Prop} {k n : Nat} (hret : meth.sig.returnType = none) (hd : decode c.code pc = .ok (.return_, 1)) (hk : cells ≤ k) (hn : slots ≤ n)
    (q : Q none T.heap locs) : own_G p e below (own_P s below Q k n) (T.setTop (mkF m pc Ls [])) :=
  own_end X hlk (fun _ => rfl) hk hn (fun fs hr => X.returnOut hx hret hd hr) q
end Own

section OwnArr
variable {p : Program} {l : Launch} {e : Env} {R : Room} {s : State} {m : MethodId} {args : Array Value} {below : List Frame} {meth : Method} {c : Code} {T : State} {locs : List Loc} {cells slots : Nat} {Z : State} {h h' : Heap} {a b : Addr} {ty : FieldType} {n : Nat} {f : Nat → Value}
/-- an array of n places, place i holds f i -/
def own_Ar (Z : State) (h : Heap) (a : Addr) (ty : FieldType) (n : Nat) (f : Nat → Value) : Prop := ∃ cl : Cell, Arr Z h a cl ty ∧ cl.slots.size = n ∧ ∀ i, i < n → cl.slots[i]? = some (f i)
theorem own_ltE {C : String} (F : Exa Z h a C) : @LT.lt Nat _ a h.size := F.lt
theorem own_Ar.lt (F : own_Ar Z h a ty n f) : @LT.lt Nat _ a h.size := by obtain ⟨cl, A, -⟩ := F; exact A.lt
theorem own_Ar.ext (F : own_Ar Z h a ty n f) (E : Ext h h') : own_Ar Z h' a ty n f := by obtain ⟨cl, A, r⟩ := F; exact ⟨cl, A.ext E, r⟩
theorem own_Ar.keep {ws : List Addr} (F : own_Ar Z h a ty n f) (K : Keep h h' ws) (q : a ∉ ws) : own_Ar Z h' a ty n f := by obtain ⟨cl, A, r⟩ := F; exact ⟨cl, ⟨K.2.1 a cl A.1 q, A.2⟩, r⟩
theorem own_Ar.other {sl : Nat} {v : Value} (F : own_Ar Z h b ty n f) (W : Wr h h' a sl v) (q : b ≠ a) : own_Ar Z h' b ty n f := by obtain ⟨cl, A, r⟩ := F; exact ⟨cl, A.other W q, r⟩
theorem own_Ar.set {j : Nat} {v : Value} (F : own_Ar Z h a ty n f) (W : Wr h h' a j v) : own_Ar Z h' a ty n (fun i => if i = j then v else f i) := by
  obtain ⟨cl, A, S, H⟩ := F
  refine ⟨_, A.same W, by rw [sz_set]; exact S, fun i hi => ?_⟩
  have hs : i < cl.slots.size := by rw [S]; exact hi
  show (cl.slots.setIfInBounds j v)[i]? = _
  rw [Array.getElem?_setIfInBounds]
  by_cases q : j = i
  · subst q; simp [hs]
  · have r : ¬ i = j := fun r => q r.symm
    show (if j = i then _ else cl.slots[i]?) = some (if i = j then v else f i)
    rw [if_neg q, if_neg r]; exact H i hi
theorem own_Ar.new {cA : ClassId} {nn : Int32} (A : Arr Z h a (newA cA ty nn) ty) (hn : nn.toInt = (n : Int)) : own_Ar Z h a ty n (fun _ => defaultValue ty) := by
  have hn' : nn.toNatClampNeg = n := by show nn.toInt.toNat = n; omega
  exact ⟨_, A, by rw [sz_new]; exact hn', fun i hi => by simp [newA, hn', hi]⟩
theorem own_Ar.congr {f' : Nat → Value} (F : own_Ar Z h a ty n f) (q : ∀ i, i < n → f i = f' i) : own_Ar Z h a ty n f' := by obtain ⟨cl, A, S, H⟩ := F; exact ⟨cl, A, S, fun i hi => by rw [← q i hi]; exact H i hi⟩
theorem own_Ar.setJ {j : Nat} {x : Int64} {g : Nat → Int64} (F : own_Ar Z h a ty n (fun i => .long (g i))) (W : Wr h h' a j (.long x)) : own_Ar Z h' a ty n (fun i => .long (if i = j then x else g i)) := (F.set W).congr fun i _ => by by_cases q : i = j <;> simp [q]
theorem own_Ar.setI {j : Nat} {x : Int32} {g : Nat → Int32} (F : own_Ar Z h a ty n (fun i => .int (g i))) (W : Wr h h' a j (.int x)) : own_Ar Z h' a ty n (fun i => .int (if i = j then x else g i)) := (F.set W).congr fun i _ => by by_cases q : i = j <;> simp [q]
theorem own_at {j : Int32} {i : Nat} (hj : j.toInt = (i : Int)) : ¬ j < 0 ∧ j.toNatClampNeg = i := ⟨by rw [Int32.lt_iff_toInt_lt, hj]; show ¬ ((i : Int) < 0); omega, by show j.toInt.toNat = i; omega⟩
theorem own_in {j : Int32} {i : Nat} (hj : j.toInt = (i : Int)) (hi : i < n) : ¬ (j < 0 ∨ n ≤ j.toNatClampNeg) := by
  obtain ⟨q1, q2⟩ := own_at hj
  rw [q2]
  rintro (r | r)
  · exact q1 r
  · omega
theorem own_plus {j k : Int32} {i q : Nat} (hj : j.toInt = (i : Int)) (hk : k.toInt = (q : Int)) (hb : i + q < 2147483648) : (j + k).toInt = ((i + q : Nat) : Int) := by
  have c := c_iadd j k
  have r := rng32 (j + k)
  omega
theorem own_minus {j k : Int32} {i q : Nat} (hj : j.toInt = (i : Int)) (hk : k.toInt = (q : Int)) (hb : q ≤ i) : (j - k).toInt = ((i - q : Nat) : Int) := by
  have c := c_isub j k
  have r := rng32 (j - k)
  have r2 := rng32 j
  omega
theorem own_stB (X : Stand p l e R s m args below meth c T locs cells slots) (hx : p.tables.exec = Jvm.exec) (hZ : Z.Warmed39 s.vm) (eT : T.heap = h) (F : own_Ar Z h a .byte n f) {j x y : Int32} {i : Nat} (hj : j.toInt = (i : Int)) (hi : i < n) (hy : x.toInt8.toInt32 = y) {g : JFrame} (hg : g.method = m) {rest : List Value} (hs : g.stack = .int x :: .int j :: .ref a :: rest) (hd : decode c.code g.pc = .ok (.bastore, 1)) :
    ∃ T' h', Stand p l e R s m args below meth c T' (locs ++ [⟨a, j.toNatClampNeg⟩]) cells slots ∧ T'.heap = h' ∧ Wr h h' a i (.int y) ∧ own_Ar Z h' a .byte n (fun k => if k = i then .int y else f k) ∧ ∀ target, Steps p.tables e below (T'.setTop { g with pc := g.pc + 1, stack := rest }) target → Steps p.tables e below (T.setTop g) target := by
  obtain ⟨cl, A, S, H⟩ := F
  obtain ⟨T', h', X', e', W', st⟩ := stB X hx hZ eT A (by rw [S]; exact own_in hj hi) hg hs hd
  have W2 : Wr h h' a i (.int y) := by
    have w := W'
    rw [(own_at hj).2] at w
    exact hy ▸ w
  exact ⟨T', h', X', e', W2, own_Ar.set ⟨cl, A, S, H⟩ W2, st⟩
theorem own_stI (X : Stand p l e R s m args below meth c T locs cells slots) (hx : p.tables.exec = Jvm.exec) (hZ : Z.Warmed39 s.vm) (eT : T.heap = h) (F : own_Ar Z h a .int n f) {j x : Int32} {i : Nat} (hj : j.toInt = (i : Int)) (hi : i < n) {g : JFrame} (hg : g.method = m) {rest : List Value} (hs : g.stack = .int x :: .int j :: .ref a :: rest) (hd : decode c.code g.pc = .ok (.iastore, 1)) :
    ∃ T' h', Stand p l e R s m args below meth c T' (locs ++ [⟨a, j.toNatClampNeg⟩]) cells slots ∧ T'.heap = h' ∧ Wr h h' a i (.int x) ∧ own_Ar Z h' a .int n (fun k => if k = i then .int x else f k) ∧ ∀ target, Steps p.tables e below (T'.setTop { g with pc := g.pc + 1, stack := rest }) target → Steps p.tables e below (T.setTop g) target := by
  obtain ⟨cl, A, S, H⟩ := F
  obtain ⟨T', h', X', e', W', st⟩ := stI X hx hZ eT A (by rw [S]; exact own_in hj hi) hg hs hd
  rw [(own_at hj).2] at W'
  exact ⟨T', h', X', e', W', own_Ar.set ⟨cl, A, S, H⟩ W', st⟩
theorem own_stJ (X : Stand p l e R s m args below meth c T locs cells slots) (hx : p.tables.exec = Jvm.exec) (hZ : Z.Warmed39 s.vm) (eT : T.heap = h) (F : own_Ar Z h a .long n f) {j : Int32} {x : Int64} {i : Nat} (hj : j.toInt = (i : Int)) (hi : i < n) {g : JFrame} (hg : g.method = m) {rest : List Value} (hs : g.stack = .long x :: .int j :: .ref a :: rest) (hd : decode c.code g.pc = .ok (.lastore, 1)) :
    ∃ T' h', Stand p l e R s m args below meth c T' (locs ++ [⟨a, j.toNatClampNeg⟩]) cells slots ∧ T'.heap = h' ∧ Wr h h' a i (.long x) ∧ own_Ar Z h' a .long n (fun k => if k = i then .long x else f k) ∧ ∀ target, Steps p.tables e below (T'.setTop { g with pc := g.pc + 1, stack := rest }) target → Steps p.tables e below (T.setTop g) target := by
  obtain ⟨cl, A, S, H⟩ := F
  obtain ⟨T', h', X', e', W', st⟩ := stJ X hx hZ eT A (by rw [S]; exact own_in hj hi) hg hs hd
  rw [(own_at hj).2] at W'
  exact ⟨T', h', X', e', W', own_Ar.set ⟨cl, A, S, H⟩ W', st⟩
theorem own_ldB (X : Stand p l e R s m args below meth c T locs cells slots) (hx : p.tables.exec = Jvm.exec) (hZ : Z.Warmed39 s.vm) (eT : T.heap = h) (F : own_Ar Z h a .byte n f) {j : Int32} {i : Nat} {v : Value} (hj : j.toInt = (i : Int)) (hi : i < n) (hv : f i = v) {g : JFrame} (hg : g.method = m) {rest : List Value} (hs : g.stack = .int j :: .ref a :: rest) (hd : decode c.code g.pc = .ok (.baload, 1)) (target : State)
    (hr : Steps p.tables e below (T.setTop { g with pc := g.pc + 1, stack := v :: rest }) target) : Steps p.tables e below (T.setTop g) target := by
  obtain ⟨cl, A, S, H⟩ := F
  exact X.baloadBytes hx (j := j) (v := v) (by rw [eT]; exact A.1) (State.isArrayOf_alike hZ.alike A.2.1) A.2.2 (by rw [S]; exact own_in hj hi) (by rw [(own_at hj).2, H i hi, hv]) hg hs hd _ hr
theorem own_ldI (X : Stand p l e R s m args below meth c T locs cells slots) (hx : p.tables.exec = Jvm.exec) (hZ : Z.Warmed39 s.vm) (eT : T.heap = h) (F : own_Ar Z h a .int n f) {j : Int32} {i : Nat} {v : Value} (hj : j.toInt = (i : Int)) (hi : i < n) (hv : f i = v) {g : JFrame} (hg : g.method = m) {rest : List Value} (hs : g.stack = .int j :: .ref a :: rest) (hd : decode c.code g.pc = .ok (.iaload, 1)) (target : State)
    (hr : Steps p.tables e below (T.setTop { g with pc := g.pc + 1, stack := v :: rest }) target) : Steps p.tables e below (T.setTop g) target := by
  obtain ⟨cl, A, S, H⟩ := F
  exact X.iaload hx (j := j) (v := v) (by rw [eT]; exact A.1) (State.isArrayOf_alike hZ.alike A.2.1) A.2.2 (by rw [S]; exact own_in hj hi) (by rw [(own_at hj).2, H i hi, hv]) hg hs hd _ hr
theorem own_ldJ (X : Stand p l e R s m args below meth c T locs cells slots) (hx : p.tables.exec = Jvm.exec) (hZ : Z.Warmed39 s.vm) (eT : T.heap = h) (F : own_Ar Z h a .long n f) {j : Int32} {i : Nat} {v : Value} (hj : j.toInt = (i : Int)) (hi : i < n) (hv : f i = v) {g : JFrame} (hg : g.method = m) {rest : List Value} (hs : g.stack = .int j :: .ref a :: rest) (hd : decode c.code g.pc = .ok (.laload, 1)) (target : State)
    (hr : Steps p.tables e below (T.setTop { g with pc := g.pc + 1, stack := v :: rest }) target) : Steps p.tables e below (T.setTop g) target := by
  obtain ⟨cl, A, S, H⟩ := F
  exact X.laload hx (j := j) (v := v) (by rw [eT]; exact A.1) (State.isArrayOf_alike hZ.alike A.2.1) A.2.2 (by rw [S]; exact own_in hj hi) (by rw [(own_at hj).2, H i hi, hv]) hg hs hd _ hr
theorem own_len (X : Stand p l e R s m args below meth c T locs cells slots) (hx : p.tables.exec = Jvm.exec) (hZ : Z.Warmed39 s.vm) (eT : T.heap = h) (F : own_Ar Z h a ty n f) {N : Int32} (hN : N.toInt = (n : Int)) {g : JFrame} (hg : g.method = m) {rest : List Value} (hs : g.stack = .ref a :: rest) (hd : decode c.code g.pc = .ok (.arraylength, 1)) (target : State)
    (hr : Steps p.tables e below (T.setTop { g with pc := g.pc + 1, stack := .int N :: rest }) target) : Steps p.tables e below (T.setTop g) target := by
  obtain ⟨cl, A, S, H⟩ := F
  have q : cl.slots.size.toInt32 = N := by
    have b := rng32 N
    rw [← Int32.toInt_inj, S, hN]
    exact len_toInt (by omega)
  exact X.arraylength hx (by rw [eT]; exact A.1) (State.isArrayOf_alike hZ.alike A.2.1) hg hs hd _ (by rw [q]; exact hr)
end OwnArr

section OwnBytes
variable {p : Program} {l : Launch} {e : Env} {R : Room} {s : State} {m : MethodId} {args : Array Value} {below : List Frame} {meth : Method} {c : Code} {T : State} {locs : List Loc} {cells slots : Nat} {Z : State} {a0 : Array Value} {h h' : Heap} {a b : Addr} {n n' : Nat} {f f' : Nat → Int32}
/-- a byte[] of n places, place i holds f i, each a byte -/
def own_By (Z : State) (h : Heap) (a : Addr) (n : Nat) (f : Nat → Int32) : Prop := own_Ar Z h a .byte n (fun i => .int (f i)) ∧ (∀ i, i < n → fits .byte (.int (f i)) = true) ∧ Exa Z h a "[B"
theorem own_By.lt (F : own_By Z h a n f) : @LT.lt Nat _ a h.size := F.1.lt
theorem own_By.ext (F : own_By Z h a n f) (E : Ext h h') : own_By Z h' a n f := ⟨F.1.ext E, F.2.1, F.2.2.ext E⟩
theorem own_By.keep {ws : List Addr} (F : own_By Z h a n f) (K : Keep h h' ws) (q : a ∉ ws) : own_By Z h' a n f := ⟨F.1.keep K q, F.2.1, F.2.2.keep K⟩
theorem own_By.other {sl : Nat} {v : Value} (F : own_By Z h b n f) (W : Wr h h' a sl v) (q : b ≠ a) : own_By Z h' b n f := ⟨F.1.other W q, F.2.1, F.2.2.wr W⟩
theorem own_By.congr (F : own_By Z h a n f) (q : ∀ i, i < n → f i = f' i) : own_By Z h a n f' := ⟨F.1.congr fun i hi => by rw [q i hi], fun i hi => by rw [← q i hi]; exact F.2.1 i hi, F.2.2⟩
theorem own_By.set {j : Nat} {x : Int32} (F : own_By Z h a n f) (hx : fits .byte (.int x) = true) (W : Wr h h' a j (.int x)) : own_By Z h' a n (fun i => if i = j then x else f i) :=
  ⟨F.1.setI W, fun i hi => by
    by_cases q : i = j
    · simp only [if_pos q]; exact hx
    · simp only [if_neg q]; exact F.2.1 i hi, F.2.2.wr W⟩
theorem own_By.new {cA : ClassId} {nn : Int32} (A : Arr Z h a (newA cA .byte nn) .byte) (E : Exa Z h a "[B") (hn : nn.toInt = (n : Int)) : own_By Z h a n (fun _ => 0) := ⟨own_Ar.new A hn, fun _ _ => rfl, E⟩
/-- the list of what the first n places hold -/
def own_vs (n : Nat) (f : Nat → Int32) : List Value := (List.range n).map fun i => .int (f i)
theorem own_vs_at {n i : Nat} {f : Nat → Int32} {d : Value} (hi : i < n) : (own_vs n f).getD i d = .int (f i) := by
  simp [own_vs, List.getD_eq_getElem?_getD, hi]
theorem own_vs_len (n : Nat) (f : Nat → Int32) : (own_vs n f).length = n := by simp [own_vs]
theorem own_small (hn : n < 2147483648) : n.toInt32.toInt = (n : Int) := len_toInt (by omega)
theorem own_By.arv (F : own_By Z h a n f) (hn : n < 2147483648) : ∃ k, Arv Z h a k .byte n.toInt32 (own_vs n f) (.int 0) := by
  obtain ⟨⟨cl, A, S, H⟩, G, E⟩ := F
  have q := own_at (own_small hn)
  refine ⟨cl.cls, cl, A, rfl, by rw [S, q.2], q.1, fun i hi => ?_, fun i hi => ?_⟩
  · rw [S] at hi
    rw [own_vs_at hi]; exact H i hi
  · rw [S] at hi
    rw [own_vs_at hi]; exact G i hi
theorem own_By.of_arv {k : ClassId} {vs : List Value} {d : Value} (F : Arv Z h a k .byte n.toInt32 vs d) (hn : n < 2147483648) (E : Exa Z h a "[B") (q : ∀ i, i < n → vs.getD i d = .int (f i)) : own_By Z h a n f := by
  obtain ⟨cl, A, -, S, -, H, G⟩ := F
  have r := own_at (own_small hn)
  rw [r.2] at S
  exact ⟨⟨cl, A, S, fun i hi => by show cl.slots[i]? = some (.int (f i)); rw [← q i hi]; exact H i (by rw [S]; exact hi)⟩, fun i hi => by rw [← q i hi]; exact G i (by rw [S]; exact hi), E⟩
theorem own_cp_at {n n' sN dN cN i : Nat} {f f' : Nat → Int32} {d : Value} (h4 : sN + cN ≤ n) (h5 : dN + cN ≤ n') (hi : i < n') :
    ((own_vs n' f').take dN ++ (List.range cN).map (fun j => (own_vs n f).getD (sN + j) d) ++ (own_vs n' f').drop (dN + cN)).getD i d = .int (if dN ≤ i ∧ i < dN + cN then f (sN + (i - dN)) else f' i) := by
  have hl : ((own_vs n' f').take dN).length = dN := by rw [List.length_take, own_vs_len]; omega
  have hm : ((List.range cN).map (fun j => (own_vs n f).getD (sN + j) d)).length = cN := by simp
  rw [List.getD_eq_getElem?_getD]
  by_cases q1 : i < dN
  · rw [if_neg (by omega), List.append_assoc, List.getElem?_append_left (by rw [hl]; exact q1), List.getElem?_take_of_lt q1, ← List.getD_eq_getElem?_getD]
    exact own_vs_at hi
  · by_cases q2 : i < dN + cN
    · rw [if_pos ⟨by omega, q2⟩, List.append_assoc, List.getElem?_append_right (by rw [hl]; omega), hl, List.getElem?_append_left (by rw [hm]; omega), List.getElem?_map, List.getElem?_range (by omega)]
      exact own_vs_at (by omega)
    · rw [if_neg (by omega), List.getElem?_append_right (by rw [List.length_append, hl, hm]; omega), List.length_append, hl, hm, List.getElem?_drop, ← List.getD_eq_getElem?_getD]
      have e1 : dN + cN + (i - (dN + cN)) = i := by omega
      rw [e1]
      exact own_vs_at hi
theorem own_cp (X : Stand p l e R s m args below meth c T locs cells slots) (hx : p.tables.exec = Jvm.exec) (hZ : Z.Warmed39 s.vm) {own : String} {index : Nat} (hown : s.vm.findClass own = some m.cls)
    (w1 : (Jvm.Cond.methodLink own index Jvm.Stand.acN).before a0 Z = true) (w2 : (Jvm.Cond.native Jvm.Stand.acN).before a0 Z = true) (w3 : (Jvm.Cond.static Jvm.Stand.acN).before a0 Z = true) (w4 : (Jvm.Cond.initialized "java/lang/System").before a0 Z = true) (eT : T.heap = h)
    (A : own_By Z h a n f) (B : own_By Z h b n' f') {sp dp cc : Int32} {sN dN cN : Nat} (hs : sp.toInt = (sN : Int)) (hd : dp.toInt = (dN : Int)) (hc : cc.toInt = (cN : Int)) (h4 : sN + cN ≤ n) (h5 : dN + cN ≤ n') (hn : n < 2147483648) (hn' : n' < 2147483648) {n0 : Nat} (N : Fr n0 locs) (ge : n0 ≤ b)
    {g : JFrame} (hg : g.method = m) (hsize : g.locals.size = c.maxLocals) {rest : List Value} (hst : g.stack = .int cc :: .int dp :: .ref b :: .int sp :: .ref a :: rest) (hdec : decode c.code g.pc = .ok (.invokestatic index, 3))
    (hf : 1 ≤ R.frames) {W : Nat} (hW : 2 * g.monitorRoom + (rest.map fun v => v.category).sum ≤ W) (hlo : W + (nativeFrameWords "java/lang/System" "arraycopy" 5 + 11) ≤ R.locals) :
    ∃ T' h' L, Stand p l e R s m args below meth c T' L cells slots ∧ T'.heap = h' ∧ Fr n0 L ∧ Keep h h' [b] ∧ own_By Z h' b n' (fun i => if dN ≤ i ∧ i < dN + cN then f (sN + (i - dN)) else f' i) ∧
      ∀ target, Steps p.tables e below (T'.setTop { g with pc := g.pc + 3, stack := rest }) target → Steps p.tables e below (T.setTop g) target := by
  obtain ⟨k1, A1⟩ := A.arv hn
  obtain ⟨k2, B1⟩ := B.arv hn'
  have qs := own_at hs
  have qd := own_at hd
  have qc := own_at hc
  have qn := own_at (own_small hn)
  have qn' := own_at (own_small hn')
  obtain ⟨T', h', L, X', e', NL, K, V, st⟩ := cpA X hx hZ hown w1 w2 w3 w4 eT A1 B1 (us := (List.range cc.toNatClampNeg).map fun i => (own_vs n f).getD (sp.toNatClampNeg + i) (.int 0)) (Or.inl ⟨rfl, rfl⟩) qs.1 qd.1 qc.1 (by rw [qs.2, qc.2, qn.2]; exact h4) (by rw [qd.2, qc.2, qn'.2]; exact h5) rfl (by rw [qd.2, qc.2, own_vs_len]; exact h5) N ge hg hsize hst hdec hf hW hlo
  rw [qs.2, qd.2, qc.2] at V
  exact ⟨T', h', L, X', e', NL, K, own_By.of_arv V hn' (B.2.2.keep K) (fun i hi => own_cp_at h4 h5 hi), st⟩
theorem own_clone (X : Stand p l e R s m args below meth c T locs cells slots) (hx : p.tables.exec = Jvm.exec) (hZ : Z.Warmed39 s.vm) {own : String} {index : Nat} (hown : s.vm.findClass own = some m.cls)
    (w1 : (Jvm.Cond.methodLink own index ⟨"[B", "clone", "()Ljava/lang/Object;"⟩).before a0 Z = true) (w2 : (Jvm.Cond.sameMethod "[B" "java/lang/Object" "clone" "()Ljava/lang/Object;").before a0 Z = true) (w3 : (Jvm.Cond.native ⟨"java/lang/Object", "clone", "()Ljava/lang/Object;"⟩).before a0 Z = true)
    (w4 : (Jvm.Cond.instanceMethod ⟨"java/lang/Object", "clone", "()Ljava/lang/Object;"⟩).before a0 Z = true) (w5 : (Jvm.Cond.selects "[B" ⟨"[B", "clone", "()Ljava/lang/Object;"⟩ ⟨"java/lang/Object", "clone", "()Ljava/lang/Object;"⟩).before a0 Z = true) (w6 : (Jvm.Cond.castable "[B" "java/lang/Cloneable").before a0 Z = true)
    (eT : T.heap = h) (F : own_By Z h a n f) (hn : n < 2147483648) {g : JFrame} (hg : g.method = m) (hsize : g.locals.size = c.maxLocals) {rest : List Value} (hst : g.stack = .ref a :: rest) (hd : decode c.code g.pc = .ok (.invokevirtual index, 3))
    (hf : 1 ≤ R.frames) {W cap : Nat} (hW : 2 * g.monitorRoom + (rest.map fun v => v.category).sum ≤ W) (hl : W + 14 ≤ R.locals) (hcap : n ≤ cap) (hc : cells + 1 ≤ R.cells) (hsl : slots + cap ≤ R.slots) :
    ∃ T' h', Stand p l e R s m args below meth c T' locs (cells + 1) (slots + cap) ∧ T'.heap = h' ∧ Ext h h' ∧ own_By Z h' h.size n f ∧
      ∀ target, Steps p.tables e below (T'.setTop { g with pc := g.pc + 3, stack := .ref h.size :: rest }) target → Steps p.tables e below (T.setTop g) target := by
  obtain ⟨k1, A1⟩ := F.arv hn
  have qn := own_at (own_small hn)
  obtain ⟨T', h', X', e', E, V, Ex, st⟩ := cloneH X hx hZ hown w1 w2 w3 w4 w5 w6 eT A1.arh F.2.2 hg hsize hst hd hf hW hl (by rw [qn.2]; exact hcap) hc hsl
  exact ⟨T', h', X', e', E, own_By.of_arv (k := k1) (vs := own_vs n f) (d := .int 0) V hn Ex (fun i hi => own_vs_at hi), st⟩
end OwnBytes

/-- a Utf8Text at t: its array B of cap places, its length, what B holds -/
def own_Txt (Z : State) (h : Heap) (t B : Addr) (cap len : Nat) (f : Nat → Int32) : Prop :=
  Exa Z h t "com/example/chronaero/chronaero/Utf8Text" ∧ Fld Z h t "com/example/chronaero/chronaero/Utf8Text" "bytes" "[B" (.ref B) ∧ (∃ z : Int32, z.toInt = (len : Int) ∧ Fld Z h t "com/example/chronaero/chronaero/Utf8Text" "length" "I" (.int z)) ∧ own_By Z h B cap f ∧ @Ne Nat B t ∧ len ≤ cap ∧ cap ≤ 8
theorem own_selP {args : Array Value} {s : State} {y y' : MethodName} (hc : y.cls = y'.cls) (hi : (Jvm.Cond.instanceMethod y).before args s = true) (hp : s.PrivateAt y) (hs : (Jvm.Cond.selects y'.cls y' y').before args s = true) (hy : y.cls ≠ "java/lang/invoke/MethodHandle" ∧ y.cls ≠ "java/lang/invoke/VarHandle") : (Jvm.Cond.selects y.cls y y).before args s = true := by
  obtain ⟨m, meth, h1, h2, -, -⟩ := Cond.instanceMethod_spec hi
  obtain ⟨c2, r2, m2, q1, q2, q3, q4, kP, hkP, hkPi⟩ := Cond.selects_spec hs
  have f1 := findClass_of_methodNamed h1
  have f2 := findClass_of_methodNamed q3
  have e1 : m.cls = m2.cls := by rw [hc, f2] at f1; exact (Option.some.inj f1).symm
  have hf := State.methodFound?_of_named h1 hy
  have hsel := selectMethod_private (p := {}) (c := m.cls) h2 (hp m meth h1 h2)
  rw [← e1] at hkP
  simp [Jvm.Cond.before, Jvm.Cond.holds, Jvm.Cond.value, f1, hf, h1, hsel, hkP, hkPi]
theorem own_more {p : Program} {l : Launch} {e : Env} {R : Room} {s : State} {m : MethodId} {args : Array Value} {below : List Frame} {meth : Method} {c : Code} {T : State} {locs : List Loc} {cells slots k n : Nat} (X : Stand p l e R s m args below meth c T locs cells slots) (h1 : cells ≤ k) (h2 : slots ≤ n) : Stand p l e R s m args below meth c T locs k n :=
  ⟨X.admits, X.cas, X.clock, X.frames, X.room, X.hears, X.method, X.code, X.here, X.tail, X.warmed, X.limits, X.bytes, X.same.mono h1 h2⟩
theorem own_b8 (x : Int32) : (x.toInt8.toInt32).toInt8.toInt32 = x.toInt8.toInt32 := by simp
theorem own_twice {x : Int32} {n : Nat} (hx : x.toInt = (n : Int)) (hn : n ≤ 8) : ((2 : Int32) * x).toInt = ((2 * n : Nat) : Int) := by
  have c := c_imul (2 : Int32) x
  have r := rng32 ((2 : Int32) * x)
  have e : (2 : Int32).toInt = 2 := rfl
  rw [e, hx] at c
  omega
theorem own_keep0 {h0 h1 h2 : Heap} {t : Addr} {sl : Nat} {v : Value} (K : Keep h0 h1 []) (W : Wr h1 h2 t sl v) : Keep h0 h2 [t] := by
  have K1 : Keep h0 h1 [t] := ⟨K.1, fun x c q _ => K.2.1 x c q nin0, K.2.2⟩
  exact K1.wr W (Or.inl (List.mem_singleton.mpr rfl))
theorem own_keepw {h0 h1 : Heap} {t B : Addr} (K : Keep h0 h1 [t]) : Keep h0 h1 [t, B] := ⟨K.1, fun x c q r => K.2.1 x c q (fun z => r (List.mem_cons.mpr (Or.inl (List.mem_singleton.mp z)))), K.2.2⟩
theorem own_keep2 {h0 h1 h2 h3 : Heap} {t B B1 : Addr} {s1 s2 : Nat} {v1 v2 : Value} (K : Keep h0 h1 [t]) (W1 : Wr h1 h2 t s1 v1) (W2 : Wr h2 h3 B1 s2 v2) (hor : B1 = B ∨ h0.size ≤ B1) : Keep h0 h3 [t, B] :=
  ((own_keepw K).wr W1 (Or.inl (by simp))).wr W2 (hor.elim (fun q => Or.inl (by simp [q])) Or.inr)
theorem own_keep3 {h0 h1 h2 h3 : Heap} {t B B1 : Addr} {s1 : Nat} {v1 : Value} (K : Keep h0 h1 [t]) (K2 : Keep h1 h2 [B1]) (W1 : Wr h2 h3 t s1 v1) (hor : B1 = B ∨ h0.size ≤ B1) : Keep h0 h3 [t, B] :=
  ((own_keepw K).trans K2 (fun x hx => by cases List.mem_singleton.mp hx; exact hor.elim (fun q => Or.inl (by simp [q])) Or.inr)).wr W1 (Or.inl (by simp))
def own_max (x y : Int32) : Int32 := (if x < y then y else x)
theorem d5_0 : decode jdk_29_method_65_code 0 = .ok (.iload_n 0, 1) := by decide +kernel
theorem d5_1 : decode jdk_29_method_65_code 1 = .ok (.iload_n 1, 1) := by decide +kernel
theorem d5_2 : decode jdk_29_method_65_code 2 = .ok (.if_icmp .lt 7, 3) := by decide +kernel
theorem d5_5 : decode jdk_29_method_65_code 5 = .ok (.iload_n 0, 1) := by decide +kernel
theorem d5_6 : decode jdk_29_method_65_code 6 = .ok (.goto 4, 3) := by decide +kernel
theorem d5_9 : decode jdk_29_method_65_code 9 = .ok (.iload_n 1, 1) := by decide +kernel
theorem d5_10 : decode jdk_29_method_65_code 10 = .ok (.ireturn, 1) := by decide +kernel
theorem pn_max : plainFor (⟨"java/lang/Math", "max", "(II)I"⟩ : MethodName) = true := by decide +kernel
theorem pd_max : parseMethodDescriptor "(II)I" = some ⟨[.int, .int], some .int⟩ := by decide +kernel
theorem ef_max (m : MethodId) (x0 : Int32) (x1 : Int32) : entryFrame m #[(.int x0), (.int x1)] 2 = mkF m 0 #[.val (.int x0), .val (.int x1)] [] := by first | (simp [entryFrame, mkF, argsToLocals, Value.category, maxLocals]; done) | rfl
def Q_max (Z : State) (xi : Int32) (yi : Int32) (h0 : Heap) (n0 : Nat) (v : Option Value) (h : Heap) (L : List Loc) : Prop := v = some (.int (own_max xi yi)) ∧ Fr n0 L ∧ h = h0
set_option maxRecDepth 65536 in
set_option maxHeartbeats 40000000 in
theorem rm_max (l : Launch) (Z : State) (a0 : Array Value) (hw : ∀ d ∈ tables_1, d.before a0 Z = true) (ws : List Jvm.Cond) (xi : Int32) (yi : Int32) (h0 : Heap) (n0 : Nat) (Z0 : n0 ≤ h0.size)  :
    MetFree l (⟨"java/lang/Math", "max", "(II)I"⟩ : MethodName) (head1 (Jvm.Cond.code (⟨"java/lang/Math", "max", "(II)I"⟩ : MethodName) jdk_29_method_65_code 2 (some .int) :: ws) ({ frames := 0, cells := 0, slots := 0, locals := 0 } : Room)) (fun as U => as = #[(.int xi), (.int yi)] ∧ Z.Warmed39 U.vm ∧ U.heap = h0) (fun _ _ _ _ _ => True) (fun _ U o U' => ∃ v L, o = .returned v ∧ Q_max Z xi yi h0 n0 v U'.heap L ∧ FrameEnd U o U' L ({ frames := 0, cells := 0, slots := 0, locals := 0 } : Room).cells ({ frames := 0, cells := 0, slots := 0, locals := 0 } : Room).slots) := by
  refine MetFree.of_bodySF pn_max hisR ?_
  intro p e s m args below meth c s₁ Bd hml0 hP hK
  obtain ⟨rfl, hZ, hh⟩ := hP
  have hx := Bd.exec
  have hby := Bd.bytes
  have hml : c.maxLocals = 2 := hml0
  have hown : s.vm.findClass "java/lang/Math" = some m.cls := findClass_of_methodNamed Bd.named
  have hnm := (name_of_methodNamed Bd.named Bd.method).1
  have hlk := BodyLoose.notSynchronized Bd
  have hret := Bd.returns
  have X0 : Stand p l e ({ frames := 0, cells := 0, slots := 0, locals := 0 } : Room) s m #[(.int xi), (.int yi)] below meth c s₁ [] 0 0 := Stand.of_body Bd
  have e0 : s₁.heap = h0 := by rw [← hh, Bd.state]; rfl
  have N0 := Fr.nil n0
  show own_G p e below (own_P s below (Q_max Z xi yi h0 n0) ({ frames := 0, cells := 0, slots := 0, locals := 0 } : Room).cells ({ frames := 0, cells := 0, slots := 0, locals := 0 } : Room).slots) _
  refine own_go (B := s₁.setTop (mkF m 0 #[.val (.int xi), .val (.int yi)] [])) (fun t₂ k => castTop (ef_max m xi yi) k) ?_
  refine own_go (B := s₁.setTop (mkF m 1 #[.val (.int xi), .val (.int yi)] [(.int xi)])) (fun _ hr => XS.iloadN X0.here hx rfl (hb hby d5_0) rfl hr) ?_
  refine own_go (B := s₁.setTop (mkF m 2 #[.val (.int xi), .val (.int yi)] [(.int yi), (.int xi)])) (fun _ hr => XS.iloadN X0.here hx rfl (hb hby d5_1) rfl hr) ?_
  by_cases c2 : xi < yi
  · refine own_go (B := s₁.setTop (mkF m 9 #[.val (.int xi), .val (.int yi)] [])) (fun _ hr => XS.icmpYes X0.here hx rfl (pc0 := 2) (pc' := 9) rfl (hb hby d5_2) rfl (XT.ii_lt_t c2) (by decide) (by decide) hr) ?_
    refine own_go (B := s₁.setTop (mkF m 10 #[.val (.int xi), .val (.int yi)] [(.int yi)])) (fun _ hr => XS.iloadN X0.here hx rfl (hb hby d5_9) rfl hr) ?_
    exact own_retI X0 hx hlk hret  (hb hby d5_10) (by decide) (by decide) ⟨by simp only [own_max, if_pos c2], N0, e0⟩
  · refine own_go (B := s₁.setTop (mkF m 5 #[.val (.int xi), .val (.int yi)] [])) (fun _ hr => XS.icmpNo X0.here hx rfl (hb hby d5_2) rfl (XT.ii_lt_f c2) hr) ?_
    refine own_go (B := s₁.setTop (mkF m 6 #[.val (.int xi), .val (.int yi)] [(.int xi)])) (fun _ hr => XS.iloadN X0.here hx rfl (hb hby d5_5) rfl hr) ?_
    refine own_go (B := s₁.setTop (mkF m 10 #[.val (.int xi), .val (.int yi)] [(.int xi)])) (fun _ hr => XS.goto X0.here hx rfl (pc0 := 6) (pc' := 10) rfl (hb hby d5_6) (by decide) (by decide) hr) ?_
    exact own_retI X0 hx hlk hret  (hb hby d5_10) (by decide) (by decide) ⟨by simp only [own_max, if_neg c2], N0, e0⟩
def own_min (x y : Int32) : Int32 := (if y < x then y else x)
theorem d7_0 : decode jdk_29_method_69_code 0 = .ok (.iload_n 0, 1) := by decide +kernel
theorem d7_1 : decode jdk_29_method_69_code 1 = .ok (.iload_n 1, 1) := by decide +kernel
theorem d7_2 : decode jdk_29_method_69_code 2 = .ok (.if_icmp .gt 7, 3) := by decide +kernel
theorem d7_5 : decode jdk_29_method_69_code 5 = .ok (.iload_n 0, 1) := by decide +kernel
theorem d7_6 : decode jdk_29_method_69_code 6 = .ok (.goto 4, 3) := by decide +kernel
theorem d7_9 : decode jdk_29_method_69_code 9 = .ok (.iload_n 1, 1) := by decide +kernel
theorem d7_10 : decode jdk_29_method_69_code 10 = .ok (.ireturn, 1) := by decide +kernel
theorem pn_min : plainFor (⟨"java/lang/Math", "min", "(II)I"⟩ : MethodName) = true := by decide +kernel
theorem pd_min : parseMethodDescriptor "(II)I" = some ⟨[.int, .int], some .int⟩ := by decide +kernel
theorem ef_min (m : MethodId) (x0 : Int32) (x1 : Int32) : entryFrame m #[(.int x0), (.int x1)] 2 = mkF m 0 #[.val (.int x0), .val (.int x1)] [] := by first | (simp [entryFrame, mkF, argsToLocals, Value.category, maxLocals]; done) | rfl
def Q_min (Z : State) (xi : Int32) (yi : Int32) (h0 : Heap) (n0 : Nat) (v : Option Value) (h : Heap) (L : List Loc) : Prop := v = some (.int (own_min xi yi)) ∧ Fr n0 L ∧ h = h0
set_option maxRecDepth 65536 in
set_option maxHeartbeats 40000000 in
theorem rm_min (l : Launch) (Z : State) (a0 : Array Value) (hw : ∀ d ∈ tables_1, d.before a0 Z = true) (ws : List Jvm.Cond) (xi : Int32) (yi : Int32) (h0 : Heap) (n0 : Nat) (Z0 : n0 ≤ h0.size)  :
    MetFree l (⟨"java/lang/Math", "min", "(II)I"⟩ : MethodName) (head1 (Jvm.Cond.code (⟨"java/lang/Math", "min", "(II)I"⟩ : MethodName) jdk_29_method_69_code 2 (some .int) :: ws) ({ frames := 0, cells := 0, slots := 0, locals := 0 } : Room)) (fun as U => as = #[(.int xi), (.int yi)] ∧ Z.Warmed39 U.vm ∧ U.heap = h0) (fun _ _ _ _ _ => True) (fun _ U o U' => ∃ v L, o = .returned v ∧ Q_min Z xi yi h0 n0 v U'.heap L ∧ FrameEnd U o U' L ({ frames := 0, cells := 0, slots := 0, locals := 0 } : Room).cells ({ frames := 0, cells := 0, slots := 0, locals := 0 } : Room).slots) := by
  refine MetFree.of_bodySF pn_min hisR ?_
  intro p e s m args below meth c s₁ Bd hml0 hP hK
  obtain ⟨rfl, hZ, hh⟩ := hP
  have hx := Bd.exec
  have hby := Bd.bytes
  have hml : c.maxLocals = 2 := hml0
  have hown : s.vm.findClass "java/lang/Math" = some m.cls := findClass_of_methodNamed Bd.named
  have hnm := (name_of_methodNamed Bd.named Bd.method).1
  have hlk := BodyLoose.notSynchronized Bd
  have hret := Bd.returns
  have X0 : Stand p l e ({ frames := 0, cells := 0, slots := 0, locals := 0 } : Room) s m #[(.int xi), (.int yi)] below meth c s₁ [] 0 0 := Stand.of_body Bd
  have e0 : s₁.heap = h0 := by rw [← hh, Bd.state]; rfl
  have N0 := Fr.nil n0
  show own_G p e below (own_P s below (Q_min Z xi yi h0 n0) ({ frames := 0, cells := 0, slots := 0, locals := 0 } : Room).cells ({ frames := 0, cells := 0, slots := 0, locals := 0 } : Room).slots) _
  refine own_go (B := s₁.setTop (mkF m 0 #[.val (.int xi), .val (.int yi)] [])) (fun t₂ k => castTop (ef_min m xi yi) k) ?_
  refine own_go (B := s₁.setTop (mkF m 1 #[.val (.int xi), .val (.int yi)] [(.int xi)])) (fun _ hr => XS.iloadN X0.here hx rfl (hb hby d7_0) rfl hr) ?_
  refine own_go (B := s₁.setTop (mkF m 2 #[.val (.int xi), .val (.int yi)] [(.int yi), (.int xi)])) (fun _ hr => XS.iloadN X0.here hx rfl (hb hby d7_1) rfl hr) ?_
  by_cases c4 : yi < xi
  · refine own_go (B := s₁.setTop (mkF m 9 #[.val (.int xi), .val (.int yi)] [])) (fun _ hr => XS.icmpYes X0.here hx rfl (pc0 := 2) (pc' := 9) rfl (hb hby d7_2) rfl (XT.ii_gt_t c4) (by decide) (by decide) hr) ?_
    refine own_go (B := s₁.setTop (mkF m 10 #[.val (.int xi), .val (.int yi)] [(.int yi)])) (fun _ hr => XS.iloadN X0.here hx rfl (hb hby d7_9) rfl hr) ?_
    exact own_retI X0 hx hlk hret  (hb hby d7_10) (by decide) (by decide) ⟨by simp only [own_min, if_pos c4], N0, e0⟩
  · refine own_go (B := s₁.setTop (mkF m 5 #[.val (.int xi), .val (.int yi)] [])) (fun _ hr => XS.icmpNo X0.here hx rfl (hb hby d7_2) rfl (XT.ii_gt_f c4) hr) ?_
    refine own_go (B := s₁.setTop (mkF m 6 #[.val (.int xi), .val (.int yi)] [(.int xi)])) (fun _ hr => XS.iloadN X0.here hx rfl (hb hby d7_5) rfl hr) ?_
    refine own_go (B := s₁.setTop (mkF m 10 #[.val (.int xi), .val (.int yi)] [(.int xi)])) (fun _ hr => XS.goto X0.here hx rfl (pc0 := 6) (pc' := 10) rfl (hb hby d7_6) (by decide) (by decide) hr) ?_
    exact own_retI X0 hx hlk hret  (hb hby d7_10) (by decide) (by decide) ⟨by simp only [own_min, if_neg c4], N0, e0⟩
theorem own_max_nat {x y : Int32} {i j k : Nat} (hx : x.toInt = (i : Int)) (hy : y.toInt = (j : Int)) (hk : k = max i j) : (own_max x y).toInt = (k : Int) := by
  simp only [own_max, Int32.lt_iff_toInt_lt, hx, hy]
  split <;> omega
theorem own_min_nat {x y : Int32} {i j k : Nat} (hx : x.toInt = (i : Int)) (hy : y.toInt = (j : Int)) (hk : k = min i j) : (own_min x y).toInt = (k : Int) := by
  simp only [own_min, Int32.lt_iff_toInt_lt, hx, hy]
  split <;> omega
theorem d6_0 : decode jdk_65_method_121_code 0 = .ok (.iload_n 1, 1) := by decide +kernel
theorem d6_1 : decode jdk_65_method_121_code 1 = .ok (.aload_n 0, 1) := by decide +kernel
theorem d6_2 : decode jdk_65_method_121_code 2 = .ok (.arraylength, 1) := by decide +kernel
theorem d6_3 : decode jdk_65_method_121_code 3 = .ok (.if_icmp .ne 11, 3) := by decide +kernel
theorem d6_6 : decode jdk_65_method_121_code 6 = .ok (.aload_n 0, 1) := by decide +kernel
theorem d6_7 : decode jdk_65_method_121_code 7 = .ok (.invokevirtual 310, 3) := by decide +kernel
theorem d6_10 : decode jdk_65_method_121_code 10 = .ok (.checkcast 311, 3) := by decide +kernel
theorem d6_13 : decode jdk_65_method_121_code 13 = .ok (.areturn, 1) := by decide +kernel
theorem d6_14 : decode jdk_65_method_121_code 14 = .ok (.iload_n 1, 1) := by decide +kernel
theorem d6_15 : decode jdk_65_method_121_code 15 = .ok (.newarray .byte, 2) := by decide +kernel
theorem d6_17 : decode jdk_65_method_121_code 17 = .ok (.astore_n 2, 1) := by decide +kernel
theorem d6_18 : decode jdk_65_method_121_code 18 = .ok (.aload_n 0, 1) := by decide +kernel
theorem d6_19 : decode jdk_65_method_121_code 19 = .ok (.iconst 0, 1) := by decide +kernel
theorem d6_20 : decode jdk_65_method_121_code 20 = .ok (.aload_n 2, 1) := by decide +kernel
theorem d6_21 : decode jdk_65_method_121_code 21 = .ok (.iconst 0, 1) := by decide +kernel
theorem d6_22 : decode jdk_65_method_121_code 22 = .ok (.aload_n 0, 1) := by decide +kernel
theorem d6_23 : decode jdk_65_method_121_code 23 = .ok (.arraylength, 1) := by decide +kernel
theorem d6_24 : decode jdk_65_method_121_code 24 = .ok (.iload_n 1, 1) := by decide +kernel
theorem d6_25 : decode jdk_65_method_121_code 25 = .ok (.invokestatic 304, 3) := by decide +kernel
theorem d6_28 : decode jdk_65_method_121_code 28 = .ok (.invokestatic 150, 3) := by decide +kernel
theorem d6_31 : decode jdk_65_method_121_code 31 = .ok (.aload_n 2, 1) := by decide +kernel
theorem d6_32 : decode jdk_65_method_121_code 32 = .ok (.areturn, 1) := by decide +kernel
theorem pn_copy : plainName "java/util/Arrays" = true := by first | (simp [plainName, overriddenIn]; done) | decide +kernel
theorem pd_copy : parseMethodDescriptor "([BI)[B" = some ⟨[(.array .byte), .int], some (.array .byte)⟩ := by decide +kernel
theorem ef_copy (m : MethodId) (x0 : Addr) (x1 : Int32) : entryFrame m #[(.ref x0), (.int x1)] 3 = mkF m 0 #[.val (.ref x0), .val (.int x1), .unset] [] := by first | (simp [entryFrame, mkF, argsToLocals, Value.category, maxLocals]; done) | rfl
def Q_copy (Z : State) (a : Addr) (mi : Int32) (n : Nat) (f : Nat → Int32) (mn : Nat) (h0 : Heap) (n0 : Nat) (v : Option Value) (h : Heap) (L : List Loc) : Prop := Fr n0 L ∧ Keep h0 h [] ∧ ∃ r : Addr, v = some (.ref r) ∧ h0.size ≤ r ∧ own_By Z h r mn (fun i => if i < n then f i else 0)
set_option maxRecDepth 65536 in
set_option maxHeartbeats 40000000 in
theorem rm_copy (l : Launch) (Z : State) (a0 : Array Value) (hw : ∀ d ∈ tables_1, d.before a0 Z = true) (ws : List Jvm.Cond) (a : Addr) (mi : Int32) (n : Nat) (f : Nat → Int32) (mn : Nat) (h0 : Heap) (n0 : Nat) (Z0 : n0 ≤ h0.size) (V : own_By Z h0 a n f) (hn : n ≤ 8) (hm : mi.toInt = (mn : Int)) (hm8 : mn ≤ 8) :
    MetFree l (⟨"java/util/Arrays", "copyOf", "([BI)[B"⟩ : MethodName) (head1 (Jvm.Cond.code (⟨"java/util/Arrays", "copyOf", "([BI)[B"⟩ : MethodName) jdk_65_method_121_code 3 (some (.array .byte)) :: ws) ({ frames := 1, cells := 1, slots := 8, locals := 40 } : Room)) (fun as U => as = #[(.ref a), (.int mi)] ∧ Z.Warmed39 U.vm ∧ U.heap = h0) (fun _ _ _ _ _ => True) (fun _ U o U' => ∃ v L, o = .returned v ∧ Q_copy Z a mi n f mn h0 n0 v U'.heap L ∧ FrameEnd U o U' L ({ frames := 1, cells := 1, slots := 8, locals := 40 } : Room).cells ({ frames := 1, cells := 1, slots := 8, locals := 40 } : Room).slots) := by
  refine MetFree.of_bodySF (plainFor_of_name pn_copy) hisR ?_
  intro p e s m args below meth c s₁ Bd hml0 hP hK
  obtain ⟨rfl, hZ, hh⟩ := hP
  have hx := Bd.exec
  have hby := Bd.bytes
  have hml : c.maxLocals = 3 := hml0
  have hown : s.vm.findClass "java/util/Arrays" = some m.cls := findClass_of_methodNamed Bd.named
  have hnm := (name_of_methodNamed Bd.named Bd.method).1
  have hlk := BodyLoose.notSynchronized Bd
  have hret := Bd.returns
  have X0 : Stand p l e ({ frames := 1, cells := 1, slots := 8, locals := 40 } : Room) s m #[(.ref a), (.int mi)] below meth c s₁ [] 0 0 := Stand.of_body Bd
  have e0 : s₁.heap = h0 := by rw [← hh, Bd.state]; rfl
  have N0 := Fr.nil n0
  show own_G p e below (own_P s below (Q_copy Z a mi n f mn h0 n0) ({ frames := 1, cells := 1, slots := 8, locals := 40 } : Room).cells ({ frames := 1, cells := 1, slots := 8, locals := 40 } : Room).slots) _
  refine own_go (B := s₁.setTop (mkF m 0 #[.val (.ref a), .val (.int mi), .unset] [])) (fun t₂ k => castTop (ef_copy m a mi) k) ?_
  have hN := own_small (n := n) (by omega)
  refine own_go (B := s₁.setTop (mkF m 1 #[.val (.ref a), .val (.int mi), .unset] [(.int mi)])) (fun _ hr => XS.iloadN X0.here hx rfl (hb hby d6_0) rfl hr) ?_
  refine own_go (B := s₁.setTop (mkF m 2 #[.val (.ref a), .val (.int mi), .unset] [(.ref a), (.int mi)])) (fun _ hr => XS.aloadN X0.here hx rfl (hb hby d6_1) rfl rfl hr) ?_
  refine own_go (B := s₁.setTop (mkF m 3 #[.val (.ref a), .val (.int mi), .unset] [(.int n.toInt32), (.int mi)])) (fun _ hr => own_len X0 hx hZ e0 V.1 hN (g := (mkF m 2 #[.val (.ref a), .val (.int mi), .unset] [(.ref a), (.int mi)])) rfl rfl (hb hby d6_2) _ hr) ?_
  by_cases c5 : mi = n.toInt32
  · refine own_go (B := s₁.setTop (mkF m 6 #[.val (.ref a), .val (.int mi), .unset] [])) (fun _ hr => XS.icmpNo X0.here hx rfl (hb hby d6_3) rfl (XT.ii_ne_f c5) hr) ?_
    have hmn : mn = n := by have q := congrArg Int32.toInt c5; rw [hm, hN] at q; omega
    refine own_go (B := s₁.setTop (mkF m 7 #[.val (.ref a), .val (.int mi), .unset] [(.ref a)])) (fun _ hr => XS.aloadN X0.here hx rfl (hb hby d6_6) rfl rfl hr) ?_
    obtain ⟨T6, h6, X6, e6, E6, V6, st6⟩ := own_clone X0 hx hZ hown (hw _ (List.mem_of_getElem? (i := 44) rfl)) (hw _ (List.mem_of_getElem? (i := 45) rfl)) (hw _ (List.mem_of_getElem? (i := 49) rfl)) (hw _ (List.mem_of_getElem? (i := 47) rfl)) (hw _ (List.mem_of_getElem? (i := 48) rfl)) (hw _ (List.mem_of_getElem? (i := 50) rfl)) e0 V (by omega) (g := (mkF m 7 #[.val (.ref a), .val (.int mi), .unset] [(.ref a)])) rfl (by rw [hml]; rfl) rfl (hb hby d6_7) (by decide) (W := 0) (cap := 8) (by show 2 * 0 + _ ≤ _; exact Nat.le_of_eq rfl) (by decide) hn (by decide) (by decide)
    obtain ⟨r, hr0⟩ : ∃ z, z = h0.size := ⟨_, rfl⟩
    rw [← hr0] at V6 st6
    refine own_go (B := T6.setTop (mkF m 10 #[.val (.ref a), .val (.int mi), .unset] [(.ref r)])) (fun t₂ hr => st6 t₂ hr) ?_
    obtain ⟨T7, X7, e7, st7⟩ := castY X6 hx hZ hown (hw _ (List.mem_of_getElem? (i := 51) rfl)) e6 (Ins.self V6.2.2) (g := (mkF m 10 #[.val (.ref a), .val (.int mi), .unset] [(.ref r)])) rfl rfl (hb hby d6_10)
    refine own_go (B := T7.setTop (mkF m 13 #[.val (.ref a), .val (.int mi), .unset] [(.ref r)])) (fun t₂ hr => st7 t₂ hr) ?_
    exact own_retA X7 hx hlk hret rfl rfl (hb hby d6_13) (by decide) (by decide) (by rw [e7]; exact ⟨N0, (Keep.refl _ _).ext E6, r, rfl, by omega, by rw [hmn]; exact V6.congr (fun i hi => (if_pos hi).symm)⟩)
  · refine own_go (B := s₁.setTop (mkF m 14 #[.val (.ref a), .val (.int mi), .unset] [])) (fun _ hr => XS.icmpYes X0.here hx rfl (pc0 := 3) (pc' := 14) rfl (hb hby d6_3) rfl (XT.ii_ne_t c5) (by decide) (by decide) hr) ?_
    refine own_go (B := s₁.setTop (mkF m 15 #[.val (.ref a), .val (.int mi), .unset] [(.int mi)])) (fun _ hr => XS.iloadN X0.here hx rfl (hb hby d6_14) rfl hr) ?_
    obtain ⟨T8, h8, cA8, X8, e8, E8, A8, Ex8, st8⟩ := newPE X0 hx hZ (hw _ (List.mem_of_getElem? (i := 9) rfl)) e0 (g := (mkF m 15 #[.val (.ref a), .val (.int mi), .unset] [(.int mi)])) rfl (hb hby d6_15) rfl (own_at hm).1 (cap := 8) (by rw [(own_at hm).2]; omega) (by decide) (by decide) (by decide) (ad := "[B") (by decide)
    obtain ⟨a8, g8⟩ : ∃ z, z = h0.size := ⟨_, rfl⟩
    rw [← g8] at A8 Ex8 st8
    have V8 := own_By.new A8 Ex8 hm
    refine own_go (B := T8.setTop (mkF m 17 #[.val (.ref a), .val (.int mi), .unset] [(.ref a8)])) (fun t₂ hr => st8 t₂ hr) ?_
    refine own_go (B := T8.setTop (mkF m 18 #[.val (.ref a), .val (.int mi), .val (.ref a8)] [])) (fun _ hr => XS.astoreN X8.here hx rfl (hb hby d6_17) rfl rfl (l' := #[.val (.ref a), .val (.int mi), .val (.ref a8)]) rfl hr) ?_
    refine own_go (B := T8.setTop (mkF m 19 #[.val (.ref a), .val (.int mi), .val (.ref a8)] [(.ref a)])) (fun _ hr => XS.aloadN X8.here hx rfl (hb hby d6_18) rfl rfl hr) ?_
    refine own_go (B := T8.setTop (mkF m 20 #[.val (.ref a), .val (.int mi), .val (.ref a8)] [(.int (0 : Int32)), (.ref a)])) (fun _ hr => XT.iconstV X8.here hx rfl (0 : Int32) (hb hby d6_19) (by decide) hr) ?_
    refine own_go (B := T8.setTop (mkF m 21 #[.val (.ref a), .val (.int mi), .val (.ref a8)] [(.ref a8), (.int (0 : Int32)), (.ref a)])) (fun _ hr => XS.aloadN X8.here hx rfl (hb hby d6_20) rfl rfl hr) ?_
    refine own_go (B := T8.setTop (mkF m 22 #[.val (.ref a), .val (.int mi), .val (.ref a8)] [(.int (0 : Int32)), (.ref a8), (.int (0 : Int32)), (.ref a)])) (fun _ hr => XT.iconstV X8.here hx rfl (0 : Int32) (hb hby d6_21) (by decide) hr) ?_
    refine own_go (B := T8.setTop (mkF m 23 #[.val (.ref a), .val (.int mi), .val (.ref a8)] [(.ref a), (.int (0 : Int32)), (.ref a8), (.int (0 : Int32)), (.ref a)])) (fun _ hr => XS.aloadN X8.here hx rfl (hb hby d6_22) rfl rfl hr) ?_
    refine own_go (B := T8.setTop (mkF m 24 #[.val (.ref a), .val (.int mi), .val (.ref a8)] [(.int n.toInt32), (.int (0 : Int32)), (.ref a8), (.int (0 : Int32)), (.ref a)])) (fun _ hr => own_len X8 hx hZ e8 (V.ext E8).1 hN (g := (mkF m 23 #[.val (.ref a), .val (.int mi), .val (.ref a8)] [(.ref a), (.int (0 : Int32)), (.ref a8), (.int (0 : Int32)), (.ref a)])) rfl rfl (hb hby d6_23) _ hr) ?_
    refine own_go (B := T8.setTop (mkF m 25 #[.val (.ref a), .val (.int mi), .val (.ref a8)] [(.int mi), (.int n.toInt32), (.int (0 : Int32)), (.ref a8), (.int (0 : Int32)), (.ref a)])) (fun _ hr => XS.iloadN X8.here hx rfl (hb hby d6_24) rfl hr) ?_
    have Z1 : n0 ≤ h8.size := Nat.le_trans Z0 E8.1
    obtain ⟨_, _, ⟨T9, L9, k9, n9⟩, -, X9, ⟨Lc9, hQ9, l9, y9, z9⟩, st9⟩ := Jvm.LawKit.callS X8 hx (y := (⟨"java/lang/Math", "min", "(II)I"⟩ : MethodName)) hown (mvT hZ (hw _ (List.mem_of_getElem? (i := 31) rfl))) (mvT hZ (hw _ (List.mem_of_getElem? (i := 32) rfl))) (mvT hZ (hw _ (List.mem_of_getElem? (i := 25) rfl))) (mvT hZ (hw _ (List.mem_of_getElem? (i := 33) rfl))) (by decide) (backOf (W := 4) (rm_min l Z a0 hw [] n.toInt32 mi h8 n0 Z1) hZ (hw _ (List.mem_of_getElem? (i := 33) rfl)) (hw _ (List.mem_of_getElem? (i := 25) rfl)) (by decide) (by decide)) (g := (mkF m 25 #[.val (.ref a), .val (.int mi), .val (.ref a8)] [(.int mi), (.int n.toInt32), (.int (0 : Int32)), (.ref a8), (.int (0 : Int32)), (.ref a)])) rfl (by rw [hml]; rfl) (argsL := [(.int n.toInt32), (.int mi)]) (rest := [(.int (0 : Int32)), (.ref a8), (.int (0 : Int32)), (.ref a)]) (lenOf pd_min rfl) rfl (by show 2 * 0 + _ ≤ _; exact Nat.le_of_eq rfl) (hb hby d6_25) (fun _ _ => ⟨rfl, e8, (by decide : 1 + 0 ≤ _), (by decide : 8 + 0 ≤ _)⟩)
    dsimp only [Pt.U, Pt.locs, Pt.cells, Pt.slots] at X9 l9 y9 z9 st9 hQ9
    subst l9 y9 z9
    obtain ⟨rfl, N9, e9⟩ := hQ9
    have M9 := Fr.app N0 N9
    refine own_go (B := T9.setTop (mkF m 28 #[.val (.ref a), .val (.int mi), .val (.ref a8)] [(.int (own_min n.toInt32 mi)), (.int (0 : Int32)), (.ref a8), (.int (0 : Int32)), (.ref a)])) (fun t₂ hr => st9 t₂ hr) ?_
    have ge : n0 ≤ a8 := by omega
    obtain ⟨T10, h10, L10, X10, e10, N10, K10, V10, st10⟩ := own_cp X9 hx hZ hown (hw _ (List.mem_of_getElem? (i := 34) rfl)) (hw _ (List.mem_of_getElem? (i := 37) rfl)) (hw _ (List.mem_of_getElem? (i := 35) rfl)) (hw _ (List.mem_of_getElem? (i := 36) rfl)) e9 (V.ext E8) V8 (sN := 0) (by decide) (dN := 0) (by decide) (own_min_nat (k := min n mn) hN hm rfl) (by omega) (by omega) (by omega) (by omega) M9 ge (g := (mkF m 28 #[.val (.ref a), .val (.int mi), .val (.ref a8)] [(.int (own_min n.toInt32 mi)), (.int (0 : Int32)), (.ref a8), (.int (0 : Int32)), (.ref a)])) rfl (by rw [hml]; rfl) rfl (hb hby d6_28) (by decide) (W := 0) (by show 2 * 0 + _ ≤ _; exact Nat.le_of_eq rfl) (by decide)
    refine own_go (B := T10.setTop (mkF m 31 #[.val (.ref a), .val (.int mi), .val (.ref a8)] [])) (fun t₂ hr => st10 t₂ hr) ?_
    refine own_go (B := T10.setTop (mkF m 32 #[.val (.ref a), .val (.int mi), .val (.ref a8)] [(.ref a8)])) (fun _ hr => XS.aloadN X10.here hx rfl (hb hby d6_31) rfl rfl hr) ?_
    have K : Keep h0 h10 [] := ((Keep.refl _ _).ext E8).trans K10 (fun x hx => Or.inr (by cases List.mem_singleton.mp hx; omega))
    exact own_retA X10 hx hlk hret rfl rfl (hb hby d6_32) (by decide) (by decide) (by rw [e10]; exact ⟨N10, K, a8, rfl, by omega, V10.congr (fun i hi => by by_cases q : i < n <;> simp [q] <;> omega)⟩)
theorem d1_0 : decode prog_69_method_1_code 0 = .ok (.aload_n 0, 1) := by decide +kernel
theorem d1_1 : decode prog_69_method_1_code 1 = .ok (.invokespecial 1, 3) := by decide +kernel
theorem d1_4 : decode prog_69_method_1_code 4 = .ok (.aload_n 0, 1) := by decide +kernel
theorem d1_5 : decode prog_69_method_1_code 5 = .ok (.iload_n 1, 1) := by decide +kernel
theorem d1_6 : decode prog_69_method_1_code 6 = .ok (.newarray .byte, 2) := by decide +kernel
theorem d1_8 : decode prog_69_method_1_code 8 = .ok (.putfield 7, 3) := by decide +kernel
theorem d1_11 : decode prog_69_method_1_code 11 = .ok (.return_, 1) := by decide +kernel
theorem pn_init : plainName "com/example/chronaero/chronaero/Utf8Text" = true := by first | (simp [plainName, overriddenIn]; done) | decide +kernel
theorem pd_init : parseMethodDescriptor "(I)V" = some ⟨[.int], none⟩ := by decide +kernel
theorem ef_init (m : MethodId) (x0 : Addr) (x1 : Int32) : entryFrame m #[(.ref x0), (.int x1)] 2 = mkF m 0 #[.val (.ref x0), .val (.int x1)] [] := by first | (simp [entryFrame, mkF, argsToLocals, Value.category, maxLocals]; done) | rfl
def Q_init (Z : State) (t : Addr) (ci : Int32) (cn : Nat) (h0 : Heap) (n0 : Nat) (v : Option Value) (h : Heap) (L : List Loc) : Prop := v = none ∧ Fr n0 L ∧ n0 ≤ h.size ∧ Keep h0 h [t] ∧ ∃ B : Addr, n0 ≤ B ∧ h0.size ≤ B ∧ own_Txt Z h t B cn 0 (fun _ => 0)
set_option maxRecDepth 65536 in
set_option maxHeartbeats 40000000 in
theorem rm_init (l : Launch) (Z : State) (a0 : Array Value) (hw : ∀ d ∈ tables_1, d.before a0 Z = true) (ws : List Jvm.Cond) (t : Addr) (ci : Int32) (cn : Nat) (h0 : Heap) (n0 : Nat) (Z0 : n0 ≤ h0.size) (F1 : Fld Z h0 t "com/example/chronaero/chronaero/Utf8Text" "bytes" "[B" .null) (F2 : Fld Z h0 t "com/example/chronaero/chronaero/Utf8Text" "length" "I" (.int (0 : Int32))) (E1 : Exa Z h0 t "com/example/chronaero/chronaero/Utf8Text") (ge : n0 ≤ t) (hc : ci.toInt = (cn : Int)) (hc8 : cn ≤ 8) :
    MetFree l (⟨"com/example/chronaero/chronaero/Utf8Text", "<init>", "(I)V"⟩ : MethodName) (head1 (Jvm.Cond.code (⟨"com/example/chronaero/chronaero/Utf8Text", "<init>", "(I)V"⟩ : MethodName) prog_69_method_1_code 2 (none) :: ws) ({ frames := 1, cells := 1, slots := 8, locals := 12 } : Room)) (fun as U => as = #[(.ref t), (.int ci)] ∧ Z.Warmed39 U.vm ∧ U.heap = h0) (fun _ _ _ _ _ => True) (fun _ U o U' => ∃ v L, o = .returned v ∧ Q_init Z t ci cn h0 n0 v U'.heap L ∧ FrameEnd U o U' L ({ frames := 1, cells := 1, slots := 8, locals := 12 } : Room).cells ({ frames := 1, cells := 1, slots := 8, locals := 12 } : Room).slots) := by
  refine MetFree.of_bodySF (plainFor_of_name pn_init) hisR ?_
  intro p e s m args below meth c s₁ Bd hml0 hP hK
  obtain ⟨rfl, hZ, hh⟩ := hP
  have hx := Bd.exec
  have hby := Bd.bytes
  have hml : c.maxLocals = 2 := hml0
  have hown : s.vm.findClass "com/example/chronaero/chronaero/Utf8Text" = some m.cls := findClass_of_methodNamed Bd.named
  have hnm := (name_of_methodNamed Bd.named Bd.method).1
  have hlk := BodyLoose.notSynchronized Bd
  have hret := Bd.returns
  have X0 : Stand p l e ({ frames := 1, cells := 1, slots := 8, locals := 12 } : Room) s m #[(.ref t), (.int ci)] below meth c s₁ [] 0 0 := Stand.of_body Bd
  have e0 : s₁.heap = h0 := by rw [← hh, Bd.state]; rfl
  have N0 := Fr.nil n0
  show own_G p e below (own_P s below (Q_init Z t ci cn h0 n0) ({ frames := 1, cells := 1, slots := 8, locals := 12 } : Room).cells ({ frames := 1, cells := 1, slots := 8, locals := 12 } : Room).slots) _
  refine own_go (B := s₁.setTop (mkF m 0 #[.val (.ref t), .val (.int ci)] [])) (fun t₂ k => castTop (ef_init m t ci) k) ?_
  refine own_go (B := s₁.setTop (mkF m 1 #[.val (.ref t), .val (.int ci)] [(.ref t)])) (fun _ hr => XS.aloadN X0.here hx rfl (hb hby d1_0) rfl rfl hr) ?_
  obtain ⟨T11, X11, e11, st11⟩ := initO X0 hx hZ hown (hw _ (List.mem_of_getElem? (i := 6) rfl)) (hw _ (List.mem_of_getElem? (i := 7) rfl)) (hw _ (List.mem_of_getElem? (i := 8) rfl)) e0 (g := (mkF m 1 #[.val (.ref t), .val (.int ci)] [(.ref t)])) rfl (by rw [hml]; rfl) rfl (hb hby d1_1) (by decide) (W := 0) (by show 2 * 0 + _ ≤ _; exact Nat.le_of_eq rfl) (by decide)
  refine own_go (B := T11.setTop (mkF m 4 #[.val (.ref t), .val (.int ci)] [])) (fun t₂ hr => st11 t₂ hr) ?_
  refine own_go (B := T11.setTop (mkF m 5 #[.val (.ref t), .val (.int ci)] [(.ref t)])) (fun _ hr => XS.aloadN X11.here hx rfl (hb hby d1_4) rfl rfl hr) ?_
  refine own_go (B := T11.setTop (mkF m 6 #[.val (.ref t), .val (.int ci)] [(.int ci), (.ref t)])) (fun _ hr => XS.iloadN X11.here hx rfl (hb hby d1_5) rfl hr) ?_
  have nbl : Jvm.RoadKit.slotOf Z "com/example/chronaero/chronaero/Utf8Text" "bytes" "[B" ≠ Jvm.RoadKit.slotOf Z "com/example/chronaero/chronaero/Utf8Text" "length" "I" := slot_ne (Or.inl (hw _ (List.mem_of_getElem? (i := 11) rfl))) (Or.inl (hw _ (List.mem_of_getElem? (i := 22) rfl))) (t := .array .byte) (t' := .int) (by decide) (by decide) (by decide)
  have lt0 := own_ltE E1
  obtain ⟨T12, h12, cA12, X12, e12, E12, A12, Ex12, st12⟩ := newPE X11 hx hZ (hw _ (List.mem_of_getElem? (i := 9) rfl)) e11 (g := (mkF m 6 #[.val (.ref t), .val (.int ci)] [(.int ci), (.ref t)])) rfl (hb hby d1_6) rfl (own_at hc).1 (cap := 8) (by rw [(own_at hc).2]; omega) (by decide) (by decide) (by decide) (ad := "[B") (by decide)
  obtain ⟨a12, g12⟩ : ∃ z, z = h0.size := ⟨_, rfl⟩
  rw [← g12] at A12 Ex12 st12
  have V12 := own_By.new A12 Ex12 hc
  refine own_go (B := T12.setTop (mkF m 8 #[.val (.ref t), .val (.int ci)] [(.ref a12), (.ref t)])) (fun t₂ hr => st12 t₂ hr) ?_
  obtain ⟨T13, h13, X13, e13, W13, st13⟩ := putF X12 hx hZ hown (host := "") (Or.inl (hw _ (List.mem_of_getElem? (i := 10) rfl))) Via.refl e12 (F1.ext E12) (E1.ext E12) (Or.inl (hw _ (List.mem_of_getElem? (i := 11) rfl))) (hw _ (List.mem_of_getElem? (i := 1) rfl)) (ty := (.array .byte)) (by decide) rfl rfl (g := (mkF m 8 #[.val (.ref t), .val (.int ci)] [(.ref a12), (.ref t)])) rfl rfl (hb hby d1_8)
  have N13 := Fr.snoc X13 N0 ge
  refine own_go (B := T13.setTop (mkF m 11 #[.val (.ref t), .val (.int ci)] [])) (fun t₂ hr => st13 t₂ hr) ?_
  have nBt : @Ne Nat a12 t := by omega
  have zs : n0 ≤ h13.size := by rw [W13.size]; exact Nat.le_trans Z0 E12.1
  have K : Keep h0 h13 [t] := ((Keep.refl _ _).ext E12).wr W13 (Or.inl (List.mem_of_getElem? (i := 0) rfl))
  exact own_retV X13 hx hlk hret  (hb hby d1_11) (by decide) (by decide) (by rw [e13]; exact ⟨rfl, N13, zs, K, a12, by omega, by omega, (E1.ext E12).wr W13, (F1.ext E12).same W13, ⟨0, by decide, (F2.ext E12).other W13 (Or.inr nbl.symm)⟩, V12.other W13 nBt, nBt, by omega, hc8⟩)
theorem d4_0 : decode prog_69_method_14_code 0 = .ok (.aload_n 0, 1) := by decide +kernel
theorem d4_1 : decode prog_69_method_14_code 1 = .ok (.getfield 13, 3) := by decide +kernel
theorem d4_4 : decode prog_69_method_14_code 4 = .ok (.iload_n 1, 1) := by decide +kernel
theorem d4_5 : decode prog_69_method_14_code 5 = .ok (.iadd, 1) := by decide +kernel
theorem d4_6 : decode prog_69_method_14_code 6 = .ok (.aload_n 0, 1) := by decide +kernel
theorem d4_7 : decode prog_69_method_14_code 7 = .ok (.getfield 7, 3) := by decide +kernel
theorem d4_10 : decode prog_69_method_14_code 10 = .ok (.arraylength, 1) := by decide +kernel
theorem d4_11 : decode prog_69_method_14_code 11 = .ok (.if_icmp .le 30, 3) := by decide +kernel
theorem d4_14 : decode prog_69_method_14_code 14 = .ok (.aload_n 0, 1) := by decide +kernel
theorem d4_15 : decode prog_69_method_14_code 15 = .ok (.aload_n 0, 1) := by decide +kernel
theorem d4_16 : decode prog_69_method_14_code 16 = .ok (.getfield 7, 3) := by decide +kernel
theorem d4_19 : decode prog_69_method_14_code 19 = .ok (.aload_n 0, 1) := by decide +kernel
theorem d4_20 : decode prog_69_method_14_code 20 = .ok (.getfield 13, 3) := by decide +kernel
theorem d4_23 : decode prog_69_method_14_code 23 = .ok (.iload_n 1, 1) := by decide +kernel
theorem d4_24 : decode prog_69_method_14_code 24 = .ok (.iadd, 1) := by decide +kernel
theorem d4_25 : decode prog_69_method_14_code 25 = .ok (.iconst 2, 1) := by decide +kernel
theorem d4_26 : decode prog_69_method_14_code 26 = .ok (.aload_n 0, 1) := by decide +kernel
theorem d4_27 : decode prog_69_method_14_code 27 = .ok (.getfield 7, 3) := by decide +kernel
theorem d4_30 : decode prog_69_method_14_code 30 = .ok (.arraylength, 1) := by decide +kernel
theorem d4_31 : decode prog_69_method_14_code 31 = .ok (.imul, 1) := by decide +kernel
theorem d4_32 : decode prog_69_method_14_code 32 = .ok (.invokestatic 82, 3) := by decide +kernel
theorem d4_35 : decode prog_69_method_14_code 35 = .ok (.invokestatic 63, 3) := by decide +kernel
theorem d4_38 : decode prog_69_method_14_code 38 = .ok (.putfield 7, 3) := by decide +kernel
theorem d4_41 : decode prog_69_method_14_code 41 = .ok (.return_, 1) := by decide +kernel
theorem pn_room : plainName "com/example/chronaero/chronaero/Utf8Text" = true := by first | (simp [plainName, overriddenIn]; done) | decide +kernel
theorem pd_room : parseMethodDescriptor "(I)V" = some ⟨[.int], none⟩ := by decide +kernel
theorem ef_room (m : MethodId) (x0 : Addr) (x1 : Int32) : entryFrame m #[(.ref x0), (.int x1)] 2 = mkF m 0 #[.val (.ref x0), .val (.int x1)] [] := by first | (simp [entryFrame, mkF, argsToLocals, Value.category, maxLocals]; done) | rfl
def Q_room (Z : State) (t : Addr) (ki : Int32) (B : Addr) (cap : Nat) (len : Nat) (f : Nat → Int32) (kn : Nat) (h0 : Heap) (n0 : Nat) (v : Option Value) (h : Heap) (L : List Loc) : Prop := v = none ∧ Fr n0 L ∧ n0 ≤ h.size ∧ Keep h0 h [t] ∧ ∃ (B' : Addr) (cap' : Nat) (f' : Nat → Int32), own_Txt Z h t B' cap' len f' ∧ (∀ i, i < len → f' i = f i) ∧ len + kn ≤ cap' ∧ n0 ≤ B' ∧ (B' = B ∨ h0.size ≤ B')
set_option maxRecDepth 65536 in
set_option maxHeartbeats 40000000 in
theorem rm_room (l : Launch) (Z : State) (a0 : Array Value) (hw : ∀ d ∈ tables_1, d.before a0 Z = true) (ws : List Jvm.Cond) (t : Addr) (ki : Int32) (B : Addr) (cap : Nat) (len : Nat) (f : Nat → Int32) (kn : Nat) (h0 : Heap) (n0 : Nat) (Z0 : n0 ≤ h0.size) (H : own_Txt Z h0 t B cap len f) (hk : ki.toInt = (kn : Int)) (h5 : len + kn ≤ 5) (ge : n0 ≤ t) (geB : n0 ≤ B) :
    MetFree l (⟨"com/example/chronaero/chronaero/Utf8Text", "room", "(I)V"⟩ : MethodName) (head1 (Jvm.Cond.code (⟨"com/example/chronaero/chronaero/Utf8Text", "room", "(I)V"⟩ : MethodName) prog_69_method_14_code 2 (none) :: ws) ({ frames := 2, cells := 1, slots := 8, locals := 60 } : Room)) (fun as U => as = #[(.ref t), (.int ki)] ∧ Z.Warmed39 U.vm ∧ U.heap = h0) (fun _ _ _ _ _ => True) (fun _ U o U' => ∃ v L, o = .returned v ∧ Q_room Z t ki B cap len f kn h0 n0 v U'.heap L ∧ FrameEnd U o U' L ({ frames := 2, cells := 1, slots := 8, locals := 60 } : Room).cells ({ frames := 2, cells := 1, slots := 8, locals := 60 } : Room).slots) := by
  refine MetFree.of_bodySF (plainFor_of_name pn_room) hisR ?_
  intro p e s m args below meth c s₁ Bd hml0 hP hK
  obtain ⟨rfl, hZ, hh⟩ := hP
  have hx := Bd.exec
  have hby := Bd.bytes
  have hml : c.maxLocals = 2 := hml0
  have hown : s.vm.findClass "com/example/chronaero/chronaero/Utf8Text" = some m.cls := findClass_of_methodNamed Bd.named
  have hnm := (name_of_methodNamed Bd.named Bd.method).1
  have hlk := BodyLoose.notSynchronized Bd
  have hret := Bd.returns
  have X0 : Stand p l e ({ frames := 2, cells := 1, slots := 8, locals := 60 } : Room) s m #[(.ref t), (.int ki)] below meth c s₁ [] 0 0 := Stand.of_body Bd
  have e0 : s₁.heap = h0 := by rw [← hh, Bd.state]; rfl
  have N0 := Fr.nil n0
  show own_G p e below (own_P s below (Q_room Z t ki B cap len f kn h0 n0) ({ frames := 2, cells := 1, slots := 8, locals := 60 } : Room).cells ({ frames := 2, cells := 1, slots := 8, locals := 60 } : Room).slots) _
  refine own_go (B := s₁.setTop (mkF m 0 #[.val (.ref t), .val (.int ki)] [])) (fun t₂ k => castTop (ef_room m t ki) k) ?_
  obtain ⟨E1, F1, ⟨z, hz, F2⟩, V, nBt, hlc, hc8⟩ := H
  have hN := own_small (n := cap) (by omega)
  have hsum : (z + ki).toInt = ((len + kn : Nat) : Int) := own_plus hz hk (by omega)
  refine own_go (B := s₁.setTop (mkF m 1 #[.val (.ref t), .val (.int ki)] [(.ref t)])) (fun _ hr => XS.aloadN X0.here hx rfl (hb hby d4_0) rfl rfl hr) ?_
  obtain ⟨T14, X14, e14, st14⟩ := getF X0 hx hZ hown (host := "") (Or.inl (hw _ (List.mem_of_getElem? (i := 21) rfl))) Via.refl e0 F2 (g := (mkF m 1 #[.val (.ref t), .val (.int ki)] [(.ref t)])) rfl rfl (hb hby d4_1)
  refine own_go (B := T14.setTop (mkF m 4 #[.val (.ref t), .val (.int ki)] [(.int z)])) (fun t₂ hr => st14 t₂ hr) ?_
  refine own_go (B := T14.setTop (mkF m 5 #[.val (.ref t), .val (.int ki)] [(.int ki), (.int z)])) (fun _ hr => XS.iloadN X14.here hx rfl (hb hby d4_4) rfl hr) ?_
  refine own_go (B := T14.setTop (mkF m 6 #[.val (.ref t), .val (.int ki)] [(.int (z + ki))])) (fun _ hr => XS.iadd X14.here hx rfl (hb hby d4_5) rfl hr) ?_
  refine own_go (B := T14.setTop (mkF m 7 #[.val (.ref t), .val (.int ki)] [(.ref t), (.int (z + ki))])) (fun _ hr => XS.aloadN X14.here hx rfl (hb hby d4_6) rfl rfl hr) ?_
  obtain ⟨T15, X15, e15, st15⟩ := getF X14 hx hZ hown (host := "") (Or.inl (hw _ (List.mem_of_getElem? (i := 10) rfl))) Via.refl e14 F1 (g := (mkF m 7 #[.val (.ref t), .val (.int ki)] [(.ref t), (.int (z + ki))])) rfl rfl (hb hby d4_7)
  refine own_go (B := T15.setTop (mkF m 10 #[.val (.ref t), .val (.int ki)] [(.ref B), (.int (z + ki))])) (fun t₂ hr => st15 t₂ hr) ?_
  refine own_go (B := T15.setTop (mkF m 11 #[.val (.ref t), .val (.int ki)] [(.int cap.toInt32), (.int (z + ki))])) (fun _ hr => own_len X15 hx hZ e15 V.1 hN (g := (mkF m 10 #[.val (.ref t), .val (.int ki)] [(.ref B), (.int (z + ki))])) rfl rfl (hb hby d4_10) _ hr) ?_
  by_cases c16 : cap.toInt32 < (z + ki)
  · refine own_go (B := T15.setTop (mkF m 14 #[.val (.ref t), .val (.int ki)] [])) (fun _ hr => XS.icmpNo X15.here hx rfl (hb hby d4_11) rfl (XT.ii_le_f c16) hr) ?_
    have hgr : cap < len + kn := by have q := c16; rw [Int32.lt_iff_toInt_lt, hN, hsum] at q; omega
    refine own_go (B := T15.setTop (mkF m 15 #[.val (.ref t), .val (.int ki)] [(.ref t)])) (fun _ hr => XS.aloadN X15.here hx rfl (hb hby d4_14) rfl rfl hr) ?_
    refine own_go (B := T15.setTop (mkF m 16 #[.val (.ref t), .val (.int ki)] [(.ref t), (.ref t)])) (fun _ hr => XS.aloadN X15.here hx rfl (hb hby d4_15) rfl rfl hr) ?_
    obtain ⟨T17, X17, e17, st17⟩ := getF X15 hx hZ hown (host := "") (Or.inl (hw _ (List.mem_of_getElem? (i := 10) rfl))) Via.refl e15 F1 (g := (mkF m 16 #[.val (.ref t), .val (.int ki)] [(.ref t), (.ref t)])) rfl rfl (hb hby d4_16)
    refine own_go (B := T17.setTop (mkF m 19 #[.val (.ref t), .val (.int ki)] [(.ref B), (.ref t)])) (fun t₂ hr => st17 t₂ hr) ?_
    refine own_go (B := T17.setTop (mkF m 20 #[.val (.ref t), .val (.int ki)] [(.ref t), (.ref B), (.ref t)])) (fun _ hr => XS.aloadN X17.here hx rfl (hb hby d4_19) rfl rfl hr) ?_
    obtain ⟨T18, X18, e18, st18⟩ := getF X17 hx hZ hown (host := "") (Or.inl (hw _ (List.mem_of_getElem? (i := 21) rfl))) Via.refl e17 F2 (g := (mkF m 20 #[.val (.ref t), .val (.int ki)] [(.ref t), (.ref B), (.ref t)])) rfl rfl (hb hby d4_20)
    refine own_go (B := T18.setTop (mkF m 23 #[.val (.ref t), .val (.int ki)] [(.int z), (.ref B), (.ref t)])) (fun t₂ hr => st18 t₂ hr) ?_
    refine own_go (B := T18.setTop (mkF m 24 #[.val (.ref t), .val (.int ki)] [(.int ki), (.int z), (.ref B), (.ref t)])) (fun _ hr => XS.iloadN X18.here hx rfl (hb hby d4_23) rfl hr) ?_
    refine own_go (B := T18.setTop (mkF m 25 #[.val (.ref t), .val (.int ki)] [(.int (z + ki)), (.ref B), (.ref t)])) (fun _ hr => XS.iadd X18.here hx rfl (hb hby d4_24) rfl hr) ?_
    refine own_go (B := T18.setTop (mkF m 26 #[.val (.ref t), .val (.int ki)] [(.int (2 : Int32)), (.int (z + ki)), (.ref B), (.ref t)])) (fun _ hr => XT.iconstV X18.here hx rfl (2 : Int32) (hb hby d4_25) (by decide) hr) ?_
    refine own_go (B := T18.setTop (mkF m 27 #[.val (.ref t), .val (.int ki)] [(.ref t), (.int (2 : Int32)), (.int (z + ki)), (.ref B), (.ref t)])) (fun _ hr => XS.aloadN X18.here hx rfl (hb hby d4_26) rfl rfl hr) ?_
    obtain ⟨T19, X19, e19, st19⟩ := getF X18 hx hZ hown (host := "") (Or.inl (hw _ (List.mem_of_getElem? (i := 10) rfl))) Via.refl e18 F1 (g := (mkF m 27 #[.val (.ref t), .val (.int ki)] [(.ref t), (.int (2 : Int32)), (.int (z + ki)), (.ref B), (.ref t)])) rfl rfl (hb hby d4_27)
    refine own_go (B := T19.setTop (mkF m 30 #[.val (.ref t), .val (.int ki)] [(.ref B), (.int (2 : Int32)), (.int (z + ki)), (.ref B), (.ref t)])) (fun t₂ hr => st19 t₂ hr) ?_
    refine own_go (B := T19.setTop (mkF m 31 #[.val (.ref t), .val (.int ki)] [(.int cap.toInt32), (.int (2 : Int32)), (.int (z + ki)), (.ref B), (.ref t)])) (fun _ hr => own_len X19 hx hZ e19 V.1 hN (g := (mkF m 30 #[.val (.ref t), .val (.int ki)] [(.ref B), (.int (2 : Int32)), (.int (z + ki)), (.ref B), (.ref t)])) rfl rfl (hb hby d4_30) _ hr) ?_
    refine own_go (B := T19.setTop (mkF m 32 #[.val (.ref t), .val (.int ki)] [(.int ((2 : Int32) * cap.toInt32)), (.int (z + ki)), (.ref B), (.ref t)])) (fun _ hr => XS.imul X19.here hx rfl (hb hby d4_31) rfl hr) ?_
    have hdbl : ((2 : Int32) * cap.toInt32).toInt = ((2 * cap : Nat) : Int) := own_twice hN hc8
    obtain ⟨_, _, ⟨T20, L20, k20, n20⟩, -, X20, ⟨Lc20, hQ20, l20, y20, z20⟩, st20⟩ := Jvm.LawKit.callS X19 hx (y := (⟨"java/lang/Math", "max", "(II)I"⟩ : MethodName)) hown (mvT hZ (hw _ (List.mem_of_getElem? (i := 23) rfl))) (mvT hZ (hw _ (List.mem_of_getElem? (i := 24) rfl))) (mvT hZ (hw _ (List.mem_of_getElem? (i := 25) rfl))) (mvT hZ (hw _ (List.mem_of_getElem? (i := 26) rfl))) (by decide) (backOf (W := 2) (rm_max l Z a0 hw [] (z + ki) ((2 : Int32) * cap.toInt32) h0 n0 Z0) hZ (hw _ (List.mem_of_getElem? (i := 26) rfl)) (hw _ (List.mem_of_getElem? (i := 25) rfl)) (by decide) (by decide)) (g := (mkF m 32 #[.val (.ref t), .val (.int ki)] [(.int ((2 : Int32) * cap.toInt32)), (.int (z + ki)), (.ref B), (.ref t)])) rfl (by rw [hml]; rfl) (argsL := [(.int (z + ki)), (.int ((2 : Int32) * cap.toInt32))]) (rest := [(.ref B), (.ref t)]) (lenOf pd_max rfl) rfl (by show 2 * 0 + _ ≤ _; exact Nat.le_of_eq rfl) (hb hby d4_32) (fun _ _ => ⟨rfl, e19, (by decide : 0 + 0 ≤ _), (by decide : 0 + 0 ≤ _)⟩)
    dsimp only [Pt.U, Pt.locs, Pt.cells, Pt.slots] at X20 l20 y20 z20 st20 hQ20
    subst l20 y20 z20
    obtain ⟨rfl, N20, e20⟩ := hQ20
    have M20 := Fr.app N0 N20
    refine own_go (B := T20.setTop (mkF m 35 #[.val (.ref t), .val (.int ki)] [(.int (own_max (z + ki) ((2 : Int32) * cap.toInt32))), (.ref B), (.ref t)])) (fun t₂ hr => st20 t₂ hr) ?_
    obtain ⟨_, _, ⟨T21, L21, k21, n21⟩, -, X21, ⟨Lc21, hQ21, l21, y21, z21⟩, st21⟩ := Jvm.LawKit.callS X20 hx (y := (⟨"java/util/Arrays", "copyOf", "([BI)[B"⟩ : MethodName)) hown (mvT hZ (hw _ (List.mem_of_getElem? (i := 27) rfl))) (mvT hZ (hw _ (List.mem_of_getElem? (i := 28) rfl))) (mvT hZ (hw _ (List.mem_of_getElem? (i := 29) rfl))) (mvT hZ (hw _ (List.mem_of_getElem? (i := 30) rfl))) (by decide) (backOf (W := 1) (rm_copy l Z a0 hw [] B (own_max (z + ki) ((2 : Int32) * cap.toInt32)) cap f (max (len + kn) (2 * cap)) h0 n0 Z0 V hc8 (own_max_nat hsum hdbl rfl) (by omega)) hZ (hw _ (List.mem_of_getElem? (i := 30) rfl)) (hw _ (List.mem_of_getElem? (i := 29) rfl)) (by decide) (by decide)) (g := (mkF m 35 #[.val (.ref t), .val (.int ki)] [(.int (own_max (z + ki) ((2 : Int32) * cap.toInt32))), (.ref B), (.ref t)])) rfl (by rw [hml]; rfl) (argsL := [(.ref B), (.int (own_max (z + ki) ((2 : Int32) * cap.toInt32)))]) (rest := [(.ref t)]) (lenOf pd_copy rfl) rfl (by show 2 * 0 + _ ≤ _; exact Nat.le_of_eq rfl) (hb hby d4_35) (fun _ _ => ⟨rfl, e20, (by decide : 0 + 1 ≤ _), (by decide : 0 + 8 ≤ _)⟩)
    dsimp only [Pt.U, Pt.locs, Pt.cells, Pt.slots] at X21 l21 y21 z21 st21 hQ21
    subst l21 y21 z21
    obtain ⟨N21, K21, nb, rfl, geN, V21⟩ := hQ21
    have M21 := Fr.app M20 N21
    refine own_go (B := T21.setTop (mkF m 38 #[.val (.ref t), .val (.int ki)] [(.ref nb), (.ref t)])) (fun t₂ hr => st21 t₂ hr) ?_
    have lt0 := own_ltE E1
    have F3 := F1.keep K21 nin0
    have F4 := F2.keep K21 nin0
    have E2 := E1.keep K21
    have nbl : Jvm.RoadKit.slotOf Z "com/example/chronaero/chronaero/Utf8Text" "bytes" "[B" ≠ Jvm.RoadKit.slotOf Z "com/example/chronaero/chronaero/Utf8Text" "length" "I" := slot_ne (Or.inl (hw _ (List.mem_of_getElem? (i := 11) rfl))) (Or.inl (hw _ (List.mem_of_getElem? (i := 22) rfl))) (t := .array .byte) (t' := .int) (by decide) (by decide) (by decide)
    obtain ⟨T22, h22, X22, e22, W22, st22⟩ := putF X21 hx hZ hown (host := "") (Or.inl (hw _ (List.mem_of_getElem? (i := 10) rfl))) Via.refl rfl F3 E2 (Or.inl (hw _ (List.mem_of_getElem? (i := 11) rfl))) (hw _ (List.mem_of_getElem? (i := 1) rfl)) (ty := (.array .byte)) (by decide) rfl rfl (g := (mkF m 38 #[.val (.ref t), .val (.int ki)] [(.ref nb), (.ref t)])) rfl rfl (hb hby d4_38)
    have N22 := Fr.snoc X22 M21 ge
    refine own_go (B := T22.setTop (mkF m 41 #[.val (.ref t), .val (.int ki)] [])) (fun t₂ hr => st22 t₂ hr) ?_
    have nBt2 : @Ne Nat nb t := by omega
    have zs : n0 ≤ h22.size := by rw [W22.size]; exact Nat.le_trans Z0 K21.1
    have K : Keep h0 h22 [t] := own_keep0 K21 W22
    exact own_retV X22 hx hlk hret  (hb hby d4_41) (by decide) (by decide) (by rw [e22]; exact ⟨rfl, N22, zs, K, nb, _, _, ⟨E2.wr W22, F3.same W22, ⟨z, hz, F4.other W22 (Or.inr nbl.symm)⟩, V21.other W22 nBt2, nBt2, by omega, by omega⟩, (fun i hi => if_pos (by omega)), by omega, by omega, Or.inr geN⟩)
  · refine own_go (B := T15.setTop (mkF m 41 #[.val (.ref t), .val (.int ki)] [])) (fun _ hr => XS.icmpYes X15.here hx rfl (pc0 := 11) (pc' := 41) rfl (hb hby d4_11) rfl (XT.ii_le_t c16) (by decide) (by decide) hr) ?_
    have hgr : len + kn ≤ cap := by have q := c16; rw [Int32.lt_iff_toInt_lt, hN, hsum] at q; omega
    exact own_retV X15 hx hlk hret  (hb hby d4_41) (by decide) (by decide) (by rw [e15]; exact ⟨rfl, N0, Z0, Keep.refl _ _, B, cap, f, ⟨E1, F1, ⟨z, hz, F2⟩, V, nBt, hlc, hc8⟩, (fun i hi => rfl), hgr, geB, Or.inl rfl⟩)
theorem d12_0 : decode prog_69_method_4_code 0 = .ok (.aload_n 0, 1) := by decide +kernel
theorem d12_1 : decode prog_69_method_4_code 1 = .ok (.iconst 1, 1) := by decide +kernel
theorem d12_2 : decode prog_69_method_4_code 2 = .ok (.invokevirtual 17, 3) := by decide +kernel
theorem d12_5 : decode prog_69_method_4_code 5 = .ok (.aload_n 0, 1) := by decide +kernel
theorem d12_6 : decode prog_69_method_4_code 6 = .ok (.getfield 7, 3) := by decide +kernel
theorem d12_9 : decode prog_69_method_4_code 9 = .ok (.aload_n 0, 1) := by decide +kernel
theorem d12_10 : decode prog_69_method_4_code 10 = .ok (.dup, 1) := by decide +kernel
theorem d12_11 : decode prog_69_method_4_code 11 = .ok (.getfield 13, 3) := by decide +kernel
theorem d12_14 : decode prog_69_method_4_code 14 = .ok (.dup_x1, 1) := by decide +kernel
theorem d12_15 : decode prog_69_method_4_code 15 = .ok (.iconst 1, 1) := by decide +kernel
theorem d12_16 : decode prog_69_method_4_code 16 = .ok (.iadd, 1) := by decide +kernel
theorem d12_17 : decode prog_69_method_4_code 17 = .ok (.putfield 13, 3) := by decide +kernel
theorem d12_20 : decode prog_69_method_4_code 20 = .ok (.iload_n 1, 1) := by decide +kernel
theorem d12_21 : decode prog_69_method_4_code 21 = .ok (.i2b, 1) := by decide +kernel
theorem d12_22 : decode prog_69_method_4_code 22 = .ok (.bastore, 1) := by decide +kernel
theorem d12_23 : decode prog_69_method_4_code 23 = .ok (.return_, 1) := by decide +kernel
theorem pn_apc : plainName "com/example/chronaero/chronaero/Utf8Text" = true := by first | (simp [plainName, overriddenIn]; done) | decide +kernel
theorem pd_apc : parseMethodDescriptor "(C)V" = some ⟨[.char], none⟩ := by decide +kernel
theorem ef_apc (m : MethodId) (x0 : Addr) (x1 : Int32) : entryFrame m #[(.ref x0), (.int x1)] 2 = mkF m 0 #[.val (.ref x0), .val (.int x1)] [] := by first | (simp [entryFrame, mkF, argsToLocals, Value.category, maxLocals]; done) | rfl
def Q_apc (Z : State) (t : Addr) (xi : Int32) (B : Addr) (cap : Nat) (len : Nat) (f : Nat → Int32) (h0 : Heap) (n0 : Nat) (v : Option Value) (h : Heap) (L : List Loc) : Prop := v = none ∧ Fr n0 L ∧ n0 ≤ h.size ∧ Keep h0 h [t, B] ∧ ∃ (B' : Addr) (cap' : Nat) (f' : Nat → Int32), own_Txt Z h t B' cap' (len + 1) f' ∧ (∀ i, i < len → f' i = f i) ∧ f' len = xi.toInt8.toInt32 ∧ n0 ≤ B' ∧ (B' = B ∨ h0.size ≤ B')
set_option maxRecDepth 65536 in
set_option maxHeartbeats 40000000 in
theorem rm_apc (l : Launch) (Z : State) (a0 : Array Value) (hw : ∀ d ∈ tables_1, d.before a0 Z = true) (ws : List Jvm.Cond) (t : Addr) (xi : Int32) (B : Addr) (cap : Nat) (len : Nat) (f : Nat → Int32) (h0 : Heap) (n0 : Nat) (Z0 : n0 ≤ h0.size) (H : own_Txt Z h0 t B cap len f) (h5 : len + 1 ≤ 5) (ge : n0 ≤ t) (geB : n0 ≤ B) :
    MetFree l (⟨"com/example/chronaero/chronaero/Utf8Text", "append", "(C)V"⟩ : MethodName) (head1 (Jvm.Cond.code (⟨"com/example/chronaero/chronaero/Utf8Text", "append", "(C)V"⟩ : MethodName) prog_69_method_4_code 2 (none) :: ws) ({ frames := 3, cells := 1, slots := 8, locals := 80 } : Room)) (fun as U => as = #[(.ref t), (.int xi)] ∧ Z.Warmed39 U.vm ∧ U.heap = h0) (fun _ _ _ _ _ => True) (fun _ U o U' => ∃ v L, o = .returned v ∧ Q_apc Z t xi B cap len f h0 n0 v U'.heap L ∧ FrameEnd U o U' L ({ frames := 3, cells := 1, slots := 8, locals := 80 } : Room).cells ({ frames := 3, cells := 1, slots := 8, locals := 80 } : Room).slots) := by
  refine MetFree.of_bodySF (plainFor_of_name pn_apc) hisR ?_
  intro p e s m args below meth c s₁ Bd hml0 hP hK
  obtain ⟨rfl, hZ, hh⟩ := hP
  have hx := Bd.exec
  have hby := Bd.bytes
  have hml : c.maxLocals = 2 := hml0
  have hown : s.vm.findClass "com/example/chronaero/chronaero/Utf8Text" = some m.cls := findClass_of_methodNamed Bd.named
  have hnm := (name_of_methodNamed Bd.named Bd.method).1
  have hlk := BodyLoose.notSynchronized Bd
  have hret := Bd.returns
  have X0 : Stand p l e ({ frames := 3, cells := 1, slots := 8, locals := 80 } : Room) s m #[(.ref t), (.int xi)] below meth c s₁ [] 0 0 := Stand.of_body Bd
  have e0 : s₁.heap = h0 := by rw [← hh, Bd.state]; rfl
  have N0 := Fr.nil n0
  show own_G p e below (own_P s below (Q_apc Z t xi B cap len f h0 n0) ({ frames := 3, cells := 1, slots := 8, locals := 80 } : Room).cells ({ frames := 3, cells := 1, slots := 8, locals := 80 } : Room).slots) _
  refine own_go (B := s₁.setTop (mkF m 0 #[.val (.ref t), .val (.int xi)] [])) (fun t₂ k => castTop (ef_apc m t xi) k) ?_
  refine own_go (B := s₁.setTop (mkF m 1 #[.val (.ref t), .val (.int xi)] [(.ref t)])) (fun _ hr => XS.aloadN X0.here hx rfl (hb hby d12_0) rfl rfl hr) ?_
  refine own_go (B := s₁.setTop (mkF m 2 #[.val (.ref t), .val (.int xi)] [(.int (1 : Int32)), (.ref t)])) (fun _ hr => XT.iconstV X0.here hx rfl (1 : Int32) (hb hby d12_1) (by decide) hr) ?_
  have ltB := H.2.2.2.1.lt
  have ltt := own_ltE H.1
  obtain ⟨cq23, q23, qq23⟩ := (H.1).cell
  obtain ⟨_, _, ⟨T23, L23, k23, n23⟩, -, X23, ⟨Lc23, hQ23, l23, y23, z23⟩, st23⟩ := X0.privateBack hx (y := (⟨"com/example/chronaero/chronaero/Utf8Text", "room", "(I)V"⟩ : MethodName)) hown (mvT hZ (hw _ (List.mem_of_getElem? (i := 17) rfl))) (mvT hZ (hw _ (List.mem_of_getElem? (i := 18) rfl))) (own_selP (y' := (⟨"com/example/chronaero/chronaero/Utf8Text", "append", "(C)V"⟩ : MethodName)) rfl (mvT hZ (hw _ (List.mem_of_getElem? (i := 18) rfl))) (Cond.privateMethod_at (mvP hZ (hw _ (List.mem_of_getElem? (i := 19) rfl)) (args := #[]))) (mvT hZ (hw _ (List.mem_of_getElem? (i := 70) rfl))) (by decide)) (Cond.privateMethod_at (mvP hZ (hw _ (List.mem_of_getElem? (i := 19) rfl)) (args := #[]))) (mvT hZ (hw _ (List.mem_of_getElem? (i := 20) rfl))) (by decide) (backOf (W := 0) (rm_room l Z a0 hw [] t (1 : Int32) B cap len f 1 h0 n0 Z0 H (by decide) h5 ge geB) hZ (hw _ (List.mem_of_getElem? (i := 20) rfl)) (hw _ (List.mem_of_getElem? (i := 2) rfl)) (by decide) (by decide)) (g := (mkF m 2 #[.val (.ref t), .val (.int xi)] [(.int (1 : Int32)), (.ref t)])) rfl (by rw [hml]; rfl) (Steps.refl _) (a := t) (by rw [e0]; exact q23) qq23 (argsL := [(.int (1 : Int32))]) (rest := []) (lenOf pd_room rfl) rfl (by show 2 * 0 + _ ≤ _; exact Nat.le_of_eq rfl) (hb hby d12_2) (fun _ _ => ⟨rfl, e0, (by decide : 0 + 1 ≤ _), (by decide : 0 + 8 ≤ _)⟩)
  dsimp only [Pt.U, Pt.locs, Pt.cells, Pt.slots] at X23 l23 y23 z23 st23 hQ23
  subst l23 y23 z23
  obtain ⟨rfl, N23, Z23, K23, B1, cap1, f1, H23, hf1, hc1, geB1, hor⟩ := hQ23
  refine own_gs (B := T23.setTop (mkF m 5 #[.val (.ref t), .val (.int xi)] [])) st23 ?_
  have M23 := Fr.app N0 N23
  obtain ⟨E1, F1, ⟨z, hz, F2⟩, V, nBt, hlc, hc8⟩ := H23
  have nbl : Jvm.RoadKit.slotOf Z "com/example/chronaero/chronaero/Utf8Text" "bytes" "[B" ≠ Jvm.RoadKit.slotOf Z "com/example/chronaero/chronaero/Utf8Text" "length" "I" := slot_ne (Or.inl (hw _ (List.mem_of_getElem? (i := 11) rfl))) (Or.inl (hw _ (List.mem_of_getElem? (i := 22) rfl))) (t := .array .byte) (t' := .int) (by decide) (by decide) (by decide)
  refine own_go (B := T23.setTop (mkF m 6 #[.val (.ref t), .val (.int xi)] [(.ref t)])) (fun _ hr => XS.aloadN X23.here hx rfl (hb hby d12_5) rfl rfl hr) ?_
  obtain ⟨T24, X24, e24, st24⟩ := getF X23 hx hZ hown (host := "") (Or.inl (hw _ (List.mem_of_getElem? (i := 10) rfl))) Via.refl rfl F1 (g := (mkF m 6 #[.val (.ref t), .val (.int xi)] [(.ref t)])) rfl rfl (hb hby d12_6)
  refine own_go (B := T24.setTop (mkF m 9 #[.val (.ref t), .val (.int xi)] [(.ref B1)])) (fun t₂ hr => st24 t₂ hr) ?_
  refine own_go (B := T24.setTop (mkF m 10 #[.val (.ref t), .val (.int xi)] [(.ref t), (.ref B1)])) (fun _ hr => XS.aloadN X24.here hx rfl (hb hby d12_9) rfl rfl hr) ?_
  refine own_go (B := T24.setTop (mkF m 11 #[.val (.ref t), .val (.int xi)] [(.ref t), (.ref t), (.ref B1)])) (fun _ hr => XS.dup X24.here hx rfl (hb hby d12_10) rfl rfl hr) ?_
  obtain ⟨T25, X25, e25, st25⟩ := getF X24 hx hZ hown (host := "") (Or.inl (hw _ (List.mem_of_getElem? (i := 21) rfl))) Via.refl e24 F2 (g := (mkF m 11 #[.val (.ref t), .val (.int xi)] [(.ref t), (.ref t), (.ref B1)])) rfl rfl (hb hby d12_11)
  refine own_go (B := T25.setTop (mkF m 14 #[.val (.ref t), .val (.int xi)] [(.int z), (.ref t), (.ref B1)])) (fun t₂ hr => st25 t₂ hr) ?_
  refine own_go (B := T25.setTop (mkF m 15 #[.val (.ref t), .val (.int xi)] [(.int z), (.ref t), (.int z), (.ref B1)])) (fun _ hr => XT.dupX1 X25.here hx rfl (hb hby d12_14) rfl rfl rfl hr) ?_
  refine own_go (B := T25.setTop (mkF m 16 #[.val (.ref t), .val (.int xi)] [(.int (1 : Int32)), (.int z), (.ref t), (.int z), (.ref B1)])) (fun _ hr => XT.iconstV X25.here hx rfl (1 : Int32) (hb hby d12_15) (by decide) hr) ?_
  refine own_go (B := T25.setTop (mkF m 17 #[.val (.ref t), .val (.int xi)] [(.int (z + (1 : Int32))), (.ref t), (.int z), (.ref B1)])) (fun _ hr => XS.iadd X25.here hx rfl (hb hby d12_16) rfl hr) ?_
  obtain ⟨T26, h26, X26, e26, W26, st26⟩ := putF X25 hx hZ hown (host := "") (Or.inl (hw _ (List.mem_of_getElem? (i := 21) rfl))) Via.refl e25 F2 E1 (Or.inl (hw _ (List.mem_of_getElem? (i := 22) rfl))) (hw _ (List.mem_of_getElem? (i := 1) rfl)) (ty := .int) (by decide) rfl rfl (g := (mkF m 17 #[.val (.ref t), .val (.int xi)] [(.int (z + (1 : Int32))), (.ref t), (.int z), (.ref B1)])) rfl rfl (hb hby d12_17)
  have N26 := Fr.snoc X26 M23 ge
  refine own_go (B := T26.setTop (mkF m 20 #[.val (.ref t), .val (.int xi)] [(.int z), (.ref B1)])) (fun t₂ hr => st26 t₂ hr) ?_
  have F3 := F2.same W26
  have F4 := F1.other W26 (Or.inr nbl)
  have V2 := V.other W26 nBt
  have E2 := E1.wr W26
  refine own_go (B := T26.setTop (mkF m 21 #[.val (.ref t), .val (.int xi)] [(.int xi), (.int z), (.ref B1)])) (fun _ hr => XS.iloadN X26.here hx rfl (hb hby d12_20) rfl hr) ?_
  refine own_go (B := T26.setTop (mkF m 22 #[.val (.ref t), .val (.int xi)] [(.int (xi.toInt8.toInt32)), (.int z), (.ref B1)])) (fun _ hr => XT.i2b X26.here hx rfl (hb hby d12_21) rfl hr) ?_
  obtain ⟨T27, h27, X27, e27, W27, V27, st27⟩ := own_stB X26 hx hZ e26 V2.1 hz (by omega) (own_b8 _) (g := (mkF m 22 #[.val (.ref t), .val (.int xi)] [(.int (xi.toInt8.toInt32)), (.int z), (.ref B1)])) rfl rfl (hb hby d12_22)
  have N27 := Fr.snoc X27 N26 geB1
  refine own_go (B := T27.setTop (mkF m 23 #[.val (.ref t), .val (.int xi)] [])) (fun t₂ hr => st27 t₂ hr) ?_
  have U27 := V2.set (fits_nar_byte _) W27
  have zs : n0 ≤ h27.size := by rw [W27.size, W26.size]; exact Z23
  have K : Keep h0 h27 [t, B] := own_keep2 K23 W26 W27 hor
  exact own_retV X27 hx hlk hret  (hb hby d12_23) (by decide) (by decide) (by rw [e27]; exact ⟨rfl, N27, zs, K, B1, cap1, _, ⟨E2.wr W27, F4.other W27 (Or.inl nBt.symm), ⟨_, own_plus (q := 1) hz (by decide) (by omega), F3.other W27 (Or.inl nBt.symm)⟩, U27, nBt, by omega, hc8⟩, (fun i hi => by rw [if_neg (by omega)]; exact hf1 i hi), if_pos rfl, geB1, hor⟩)
theorem d3_0 : decode prog_69_method_9_code 0 = .ok (.aload_n 0, 1) := by decide +kernel
theorem d3_1 : decode prog_69_method_9_code 1 = .ok (.iload_n 3, 1) := by decide +kernel
theorem d3_2 : decode prog_69_method_9_code 2 = .ok (.iload_n 2, 1) := by decide +kernel
theorem d3_3 : decode prog_69_method_9_code 3 = .ok (.isub, 1) := by decide +kernel
theorem d3_4 : decode prog_69_method_9_code 4 = .ok (.invokevirtual 17, 3) := by decide +kernel
theorem d3_7 : decode prog_69_method_9_code 7 = .ok (.aload_n 1, 1) := by decide +kernel
theorem d3_8 : decode prog_69_method_9_code 8 = .ok (.iload_n 2, 1) := by decide +kernel
theorem d3_9 : decode prog_69_method_9_code 9 = .ok (.aload_n 0, 1) := by decide +kernel
theorem d3_10 : decode prog_69_method_9_code 10 = .ok (.getfield 7, 3) := by decide +kernel
theorem d3_13 : decode prog_69_method_9_code 13 = .ok (.aload_n 0, 1) := by decide +kernel
theorem d3_14 : decode prog_69_method_9_code 14 = .ok (.getfield 13, 3) := by decide +kernel
theorem d3_17 : decode prog_69_method_9_code 17 = .ok (.iload_n 3, 1) := by decide +kernel
theorem d3_18 : decode prog_69_method_9_code 18 = .ok (.iload_n 2, 1) := by decide +kernel
theorem d3_19 : decode prog_69_method_9_code 19 = .ok (.isub, 1) := by decide +kernel
theorem d3_20 : decode prog_69_method_9_code 20 = .ok (.invokestatic 51, 3) := by decide +kernel
theorem d3_23 : decode prog_69_method_9_code 23 = .ok (.aload_n 0, 1) := by decide +kernel
theorem d3_24 : decode prog_69_method_9_code 24 = .ok (.dup, 1) := by decide +kernel
theorem d3_25 : decode prog_69_method_9_code 25 = .ok (.getfield 13, 3) := by decide +kernel
theorem d3_28 : decode prog_69_method_9_code 28 = .ok (.iload_n 3, 1) := by decide +kernel
theorem d3_29 : decode prog_69_method_9_code 29 = .ok (.iload_n 2, 1) := by decide +kernel
theorem d3_30 : decode prog_69_method_9_code 30 = .ok (.isub, 1) := by decide +kernel
theorem d3_31 : decode prog_69_method_9_code 31 = .ok (.iadd, 1) := by decide +kernel
theorem d3_32 : decode prog_69_method_9_code 32 = .ok (.putfield 13, 3) := by decide +kernel
theorem d3_35 : decode prog_69_method_9_code 35 = .ok (.return_, 1) := by decide +kernel
theorem pn_apb : plainName "com/example/chronaero/chronaero/Utf8Text" = true := by first | (simp [plainName, overriddenIn]; done) | decide +kernel
theorem pd_apb : parseMethodDescriptor "([BII)V" = some ⟨[(.array .byte), .int, .int], none⟩ := by decide +kernel
theorem ef_apb (m : MethodId) (x0 : Addr) (x1 : Addr) (x2 : Int32) (x3 : Int32) : entryFrame m #[(.ref x0), (.ref x1), (.int x2), (.int x3)] 4 = mkF m 0 #[.val (.ref x0), .val (.ref x1), .val (.int x2), .val (.int x3)] [] := by first | (simp [entryFrame, mkF, argsToLocals, Value.category, maxLocals]; done) | rfl
def Q_apb (Z : State) (t : Addr) (sa : Addr) (ki : Int32) (B : Addr) (cap : Nat) (len : Nat) (f : Nat → Int32) (kn : Nat) (fs : Nat → Int32) (h0 : Heap) (n0 : Nat) (v : Option Value) (h : Heap) (L : List Loc) : Prop := v = none ∧ Fr n0 L ∧ n0 ≤ h.size ∧ Keep h0 h [t, B] ∧ ∃ (B' : Addr) (cap' : Nat) (f' : Nat → Int32), own_Txt Z h t B' cap' (len + kn) f' ∧ (∀ i, i < len → f' i = f i) ∧ (∀ j, j < kn → f' (len + j) = fs j) ∧ n0 ≤ B' ∧ (B' = B ∨ h0.size ≤ B')
set_option maxRecDepth 65536 in
set_option maxHeartbeats 40000000 in
theorem rm_apb (l : Launch) (Z : State) (a0 : Array Value) (hw : ∀ d ∈ tables_1, d.before a0 Z = true) (ws : List Jvm.Cond) (t : Addr) (sa : Addr) (ki : Int32) (B : Addr) (cap : Nat) (len : Nat) (f : Nat → Int32) (kn : Nat) (fs : Nat → Int32) (h0 : Heap) (n0 : Nat) (Z0 : n0 ≤ h0.size) (H : own_Txt Z h0 t B cap len f) (hk : ki.toInt = (kn : Int)) (hk3 : kn ≤ 3) (h5 : len + kn ≤ 5) (ge : n0 ≤ t) (geB : n0 ≤ B) (Vs : own_By Z h0 sa 3 fs) (nst : sa ≠ t) :
    MetFree l (⟨"com/example/chronaero/chronaero/Utf8Text", "append", "([BII)V"⟩ : MethodName) (head1 (Jvm.Cond.code (⟨"com/example/chronaero/chronaero/Utf8Text", "append", "([BII)V"⟩ : MethodName) prog_69_method_9_code 4 (none) :: ws) ({ frames := 3, cells := 1, slots := 8, locals := 80 } : Room)) (fun as U => as = #[(.ref t), (.ref sa), (.int (0 : Int32)), (.int ki)] ∧ Z.Warmed39 U.vm ∧ U.heap = h0) (fun _ _ _ _ _ => True) (fun _ U o U' => ∃ v L, o = .returned v ∧ Q_apb Z t sa ki B cap len f kn fs h0 n0 v U'.heap L ∧ FrameEnd U o U' L ({ frames := 3, cells := 1, slots := 8, locals := 80 } : Room).cells ({ frames := 3, cells := 1, slots := 8, locals := 80 } : Room).slots) := by
  refine MetFree.of_bodySF (plainFor_of_name pn_apb) hisR ?_
  intro p e s m args below meth c s₁ Bd hml0 hP hK
  obtain ⟨rfl, hZ, hh⟩ := hP
  have hx := Bd.exec
  have hby := Bd.bytes
  have hml : c.maxLocals = 4 := hml0
  have hown : s.vm.findClass "com/example/chronaero/chronaero/Utf8Text" = some m.cls := findClass_of_methodNamed Bd.named
  have hnm := (name_of_methodNamed Bd.named Bd.method).1
  have hlk := BodyLoose.notSynchronized Bd
  have hret := Bd.returns
  have X0 : Stand p l e ({ frames := 3, cells := 1, slots := 8, locals := 80 } : Room) s m #[(.ref t), (.ref sa), (.int (0 : Int32)), (.int ki)] below meth c s₁ [] 0 0 := Stand.of_body Bd
  have e0 : s₁.heap = h0 := by rw [← hh, Bd.state]; rfl
  have N0 := Fr.nil n0
  show own_G p e below (own_P s below (Q_apb Z t sa ki B cap len f kn fs h0 n0) ({ frames := 3, cells := 1, slots := 8, locals := 80 } : Room).cells ({ frames := 3, cells := 1, slots := 8, locals := 80 } : Room).slots) _
  refine own_go (B := s₁.setTop (mkF m 0 #[.val (.ref t), .val (.ref sa), .val (.int (0 : Int32)), .val (.int ki)] [])) (fun t₂ k => castTop (ef_apb m t sa (0 : Int32) ki) k) ?_
  have hk0 : (ki - (0 : Int32)).toInt = (kn : Int) := own_minus (q := 0) hk (by decide) (by omega)
  have ltB := H.2.2.2.1.lt
  have ltt := own_ltE H.1
  refine own_go (B := s₁.setTop (mkF m 1 #[.val (.ref t), .val (.ref sa), .val (.int (0 : Int32)), .val (.int ki)] [(.ref t)])) (fun _ hr => XS.aloadN X0.here hx rfl (hb hby d3_0) rfl rfl hr) ?_
  refine own_go (B := s₁.setTop (mkF m 2 #[.val (.ref t), .val (.ref sa), .val (.int (0 : Int32)), .val (.int ki)] [(.int ki), (.ref t)])) (fun _ hr => XS.iloadN X0.here hx rfl (hb hby d3_1) rfl hr) ?_
  refine own_go (B := s₁.setTop (mkF m 3 #[.val (.ref t), .val (.ref sa), .val (.int (0 : Int32)), .val (.int ki)] [(.int (0 : Int32)), (.int ki), (.ref t)])) (fun _ hr => XS.iloadN X0.here hx rfl (hb hby d3_2) rfl hr) ?_
  refine own_go (B := s₁.setTop (mkF m 4 #[.val (.ref t), .val (.ref sa), .val (.int (0 : Int32)), .val (.int ki)] [(.int (ki - (0 : Int32))), (.ref t)])) (fun _ hr => XS.isub X0.here hx rfl (hb hby d3_3) rfl hr) ?_
  obtain ⟨cq28, q28, qq28⟩ := (H.1).cell
  obtain ⟨_, _, ⟨T28, L28, k28, n28⟩, -, X28, ⟨Lc28, hQ28, l28, y28, z28⟩, st28⟩ := X0.privateBack hx (y := (⟨"com/example/chronaero/chronaero/Utf8Text", "room", "(I)V"⟩ : MethodName)) hown (mvT hZ (hw _ (List.mem_of_getElem? (i := 17) rfl))) (mvT hZ (hw _ (List.mem_of_getElem? (i := 18) rfl))) (own_selP (y' := (⟨"com/example/chronaero/chronaero/Utf8Text", "append", "(C)V"⟩ : MethodName)) rfl (mvT hZ (hw _ (List.mem_of_getElem? (i := 18) rfl))) (Cond.privateMethod_at (mvP hZ (hw _ (List.mem_of_getElem? (i := 19) rfl)) (args := #[]))) (mvT hZ (hw _ (List.mem_of_getElem? (i := 70) rfl))) (by decide)) (Cond.privateMethod_at (mvP hZ (hw _ (List.mem_of_getElem? (i := 19) rfl)) (args := #[]))) (mvT hZ (hw _ (List.mem_of_getElem? (i := 20) rfl))) (by decide) (backOf (W := 0) (rm_room l Z a0 hw [] t (ki - (0 : Int32)) B cap len f kn h0 n0 Z0 H hk0 h5 ge geB) hZ (hw _ (List.mem_of_getElem? (i := 20) rfl)) (hw _ (List.mem_of_getElem? (i := 2) rfl)) (by decide) (by decide)) (g := (mkF m 4 #[.val (.ref t), .val (.ref sa), .val (.int (0 : Int32)), .val (.int ki)] [(.int (ki - (0 : Int32))), (.ref t)])) rfl (by rw [hml]; rfl) (Steps.refl _) (a := t) (by rw [e0]; exact q28) qq28 (argsL := [(.int (ki - (0 : Int32)))]) (rest := []) (lenOf pd_room rfl) rfl (by show 2 * 0 + _ ≤ _; exact Nat.le_of_eq rfl) (hb hby d3_4) (fun _ _ => ⟨rfl, e0, (by decide : 0 + 1 ≤ _), (by decide : 0 + 8 ≤ _)⟩)
  dsimp only [Pt.U, Pt.locs, Pt.cells, Pt.slots] at X28 l28 y28 z28 st28 hQ28
  subst l28 y28 z28
  obtain ⟨rfl, N28, Z28, K28, B1, cap1, f1, H28, hf1, hc1, geB1, hor⟩ := hQ28
  refine own_gs (B := T28.setTop (mkF m 7 #[.val (.ref t), .val (.ref sa), .val (.int (0 : Int32)), .val (.int ki)] [])) st28 ?_
  have M28 := Fr.app N0 N28
  obtain ⟨E1, F1, ⟨z, hz, F2⟩, V, nBt, hlc, hc8⟩ := H28
  have Vs1 := Vs.keep K28 (ninS nst nin0)
  have nbl : Jvm.RoadKit.slotOf Z "com/example/chronaero/chronaero/Utf8Text" "bytes" "[B" ≠ Jvm.RoadKit.slotOf Z "com/example/chronaero/chronaero/Utf8Text" "length" "I" := slot_ne (Or.inl (hw _ (List.mem_of_getElem? (i := 11) rfl))) (Or.inl (hw _ (List.mem_of_getElem? (i := 22) rfl))) (t := .array .byte) (t' := .int) (by decide) (by decide) (by decide)
  refine own_go (B := T28.setTop (mkF m 8 #[.val (.ref t), .val (.ref sa), .val (.int (0 : Int32)), .val (.int ki)] [(.ref sa)])) (fun _ hr => XS.aloadN X28.here hx rfl (hb hby d3_7) rfl rfl hr) ?_
  refine own_go (B := T28.setTop (mkF m 9 #[.val (.ref t), .val (.ref sa), .val (.int (0 : Int32)), .val (.int ki)] [(.int (0 : Int32)), (.ref sa)])) (fun _ hr => XS.iloadN X28.here hx rfl (hb hby d3_8) rfl hr) ?_
  refine own_go (B := T28.setTop (mkF m 10 #[.val (.ref t), .val (.ref sa), .val (.int (0 : Int32)), .val (.int ki)] [(.ref t), (.int (0 : Int32)), (.ref sa)])) (fun _ hr => XS.aloadN X28.here hx rfl (hb hby d3_9) rfl rfl hr) ?_
  obtain ⟨T29, X29, e29, st29⟩ := getF X28 hx hZ hown (host := "") (Or.inl (hw _ (List.mem_of_getElem? (i := 10) rfl))) Via.refl rfl F1 (g := (mkF m 10 #[.val (.ref t), .val (.ref sa), .val (.int (0 : Int32)), .val (.int ki)] [(.ref t), (.int (0 : Int32)), (.ref sa)])) rfl rfl (hb hby d3_10)
  refine own_go (B := T29.setTop (mkF m 13 #[.val (.ref t), .val (.ref sa), .val (.int (0 : Int32)), .val (.int ki)] [(.ref B1), (.int (0 : Int32)), (.ref sa)])) (fun t₂ hr => st29 t₂ hr) ?_
  refine own_go (B := T29.setTop (mkF m 14 #[.val (.ref t), .val (.ref sa), .val (.int (0 : Int32)), .val (.int ki)] [(.ref t), (.ref B1), (.int (0 : Int32)), (.ref sa)])) (fun _ hr => XS.aloadN X29.here hx rfl (hb hby d3_13) rfl rfl hr) ?_
  obtain ⟨T30, X30, e30, st30⟩ := getF X29 hx hZ hown (host := "") (Or.inl (hw _ (List.mem_of_getElem? (i := 21) rfl))) Via.refl e29 F2 (g := (mkF m 14 #[.val (.ref t), .val (.ref sa), .val (.int (0 : Int32)), .val (.int ki)] [(.ref t), (.ref B1), (.int (0 : Int32)), (.ref sa)])) rfl rfl (hb hby d3_14)
  refine own_go (B := T30.setTop (mkF m 17 #[.val (.ref t), .val (.ref sa), .val (.int (0 : Int32)), .val (.int ki)] [(.int z), (.ref B1), (.int (0 : Int32)), (.ref sa)])) (fun t₂ hr => st30 t₂ hr) ?_
  refine own_go (B := T30.setTop (mkF m 18 #[.val (.ref t), .val (.ref sa), .val (.int (0 : Int32)), .val (.int ki)] [(.int ki), (.int z), (.ref B1), (.int (0 : Int32)), (.ref sa)])) (fun _ hr => XS.iloadN X30.here hx rfl (hb hby d3_17) rfl hr) ?_
  refine own_go (B := T30.setTop (mkF m 19 #[.val (.ref t), .val (.ref sa), .val (.int (0 : Int32)), .val (.int ki)] [(.int (0 : Int32)), (.int ki), (.int z), (.ref B1), (.int (0 : Int32)), (.ref sa)])) (fun _ hr => XS.iloadN X30.here hx rfl (hb hby d3_18) rfl hr) ?_
  refine own_go (B := T30.setTop (mkF m 20 #[.val (.ref t), .val (.ref sa), .val (.int (0 : Int32)), .val (.int ki)] [(.int (ki - (0 : Int32))), (.int z), (.ref B1), (.int (0 : Int32)), (.ref sa)])) (fun _ hr => XS.isub X30.here hx rfl (hb hby d3_19) rfl hr) ?_
  obtain ⟨T31, h31, L31, X31, e31, N31, K31, V31, st31⟩ := own_cp X30 hx hZ hown (hw _ (List.mem_of_getElem? (i := 38) rfl)) (hw _ (List.mem_of_getElem? (i := 37) rfl)) (hw _ (List.mem_of_getElem? (i := 35) rfl)) (hw _ (List.mem_of_getElem? (i := 36) rfl)) e30 Vs1 V (sN := 0) (by decide) hz hk0 (by omega) (by omega) (by decide) (by omega) M28 geB1 (g := (mkF m 20 #[.val (.ref t), .val (.ref sa), .val (.int (0 : Int32)), .val (.int ki)] [(.int (ki - (0 : Int32))), (.int z), (.ref B1), (.int (0 : Int32)), (.ref sa)])) rfl (by rw [hml]; rfl) rfl (hb hby d3_20) (by decide) (W := 0) (by show 2 * 0 + _ ≤ _; exact Nat.le_of_eq rfl) (by decide)
  refine own_go (B := T31.setTop (mkF m 23 #[.val (.ref t), .val (.ref sa), .val (.int (0 : Int32)), .val (.int ki)] [])) (fun t₂ hr => st31 t₂ hr) ?_
  have F3 := F1.keep K31 (ninS nBt.symm nin0)
  have F4 := F2.keep K31 (ninS nBt.symm nin0)
  have E2 := E1.keep K31
  refine own_go (B := T31.setTop (mkF m 24 #[.val (.ref t), .val (.ref sa), .val (.int (0 : Int32)), .val (.int ki)] [(.ref t)])) (fun _ hr => XS.aloadN X31.here hx rfl (hb hby d3_23) rfl rfl hr) ?_
  refine own_go (B := T31.setTop (mkF m 25 #[.val (.ref t), .val (.ref sa), .val (.int (0 : Int32)), .val (.int ki)] [(.ref t), (.ref t)])) (fun _ hr => XS.dup X31.here hx rfl (hb hby d3_24) rfl rfl hr) ?_
  obtain ⟨T32, X32, e32, st32⟩ := getF X31 hx hZ hown (host := "") (Or.inl (hw _ (List.mem_of_getElem? (i := 21) rfl))) Via.refl e31 F4 (g := (mkF m 25 #[.val (.ref t), .val (.ref sa), .val (.int (0 : Int32)), .val (.int ki)] [(.ref t), (.ref t)])) rfl rfl (hb hby d3_25)
  refine own_go (B := T32.setTop (mkF m 28 #[.val (.ref t), .val (.ref sa), .val (.int (0 : Int32)), .val (.int ki)] [(.int z), (.ref t)])) (fun t₂ hr => st32 t₂ hr) ?_
  refine own_go (B := T32.setTop (mkF m 29 #[.val (.ref t), .val (.ref sa), .val (.int (0 : Int32)), .val (.int ki)] [(.int ki), (.int z), (.ref t)])) (fun _ hr => XS.iloadN X32.here hx rfl (hb hby d3_28) rfl hr) ?_
  refine own_go (B := T32.setTop (mkF m 30 #[.val (.ref t), .val (.ref sa), .val (.int (0 : Int32)), .val (.int ki)] [(.int (0 : Int32)), (.int ki), (.int z), (.ref t)])) (fun _ hr => XS.iloadN X32.here hx rfl (hb hby d3_29) rfl hr) ?_
  refine own_go (B := T32.setTop (mkF m 31 #[.val (.ref t), .val (.ref sa), .val (.int (0 : Int32)), .val (.int ki)] [(.int (ki - (0 : Int32))), (.int z), (.ref t)])) (fun _ hr => XS.isub X32.here hx rfl (hb hby d3_30) rfl hr) ?_
  refine own_go (B := T32.setTop (mkF m 32 #[.val (.ref t), .val (.ref sa), .val (.int (0 : Int32)), .val (.int ki)] [(.int (z + (ki - (0 : Int32)))), (.ref t)])) (fun _ hr => XS.iadd X32.here hx rfl (hb hby d3_31) rfl hr) ?_
  obtain ⟨T33, h33, X33, e33, W33, st33⟩ := putF X32 hx hZ hown (host := "") (Or.inl (hw _ (List.mem_of_getElem? (i := 21) rfl))) Via.refl e32 F4 E2 (Or.inl (hw _ (List.mem_of_getElem? (i := 22) rfl))) (hw _ (List.mem_of_getElem? (i := 1) rfl)) (ty := .int) (by decide) rfl rfl (g := (mkF m 32 #[.val (.ref t), .val (.ref sa), .val (.int (0 : Int32)), .val (.int ki)] [(.int (z + (ki - (0 : Int32)))), (.ref t)])) rfl rfl (hb hby d3_32)
  have N33 := Fr.snoc X33 N31 ge
  refine own_go (B := T33.setTop (mkF m 35 #[.val (.ref t), .val (.ref sa), .val (.int (0 : Int32)), .val (.int ki)] [])) (fun t₂ hr => st33 t₂ hr) ?_
  have zs : n0 ≤ h33.size := by rw [W33.size]; exact Nat.le_trans Z28 K31.1
  have K : Keep h0 h33 [t, B] := own_keep3 K28 K31 W33 hor
  exact own_retV X33 hx hlk hret  (hb hby d3_35) (by decide) (by decide) (by rw [e33]; exact ⟨rfl, N33, zs, K, B1, cap1, _, ⟨E2.wr W33, F3.other W33 (Or.inr nbl), ⟨_, own_plus hz hk0 (by omega), F4.same W33⟩, V31.other W33 nBt, nBt, by omega, hc8⟩, (fun i hi => by rw [if_neg (by omega)]; exact hf1 i hi), (fun j hj => by rw [if_pos (by omega)]; exact congrArg fs (by omega)), geB1, hor⟩)
theorem d11_0 : decode prog_69_method_3_code 0 = .ok (.aload_n 0, 1) := by decide +kernel
theorem d11_1 : decode prog_69_method_3_code 1 = .ok (.iconst 0, 1) := by decide +kernel
theorem d11_2 : decode prog_69_method_3_code 2 = .ok (.putfield 13, 3) := by decide +kernel
theorem d11_5 : decode prog_69_method_3_code 5 = .ok (.return_, 1) := by decide +kernel
theorem pn_clear : plainName "com/example/chronaero/chronaero/Utf8Text" = true := by first | (simp [plainName, overriddenIn]; done) | decide +kernel
theorem pd_clear : parseMethodDescriptor "()V" = some ⟨[], none⟩ := by decide +kernel
theorem ef_clear (m : MethodId) (x0 : Addr) : entryFrame m #[(.ref x0)] 1 = mkF m 0 #[.val (.ref x0)] [] := by first | (simp [entryFrame, mkF, argsToLocals, Value.category, maxLocals]; done) | rfl
def Q_clear (Z : State) (t : Addr) (B : Addr) (cap : Nat) (len : Nat) (f : Nat → Int32) (h0 : Heap) (n0 : Nat) (v : Option Value) (h : Heap) (L : List Loc) : Prop := v = none ∧ Fr n0 L ∧ n0 ≤ h.size ∧ Keep h0 h [t] ∧ own_Txt Z h t B cap 0 f
set_option maxRecDepth 65536 in
set_option maxHeartbeats 40000000 in
theorem rm_clear (l : Launch) (Z : State) (a0 : Array Value) (hw : ∀ d ∈ tables_1, d.before a0 Z = true) (ws : List Jvm.Cond) (t : Addr) (B : Addr) (cap : Nat) (len : Nat) (f : Nat → Int32) (h0 : Heap) (n0 : Nat) (Z0 : n0 ≤ h0.size) (H : own_Txt Z h0 t B cap len f) (ge : n0 ≤ t) :
    MetFree l (⟨"com/example/chronaero/chronaero/Utf8Text", "clear", "()V"⟩ : MethodName) (head1 (Jvm.Cond.code (⟨"com/example/chronaero/chronaero/Utf8Text", "clear", "()V"⟩ : MethodName) prog_69_method_3_code 1 (none) :: ws) ({ frames := 0, cells := 0, slots := 0, locals := 0 } : Room)) (fun as U => as = #[(.ref t)] ∧ Z.Warmed39 U.vm ∧ U.heap = h0) (fun _ _ _ _ _ => True) (fun _ U o U' => ∃ v L, o = .returned v ∧ Q_clear Z t B cap len f h0 n0 v U'.heap L ∧ FrameEnd U o U' L ({ frames := 0, cells := 0, slots := 0, locals := 0 } : Room).cells ({ frames := 0, cells := 0, slots := 0, locals := 0 } : Room).slots) := by
  refine MetFree.of_bodySF (plainFor_of_name pn_clear) hisR ?_
  intro p e s m args below meth c s₁ Bd hml0 hP hK
  obtain ⟨rfl, hZ, hh⟩ := hP
  have hx := Bd.exec
  have hby := Bd.bytes
  have hml : c.maxLocals = 1 := hml0
  have hown : s.vm.findClass "com/example/chronaero/chronaero/Utf8Text" = some m.cls := findClass_of_methodNamed Bd.named
  have hnm := (name_of_methodNamed Bd.named Bd.method).1
  have hlk := BodyLoose.notSynchronized Bd
  have hret := Bd.returns
  have X0 : Stand p l e ({ frames := 0, cells := 0, slots := 0, locals := 0 } : Room) s m #[(.ref t)] below meth c s₁ [] 0 0 := Stand.of_body Bd
  have e0 : s₁.heap = h0 := by rw [← hh, Bd.state]; rfl
  have N0 := Fr.nil n0
  show own_G p e below (own_P s below (Q_clear Z t B cap len f h0 n0) ({ frames := 0, cells := 0, slots := 0, locals := 0 } : Room).cells ({ frames := 0, cells := 0, slots := 0, locals := 0 } : Room).slots) _
  refine own_go (B := s₁.setTop (mkF m 0 #[.val (.ref t)] [])) (fun t₂ k => castTop (ef_clear m t) k) ?_
  obtain ⟨E1, F1, ⟨z, hz, F2⟩, V, nBt, hlc, hc8⟩ := H
  have nbl : Jvm.RoadKit.slotOf Z "com/example/chronaero/chronaero/Utf8Text" "bytes" "[B" ≠ Jvm.RoadKit.slotOf Z "com/example/chronaero/chronaero/Utf8Text" "length" "I" := slot_ne (Or.inl (hw _ (List.mem_of_getElem? (i := 11) rfl))) (Or.inl (hw _ (List.mem_of_getElem? (i := 22) rfl))) (t := .array .byte) (t' := .int) (by decide) (by decide) (by decide)
  refine own_go (B := s₁.setTop (mkF m 1 #[.val (.ref t)] [(.ref t)])) (fun _ hr => XS.aloadN X0.here hx rfl (hb hby d11_0) rfl rfl hr) ?_
  refine own_go (B := s₁.setTop (mkF m 2 #[.val (.ref t)] [(.int (0 : Int32)), (.ref t)])) (fun _ hr => XT.iconstV X0.here hx rfl (0 : Int32) (hb hby d11_1) (by decide) hr) ?_
  obtain ⟨T34, h34, X34, e34, W34, st34⟩ := putF X0 hx hZ hown (host := "") (Or.inl (hw _ (List.mem_of_getElem? (i := 21) rfl))) Via.refl e0 F2 E1 (Or.inl (hw _ (List.mem_of_getElem? (i := 22) rfl))) (hw _ (List.mem_of_getElem? (i := 1) rfl)) (ty := .int) (by decide) rfl rfl (g := (mkF m 2 #[.val (.ref t)] [(.int (0 : Int32)), (.ref t)])) rfl rfl (hb hby d11_2)
  have N34 := Fr.snoc X34 N0 ge
  refine own_go (B := T34.setTop (mkF m 5 #[.val (.ref t)] [])) (fun t₂ hr => st34 t₂ hr) ?_
  have zs : n0 ≤ h34.size := by rw [W34.size]; exact Z0
  exact own_retV X34 hx hlk hret  (hb hby d11_5) (by decide) (by decide) (by rw [e34]; exact ⟨rfl, N34, zs, (Keep.refl _ _).wr W34 (Or.inl (List.mem_of_getElem? (i := 0) rfl)), E1.wr W34, F1.other W34 (Or.inr nbl), ⟨_, by decide, F2.same W34⟩, V.other W34 nBt, nBt, by omega, hc8⟩)
theorem d8_0 : decode prog_69_method_11_code 0 = .ok (.aload_n 0, 1) := by decide +kernel
theorem d8_1 : decode prog_69_method_11_code 1 = .ok (.getfield 7, 3) := by decide +kernel
theorem d8_4 : decode prog_69_method_11_code 4 = .ok (.aload_n 0, 1) := by decide +kernel
theorem d8_5 : decode prog_69_method_11_code 5 = .ok (.getfield 13, 3) := by decide +kernel
theorem d8_8 : decode prog_69_method_11_code 8 = .ok (.invokestatic 63, 3) := by decide +kernel
theorem d8_11 : decode prog_69_method_11_code 11 = .ok (.areturn, 1) := by decide +kernel
theorem pn_toa : plainName "com/example/chronaero/chronaero/Utf8Text" = true := by first | (simp [plainName, overriddenIn]; done) | decide +kernel
theorem pd_toa : parseMethodDescriptor "()[B" = some ⟨[], some (.array .byte)⟩ := by decide +kernel
theorem ef_toa (m : MethodId) (x0 : Addr) : entryFrame m #[(.ref x0)] 1 = mkF m 0 #[.val (.ref x0)] [] := by first | (simp [entryFrame, mkF, argsToLocals, Value.category, maxLocals]; done) | rfl
def Q_toa (Z : State) (t : Addr) (B : Addr) (cap : Nat) (len : Nat) (f : Nat → Int32) (h0 : Heap) (n0 : Nat) (v : Option Value) (h : Heap) (L : List Loc) : Prop := Fr n0 L ∧ Keep h0 h [] ∧ ∃ r : Addr, v = some (.ref r) ∧ h0.size ≤ r ∧ own_By Z h r len (fun i => if i < cap then f i else 0)
set_option maxRecDepth 65536 in
set_option maxHeartbeats 40000000 in
theorem rm_toa (l : Launch) (Z : State) (a0 : Array Value) (hw : ∀ d ∈ tables_1, d.before a0 Z = true) (ws : List Jvm.Cond) (t : Addr) (B : Addr) (cap : Nat) (len : Nat) (f : Nat → Int32) (h0 : Heap) (n0 : Nat) (Z0 : n0 ≤ h0.size) (H : own_Txt Z h0 t B cap len f) :
    MetFree l (⟨"com/example/chronaero/chronaero/Utf8Text", "toArray", "()[B"⟩ : MethodName) (head1 (Jvm.Cond.code (⟨"com/example/chronaero/chronaero/Utf8Text", "toArray", "()[B"⟩ : MethodName) prog_69_method_11_code 1 (some (.array .byte)) :: ws) ({ frames := 2, cells := 1, slots := 8, locals := 60 } : Room)) (fun as U => as = #[(.ref t)] ∧ Z.Warmed39 U.vm ∧ U.heap = h0) (fun _ _ _ _ _ => True) (fun _ U o U' => ∃ v L, o = .returned v ∧ Q_toa Z t B cap len f h0 n0 v U'.heap L ∧ FrameEnd U o U' L ({ frames := 2, cells := 1, slots := 8, locals := 60 } : Room).cells ({ frames := 2, cells := 1, slots := 8, locals := 60 } : Room).slots) := by
  refine MetFree.of_bodySF (plainFor_of_name pn_toa) hisR ?_
  intro p e s m args below meth c s₁ Bd hml0 hP hK
  obtain ⟨rfl, hZ, hh⟩ := hP
  have hx := Bd.exec
  have hby := Bd.bytes
  have hml : c.maxLocals = 1 := hml0
  have hown : s.vm.findClass "com/example/chronaero/chronaero/Utf8Text" = some m.cls := findClass_of_methodNamed Bd.named
  have hnm := (name_of_methodNamed Bd.named Bd.method).1
  have hlk := BodyLoose.notSynchronized Bd
  have hret := Bd.returns
  have X0 : Stand p l e ({ frames := 2, cells := 1, slots := 8, locals := 60 } : Room) s m #[(.ref t)] below meth c s₁ [] 0 0 := Stand.of_body Bd
  have e0 : s₁.heap = h0 := by rw [← hh, Bd.state]; rfl
  have N0 := Fr.nil n0
  show own_G p e below (own_P s below (Q_toa Z t B cap len f h0 n0) ({ frames := 2, cells := 1, slots := 8, locals := 60 } : Room).cells ({ frames := 2, cells := 1, slots := 8, locals := 60 } : Room).slots) _
  refine own_go (B := s₁.setTop (mkF m 0 #[.val (.ref t)] [])) (fun t₂ k => castTop (ef_toa m t) k) ?_
  obtain ⟨E1, F1, ⟨z, hz, F2⟩, V, nBt, hlc, hc8⟩ := H
  refine own_go (B := s₁.setTop (mkF m 1 #[.val (.ref t)] [(.ref t)])) (fun _ hr => XS.aloadN X0.here hx rfl (hb hby d8_0) rfl rfl hr) ?_
  obtain ⟨T35, X35, e35, st35⟩ := getF X0 hx hZ hown (host := "") (Or.inl (hw _ (List.mem_of_getElem? (i := 10) rfl))) Via.refl e0 F1 (g := (mkF m 1 #[.val (.ref t)] [(.ref t)])) rfl rfl (hb hby d8_1)
  refine own_go (B := T35.setTop (mkF m 4 #[.val (.ref t)] [(.ref B)])) (fun t₂ hr => st35 t₂ hr) ?_
  refine own_go (B := T35.setTop (mkF m 5 #[.val (.ref t)] [(.ref t), (.ref B)])) (fun _ hr => XS.aloadN X35.here hx rfl (hb hby d8_4) rfl rfl hr) ?_
  obtain ⟨T36, X36, e36, st36⟩ := getF X35 hx hZ hown (host := "") (Or.inl (hw _ (List.mem_of_getElem? (i := 21) rfl))) Via.refl e35 F2 (g := (mkF m 5 #[.val (.ref t)] [(.ref t), (.ref B)])) rfl rfl (hb hby d8_5)
  refine own_go (B := T36.setTop (mkF m 8 #[.val (.ref t)] [(.int z), (.ref B)])) (fun t₂ hr => st36 t₂ hr) ?_
  obtain ⟨_, _, ⟨T37, L37, k37, n37⟩, -, X37, ⟨Lc37, hQ37, l37, y37, z37⟩, st37⟩ := Jvm.LawKit.callS X36 hx (y := (⟨"java/util/Arrays", "copyOf", "([BI)[B"⟩ : MethodName)) hown (mvT hZ (hw _ (List.mem_of_getElem? (i := 27) rfl))) (mvT hZ (hw _ (List.mem_of_getElem? (i := 28) rfl))) (mvT hZ (hw _ (List.mem_of_getElem? (i := 29) rfl))) (mvT hZ (hw _ (List.mem_of_getElem? (i := 30) rfl))) (by decide) (backOf (W := 0) (rm_copy l Z a0 hw [] B z cap f len h0 n0 Z0 V hc8 hz (by omega)) hZ (hw _ (List.mem_of_getElem? (i := 30) rfl)) (hw _ (List.mem_of_getElem? (i := 29) rfl)) (by decide) (by decide)) (g := (mkF m 8 #[.val (.ref t)] [(.int z), (.ref B)])) rfl (by rw [hml]; rfl) (argsL := [(.ref B), (.int z)]) (rest := []) (lenOf pd_copy rfl) rfl (by show 2 * 0 + _ ≤ _; exact Nat.le_of_eq rfl) (hb hby d8_8) (fun _ _ => ⟨rfl, e36, (by decide : 0 + 1 ≤ _), (by decide : 0 + 8 ≤ _)⟩)
  dsimp only [Pt.U, Pt.locs, Pt.cells, Pt.slots] at X37 l37 y37 z37 st37 hQ37
  subst l37 y37 z37
  obtain ⟨N37, K37, r, rfl, ger, V37⟩ := hQ37
  have M37 := Fr.app N0 N37
  refine own_go (B := T37.setTop (mkF m 11 #[.val (.ref t)] [(.ref r)])) (fun t₂ hr => st37 t₂ hr) ?_
  exact own_retA X37 hx hlk hret rfl rfl (hb hby d8_11) (by decide) (by decide) ⟨M37, K37, r, rfl, ger, V37⟩
theorem d9_0 : decode prog_69_method_2_code 0 = .ok (.aload_n 0, 1) := by decide +kernel
theorem d9_1 : decode prog_69_method_2_code 1 = .ok (.getfield 13, 3) := by decide +kernel
theorem d9_4 : decode prog_69_method_2_code 4 = .ok (.ireturn, 1) := by decide +kernel
theorem pn_len : plainName "com/example/chronaero/chronaero/Utf8Text" = true := by first | (simp [plainName, overriddenIn]; done) | decide +kernel
theorem pd_len : parseMethodDescriptor "()I" = some ⟨[], some .int⟩ := by decide +kernel
theorem ef_len (m : MethodId) (x0 : Addr) : entryFrame m #[(.ref x0)] 1 = mkF m 0 #[.val (.ref x0)] [] := by first | (simp [entryFrame, mkF, argsToLocals, Value.category, maxLocals]; done) | rfl
def Q_len (Z : State) (t : Addr) (zi : Int32) (B : Addr) (cap : Nat) (len : Nat) (f : Nat → Int32) (h0 : Heap) (n0 : Nat) (v : Option Value) (h : Heap) (L : List Loc) : Prop := v = some (.int zi) ∧ Fr n0 L ∧ h = h0
set_option maxRecDepth 65536 in
set_option maxHeartbeats 40000000 in
theorem rm_len (l : Launch) (Z : State) (a0 : Array Value) (hw : ∀ d ∈ tables_1, d.before a0 Z = true) (ws : List Jvm.Cond) (t : Addr) (zi : Int32) (B : Addr) (cap : Nat) (len : Nat) (f : Nat → Int32) (h0 : Heap) (n0 : Nat) (Z0 : n0 ≤ h0.size) (H : own_Txt Z h0 t B cap len f) (hzi : zi.toInt = (len : Int)) :
    MetFree l (⟨"com/example/chronaero/chronaero/Utf8Text", "length", "()I"⟩ : MethodName) (head1 (Jvm.Cond.code (⟨"com/example/chronaero/chronaero/Utf8Text", "length", "()I"⟩ : MethodName) prog_69_method_2_code 1 (some .int) :: ws) ({ frames := 0, cells := 0, slots := 0, locals := 0 } : Room)) (fun as U => as = #[(.ref t)] ∧ Z.Warmed39 U.vm ∧ U.heap = h0) (fun _ _ _ _ _ => True) (fun _ U o U' => ∃ v L, o = .returned v ∧ Q_len Z t zi B cap len f h0 n0 v U'.heap L ∧ FrameEnd U o U' L ({ frames := 0, cells := 0, slots := 0, locals := 0 } : Room).cells ({ frames := 0, cells := 0, slots := 0, locals := 0 } : Room).slots) := by
  refine MetFree.of_bodySF (plainFor_of_name pn_len) hisR ?_
  intro p e s m args below meth c s₁ Bd hml0 hP hK
  obtain ⟨rfl, hZ, hh⟩ := hP
  have hx := Bd.exec
  have hby := Bd.bytes
  have hml : c.maxLocals = 1 := hml0
  have hown : s.vm.findClass "com/example/chronaero/chronaero/Utf8Text" = some m.cls := findClass_of_methodNamed Bd.named
  have hnm := (name_of_methodNamed Bd.named Bd.method).1
  have hlk := BodyLoose.notSynchronized Bd
  have hret := Bd.returns
  have X0 : Stand p l e ({ frames := 0, cells := 0, slots := 0, locals := 0 } : Room) s m #[(.ref t)] below meth c s₁ [] 0 0 := Stand.of_body Bd
  have e0 : s₁.heap = h0 := by rw [← hh, Bd.state]; rfl
  have N0 := Fr.nil n0
  show own_G p e below (own_P s below (Q_len Z t zi B cap len f h0 n0) ({ frames := 0, cells := 0, slots := 0, locals := 0 } : Room).cells ({ frames := 0, cells := 0, slots := 0, locals := 0 } : Room).slots) _
  refine own_go (B := s₁.setTop (mkF m 0 #[.val (.ref t)] [])) (fun t₂ k => castTop (ef_len m t) k) ?_
  obtain ⟨E1, F1, ⟨z, hz, F2⟩, V, nBt, hlc, hc8⟩ := H
  obtain rfl : z = zi := Int32.toInt_inj.mp (by omega)
  refine own_go (B := s₁.setTop (mkF m 1 #[.val (.ref t)] [(.ref t)])) (fun _ hr => XS.aloadN X0.here hx rfl (hb hby d9_0) rfl rfl hr) ?_
  obtain ⟨T38, X38, e38, st38⟩ := getF X0 hx hZ hown (host := "") (Or.inl (hw _ (List.mem_of_getElem? (i := 21) rfl))) Via.refl e0 F2 (g := (mkF m 1 #[.val (.ref t)] [(.ref t)])) rfl rfl (hb hby d9_1)
  refine own_go (B := T38.setTop (mkF m 4 #[.val (.ref t)] [(.int z)])) (fun t₂ hr => st38 t₂ hr) ?_
  exact own_retI X38 hx hlk hret  (hb hby d9_4) (by decide) (by decide) ⟨rfl, N0, e38⟩
theorem d10_0 : decode method_3_code 0 = .ok (.iload_n 2, 1) := by decide +kernel
theorem d10_1 : decode method_3_code 1 = .ok (.aload_n 0, 1) := by decide +kernel
theorem d10_2 : decode method_3_code 2 = .ok (.arraylength, 1) := by decide +kernel
theorem d10_3 : decode method_3_code 3 = .ok (.if_icmp .ge 12, 3) := by decide +kernel
theorem d10_6 : decode method_3_code 6 = .ok (.aload_n 0, 1) := by decide +kernel
theorem d10_7 : decode method_3_code 7 = .ok (.iload_n 2, 1) := by decide +kernel
theorem d10_8 : decode method_3_code 8 = .ok (.baload, 1) := by decide +kernel
theorem d10_9 : decode method_3_code 9 = .ok (.aload_n 1, 1) := by decide +kernel
theorem d10_10 : decode method_3_code 10 = .ok (.iload_n 2, 1) := by decide +kernel
theorem d10_11 : decode method_3_code 11 = .ok (.baload, 1) := by decide +kernel
theorem d10_12 : decode method_3_code 12 = .ok (.if_icmp .ne 7, 3) := by decide +kernel
theorem d10_15 : decode method_3_code 15 = .ok (.iconst 1, 1) := by decide +kernel
theorem d10_16 : decode method_3_code 16 = .ok (.goto 4, 3) := by decide +kernel
theorem d10_19 : decode method_3_code 19 = .ok (.iconst 0, 1) := by decide +kernel
theorem d10_20 : decode method_3_code 20 = .ok (.ireturn, 1) := by decide +kernel
theorem pn_at : plainName "com/example/chronaero/chronaero/Utf8TextToArrayPinLaw" = true := by first | (simp [plainName, overriddenIn]; done) | decide +kernel
theorem pd_at : parseMethodDescriptor "([B[BI)Z" = some ⟨[(.array .byte), (.array .byte), .int], some .boolean⟩ := by decide +kernel
theorem ef_at (m : MethodId) (x0 : Addr) (x1 : Addr) (x2 : Int32) : entryFrame m #[(.ref x0), (.ref x1), (.int x2)] 3 = mkF m 0 #[.val (.ref x0), .val (.ref x1), .val (.int x2)] [] := by first | (simp [entryFrame, mkF, argsToLocals, Value.category, maxLocals]; done) | rfl
def Q_at (Z : State) (ra : Addr) (ea : Addr) (ii : Int32) (rn : Nat) (fr : Nat → Int32) (fe : Nat → Int32) (k : Nat) (h0 : Heap) (n0 : Nat) (v : Option Value) (h : Heap) (L : List Loc) : Prop := v = some (.int 1) ∧ Fr n0 L ∧ h = h0
set_option maxRecDepth 65536 in
set_option maxHeartbeats 40000000 in
theorem rm_at (l : Launch) (Z : State) (a0 : Array Value) (hw : ∀ d ∈ tables_1, d.before a0 Z = true) (ws : List Jvm.Cond) (ra : Addr) (ea : Addr) (ii : Int32) (rn : Nat) (fr : Nat → Int32) (fe : Nat → Int32) (k : Nat) (h0 : Heap) (n0 : Nat) (Z0 : n0 ≤ h0.size) (Vr : own_By Z h0 ra rn fr) (Ve : own_By Z h0 ea 5 fe) (hrn : rn ≤ 5) (hi : ii.toInt = (k : Int)) (heq : k < rn → fr k = fe k) :
    MetFree l (⟨"com/example/chronaero/chronaero/Utf8TextToArrayPinLaw", "at", "([B[BI)Z"⟩ : MethodName) (head1 (Jvm.Cond.code (⟨"com/example/chronaero/chronaero/Utf8TextToArrayPinLaw", "at", "([B[BI)Z"⟩ : MethodName) method_3_code 3 (some .boolean) :: ws) ({ frames := 0, cells := 0, slots := 0, locals := 0 } : Room)) (fun as U => as = #[(.ref ra), (.ref ea), (.int ii)] ∧ Z.Warmed39 U.vm ∧ U.heap = h0) (fun _ _ _ _ _ => True) (fun _ U o U' => ∃ v L, o = .returned v ∧ Q_at Z ra ea ii rn fr fe k h0 n0 v U'.heap L ∧ FrameEnd U o U' L ({ frames := 0, cells := 0, slots := 0, locals := 0 } : Room).cells ({ frames := 0, cells := 0, slots := 0, locals := 0 } : Room).slots) := by
  refine MetFree.of_bodySF (plainFor_of_name pn_at) hisR ?_
  intro p e s m args below meth c s₁ Bd hml0 hP hK
  obtain ⟨rfl, hZ, hh⟩ := hP
  have hx := Bd.exec
  have hby := Bd.bytes
  have hml : c.maxLocals = 3 := hml0
  have hown : s.vm.findClass "com/example/chronaero/chronaero/Utf8TextToArrayPinLaw" = some m.cls := findClass_of_methodNamed Bd.named
  have hnm := (name_of_methodNamed Bd.named Bd.method).1
  have hlk := BodyLoose.notSynchronized Bd
  have hret := Bd.returns
  have X0 : Stand p l e ({ frames := 0, cells := 0, slots := 0, locals := 0 } : Room) s m #[(.ref ra), (.ref ea), (.int ii)] below meth c s₁ [] 0 0 := Stand.of_body Bd
  have e0 : s₁.heap = h0 := by rw [← hh, Bd.state]; rfl
  have N0 := Fr.nil n0
  show own_G p e below (own_P s below (Q_at Z ra ea ii rn fr fe k h0 n0) ({ frames := 0, cells := 0, slots := 0, locals := 0 } : Room).cells ({ frames := 0, cells := 0, slots := 0, locals := 0 } : Room).slots) _
  refine own_go (B := s₁.setTop (mkF m 0 #[.val (.ref ra), .val (.ref ea), .val (.int ii)] [])) (fun t₂ k => castTop (ef_at m ra ea ii) k) ?_
  have hN := own_small (n := rn) (by omega)
  refine own_go (B := s₁.setTop (mkF m 1 #[.val (.ref ra), .val (.ref ea), .val (.int ii)] [(.int ii)])) (fun _ hr => XS.iloadN X0.here hx rfl (hb hby d10_0) rfl hr) ?_
  refine own_go (B := s₁.setTop (mkF m 2 #[.val (.ref ra), .val (.ref ea), .val (.int ii)] [(.ref ra), (.int ii)])) (fun _ hr => XS.aloadN X0.here hx rfl (hb hby d10_1) rfl rfl hr) ?_
  refine own_go (B := s₁.setTop (mkF m 3 #[.val (.ref ra), .val (.ref ea), .val (.int ii)] [(.int rn.toInt32), (.int ii)])) (fun _ hr => own_len X0 hx hZ e0 Vr.1 hN (g := (mkF m 2 #[.val (.ref ra), .val (.ref ea), .val (.int ii)] [(.ref ra), (.int ii)])) rfl rfl (hb hby d10_2) _ hr) ?_
  by_cases c39 : ii < rn.toInt32
  · refine own_go (B := s₁.setTop (mkF m 6 #[.val (.ref ra), .val (.ref ea), .val (.int ii)] [])) (fun _ hr => XS.icmpNo X0.here hx rfl (hb hby d10_3) rfl (XT.ii_ge_f c39) hr) ?_
    have hlt : k < rn := by have q := c39; rw [Int32.lt_iff_toInt_lt, hN, hi] at q; omega
    refine own_go (B := s₁.setTop (mkF m 7 #[.val (.ref ra), .val (.ref ea), .val (.int ii)] [(.ref ra)])) (fun _ hr => XS.aloadN X0.here hx rfl (hb hby d10_6) rfl rfl hr) ?_
    refine own_go (B := s₁.setTop (mkF m 8 #[.val (.ref ra), .val (.ref ea), .val (.int ii)] [(.int ii), (.ref ra)])) (fun _ hr => XS.iloadN X0.here hx rfl (hb hby d10_7) rfl hr) ?_
    refine own_go (B := s₁.setTop (mkF m 9 #[.val (.ref ra), .val (.ref ea), .val (.int ii)] [(.int (fr k))])) (fun _ hr => own_ldB X0 hx hZ e0 Vr.1 hi hlt rfl (g := (mkF m 8 #[.val (.ref ra), .val (.ref ea), .val (.int ii)] [(.int ii), (.ref ra)])) rfl rfl (hb hby d10_8) _ hr) ?_
    refine own_go (B := s₁.setTop (mkF m 10 #[.val (.ref ra), .val (.ref ea), .val (.int ii)] [(.ref ea), (.int (fr k))])) (fun _ hr => XS.aloadN X0.here hx rfl (hb hby d10_9) rfl rfl hr) ?_
    refine own_go (B := s₁.setTop (mkF m 11 #[.val (.ref ra), .val (.ref ea), .val (.int ii)] [(.int ii), (.ref ea), (.int (fr k))])) (fun _ hr => XS.iloadN X0.here hx rfl (hb hby d10_10) rfl hr) ?_
    refine own_go (B := s₁.setTop (mkF m 12 #[.val (.ref ra), .val (.ref ea), .val (.int ii)] [(.int (fe k)), (.int (fr k))])) (fun _ hr => own_ldB X0 hx hZ e0 Ve.1 hi (by omega) rfl (g := (mkF m 11 #[.val (.ref ra), .val (.ref ea), .val (.int ii)] [(.int ii), (.ref ea), (.int (fr k))])) rfl rfl (hb hby d10_11) _ hr) ?_
    refine own_go (B := s₁.setTop (mkF m 15 #[.val (.ref ra), .val (.ref ea), .val (.int ii)] [])) (fun _ hr => XS.icmpNo X0.here hx rfl (hb hby d10_12) rfl (XT.ii_ne_f (heq hlt)) hr) ?_
    refine own_go (B := s₁.setTop (mkF m 16 #[.val (.ref ra), .val (.ref ea), .val (.int ii)] [(.int (1 : Int32))])) (fun _ hr => XT.iconstV X0.here hx rfl (1 : Int32) (hb hby d10_15) (by decide) hr) ?_
    refine own_go (B := s₁.setTop (mkF m 20 #[.val (.ref ra), .val (.ref ea), .val (.int ii)] [(.int (1 : Int32))])) (fun _ hr => XS.goto X0.here hx rfl (pc0 := 16) (pc' := 20) rfl (hb hby d10_16) (by decide) (by decide) hr) ?_
    exact own_retZ X0 hx hlk hret (by decide) (hb hby d10_20) (by decide) (by decide) ⟨rfl, N0, e0⟩
  · refine own_go (B := s₁.setTop (mkF m 15 #[.val (.ref ra), .val (.ref ea), .val (.int ii)] [])) (fun _ hr => XS.icmpYes X0.here hx rfl (pc0 := 3) (pc' := 15) rfl (hb hby d10_3) rfl (XT.ii_ge_t c39) (by decide) (by decide) hr) ?_
    refine own_go (B := s₁.setTop (mkF m 16 #[.val (.ref ra), .val (.ref ea), .val (.int ii)] [(.int (1 : Int32))])) (fun _ hr => XT.iconstV X0.here hx rfl (1 : Int32) (hb hby d10_15) (by decide) hr) ?_
    refine own_go (B := s₁.setTop (mkF m 20 #[.val (.ref ra), .val (.ref ea), .val (.int ii)] [(.int (1 : Int32))])) (fun _ hr => XS.goto X0.here hx rfl (pc0 := 16) (pc' := 20) rfl (hb hby d10_16) (by decide) (by decide) hr) ?_
    exact own_retZ X0 hx hlk hret (by decide) (hb hby d10_20) (by decide) (by decide) ⟨rfl, N0, e0⟩
def own_S (Z : State) (h : Heap) (n0 : Nat) (t sa ea B : Addr) (cap len : Nat) (f fs fe : Nat → Int32) : Prop :=
  n0 ≤ h.size ∧ own_Txt Z h t B cap len f ∧ own_By Z h sa 3 fs ∧ own_By Z h ea 5 fe ∧ @Ne Nat sa t ∧ @Ne Nat sa B ∧ @Ne Nat ea t ∧ @Ne Nat ea B ∧ @Ne Nat sa ea ∧ n0 ≤ B
theorem own_Txt.wr {Z : State} {h h' : Heap} {t B a : Addr} {cap len sl : Nat} {f : Nat → Int32} {v : Value} (H : own_Txt Z h t B cap len f) (W : Wr h h' a sl v) (q1 : @Ne Nat t a) (q2 : @Ne Nat B a) : own_Txt Z h' t B cap len f := by
  obtain ⟨E1, F1, ⟨z, hz, F2⟩, V, r⟩ := H
  exact ⟨E1.wr W, F1.other W (Or.inl q1), ⟨z, hz, F2.other W (Or.inl q1)⟩, V.other W q2, r⟩
theorem own_Txt.keep0 {Z : State} {h h' : Heap} {t B : Addr} {cap len : Nat} {f : Nat → Int32} (H : own_Txt Z h t B cap len f) (K : Keep h h' []) : own_Txt Z h' t B cap len f := by
  obtain ⟨E1, F1, ⟨z, hz, F2⟩, V, r⟩ := H
  exact ⟨E1.keep K, F1.keep K nin0, ⟨z, hz, F2.keep K nin0⟩, V.keep K nin0, r⟩
theorem own_S.step {Z : State} {h h' : Heap} {n0 : Nat} {t sa ea B B' : Addr} {cap len cap' len' : Nat} {f f' fs fe : Nat → Int32} (S : own_S Z h n0 t sa ea B cap len f fs fe) (K : Keep h h' [t, B]) (zs : n0 ≤ h'.size) (H : own_Txt Z h' t B' cap' len' f') (ge : n0 ≤ B') (hor : B' = B ∨ h.size ≤ B') : own_S Z h' n0 t sa ea B' cap' len' f' fs fe := by
  obtain ⟨z, T, Vs, Ve, q1, q2, q3, q4, q5, q6⟩ := S
  have l1 := Vs.lt
  have l2 := Ve.lt
  refine ⟨zs, H, Vs.keep K (ninS q1 (ninS q2 nin0)), Ve.keep K (ninS q3 (ninS q4 nin0)), q1, ?_, q3, ?_, q5, ge⟩
  · rcases hor with rfl | r
    · exact q2
    · exact Nat.ne_of_lt (Nat.lt_of_lt_of_le l1 r)
  · rcases hor with rfl | r
    · exact q4
    · exact Nat.ne_of_lt (Nat.lt_of_lt_of_le l2 r)
theorem own_S.keep0 {Z : State} {h h' : Heap} {n0 : Nat} {t sa ea B : Addr} {cap len : Nat} {f fs fe : Nat → Int32} (S : own_S Z h n0 t sa ea B cap len f fs fe) (K : Keep h h' []) : own_S Z h' n0 t sa ea B cap len f fs fe := by
  obtain ⟨z, T, Vs, Ve, q⟩ := S
  exact ⟨Nat.le_trans z K.1, T.keep0 K, Vs.keep K nin0, Ve.keep K nin0, q⟩
theorem own_S.exp {Z : State} {h h' : Heap} {n0 j : Nat} {t sa ea B : Addr} {cap len : Nat} {f fs fe : Nat → Int32} {y : Int32} (S : own_S Z h n0 t sa ea B cap len f fs fe) (hy : fits .byte (.int y) = true) (W : Wr h h' ea j (.int y)) : own_S Z h' n0 t sa ea B cap len f fs (fun i => if i = j then y else fe i) := by
  obtain ⟨z, T, Vs, Ve, q1, q2, q3, q4, q5, q6⟩ := S
  exact ⟨by rw [W.size]; exact z, T.wr W q3.symm q4.symm, Vs.other W q5, Ve.set hy W, q1, q2, q3, q4, q5, q6⟩
theorem own_S.wr {Z : State} {h h' : Heap} {n0 sl : Nat} {t sa ea B a : Addr} {cap len : Nat} {f fs fe : Nat → Int32} {v : Value} (S : own_S Z h n0 t sa ea B cap len f fs fe) (W : Wr h h' a sl v) (q1 : @Ne Nat t a) (q2 : @Ne Nat B a) (q3 : @Ne Nat sa a) (q4 : @Ne Nat ea a) : own_S Z h' n0 t sa ea B cap len f fs fe := by
  obtain ⟨z, T, Vs, Ve, q⟩ := S
  exact ⟨by rw [W.size]; exact z, T.wr W q1 q2, Vs.other W q3, Ve.other W q4, q⟩
theorem own_and7 (x : Int32) : ∃ t : Nat, (x &&& (7 : Int32)).toInt = (t : Int) ∧ t ≤ 7 := by
  have h1 : (x &&& (7 : Int32)).toInt = x.toInt % 2 ^ 3 := Jvm.Kit.i32_mask x 7 (k := 3) (by decide) (by decide)
  exact ⟨(x &&& (7 : Int32)).toInt.toNat, by omega, by omega⟩
theorem own_and3 (x : Int32) : ∃ t : Nat, (x &&& (3 : Int32)).toInt = (t : Int) ∧ t ≤ 3 := by
  have h1 : (x &&& (3 : Int32)).toInt = x.toInt % 2 ^ 2 := Jvm.Kit.i32_mask x 3 (k := 2) (by decide) (by decide)
  exact ⟨(x &&& (3 : Int32)).toInt.toNat, by omega, by omega⟩
theorem pn_law : plainName "com/example/chronaero/chronaero/Utf8TextToArrayPinLaw" = true := by first | (simp [plainName, overriddenIn]; done) | decide +kernel
theorem ef_law (m : MethodId) (x0 : Int32) (x1 : Int32) (x2 : Int32) (x3 : Int32) : entryFrame m #[(.int x0), (.int x1), (.int x2), (.int x3)] maxLocals = mkF m 0 #[.val (.int x0), .val (.int x1), .val (.int x2), .val (.int x3), .unset, .unset, .unset, .unset, .unset, .unset, .unset, .unset, .unset, .unset, .unset, .unset, .unset] [] := by first | (simp [entryFrame, mkF, argsToLocals, Value.category, maxLocals]; done) | rfl
def Q_law (Z : State) (gi : Int32) (pi : Int32) (qi : Int32) (mi : Int32) (h0 : Heap) (n0 : Nat) (v : Option Value) (h : Heap) (L : List Loc) : Prop := v = some (.int 1) ∧ Fr n0 L
def own_pre (mi : Int32) : Int32 := (if (mi &&& (4 : Int32)) = 0 then (0 : Int32) else (1 : Int32))
def own_clr (mi : Int32) : Int32 := (if (mi &&& (8 : Int32)) = 0 then (0 : Int32) else (1 : Int32))
def own_post (mi : Int32) : Int32 := (if (mi &&& (16 : Int32)) = 0 then (0 : Int32) else (1 : Int32))
set_option maxRecDepth 65536 in
set_option maxHeartbeats 40000000 in
theorem rm_law (l : Launch) (Z : State) (a0 : Array Value) (hw : ∀ d ∈ tables_1, d.before a0 Z = true) (ws : List Jvm.Cond) (gi : Int32) (pi : Int32) (qi : Int32) (mi : Int32) (h0 : Heap) (n0 : Nat) (Z0 : n0 ≤ h0.size)  :
    MetFree l x (head1 (Jvm.Cond.code x code maxLocals ret :: ws) room_1) (fun as U => as = #[(.int gi), (.int pi), (.int qi), (.int mi)] ∧ Z.Warmed39 U.vm ∧ U.heap = h0) (fun _ _ _ _ _ => True) (fun _ U o U' => ∃ v L, o = .returned v ∧ Q_law Z gi pi qi mi h0 n0 v U'.heap L ∧ FrameEnd U o U' L 32 192) := by
  refine MetFree.of_bodySF (plainFor_of_name pn_law) hisR ?_
  intro p e s m args below meth c s₁ Bd hml0 hP hK
  obtain ⟨rfl, hZ, hh⟩ := hP
  have hx := Bd.exec
  have hby := Bd.bytes
  have hml : c.maxLocals = 17 := hml0
  have hown : s.vm.findClass "com/example/chronaero/chronaero/Utf8TextToArrayPinLaw" = some m.cls := findClass_of_methodNamed Bd.named
  have hnm := (name_of_methodNamed Bd.named Bd.method).1
  have hlk := BodyLoose.notSynchronized Bd
  have hret := Bd.returns
  have X0 : Stand p l e room_1 s m #[(.int gi), (.int pi), (.int qi), (.int mi)] below meth c s₁ [] 0 0 := Stand.of_body Bd
  have e0 : s₁.heap = h0 := by rw [← hh, Bd.state]; rfl
  have N0 := Fr.nil n0
  show own_G p e below (own_P s below (Q_law Z gi pi qi mi h0 n0) 32 192) _
  refine own_go (B := s₁.setTop (mkF m 0 #[.val (.int gi), .val (.int pi), .val (.int qi), .val (.int mi), .unset, .unset, .unset, .unset, .unset, .unset, .unset, .unset, .unset, .unset, .unset, .unset, .unset] [])) (fun t₂ k => castTop (ef_law m gi pi qi mi) k) ?_
  obtain ⟨T40, h40, X40, e40, E40, A40, D40, -, st40⟩ := newO X0 hx hZ hown (hw _ (List.mem_of_getElem? (i := 0) rfl)) (hw _ (List.mem_of_getElem? (i := 1) rfl)) (hw _ (List.mem_of_getElem? (i := 2) rfl)) e0 (g := (mkF m 0 #[.val (.int gi), .val (.int pi), .val (.int qi), .val (.int mi), .unset, .unset, .unset, .unset, .unset, .unset, .unset, .unset, .unset, .unset, .unset, .unset, .unset] [])) rfl (hb hby at_0) (by decide) (by decide)
  obtain ⟨a40, g40⟩ : ∃ z, z = h0.size := ⟨_, rfl⟩
  rw [← g40] at A40 D40 st40
  refine own_go (B := T40.setTop (mkF m 3 #[.val (.int gi), .val (.int pi), .val (.int qi), .val (.int mi), .unset, .unset, .unset, .unset, .unset, .unset, .unset, .unset, .unset, .unset, .unset, .unset, .unset] [(.ref a40)])) (fun t₂ hr => st40 t₂ hr) ?_
  have F1 : Fld Z h40 a40 "com/example/chronaero/chronaero/Utf8Text" "bytes" "[B" .null := D40 (Or.inl (hw _ (List.mem_of_getElem? (i := 11) rfl))) (ty := .array .byte) (by decide)
  have F2 : Fld Z h40 a40 "com/example/chronaero/chronaero/Utf8Text" "length" "I" (.int (0 : Int32)) := D40 (Or.inl (hw _ (List.mem_of_getElem? (i := 22) rfl))) (ty := .int) (by decide)
  have Z1 : n0 ≤ h40.size := Nat.le_trans Z0 E40.1
  have ge : n0 ≤ a40 := Nat.le_trans Z0 (Nat.le_of_eq g40.symm)
  obtain ⟨gn, hgn, hg7⟩ := own_and7 gi
  refine own_go (B := T40.setTop (mkF m 4 #[.val (.int gi), .val (.int pi), .val (.int qi), .val (.int mi), .unset, .unset, .unset, .unset, .unset, .unset, .unset, .unset, .unset, .unset, .unset, .unset, .unset] [(.ref a40), (.ref a40)])) (fun _ hr => XS.dup X40.here hx rfl (hb hby at_3) rfl rfl hr) ?_
  refine own_go (B := T40.setTop (mkF m 5 #[.val (.int gi), .val (.int pi), .val (.int qi), .val (.int mi), .unset, .unset, .unset, .unset, .unset, .unset, .unset, .unset, .unset, .unset, .unset, .unset, .unset] [(.int gi), (.ref a40), (.ref a40)])) (fun _ hr => XS.iloadN X40.here hx rfl (hb hby at_4) rfl hr) ?_
  refine own_go (B := T40.setTop (mkF m 7 #[.val (.int gi), .val (.int pi), .val (.int qi), .val (.int mi), .unset, .unset, .unset, .unset, .unset, .unset, .unset, .unset, .unset, .unset, .unset, .unset, .unset] [(.int (7 : Int32)), (.int gi), (.ref a40), (.ref a40)])) (fun _ hr => XT.bipushV X40.here hx rfl (7 : Int32) (hb hby at_5) (by decide) hr) ?_
  refine own_go (B := T40.setTop (mkF m 8 #[.val (.int gi), .val (.int pi), .val (.int qi), .val (.int mi), .unset, .unset, .unset, .unset, .unset, .unset, .unset, .unset, .unset, .unset, .unset, .unset, .unset] [(.int (gi &&& (7 : Int32))), (.ref a40), (.ref a40)])) (fun _ hr => XS.iand X40.here hx rfl (hb hby at_7) rfl hr) ?_
  obtain ⟨_, _, ⟨T41, L41, k41, n41⟩, -, X41, ⟨Lc41, hQ41, l41, y41, z41⟩, st41⟩ := X40.specialBack hx (y := (⟨"com/example/chronaero/chronaero/Utf8Text", "<init>", "(I)V"⟩ : MethodName)) rfl hown (mvT hZ (hw _ (List.mem_of_getElem? (i := 3) rfl))) (mvT hZ (hw _ (List.mem_of_getElem? (i := 4) rfl))) (mvT hZ (hw _ (List.mem_of_getElem? (i := 5) rfl))) (by decide) (backOf (W := 1) (rm_init l Z a0 hw [] a40 (gi &&& (7 : Int32)) gn h40 n0 Z1 F1 F2 A40 ge hgn (by omega)) hZ (hw _ (List.mem_of_getElem? (i := 5) rfl)) (hw _ (List.mem_of_getElem? (i := 2) rfl)) (by decide) (by decide)) (g := (mkF m 8 #[.val (.int gi), .val (.int pi), .val (.int qi), .val (.int mi), .unset, .unset, .unset, .unset, .unset, .unset, .unset, .unset, .unset, .unset, .unset, .unset, .unset] [(.int (gi &&& (7 : Int32))), (.ref a40), (.ref a40)])) rfl (by rw [hml]; rfl) (Steps.refl _) (a := a40) (argsL := [(.int (gi &&& (7 : Int32)))]) (rest := [(.ref a40)]) (lenOf pd_init rfl) rfl (by show 2 * 0 + _ ≤ _; exact Nat.le_of_eq rfl) (hb hby at_8) (fun _ _ => ⟨rfl, e40, (by decide : 1 + 1 ≤ _), (by decide : 2 + 8 ≤ _)⟩)
  dsimp only [Pt.U, Pt.locs, Pt.cells, Pt.slots] at X41 l41 y41 z41 st41 hQ41
  subst l41 y41 z41
  obtain ⟨rfl, N41, Z41, K41, B0, geB0, gB1, H41⟩ := hQ41
  refine own_gs (B := T41.setTop (mkF m 11 #[.val (.int gi), .val (.int pi), .val (.int qi), .val (.int mi), .unset, .unset, .unset, .unset, .unset, .unset, .unset, .unset, .unset, .unset, .unset, .unset, .unset] [(.ref a40)])) st41 ?_
  have M41 := Fr.app N0 N41
  have lt0 := own_ltE H41.1
  have ltB := H41.2.2.2.1.lt
  refine own_go (B := T41.setTop (mkF m 13 #[.val (.int gi), .val (.int pi), .val (.int qi), .val (.int mi), .val (.ref a40), .unset, .unset, .unset, .unset, .unset, .unset, .unset, .unset, .unset, .unset, .unset, .unset] [])) (fun _ hr => XS.astore X41.here hx rfl (hb hby at_11) rfl rfl (l' := #[.val (.int gi), .val (.int pi), .val (.int qi), .val (.int mi), .val (.ref a40), .unset, .unset, .unset, .unset, .unset, .unset, .unset, .unset, .unset, .unset, .unset, .unset]) rfl hr) ?_
  refine own_go (B := T41.setTop (mkF m 14 #[.val (.int gi), .val (.int pi), .val (.int qi), .val (.int mi), .val (.ref a40), .unset, .unset, .unset, .unset, .unset, .unset, .unset, .unset, .unset, .unset, .unset, .unset] [(.int (3 : Int32))])) (fun _ hr => XT.iconstV X41.here hx rfl (3 : Int32) (hb hby at_13) (by decide) hr) ?_
  obtain ⟨T42, h42, cA42, X42, e42, E42, A42, Ex42, st42⟩ := newPE X41 hx hZ (hw _ (List.mem_of_getElem? (i := 9) rfl)) rfl (g := (mkF m 14 #[.val (.int gi), .val (.int pi), .val (.int qi), .val (.int mi), .val (.ref a40), .unset, .unset, .unset, .unset, .unset, .unset, .unset, .unset, .unset, .unset, .unset, .unset] [(.int (3 : Int32))])) rfl (hb hby at_14) rfl (by decide) (cap := 3) (by rw [(own_at (by decide : (3 : Int32).toInt = ((3 : Nat) : Int))).2]; omega) (by decide) (by decide) (by decide) (ad := "[B") (by decide)
  obtain ⟨a42, g42⟩ : ∃ z, z = T41.heap.size := ⟨_, rfl⟩
  rw [← g42] at A42 Ex42 st42
  have V42 := own_By.new A42 Ex42 (by decide : (3 : Int32).toInt = ((3 : Nat) : Int))
  refine own_go (B := T42.setTop (mkF m 16 #[.val (.int gi), .val (.int pi), .val (.int qi), .val (.int mi), .val (.ref a40), .unset, .unset, .unset, .unset, .unset, .unset, .unset, .unset, .unset, .unset, .unset, .unset] [(.ref a42)])) (fun t₂ hr => st42 t₂ hr) ?_
  have ges : n0 ≤ a42 := by omega
  refine own_go (B := T42.setTop (mkF m 17 #[.val (.int gi), .val (.int pi), .val (.int qi), .val (.int mi), .val (.ref a40), .unset, .unset, .unset, .unset, .unset, .unset, .unset, .unset, .unset, .unset, .unset, .unset] [(.ref a42), (.ref a42)])) (fun _ hr => XS.dup X42.here hx rfl (hb hby at_16) rfl rfl hr) ?_
  refine own_go (B := T42.setTop (mkF m 18 #[.val (.int gi), .val (.int pi), .val (.int qi), .val (.int mi), .val (.ref a40), .unset, .unset, .unset, .unset, .unset, .unset, .unset, .unset, .unset, .unset, .unset, .unset] [(.int (0 : Int32)), (.ref a42), (.ref a42)])) (fun _ hr => XT.iconstV X42.here hx rfl (0 : Int32) (hb hby at_17) (by decide) hr) ?_
  refine own_go (B := T42.setTop (mkF m 19 #[.val (.int gi), .val (.int pi), .val (.int qi), .val (.int mi), .val (.ref a40), .unset, .unset, .unset, .unset, .unset, .unset, .unset, .unset, .unset, .unset, .unset, .unset] [(.int pi), (.int (0 : Int32)), (.ref a42), (.ref a42)])) (fun _ hr => XS.iloadN X42.here hx rfl (hb hby at_18) rfl hr) ?_
  refine own_go (B := T42.setTop (mkF m 20 #[.val (.int gi), .val (.int pi), .val (.int qi), .val (.int mi), .val (.ref a40), .unset, .unset, .unset, .unset, .unset, .unset, .unset, .unset, .unset, .unset, .unset, .unset] [(.int (pi.toInt8.toInt32)), (.int (0 : Int32)), (.ref a42), (.ref a42)])) (fun _ hr => XT.i2b X42.here hx rfl (hb hby at_19) rfl hr) ?_
  obtain ⟨T43, h43, X43, e43, W43, V43, st43⟩ := own_stB X42 hx hZ e42 V42.1 (by decide : (0 : Int32).toInt = ((0 : Nat) : Int)) (by decide) (own_b8 _) (g := (mkF m 20 #[.val (.int gi), .val (.int pi), .val (.int qi), .val (.int mi), .val (.ref a40), .unset, .unset, .unset, .unset, .unset, .unset, .unset, .unset, .unset, .unset, .unset, .unset] [(.int (pi.toInt8.toInt32)), (.int (0 : Int32)), (.ref a42), (.ref a42)])) rfl rfl (hb hby at_20)
  have N43 := Fr.snoc X43 M41 ges
  refine own_go (B := T43.setTop (mkF m 21 #[.val (.int gi), .val (.int pi), .val (.int qi), .val (.int mi), .val (.ref a40), .unset, .unset, .unset, .unset, .unset, .unset, .unset, .unset, .unset, .unset, .unset, .unset] [(.ref a42)])) (fun t₂ hr => st43 t₂ hr) ?_
  have U43 := V42.set (fits_nar_byte _) W43
  refine own_go (B := T43.setTop (mkF m 22 #[.val (.int gi), .val (.int pi), .val (.int qi), .val (.int mi), .val (.ref a40), .unset, .unset, .unset, .unset, .unset, .unset, .unset, .unset, .unset, .unset, .unset, .unset] [(.ref a42), (.ref a42)])) (fun _ hr => XS.dup X43.here hx rfl (hb hby at_21) rfl rfl hr) ?_
  refine own_go (B := T43.setTop (mkF m 23 #[.val (.int gi), .val (.int pi), .val (.int qi), .val (.int mi), .val (.ref a40), .unset, .unset, .unset, .unset, .unset, .unset, .unset, .unset, .unset, .unset, .unset, .unset] [(.int (1 : Int32)), (.ref a42), (.ref a42)])) (fun _ hr => XT.iconstV X43.here hx rfl (1 : Int32) (hb hby at_22) (by decide) hr) ?_
  refine own_go (B := T43.setTop (mkF m 24 #[.val (.int gi), .val (.int pi), .val (.int qi), .val (.int mi), .val (.ref a40), .unset, .unset, .unset, .unset, .unset, .unset, .unset, .unset, .unset, .unset, .unset, .unset] [(.int pi), (.int (1 : Int32)), (.ref a42), (.ref a42)])) (fun _ hr => XS.iloadN X43.here hx rfl (hb hby at_23) rfl hr) ?_
  refine own_go (B := T43.setTop (mkF m 26 #[.val (.int gi), .val (.int pi), .val (.int qi), .val (.int mi), .val (.ref a40), .unset, .unset, .unset, .unset, .unset, .unset, .unset, .unset, .unset, .unset, .unset, .unset] [(.int (8 : Int32)), (.int pi), (.int (1 : Int32)), (.ref a42), (.ref a42)])) (fun _ hr => XT.bipushV X43.here hx rfl (8 : Int32) (hb hby at_24) (by decide) hr) ?_
  refine own_go (B := T43.setTop (mkF m 27 #[.val (.int gi), .val (.int pi), .val (.int qi), .val (.int mi), .val (.ref a40), .unset, .unset, .unset, .unset, .unset, .unset, .unset, .unset, .unset, .unset, .unset, .unset] [(.int (pi >>> ((8 : Int32) &&& 31))), (.int (1 : Int32)), (.ref a42), (.ref a42)])) (fun _ hr => XT.ishr X43.here hx rfl (hb hby at_26) rfl hr) ?_
  refine own_go (B := T43.setTop (mkF m 28 #[.val (.int gi), .val (.int pi), .val (.int qi), .val (.int mi), .val (.ref a40), .unset, .unset, .unset, .unset, .unset, .unset, .unset, .unset, .unset, .unset, .unset, .unset] [(.int ((pi >>> ((8 : Int32) &&& 31)).toInt8.toInt32)), (.int (1 : Int32)), (.ref a42), (.ref a42)])) (fun _ hr => XT.i2b X43.here hx rfl (hb hby at_27) rfl hr) ?_
  obtain ⟨T44, h44, X44, e44, W44, V44, st44⟩ := own_stB X43 hx hZ e43 U43.1 (by decide : (1 : Int32).toInt = ((1 : Nat) : Int)) (by decide) (own_b8 _) (g := (mkF m 28 #[.val (.int gi), .val (.int pi), .val (.int qi), .val (.int mi), .val (.ref a40), .unset, .unset, .unset, .unset, .unset, .unset, .unset, .unset, .unset, .unset, .unset, .unset] [(.int ((pi >>> ((8 : Int32) &&& 31)).toInt8.toInt32)), (.int (1 : Int32)), (.ref a42), (.ref a42)])) rfl rfl (hb hby at_28)
  have N44 := Fr.snoc X44 N43 ges
  refine own_go (B := T44.setTop (mkF m 29 #[.val (.int gi), .val (.int pi), .val (.int qi), .val (.int mi), .val (.ref a40), .unset, .unset, .unset, .unset, .unset, .unset, .unset, .unset, .unset, .unset, .unset, .unset] [(.ref a42)])) (fun t₂ hr => st44 t₂ hr) ?_
  have U44 := U43.set (fits_nar_byte _) W44
  refine own_go (B := T44.setTop (mkF m 30 #[.val (.int gi), .val (.int pi), .val (.int qi), .val (.int mi), .val (.ref a40), .unset, .unset, .unset, .unset, .unset, .unset, .unset, .unset, .unset, .unset, .unset, .unset] [(.ref a42), (.ref a42)])) (fun _ hr => XS.dup X44.here hx rfl (hb hby at_29) rfl rfl hr) ?_
  refine own_go (B := T44.setTop (mkF m 31 #[.val (.int gi), .val (.int pi), .val (.int qi), .val (.int mi), .val (.ref a40), .unset, .unset, .unset, .unset, .unset, .unset, .unset, .unset, .unset, .unset, .unset, .unset] [(.int (2 : Int32)), (.ref a42), (.ref a42)])) (fun _ hr => XT.iconstV X44.here hx rfl (2 : Int32) (hb hby at_30) (by decide) hr) ?_
  refine own_go (B := T44.setTop (mkF m 32 #[.val (.int gi), .val (.int pi), .val (.int qi), .val (.int mi), .val (.ref a40), .unset, .unset, .unset, .unset, .unset, .unset, .unset, .unset, .unset, .unset, .unset, .unset] [(.int pi), (.int (2 : Int32)), (.ref a42), (.ref a42)])) (fun _ hr => XS.iloadN X44.here hx rfl (hb hby at_31) rfl hr) ?_
  refine own_go (B := T44.setTop (mkF m 34 #[.val (.int gi), .val (.int pi), .val (.int qi), .val (.int mi), .val (.ref a40), .unset, .unset, .unset, .unset, .unset, .unset, .unset, .unset, .unset, .unset, .unset, .unset] [(.int (16 : Int32)), (.int pi), (.int (2 : Int32)), (.ref a42), (.ref a42)])) (fun _ hr => XT.bipushV X44.here hx rfl (16 : Int32) (hb hby at_32) (by decide) hr) ?_
  refine own_go (B := T44.setTop (mkF m 35 #[.val (.int gi), .val (.int pi), .val (.int qi), .val (.int mi), .val (.ref a40), .unset, .unset, .unset, .unset, .unset, .unset, .unset, .unset, .unset, .unset, .unset, .unset] [(.int (pi >>> ((16 : Int32) &&& 31))), (.int (2 : Int32)), (.ref a42), (.ref a42)])) (fun _ hr => XT.ishr X44.here hx rfl (hb hby at_34) rfl hr) ?_
  refine own_go (B := T44.setTop (mkF m 36 #[.val (.int gi), .val (.int pi), .val (.int qi), .val (.int mi), .val (.ref a40), .unset, .unset, .unset, .unset, .unset, .unset, .unset, .unset, .unset, .unset, .unset, .unset] [(.int ((pi >>> ((16 : Int32) &&& 31)).toInt8.toInt32)), (.int (2 : Int32)), (.ref a42), (.ref a42)])) (fun _ hr => XT.i2b X44.here hx rfl (hb hby at_35) rfl hr) ?_
  obtain ⟨T45, h45, X45, e45, W45, V45, st45⟩ := own_stB X44 hx hZ e44 U44.1 (by decide : (2 : Int32).toInt = ((2 : Nat) : Int)) (by decide) (own_b8 _) (g := (mkF m 36 #[.val (.int gi), .val (.int pi), .val (.int qi), .val (.int mi), .val (.ref a40), .unset, .unset, .unset, .unset, .unset, .unset, .unset, .unset, .unset, .unset, .unset, .unset] [(.int ((pi >>> ((16 : Int32) &&& 31)).toInt8.toInt32)), (.int (2 : Int32)), (.ref a42), (.ref a42)])) rfl rfl (hb hby at_36)
  have N45 := Fr.snoc X45 N44 ges
  refine own_go (B := T45.setTop (mkF m 37 #[.val (.int gi), .val (.int pi), .val (.int qi), .val (.int mi), .val (.ref a40), .unset, .unset, .unset, .unset, .unset, .unset, .unset, .unset, .unset, .unset, .unset, .unset] [(.ref a42)])) (fun t₂ hr => st45 t₂ hr) ?_
  have U45 := U44.set (fits_nar_byte _) W45
  have H1 : own_Txt Z h45 a40 B0 gn 0 (fun _ => 0) := (((H41.keep0 ((Keep.refl _ _).ext E42)).wr W43 (by omega) (by omega)).wr W44 (by omega) (by omega)).wr W45 (by omega) (by omega)
  obtain ⟨fs, Vs, hb8⟩ : ∃ fs : Nat → Int32, own_By Z h45 a42 3 fs ∧ ∀ j, j < 3 → (fs j).toInt8.toInt32 = fs j := ⟨_, U45, fun j hj => by have : j = 0 ∨ j = 1 ∨ j = 2 := (by omega); rcases this with rfl | rfl | rfl <;> exact own_b8 _⟩
  refine own_go (B := T45.setTop (mkF m 39 #[.val (.int gi), .val (.int pi), .val (.int qi), .val (.int mi), .val (.ref a40), .val (.ref a42), .unset, .unset, .unset, .unset, .unset, .unset, .unset, .unset, .unset, .unset, .unset] [])) (fun _ hr => XS.astore X45.here hx rfl (hb hby at_37) rfl rfl (l' := #[.val (.int gi), .val (.int pi), .val (.int qi), .val (.int mi), .val (.ref a40), .val (.ref a42), .unset, .unset, .unset, .unset, .unset, .unset, .unset, .unset, .unset, .unset, .unset]) rfl hr) ?_
  refine own_go (B := T45.setTop (mkF m 40 #[.val (.int gi), .val (.int pi), .val (.int qi), .val (.int mi), .val (.ref a40), .val (.ref a42), .unset, .unset, .unset, .unset, .unset, .unset, .unset, .unset, .unset, .unset, .unset] [(.int mi)])) (fun _ hr => XS.iloadN X45.here hx rfl (hb hby at_39) rfl hr) ?_
  refine own_go (B := T45.setTop (mkF m 41 #[.val (.int gi), .val (.int pi), .val (.int qi), .val (.int mi), .val (.ref a40), .val (.ref a42), .unset, .unset, .unset, .unset, .unset, .unset, .unset, .unset, .unset, .unset, .unset] [(.int (3 : Int32)), (.int mi)])) (fun _ hr => XT.iconstV X45.here hx rfl (3 : Int32) (hb hby at_40) (by decide) hr) ?_
  refine own_go (B := T45.setTop (mkF m 42 #[.val (.int gi), .val (.int pi), .val (.int qi), .val (.int mi), .val (.ref a40), .val (.ref a42), .unset, .unset, .unset, .unset, .unset, .unset, .unset, .unset, .unset, .unset, .unset] [(.int (mi &&& (3 : Int32)))])) (fun _ hr => XS.iand X45.here hx rfl (hb hby at_41) rfl hr) ?_
  refine own_go (B := T45.setTop (mkF m 44 #[.val (.int gi), .val (.int pi), .val (.int qi), .val (.int mi), .val (.ref a40), .val (.ref a42), .val (.int (mi &&& (3 : Int32))), .unset, .unset, .unset, .unset, .unset, .unset, .unset, .unset, .unset, .unset] [])) (fun _ hr => XS.istore X45.here hx rfl (hb hby at_42) rfl (l' := #[.val (.int gi), .val (.int pi), .val (.int qi), .val (.int mi), .val (.ref a40), .val (.ref a42), .val (.int (mi &&& (3 : Int32))), .unset, .unset, .unset, .unset, .unset, .unset, .unset, .unset, .unset, .unset]) rfl hr) ?_
  obtain ⟨kn, hkn, hk3⟩ := own_and3 mi
  generalize (mi &&& (3 : Int32)) = kI at hkn ⊢
  have hk48 : own_G p e below (own_P s below (Q_law Z gi pi qi mi h0 n0) 32 192) (T45.setTop (mkF m 55 #[.val (.int gi), .val (.int pi), .val (.int qi), .val (.int mi), .val (.ref a40), .val (.ref a42), .val (.int kI), .unset, .unset, .unset, .unset, .unset, .unset, .unset, .unset, .unset, .unset] [(.int (own_pre mi))])) := by
    refine own_go (B := T45.setTop (mkF m 57 #[.val (.int gi), .val (.int pi), .val (.int qi), .val (.int mi), .val (.ref a40), .val (.ref a42), .val (.int kI), .val (.int (own_pre mi)), .unset, .unset, .unset, .unset, .unset, .unset, .unset, .unset, .unset] [])) (fun _ hr => XS.istore X45.here hx rfl (hb hby at_55) rfl (l' := #[.val (.int gi), .val (.int pi), .val (.int qi), .val (.int mi), .val (.ref a40), .val (.ref a42), .val (.int kI), .val (.int (own_pre mi)), .unset, .unset, .unset, .unset, .unset, .unset, .unset, .unset, .unset]) rfl hr) ?_
    obtain ⟨pv, hpv⟩ : ∃ z, z = own_pre mi := ⟨_, rfl⟩
    rw [← hpv]
    have hk51 : own_G p e below (own_P s below (Q_law Z gi pi qi mi h0 n0) 32 192) (T45.setTop (mkF m 69 #[.val (.int gi), .val (.int pi), .val (.int qi), .val (.int mi), .val (.ref a40), .val (.ref a42), .val (.int kI), .val (.int pv), .unset, .unset, .unset, .unset, .unset, .unset, .unset, .unset, .unset] [(.int (own_clr mi))])) := by
      refine own_go (B := T45.setTop (mkF m 71 #[.val (.int gi), .val (.int pi), .val (.int qi), .val (.int mi), .val (.ref a40), .val (.ref a42), .val (.int kI), .val (.int pv), .val (.int (own_clr mi)), .unset, .unset, .unset, .unset, .unset, .unset, .unset, .unset] [])) (fun _ hr => XS.istore X45.here hx rfl (hb hby at_69) rfl (l' := #[.val (.int gi), .val (.int pi), .val (.int qi), .val (.int mi), .val (.ref a40), .val (.ref a42), .val (.int kI), .val (.int pv), .val (.int (own_clr mi)), .unset, .unset, .unset, .unset, .unset, .unset, .unset, .unset]) rfl hr) ?_
      obtain ⟨cv, hcv⟩ : ∃ z, z = own_clr mi := ⟨_, rfl⟩
      rw [← hcv]
      have hk54 : own_G p e below (own_P s below (Q_law Z gi pi qi mi h0 n0) 32 192) (T45.setTop (mkF m 83 #[.val (.int gi), .val (.int pi), .val (.int qi), .val (.int mi), .val (.ref a40), .val (.ref a42), .val (.int kI), .val (.int pv), .val (.int cv), .unset, .unset, .unset, .unset, .unset, .unset, .unset, .unset] [(.int (own_post mi))])) := by
        refine own_go (B := T45.setTop (mkF m 85 #[.val (.int gi), .val (.int pi), .val (.int qi), .val (.int mi), .val (.ref a40), .val (.ref a42), .val (.int kI), .val (.int pv), .val (.int cv), .val (.int (own_post mi)), .unset, .unset, .unset, .unset, .unset, .unset, .unset] [])) (fun _ hr => XS.istore X45.here hx rfl (hb hby at_83) rfl (l' := #[.val (.int gi), .val (.int pi), .val (.int qi), .val (.int mi), .val (.ref a40), .val (.ref a42), .val (.int kI), .val (.int pv), .val (.int cv), .val (.int (own_post mi)), .unset, .unset, .unset, .unset, .unset, .unset, .unset]) rfl hr) ?_
        obtain ⟨ov, hov⟩ : ∃ z, z = own_post mi := ⟨_, rfl⟩
        rw [← hov]
        refine own_go (B := T45.setTop (mkF m 86 #[.val (.int gi), .val (.int pi), .val (.int qi), .val (.int mi), .val (.ref a40), .val (.ref a42), .val (.int kI), .val (.int pv), .val (.int cv), .val (.int ov), .unset, .unset, .unset, .unset, .unset, .unset, .unset] [(.int qi)])) (fun _ hr => XS.iloadN X45.here hx rfl (hb hby at_85) rfl hr) ?_
        refine own_go (B := T45.setTop (mkF m 88 #[.val (.int gi), .val (.int pi), .val (.int qi), .val (.int mi), .val (.ref a40), .val (.ref a42), .val (.int kI), .val (.int pv), .val (.int cv), .val (.int ov), .unset, .unset, .unset, .unset, .unset, .unset, .unset] [(.int (127 : Int32)), (.int qi)])) (fun _ hr => XT.bipushV X45.here hx rfl (127 : Int32) (hb hby at_86) (by decide) hr) ?_
        refine own_go (B := T45.setTop (mkF m 89 #[.val (.int gi), .val (.int pi), .val (.int qi), .val (.int mi), .val (.ref a40), .val (.ref a42), .val (.int kI), .val (.int pv), .val (.int cv), .val (.int ov), .unset, .unset, .unset, .unset, .unset, .unset, .unset] [(.int (qi &&& (127 : Int32)))])) (fun _ hr => XS.iand X45.here hx rfl (hb hby at_88) rfl hr) ?_
        refine own_go (B := T45.setTop (mkF m 90 #[.val (.int gi), .val (.int pi), .val (.int qi), .val (.int mi), .val (.ref a40), .val (.ref a42), .val (.int kI), .val (.int pv), .val (.int cv), .val (.int ov), .unset, .unset, .unset, .unset, .unset, .unset, .unset] [(.int ((qi &&& (127 : Int32)).toUInt32.toUInt16.toUInt32.toInt32))])) (fun _ hr => XT.i2c X45.here hx rfl (hb hby at_89) rfl hr) ?_
        refine own_go (B := T45.setTop (mkF m 92 #[.val (.int gi), .val (.int pi), .val (.int qi), .val (.int mi), .val (.ref a40), .val (.ref a42), .val (.int kI), .val (.int pv), .val (.int cv), .val (.int ov), .val (.int ((qi &&& (127 : Int32)).toUInt32.toUInt16.toUInt32.toInt32)), .unset, .unset, .unset, .unset, .unset, .unset] [])) (fun _ hr => XS.istore X45.here hx rfl (hb hby at_90) rfl (l' := #[.val (.int gi), .val (.int pi), .val (.int qi), .val (.int mi), .val (.ref a40), .val (.ref a42), .val (.int kI), .val (.int pv), .val (.int cv), .val (.int ov), .val (.int ((qi &&& (127 : Int32)).toUInt32.toUInt16.toUInt32.toInt32)), .unset, .unset, .unset, .unset, .unset, .unset]) rfl hr) ?_
        generalize ((qi &&& (127 : Int32)).toUInt32.toUInt16.toUInt32.toInt32) = x1
        refine own_go (B := T45.setTop (mkF m 93 #[.val (.int gi), .val (.int pi), .val (.int qi), .val (.int mi), .val (.ref a40), .val (.ref a42), .val (.int kI), .val (.int pv), .val (.int cv), .val (.int ov), .val (.int x1), .unset, .unset, .unset, .unset, .unset, .unset] [(.int qi)])) (fun _ hr => XS.iloadN X45.here hx rfl (hb hby at_92) rfl hr) ?_
        refine own_go (B := T45.setTop (mkF m 95 #[.val (.int gi), .val (.int pi), .val (.int qi), .val (.int mi), .val (.ref a40), .val (.ref a42), .val (.int kI), .val (.int pv), .val (.int cv), .val (.int ov), .val (.int x1), .unset, .unset, .unset, .unset, .unset, .unset] [(.int (8 : Int32)), (.int qi)])) (fun _ hr => XT.bipushV X45.here hx rfl (8 : Int32) (hb hby at_93) (by decide) hr) ?_
        refine own_go (B := T45.setTop (mkF m 96 #[.val (.int gi), .val (.int pi), .val (.int qi), .val (.int mi), .val (.ref a40), .val (.ref a42), .val (.int kI), .val (.int pv), .val (.int cv), .val (.int ov), .val (.int x1), .unset, .unset, .unset, .unset, .unset, .unset] [(.int (qi >>> ((8 : Int32) &&& 31)))])) (fun _ hr => XT.ishr X45.here hx rfl (hb hby at_95) rfl hr) ?_
        refine own_go (B := T45.setTop (mkF m 98 #[.val (.int gi), .val (.int pi), .val (.int qi), .val (.int mi), .val (.ref a40), .val (.ref a42), .val (.int kI), .val (.int pv), .val (.int cv), .val (.int ov), .val (.int x1), .unset, .unset, .unset, .unset, .unset, .unset] [(.int (127 : Int32)), (.int (qi >>> ((8 : Int32) &&& 31)))])) (fun _ hr => XT.bipushV X45.here hx rfl (127 : Int32) (hb hby at_96) (by decide) hr) ?_
        refine own_go (B := T45.setTop (mkF m 99 #[.val (.int gi), .val (.int pi), .val (.int qi), .val (.int mi), .val (.ref a40), .val (.ref a42), .val (.int kI), .val (.int pv), .val (.int cv), .val (.int ov), .val (.int x1), .unset, .unset, .unset, .unset, .unset, .unset] [(.int ((qi >>> ((8 : Int32) &&& 31)) &&& (127 : Int32)))])) (fun _ hr => XS.iand X45.here hx rfl (hb hby at_98) rfl hr) ?_
        refine own_go (B := T45.setTop (mkF m 100 #[.val (.int gi), .val (.int pi), .val (.int qi), .val (.int mi), .val (.ref a40), .val (.ref a42), .val (.int kI), .val (.int pv), .val (.int cv), .val (.int ov), .val (.int x1), .unset, .unset, .unset, .unset, .unset, .unset] [(.int (((qi >>> ((8 : Int32) &&& 31)) &&& (127 : Int32)).toUInt32.toUInt16.toUInt32.toInt32))])) (fun _ hr => XT.i2c X45.here hx rfl (hb hby at_99) rfl hr) ?_
        refine own_go (B := T45.setTop (mkF m 102 #[.val (.int gi), .val (.int pi), .val (.int qi), .val (.int mi), .val (.ref a40), .val (.ref a42), .val (.int kI), .val (.int pv), .val (.int cv), .val (.int ov), .val (.int x1), .val (.int (((qi >>> ((8 : Int32) &&& 31)) &&& (127 : Int32)).toUInt32.toUInt16.toUInt32.toInt32)), .unset, .unset, .unset, .unset, .unset] [])) (fun _ hr => XS.istore X45.here hx rfl (hb hby at_100) rfl (l' := #[.val (.int gi), .val (.int pi), .val (.int qi), .val (.int mi), .val (.ref a40), .val (.ref a42), .val (.int kI), .val (.int pv), .val (.int cv), .val (.int ov), .val (.int x1), .val (.int (((qi >>> ((8 : Int32) &&& 31)) &&& (127 : Int32)).toUInt32.toUInt16.toUInt32.toInt32)), .unset, .unset, .unset, .unset, .unset]) rfl hr) ?_
        generalize (((qi >>> ((8 : Int32) &&& 31)) &&& (127 : Int32)).toUInt32.toUInt16.toUInt32.toInt32) = x2
        refine own_go (B := T45.setTop (mkF m 103 #[.val (.int gi), .val (.int pi), .val (.int qi), .val (.int mi), .val (.ref a40), .val (.ref a42), .val (.int kI), .val (.int pv), .val (.int cv), .val (.int ov), .val (.int x1), .val (.int x2), .unset, .unset, .unset, .unset, .unset] [(.int (5 : Int32))])) (fun _ hr => XT.iconstV X45.here hx rfl (5 : Int32) (hb hby at_102) (by decide) hr) ?_
        obtain ⟨T55, h55, cA55, X55, e55, E55, A55, Ex55, st55⟩ := newPE X45 hx hZ (hw _ (List.mem_of_getElem? (i := 9) rfl)) e45 (g := (mkF m 103 #[.val (.int gi), .val (.int pi), .val (.int qi), .val (.int mi), .val (.ref a40), .val (.ref a42), .val (.int kI), .val (.int pv), .val (.int cv), .val (.int ov), .val (.int x1), .val (.int x2), .unset, .unset, .unset, .unset, .unset] [(.int (5 : Int32))])) rfl (hb hby at_103) rfl (by decide) (cap := 5) (by rw [(own_at (by decide : (5 : Int32).toInt = ((5 : Nat) : Int))).2]; omega) (by decide) (by decide) (by decide) (ad := "[B") (by decide)
        obtain ⟨a55, g55⟩ : ∃ z, z = h45.size := ⟨_, rfl⟩
        rw [← g55] at A55 Ex55 st55
        have V55 := own_By.new A55 Ex55 (by decide : (5 : Int32).toInt = ((5 : Nat) : Int))
        refine own_go (B := T55.setTop (mkF m 105 #[.val (.int gi), .val (.int pi), .val (.int qi), .val (.int mi), .val (.ref a40), .val (.ref a42), .val (.int kI), .val (.int pv), .val (.int cv), .val (.int ov), .val (.int x1), .val (.int x2), .unset, .unset, .unset, .unset, .unset] [(.ref a55)])) (fun t₂ hr => st55 t₂ hr) ?_
        have lts := Vs.lt
        have ltt := own_ltE H1.1
        have ltB1 := H1.2.2.2.1.lt
        have geE : n0 ≤ a55 := by have := Nat.lt_of_le_of_lt ges lts; omega
        refine own_go (B := T55.setTop (mkF m 107 #[.val (.int gi), .val (.int pi), .val (.int qi), .val (.int mi), .val (.ref a40), .val (.ref a42), .val (.int kI), .val (.int pv), .val (.int cv), .val (.int ov), .val (.int x1), .val (.int x2), .val (.ref a55), .unset, .unset, .unset, .unset] [])) (fun _ hr => XS.astore X55.here hx rfl (hb hby at_105) rfl rfl (l' := #[.val (.int gi), .val (.int pi), .val (.int qi), .val (.int mi), .val (.ref a40), .val (.ref a42), .val (.int kI), .val (.int pv), .val (.int cv), .val (.int ov), .val (.int x1), .val (.int x2), .val (.ref a55), .unset, .unset, .unset, .unset]) rfl hr) ?_
        refine own_go (B := T55.setTop (mkF m 108 #[.val (.int gi), .val (.int pi), .val (.int qi), .val (.int mi), .val (.ref a40), .val (.ref a42), .val (.int kI), .val (.int pv), .val (.int cv), .val (.int ov), .val (.int x1), .val (.int x2), .val (.ref a55), .unset, .unset, .unset, .unset] [(.int (0 : Int32))])) (fun _ hr => XT.iconstV X55.here hx rfl (0 : Int32) (hb hby at_107) (by decide) hr) ?_
        refine own_go (B := T55.setTop (mkF m 110 #[.val (.int gi), .val (.int pi), .val (.int qi), .val (.int mi), .val (.ref a40), .val (.ref a42), .val (.int kI), .val (.int pv), .val (.int cv), .val (.int ov), .val (.int x1), .val (.int x2), .val (.ref a55), .val (.int (0 : Int32)), .unset, .unset, .unset] [])) (fun _ hr => XS.istore X55.here hx rfl (hb hby at_108) rfl (l' := #[.val (.int gi), .val (.int pi), .val (.int qi), .val (.int mi), .val (.ref a40), .val (.ref a42), .val (.int kI), .val (.int pv), .val (.int cv), .val (.int ov), .val (.int x1), .val (.int x2), .val (.ref a55), .val (.int (0 : Int32)), .unset, .unset, .unset]) rfl hr) ?_
        have S0 : own_S Z h55 n0 a40 a42 a55 B0 gn 0 (fun _ => 0) fs (fun _ => 0) := ⟨by have := E55.1; omega, H1.keep0 ((Keep.refl _ _).ext E55), Vs.ext E55, V55, by omega, by omega, by omega, by omega, by omega, geB0⟩
        have stD : ∀ (TT : State) (LL : List Loc), Stand p l e room_1 s m #[(.int gi), (.int pi), (.int qi), (.int mi)] below meth c TT LL 7 42 → Fr n0 LL → ∀ (B : Addr) (cap len : Nat) (f fe : Nat → Int32), own_S Z TT.heap n0 a40 a42 a55 B cap len f fs fe → ∀ ni : Int32, ni.toInt = (len : Int) → (∀ i, i < len → fe i = f i) → len ≤ 5 → own_G p e below (own_P s below (Q_law Z gi pi qi mi h0 n0) 32 192) (TT.setTop (mkF m 249 #[.val (.int gi), .val (.int pi), .val (.int qi), .val (.int mi), .val (.ref a40), .val (.ref a42), .val (.int kI), .val (.int pv), .val (.int cv), .val (.int ov), .val (.int x1), .val (.int x2), .val (.ref a55), .val (.int ni), .unset, .unset, .unset] [])) := by
          intro TT LL XX NN B cap len f fe SS ni hni hsy hle
          have hlc : len ≤ cap := SS.2.1.2.2.2.2.2.1
          refine own_go (B := TT.setTop (mkF m 251 #[.val (.int gi), .val (.int pi), .val (.int qi), .val (.int mi), .val (.ref a40), .val (.ref a42), .val (.int kI), .val (.int pv), .val (.int cv), .val (.int ov), .val (.int x1), .val (.int x2), .val (.ref a55), .val (.int ni), .unset, .unset, .unset] [(.ref a40)])) (fun _ hr => XS.aload XX.here hx rfl (hb hby at_249) rfl rfl hr) ?_
          obtain ⟨cq56, kq56, qa56, qb56, qc56⟩ := isOf hZ rfl SS.2.1.1
          obtain ⟨_, _, ⟨T56, L56, k56, n56⟩, -, X56, ⟨Lc56, hQ56, l56, y56, z56⟩, st56⟩ := XX.virtualBack hx (y := (⟨"com/example/chronaero/chronaero/Utf8Text", "toArray", "()[B"⟩ : MethodName)) (z := (⟨"com/example/chronaero/chronaero/Utf8Text", "toArray", "()[B"⟩ : MethodName)) hown (mvT hZ (hw _ (List.mem_of_getElem? (i := 39) rfl))) (mvT hZ (hw _ (List.mem_of_getElem? (i := 40) rfl))) (notFace_of_selects (args := #[]) (mvT hZ (hw _ (List.mem_of_getElem? (i := 42) rfl)))) (mvT hZ (hw _ (List.mem_of_getElem? (i := 42) rfl))) (mvT hZ (hw _ (List.mem_of_getElem? (i := 41) rfl))) (by decide) (backOf (W := 0) (rm_toa l Z a0 hw [] a40 B cap len f TT.heap n0 SS.1 SS.2.1) hZ (hw _ (List.mem_of_getElem? (i := 43) rfl)) (hw _ (List.mem_of_getElem? (i := 2) rfl)) (by decide) (by decide)) qa56 qc56 (g := (mkF m 251 #[.val (.int gi), .val (.int pi), .val (.int qi), .val (.int mi), .val (.ref a40), .val (.ref a42), .val (.int kI), .val (.int pv), .val (.int cv), .val (.int ov), .val (.int x1), .val (.int x2), .val (.ref a55), .val (.int ni), .unset, .unset, .unset] [(.ref a40)])) rfl (by rw [hml]; rfl) (Steps.refl _) (argsL := []) (rest := []) (lenOf pd_toa rfl) rfl (by show 2 * 0 + _ ≤ _; exact Nat.le_of_eq rfl) (hb hby at_251) (fun _ _ => ⟨rfl, rfl, (by decide : 7 + 1 ≤ _), (by decide : 42 + 8 ≤ _)⟩)
          dsimp only [Pt.U, Pt.locs, Pt.cells, Pt.slots] at X56 l56 y56 z56 st56 hQ56
          subst l56 y56 z56
          obtain ⟨N56, K56, ra, rfl, ger, Va56⟩ := hQ56
          refine own_gs (B := T56.setTop (mkF m 254 #[.val (.int gi), .val (.int pi), .val (.int qi), .val (.int mi), .val (.ref a40), .val (.ref a42), .val (.int kI), .val (.int pv), .val (.int cv), .val (.int ov), .val (.int x1), .val (.int x2), .val (.ref a55), .val (.int ni), .unset, .unset, .unset] [(.ref ra)])) st56 ?_
          have M56 := Fr.app NN N56
          have S2 := SS.keep0 K56
          have Vr : own_By Z T56.heap ra len f := Va56.congr (fun i hi => if_pos (by omega))
          have l1 := own_ltE SS.2.1.1
          have l2 := SS.2.1.2.2.2.1.lt
          have l3 := SS.2.2.1.lt
          have l4 := SS.2.2.2.1.lt
          have ger0 : n0 ≤ ra := Nat.le_trans SS.1 ger
          refine own_go (B := T56.setTop (mkF m 256 #[.val (.int gi), .val (.int pi), .val (.int qi), .val (.int mi), .val (.ref a40), .val (.ref a42), .val (.int kI), .val (.int pv), .val (.int cv), .val (.int ov), .val (.int x1), .val (.int x2), .val (.ref a55), .val (.int ni), .val (.ref ra), .unset, .unset] [])) (fun _ hr => XS.astore X56.here hx rfl (hb hby at_254) rfl rfl (l' := #[.val (.int gi), .val (.int pi), .val (.int qi), .val (.int mi), .val (.ref a40), .val (.ref a42), .val (.int kI), .val (.int pv), .val (.int cv), .val (.int ov), .val (.int x1), .val (.int x2), .val (.ref a55), .val (.int ni), .val (.ref ra), .unset, .unset]) rfl hr) ?_
          refine own_go (B := T56.setTop (mkF m 258 #[.val (.int gi), .val (.int pi), .val (.int qi), .val (.int mi), .val (.ref a40), .val (.ref a42), .val (.int kI), .val (.int pv), .val (.int cv), .val (.int ov), .val (.int x1), .val (.int x2), .val (.ref a55), .val (.int ni), .val (.ref ra), .unset, .unset] [(.ref ra)])) (fun _ hr => XS.aload X56.here hx rfl (hb hby at_256) rfl rfl hr) ?_
          refine own_go (B := T56.setTop (mkF m 259 #[.val (.int gi), .val (.int pi), .val (.int qi), .val (.int mi), .val (.ref a40), .val (.ref a42), .val (.int kI), .val (.int pv), .val (.int cv), .val (.int ov), .val (.int x1), .val (.int x2), .val (.ref a55), .val (.int ni), .val (.ref ra), .unset, .unset] [(.int ni)])) (fun _ hr => own_len X56 hx hZ rfl Vr.1 hni (g := (mkF m 258 #[.val (.int gi), .val (.int pi), .val (.int qi), .val (.int mi), .val (.ref a40), .val (.ref a42), .val (.int kI), .val (.int pv), .val (.int cv), .val (.int ov), .val (.int x1), .val (.int x2), .val (.ref a55), .val (.int ni), .val (.ref ra), .unset, .unset] [(.ref ra)])) rfl rfl (hb hby at_258) _ hr) ?_
          refine own_go (B := T56.setTop (mkF m 261 #[.val (.int gi), .val (.int pi), .val (.int qi), .val (.int mi), .val (.ref a40), .val (.ref a42), .val (.int kI), .val (.int pv), .val (.int cv), .val (.int ov), .val (.int x1), .val (.int x2), .val (.ref a55), .val (.int ni), .val (.ref ra), .unset, .unset] [(.int ni), (.int ni)])) (fun _ hr => XS.iload X56.here hx rfl (hb hby at_259) rfl hr) ?_
          refine own_go (B := T56.setTop (mkF m 264 #[.val (.int gi), .val (.int pi), .val (.int qi), .val (.int mi), .val (.ref a40), .val (.ref a42), .val (.int kI), .val (.int pv), .val (.int cv), .val (.int ov), .val (.int x1), .val (.int x2), .val (.ref a55), .val (.int ni), .val (.ref ra), .unset, .unset] [])) (fun _ hr => XS.icmpNo X56.here hx rfl (hb hby at_261) rfl (XT.ii_ne_f rfl) hr) ?_
          refine own_go (B := T56.setTop (mkF m 266 #[.val (.int gi), .val (.int pi), .val (.int qi), .val (.int mi), .val (.ref a40), .val (.ref a42), .val (.int kI), .val (.int pv), .val (.int cv), .val (.int ov), .val (.int x1), .val (.int x2), .val (.ref a55), .val (.int ni), .val (.ref ra), .unset, .unset] [(.ref a40)])) (fun _ hr => XS.aload X56.here hx rfl (hb hby at_264) rfl rfl hr) ?_
          obtain ⟨cq57, kq57, qa57, qb57, qc57⟩ := isOf hZ rfl S2.2.1.1
          obtain ⟨_, _, ⟨T57, L57, k57, n57⟩, -, X57, ⟨Lc57, hQ57, l57, y57, z57⟩, st57⟩ := X56.virtualBack hx (y := (⟨"com/example/chronaero/chronaero/Utf8Text", "length", "()I"⟩ : MethodName)) (z := (⟨"com/example/chronaero/chronaero/Utf8Text", "length", "()I"⟩ : MethodName)) hown (mvT hZ (hw _ (List.mem_of_getElem? (i := 53) rfl))) (mvT hZ (hw _ (List.mem_of_getElem? (i := 54) rfl))) (notFace_of_selects (args := #[]) (mvT hZ (hw _ (List.mem_of_getElem? (i := 56) rfl)))) (mvT hZ (hw _ (List.mem_of_getElem? (i := 56) rfl))) (mvT hZ (hw _ (List.mem_of_getElem? (i := 55) rfl))) (by decide) (backOf (W := 0) (rm_len l Z a0 hw [] a40 ni B cap len f T56.heap n0 S2.1 S2.2.1 hni) hZ (hw _ (List.mem_of_getElem? (i := 57) rfl)) (hw _ (List.mem_of_getElem? (i := 2) rfl)) (by decide) (by decide)) qa57 qc57 (g := (mkF m 266 #[.val (.int gi), .val (.int pi), .val (.int qi), .val (.int mi), .val (.ref a40), .val (.ref a42), .val (.int kI), .val (.int pv), .val (.int cv), .val (.int ov), .val (.int x1), .val (.int x2), .val (.ref a55), .val (.int ni), .val (.ref ra), .unset, .unset] [(.ref a40)])) rfl (by rw [hml]; rfl) (Steps.refl _) (argsL := []) (rest := []) (lenOf pd_len rfl) rfl (by show 2 * 0 + _ ≤ _; exact Nat.le_of_eq rfl) (hb hby at_266) (fun _ _ => ⟨rfl, rfl, (by decide : 8 + 0 ≤ _), (by decide : 50 + 0 ≤ _)⟩)
          dsimp only [Pt.U, Pt.locs, Pt.cells, Pt.slots] at X57 l57 y57 z57 st57 hQ57
          subst l57 y57 z57
          obtain ⟨rfl, N57, e57⟩ := hQ57
          refine own_gs (B := T57.setTop (mkF m 269 #[.val (.int gi), .val (.int pi), .val (.int qi), .val (.int mi), .val (.ref a40), .val (.ref a42), .val (.int kI), .val (.int pv), .val (.int cv), .val (.int ov), .val (.int x1), .val (.int x2), .val (.ref a55), .val (.int ni), .val (.ref ra), .unset, .unset] [(.int ni)])) st57 ?_
          have M57 := Fr.app M56 N57
          refine own_go (B := T57.setTop (mkF m 271 #[.val (.int gi), .val (.int pi), .val (.int qi), .val (.int mi), .val (.ref a40), .val (.ref a42), .val (.int kI), .val (.int pv), .val (.int cv), .val (.int ov), .val (.int x1), .val (.int x2), .val (.ref a55), .val (.int ni), .val (.ref ra), .unset, .unset] [(.int ni), (.int ni)])) (fun _ hr => XS.iload X57.here hx rfl (hb hby at_269) rfl hr) ?_
          refine own_go (B := T57.setTop (mkF m 276 #[.val (.int gi), .val (.int pi), .val (.int qi), .val (.int mi), .val (.ref a40), .val (.ref a42), .val (.int kI), .val (.int pv), .val (.int cv), .val (.int ov), .val (.int x1), .val (.int x2), .val (.ref a55), .val (.int ni), .val (.ref ra), .unset, .unset] [])) (fun _ hr => XS.icmpYes X57.here hx rfl (pc0 := 271) (pc' := 276) rfl (hb hby at_271) rfl (XT.ii_eq_t rfl) (by decide) (by decide) hr) ?_
          refine own_go (B := T57.setTop (mkF m 278 #[.val (.int gi), .val (.int pi), .val (.int qi), .val (.int mi), .val (.ref a40), .val (.ref a42), .val (.int kI), .val (.int pv), .val (.int cv), .val (.int ov), .val (.int x1), .val (.int x2), .val (.ref a55), .val (.int ni), .val (.ref ra), .unset, .unset] [(.ref ra)])) (fun _ hr => XS.aload X57.here hx rfl (hb hby at_276) rfl rfl hr) ?_
          refine own_go (B := T57.setTop (mkF m 280 #[.val (.int gi), .val (.int pi), .val (.int qi), .val (.int mi), .val (.ref a40), .val (.ref a42), .val (.int kI), .val (.int pv), .val (.int cv), .val (.int ov), .val (.int x1), .val (.int x2), .val (.ref a55), .val (.int ni), .val (.ref ra), .unset, .unset] [(.ref a55), (.ref ra)])) (fun _ hr => XS.aload X57.here hx rfl (hb hby at_278) rfl rfl hr) ?_
          refine own_go (B := T57.setTop (mkF m 281 #[.val (.int gi), .val (.int pi), .val (.int qi), .val (.int mi), .val (.ref a40), .val (.ref a42), .val (.int kI), .val (.int pv), .val (.int cv), .val (.int ov), .val (.int x1), .val (.int x2), .val (.ref a55), .val (.int ni), .val (.ref ra), .unset, .unset] [(.int (0 : Int32)), (.ref a55), (.ref ra)])) (fun _ hr => XT.iconstV X57.here hx rfl (0 : Int32) (hb hby at_280) (by decide) hr) ?_
          obtain ⟨_, _, ⟨T58, L58, k58, n58⟩, -, X58, ⟨Lc58, hQ58, l58, y58, z58⟩, st58⟩ := Jvm.LawKit.callS X57 hx (y := (⟨"com/example/chronaero/chronaero/Utf8TextToArrayPinLaw", "at", "([B[BI)Z"⟩ : MethodName)) hown (mvT hZ (hw _ (List.mem_of_getElem? (i := 58) rfl))) (mvT hZ (hw _ (List.mem_of_getElem? (i := 59) rfl))) (mvT hZ (hw _ (List.mem_of_getElem? (i := 60) rfl))) (mvT hZ (hw _ (List.mem_of_getElem? (i := 61) rfl))) (by decide) (backOf (W := 0) (rm_at l Z a0 hw [] ra a55 (0 : Int32) len f fe 0 T56.heap n0 S2.1 Vr S2.2.2.2.1 hle (by decide) (fun q => (hsy 0 q).symm)) hZ (hw _ (List.mem_of_getElem? (i := 61) rfl)) (hw _ (List.mem_of_getElem? (i := 60) rfl)) (by decide) (by decide)) (g := (mkF m 281 #[.val (.int gi), .val (.int pi), .val (.int qi), .val (.int mi), .val (.ref a40), .val (.ref a42), .val (.int kI), .val (.int pv), .val (.int cv), .val (.int ov), .val (.int x1), .val (.int x2), .val (.ref a55), .val (.int ni), .val (.ref ra), .unset, .unset] [(.int (0 : Int32)), (.ref a55), (.ref ra)])) rfl (by rw [hml]; rfl) (argsL := [(.ref ra), (.ref a55), (.int (0 : Int32))]) (rest := []) (lenOf pd_at rfl) rfl (by show 2 * 0 + _ ≤ _; exact Nat.le_of_eq rfl) (hb hby at_281) (fun _ _ => ⟨rfl, e57, (by decide : 8 + 0 ≤ _), (by decide : 50 + 0 ≤ _)⟩)
          dsimp only [Pt.U, Pt.locs, Pt.cells, Pt.slots] at X58 l58 y58 z58 st58 hQ58
          subst l58 y58 z58
          obtain ⟨rfl, N58, e58⟩ := hQ58
          have M58 := Fr.app M57 N58
          refine own_go (B := T58.setTop (mkF m 284 #[.val (.int gi), .val (.int pi), .val (.int qi), .val (.int mi), .val (.ref a40), .val (.ref a42), .val (.int kI), .val (.int pv), .val (.int cv), .val (.int ov), .val (.int x1), .val (.int x2), .val (.ref a55), .val (.int ni), .val (.ref ra), .unset, .unset] [(.int (1 : Int32))])) (fun t₂ hr => st58 t₂ hr) ?_
          refine own_go (B := T58.setTop (mkF m 287 #[.val (.int gi), .val (.int pi), .val (.int qi), .val (.int mi), .val (.ref a40), .val (.ref a42), .val (.int kI), .val (.int pv), .val (.int cv), .val (.int ov), .val (.int x1), .val (.int x2), .val (.ref a55), .val (.int ni), .val (.ref ra), .unset, .unset] [])) (fun _ hr => XS.ifNo X58.here hx rfl (hb hby at_284) rfl (XT.i0_eq_f (by decide)) hr) ?_
          refine own_go (B := T58.setTop (mkF m 289 #[.val (.int gi), .val (.int pi), .val (.int qi), .val (.int mi), .val (.ref a40), .val (.ref a42), .val (.int kI), .val (.int pv), .val (.int cv), .val (.int ov), .val (.int x1), .val (.int x2), .val (.ref a55), .val (.int ni), .val (.ref ra), .unset, .unset] [(.ref ra)])) (fun _ hr => XS.aload X58.here hx rfl (hb hby at_287) rfl rfl hr) ?_
          refine own_go (B := T58.setTop (mkF m 291 #[.val (.int gi), .val (.int pi), .val (.int qi), .val (.int mi), .val (.ref a40), .val (.ref a42), .val (.int kI), .val (.int pv), .val (.int cv), .val (.int ov), .val (.int x1), .val (.int x2), .val (.ref a55), .val (.int ni), .val (.ref ra), .unset, .unset] [(.ref a55), (.ref ra)])) (fun _ hr => XS.aload X58.here hx rfl (hb hby at_289) rfl rfl hr) ?_
          refine own_go (B := T58.setTop (mkF m 292 #[.val (.int gi), .val (.int pi), .val (.int qi), .val (.int mi), .val (.ref a40), .val (.ref a42), .val (.int kI), .val (.int pv), .val (.int cv), .val (.int ov), .val (.int x1), .val (.int x2), .val (.ref a55), .val (.int ni), .val (.ref ra), .unset, .unset] [(.int (1 : Int32)), (.ref a55), (.ref ra)])) (fun _ hr => XT.iconstV X58.here hx rfl (1 : Int32) (hb hby at_291) (by decide) hr) ?_
          obtain ⟨_, _, ⟨T59, L59, k59, n59⟩, -, X59, ⟨Lc59, hQ59, l59, y59, z59⟩, st59⟩ := Jvm.LawKit.callS X58 hx (y := (⟨"com/example/chronaero/chronaero/Utf8TextToArrayPinLaw", "at", "([B[BI)Z"⟩ : MethodName)) hown (mvT hZ (hw _ (List.mem_of_getElem? (i := 58) rfl))) (mvT hZ (hw _ (List.mem_of_getElem? (i := 59) rfl))) (mvT hZ (hw _ (List.mem_of_getElem? (i := 60) rfl))) (mvT hZ (hw _ (List.mem_of_getElem? (i := 61) rfl))) (by decide) (backOf (W := 0) (rm_at l Z a0 hw [] ra a55 (1 : Int32) len f fe 1 T56.heap n0 S2.1 Vr S2.2.2.2.1 hle (by decide) (fun q => (hsy 1 q).symm)) hZ (hw _ (List.mem_of_getElem? (i := 61) rfl)) (hw _ (List.mem_of_getElem? (i := 60) rfl)) (by decide) (by decide)) (g := (mkF m 292 #[.val (.int gi), .val (.int pi), .val (.int qi), .val (.int mi), .val (.ref a40), .val (.ref a42), .val (.int kI), .val (.int pv), .val (.int cv), .val (.int ov), .val (.int x1), .val (.int x2), .val (.ref a55), .val (.int ni), .val (.ref ra), .unset, .unset] [(.int (1 : Int32)), (.ref a55), (.ref ra)])) rfl (by rw [hml]; rfl) (argsL := [(.ref ra), (.ref a55), (.int (1 : Int32))]) (rest := []) (lenOf pd_at rfl) rfl (by show 2 * 0 + _ ≤ _; exact Nat.le_of_eq rfl) (hb hby at_292) (fun _ _ => ⟨rfl, e58, (by decide : 8 + 0 ≤ _), (by decide : 50 + 0 ≤ _)⟩)
          dsimp only [Pt.U, Pt.locs, Pt.cells, Pt.slots] at X59 l59 y59 z59 st59 hQ59
          subst l59 y59 z59
          obtain ⟨rfl, N59, e59⟩ := hQ59
          have M59 := Fr.app M58 N59
          refine own_go (B := T59.setTop (mkF m 295 #[.val (.int gi), .val (.int pi), .val (.int qi), .val (.int mi), .val (.ref a40), .val (.ref a42), .val (.int kI), .val (.int pv), .val (.int cv), .val (.int ov), .val (.int x1), .val (.int x2), .val (.ref a55), .val (.int ni), .val (.ref ra), .unset, .unset] [(.int (1 : Int32))])) (fun t₂ hr => st59 t₂ hr) ?_
          refine own_go (B := T59.setTop (mkF m 298 #[.val (.int gi), .val (.int pi), .val (.int qi), .val (.int mi), .val (.ref a40), .val (.ref a42), .val (.int kI), .val (.int pv), .val (.int cv), .val (.int ov), .val (.int x1), .val (.int x2), .val (.ref a55), .val (.int ni), .val (.ref ra), .unset, .unset] [])) (fun _ hr => XS.ifNo X59.here hx rfl (hb hby at_295) rfl (XT.i0_eq_f (by decide)) hr) ?_
          refine own_go (B := T59.setTop (mkF m 300 #[.val (.int gi), .val (.int pi), .val (.int qi), .val (.int mi), .val (.ref a40), .val (.ref a42), .val (.int kI), .val (.int pv), .val (.int cv), .val (.int ov), .val (.int x1), .val (.int x2), .val (.ref a55), .val (.int ni), .val (.ref ra), .unset, .unset] [(.ref ra)])) (fun _ hr => XS.aload X59.here hx rfl (hb hby at_298) rfl rfl hr) ?_
          refine own_go (B := T59.setTop (mkF m 302 #[.val (.int gi), .val (.int pi), .val (.int qi), .val (.int mi), .val (.ref a40), .val (.ref a42), .val (.int kI), .val (.int pv), .val (.int cv), .val (.int ov), .val (.int x1), .val (.int x2), .val (.ref a55), .val (.int ni), .val (.ref ra), .unset, .unset] [(.ref a55), (.ref ra)])) (fun _ hr => XS.aload X59.here hx rfl (hb hby at_300) rfl rfl hr) ?_
          refine own_go (B := T59.setTop (mkF m 303 #[.val (.int gi), .val (.int pi), .val (.int qi), .val (.int mi), .val (.ref a40), .val (.ref a42), .val (.int kI), .val (.int pv), .val (.int cv), .val (.int ov), .val (.int x1), .val (.int x2), .val (.ref a55), .val (.int ni), .val (.ref ra), .unset, .unset] [(.int (2 : Int32)), (.ref a55), (.ref ra)])) (fun _ hr => XT.iconstV X59.here hx rfl (2 : Int32) (hb hby at_302) (by decide) hr) ?_
          obtain ⟨_, _, ⟨T60, L60, k60, n60⟩, -, X60, ⟨Lc60, hQ60, l60, y60, z60⟩, st60⟩ := Jvm.LawKit.callS X59 hx (y := (⟨"com/example/chronaero/chronaero/Utf8TextToArrayPinLaw", "at", "([B[BI)Z"⟩ : MethodName)) hown (mvT hZ (hw _ (List.mem_of_getElem? (i := 58) rfl))) (mvT hZ (hw _ (List.mem_of_getElem? (i := 59) rfl))) (mvT hZ (hw _ (List.mem_of_getElem? (i := 60) rfl))) (mvT hZ (hw _ (List.mem_of_getElem? (i := 61) rfl))) (by decide) (backOf (W := 0) (rm_at l Z a0 hw [] ra a55 (2 : Int32) len f fe 2 T56.heap n0 S2.1 Vr S2.2.2.2.1 hle (by decide) (fun q => (hsy 2 q).symm)) hZ (hw _ (List.mem_of_getElem? (i := 61) rfl)) (hw _ (List.mem_of_getElem? (i := 60) rfl)) (by decide) (by decide)) (g := (mkF m 303 #[.val (.int gi), .val (.int pi), .val (.int qi), .val (.int mi), .val (.ref a40), .val (.ref a42), .val (.int kI), .val (.int pv), .val (.int cv), .val (.int ov), .val (.int x1), .val (.int x2), .val (.ref a55), .val (.int ni), .val (.ref ra), .unset, .unset] [(.int (2 : Int32)), (.ref a55), (.ref ra)])) rfl (by rw [hml]; rfl) (argsL := [(.ref ra), (.ref a55), (.int (2 : Int32))]) (rest := []) (lenOf pd_at rfl) rfl (by show 2 * 0 + _ ≤ _; exact Nat.le_of_eq rfl) (hb hby at_303) (fun _ _ => ⟨rfl, e59, (by decide : 8 + 0 ≤ _), (by decide : 50 + 0 ≤ _)⟩)
          dsimp only [Pt.U, Pt.locs, Pt.cells, Pt.slots] at X60 l60 y60 z60 st60 hQ60
          subst l60 y60 z60
          obtain ⟨rfl, N60, e60⟩ := hQ60
          have M60 := Fr.app M59 N60
          refine own_go (B := T60.setTop (mkF m 306 #[.val (.int gi), .val (.int pi), .val (.int qi), .val (.int mi), .val (.ref a40), .val (.ref a42), .val (.int kI), .val (.int pv), .val (.int cv), .val (.int ov), .val (.int x1), .val (.int x2), .val (.ref a55), .val (.int ni), .val (.ref ra), .unset, .unset] [(.int (1 : Int32))])) (fun t₂ hr => st60 t₂ hr) ?_
          refine own_go (B := T60.setTop (mkF m 309 #[.val (.int gi), .val (.int pi), .val (.int qi), .val (.int mi), .val (.ref a40), .val (.ref a42), .val (.int kI), .val (.int pv), .val (.int cv), .val (.int ov), .val (.int x1), .val (.int x2), .val (.ref a55), .val (.int ni), .val (.ref ra), .unset, .unset] [])) (fun _ hr => XS.ifNo X60.here hx rfl (hb hby at_306) rfl (XT.i0_eq_f (by decide)) hr) ?_
          refine own_go (B := T60.setTop (mkF m 311 #[.val (.int gi), .val (.int pi), .val (.int qi), .val (.int mi), .val (.ref a40), .val (.ref a42), .val (.int kI), .val (.int pv), .val (.int cv), .val (.int ov), .val (.int x1), .val (.int x2), .val (.ref a55), .val (.int ni), .val (.ref ra), .unset, .unset] [(.ref ra)])) (fun _ hr => XS.aload X60.here hx rfl (hb hby at_309) rfl rfl hr) ?_
          refine own_go (B := T60.setTop (mkF m 313 #[.val (.int gi), .val (.int pi), .val (.int qi), .val (.int mi), .val (.ref a40), .val (.ref a42), .val (.int kI), .val (.int pv), .val (.int cv), .val (.int ov), .val (.int x1), .val (.int x2), .val (.ref a55), .val (.int ni), .val (.ref ra), .unset, .unset] [(.ref a55), (.ref ra)])) (fun _ hr => XS.aload X60.here hx rfl (hb hby at_311) rfl rfl hr) ?_
          refine own_go (B := T60.setTop (mkF m 314 #[.val (.int gi), .val (.int pi), .val (.int qi), .val (.int mi), .val (.ref a40), .val (.ref a42), .val (.int kI), .val (.int pv), .val (.int cv), .val (.int ov), .val (.int x1), .val (.int x2), .val (.ref a55), .val (.int ni), .val (.ref ra), .unset, .unset] [(.int (3 : Int32)), (.ref a55), (.ref ra)])) (fun _ hr => XT.iconstV X60.here hx rfl (3 : Int32) (hb hby at_313) (by decide) hr) ?_
          obtain ⟨_, _, ⟨T61, L61, k61, n61⟩, -, X61, ⟨Lc61, hQ61, l61, y61, z61⟩, st61⟩ := Jvm.LawKit.callS X60 hx (y := (⟨"com/example/chronaero/chronaero/Utf8TextToArrayPinLaw", "at", "([B[BI)Z"⟩ : MethodName)) hown (mvT hZ (hw _ (List.mem_of_getElem? (i := 58) rfl))) (mvT hZ (hw _ (List.mem_of_getElem? (i := 59) rfl))) (mvT hZ (hw _ (List.mem_of_getElem? (i := 60) rfl))) (mvT hZ (hw _ (List.mem_of_getElem? (i := 61) rfl))) (by decide) (backOf (W := 0) (rm_at l Z a0 hw [] ra a55 (3 : Int32) len f fe 3 T56.heap n0 S2.1 Vr S2.2.2.2.1 hle (by decide) (fun q => (hsy 3 q).symm)) hZ (hw _ (List.mem_of_getElem? (i := 61) rfl)) (hw _ (List.mem_of_getElem? (i := 60) rfl)) (by decide) (by decide)) (g := (mkF m 314 #[.val (.int gi), .val (.int pi), .val (.int qi), .val (.int mi), .val (.ref a40), .val (.ref a42), .val (.int kI), .val (.int pv), .val (.int cv), .val (.int ov), .val (.int x1), .val (.int x2), .val (.ref a55), .val (.int ni), .val (.ref ra), .unset, .unset] [(.int (3 : Int32)), (.ref a55), (.ref ra)])) rfl (by rw [hml]; rfl) (argsL := [(.ref ra), (.ref a55), (.int (3 : Int32))]) (rest := []) (lenOf pd_at rfl) rfl (by show 2 * 0 + _ ≤ _; exact Nat.le_of_eq rfl) (hb hby at_314) (fun _ _ => ⟨rfl, e60, (by decide : 8 + 0 ≤ _), (by decide : 50 + 0 ≤ _)⟩)
          dsimp only [Pt.U, Pt.locs, Pt.cells, Pt.slots] at X61 l61 y61 z61 st61 hQ61
          subst l61 y61 z61
          obtain ⟨rfl, N61, e61⟩ := hQ61
          have M61 := Fr.app M60 N61
          refine own_go (B := T61.setTop (mkF m 317 #[.val (.int gi), .val (.int pi), .val (.int qi), .val (.int mi), .val (.ref a40), .val (.ref a42), .val (.int kI), .val (.int pv), .val (.int cv), .val (.int ov), .val (.int x1), .val (.int x2), .val (.ref a55), .val (.int ni), .val (.ref ra), .unset, .unset] [(.int (1 : Int32))])) (fun t₂ hr => st61 t₂ hr) ?_
          refine own_go (B := T61.setTop (mkF m 320 #[.val (.int gi), .val (.int pi), .val (.int qi), .val (.int mi), .val (.ref a40), .val (.ref a42), .val (.int kI), .val (.int pv), .val (.int cv), .val (.int ov), .val (.int x1), .val (.int x2), .val (.ref a55), .val (.int ni), .val (.ref ra), .unset, .unset] [])) (fun _ hr => XS.ifNo X61.here hx rfl (hb hby at_317) rfl (XT.i0_eq_f (by decide)) hr) ?_
          refine own_go (B := T61.setTop (mkF m 322 #[.val (.int gi), .val (.int pi), .val (.int qi), .val (.int mi), .val (.ref a40), .val (.ref a42), .val (.int kI), .val (.int pv), .val (.int cv), .val (.int ov), .val (.int x1), .val (.int x2), .val (.ref a55), .val (.int ni), .val (.ref ra), .unset, .unset] [(.ref ra)])) (fun _ hr => XS.aload X61.here hx rfl (hb hby at_320) rfl rfl hr) ?_
          refine own_go (B := T61.setTop (mkF m 324 #[.val (.int gi), .val (.int pi), .val (.int qi), .val (.int mi), .val (.ref a40), .val (.ref a42), .val (.int kI), .val (.int pv), .val (.int cv), .val (.int ov), .val (.int x1), .val (.int x2), .val (.ref a55), .val (.int ni), .val (.ref ra), .unset, .unset] [(.ref a55), (.ref ra)])) (fun _ hr => XS.aload X61.here hx rfl (hb hby at_322) rfl rfl hr) ?_
          refine own_go (B := T61.setTop (mkF m 325 #[.val (.int gi), .val (.int pi), .val (.int qi), .val (.int mi), .val (.ref a40), .val (.ref a42), .val (.int kI), .val (.int pv), .val (.int cv), .val (.int ov), .val (.int x1), .val (.int x2), .val (.ref a55), .val (.int ni), .val (.ref ra), .unset, .unset] [(.int (4 : Int32)), (.ref a55), (.ref ra)])) (fun _ hr => XT.iconstV X61.here hx rfl (4 : Int32) (hb hby at_324) (by decide) hr) ?_
          obtain ⟨_, _, ⟨T62, L62, k62, n62⟩, -, X62, ⟨Lc62, hQ62, l62, y62, z62⟩, st62⟩ := Jvm.LawKit.callS X61 hx (y := (⟨"com/example/chronaero/chronaero/Utf8TextToArrayPinLaw", "at", "([B[BI)Z"⟩ : MethodName)) hown (mvT hZ (hw _ (List.mem_of_getElem? (i := 58) rfl))) (mvT hZ (hw _ (List.mem_of_getElem? (i := 59) rfl))) (mvT hZ (hw _ (List.mem_of_getElem? (i := 60) rfl))) (mvT hZ (hw _ (List.mem_of_getElem? (i := 61) rfl))) (by decide) (backOf (W := 0) (rm_at l Z a0 hw [] ra a55 (4 : Int32) len f fe 4 T56.heap n0 S2.1 Vr S2.2.2.2.1 hle (by decide) (fun q => (hsy 4 q).symm)) hZ (hw _ (List.mem_of_getElem? (i := 61) rfl)) (hw _ (List.mem_of_getElem? (i := 60) rfl)) (by decide) (by decide)) (g := (mkF m 325 #[.val (.int gi), .val (.int pi), .val (.int qi), .val (.int mi), .val (.ref a40), .val (.ref a42), .val (.int kI), .val (.int pv), .val (.int cv), .val (.int ov), .val (.int x1), .val (.int x2), .val (.ref a55), .val (.int ni), .val (.ref ra), .unset, .unset] [(.int (4 : Int32)), (.ref a55), (.ref ra)])) rfl (by rw [hml]; rfl) (argsL := [(.ref ra), (.ref a55), (.int (4 : Int32))]) (rest := []) (lenOf pd_at rfl) rfl (by show 2 * 0 + _ ≤ _; exact Nat.le_of_eq rfl) (hb hby at_325) (fun _ _ => ⟨rfl, e61, (by decide : 8 + 0 ≤ _), (by decide : 50 + 0 ≤ _)⟩)
          dsimp only [Pt.U, Pt.locs, Pt.cells, Pt.slots] at X62 l62 y62 z62 st62 hQ62
          subst l62 y62 z62
          obtain ⟨rfl, N62, e62⟩ := hQ62
          have M62 := Fr.app M61 N62
          refine own_go (B := T62.setTop (mkF m 328 #[.val (.int gi), .val (.int pi), .val (.int qi), .val (.int mi), .val (.ref a40), .val (.ref a42), .val (.int kI), .val (.int pv), .val (.int cv), .val (.int ov), .val (.int x1), .val (.int x2), .val (.ref a55), .val (.int ni), .val (.ref ra), .unset, .unset] [(.int (1 : Int32))])) (fun t₂ hr => st62 t₂ hr) ?_
          refine own_go (B := T62.setTop (mkF m 331 #[.val (.int gi), .val (.int pi), .val (.int qi), .val (.int mi), .val (.ref a40), .val (.ref a42), .val (.int kI), .val (.int pv), .val (.int cv), .val (.int ov), .val (.int x1), .val (.int x2), .val (.ref a55), .val (.int ni), .val (.ref ra), .unset, .unset] [])) (fun _ hr => XS.ifNo X62.here hx rfl (hb hby at_328) rfl (XT.i0_eq_f (by decide)) hr) ?_
          refine own_go (B := T62.setTop (mkF m 332 #[.val (.int gi), .val (.int pi), .val (.int qi), .val (.int mi), .val (.ref a40), .val (.ref a42), .val (.int kI), .val (.int pv), .val (.int cv), .val (.int ov), .val (.int x1), .val (.int x2), .val (.ref a55), .val (.int ni), .val (.ref ra), .unset, .unset] [(.int (1 : Int32))])) (fun _ hr => XT.iconstV X62.here hx rfl (1 : Int32) (hb hby at_331) (by decide) hr) ?_
          refine own_go (B := T62.setTop (mkF m 336 #[.val (.int gi), .val (.int pi), .val (.int qi), .val (.int mi), .val (.ref a40), .val (.ref a42), .val (.int kI), .val (.int pv), .val (.int cv), .val (.int ov), .val (.int x1), .val (.int x2), .val (.ref a55), .val (.int ni), .val (.ref ra), .unset, .unset] [(.int (1 : Int32))])) (fun _ hr => XS.goto X62.here hx rfl (pc0 := 332) (pc' := 336) rfl (hb hby at_332) (by decide) (by decide) hr) ?_
          refine own_go (B := T62.setTop (mkF m 338 #[.val (.int gi), .val (.int pi), .val (.int qi), .val (.int mi), .val (.ref a40), .val (.ref a42), .val (.int kI), .val (.int pv), .val (.int cv), .val (.int ov), .val (.int x1), .val (.int x2), .val (.ref a55), .val (.int ni), .val (.ref ra), .val (.int (1 : Int32)), .unset] [])) (fun _ hr => XS.istore X62.here hx rfl (hb hby at_336) rfl (l' := #[.val (.int gi), .val (.int pi), .val (.int qi), .val (.int mi), .val (.ref a40), .val (.ref a42), .val (.int kI), .val (.int pv), .val (.int cv), .val (.int ov), .val (.int x1), .val (.int x2), .val (.ref a55), .val (.int ni), .val (.ref ra), .val (.int (1 : Int32)), .unset]) rfl hr) ?_
          refine own_go (B := T62.setTop (mkF m 340 #[.val (.int gi), .val (.int pi), .val (.int qi), .val (.int mi), .val (.ref a40), .val (.ref a42), .val (.int kI), .val (.int pv), .val (.int cv), .val (.int ov), .val (.int x1), .val (.int x2), .val (.ref a55), .val (.int ni), .val (.ref ra), .val (.int (1 : Int32)), .unset] [(.int ni)])) (fun _ hr => XS.iload X62.here hx rfl (hb hby at_338) rfl hr) ?_
          by_cases c63 : 0 < ni
          · refine own_go (B := T62.setTop (mkF m 343 #[.val (.int gi), .val (.int pi), .val (.int qi), .val (.int mi), .val (.ref a40), .val (.ref a42), .val (.int kI), .val (.int pv), .val (.int cv), .val (.int ov), .val (.int x1), .val (.int x2), .val (.ref a55), .val (.int ni), .val (.ref ra), .val (.int (1 : Int32)), .unset] [])) (fun _ hr => XS.ifNo X62.here hx rfl (hb hby at_340) rfl (XT.i0_le_f c63) hr) ?_
            have hp : 0 < len := by have q := c63; rw [Int32.lt_iff_toInt_lt, hni] at q; have : (0 : Int32).toInt = 0 := rfl; omega
            refine own_go (B := T62.setTop (mkF m 345 #[.val (.int gi), .val (.int pi), .val (.int qi), .val (.int mi), .val (.ref a40), .val (.ref a42), .val (.int kI), .val (.int pv), .val (.int cv), .val (.int ov), .val (.int x1), .val (.int x2), .val (.ref a55), .val (.int ni), .val (.ref ra), .val (.int (1 : Int32)), .unset] [(.ref ra)])) (fun _ hr => XS.aload X62.here hx rfl (hb hby at_343) rfl rfl hr) ?_
            refine own_go (B := T62.setTop (mkF m 346 #[.val (.int gi), .val (.int pi), .val (.int qi), .val (.int mi), .val (.ref a40), .val (.ref a42), .val (.int kI), .val (.int pv), .val (.int cv), .val (.int ov), .val (.int x1), .val (.int x2), .val (.ref a55), .val (.int ni), .val (.ref ra), .val (.int (1 : Int32)), .unset] [(.int (0 : Int32)), (.ref ra)])) (fun _ hr => XT.iconstV X62.here hx rfl (0 : Int32) (hb hby at_345) (by decide) hr) ?_
            refine own_go (B := T62.setTop (mkF m 348 #[.val (.int gi), .val (.int pi), .val (.int qi), .val (.int mi), .val (.ref a40), .val (.ref a42), .val (.int kI), .val (.int pv), .val (.int cv), .val (.int ov), .val (.int x1), .val (.int x2), .val (.ref a55), .val (.int ni), .val (.ref ra), .val (.int (1 : Int32)), .unset] [(.ref ra), (.int (0 : Int32)), (.ref ra)])) (fun _ hr => XS.aload X62.here hx rfl (hb hby at_346) rfl rfl hr) ?_
            refine own_go (B := T62.setTop (mkF m 349 #[.val (.int gi), .val (.int pi), .val (.int qi), .val (.int mi), .val (.ref a40), .val (.ref a42), .val (.int kI), .val (.int pv), .val (.int cv), .val (.int ov), .val (.int x1), .val (.int x2), .val (.ref a55), .val (.int ni), .val (.ref ra), .val (.int (1 : Int32)), .unset] [(.int (0 : Int32)), (.ref ra), (.int (0 : Int32)), (.ref ra)])) (fun _ hr => XT.iconstV X62.here hx rfl (0 : Int32) (hb hby at_348) (by decide) hr) ?_
            refine own_go (B := T62.setTop (mkF m 350 #[.val (.int gi), .val (.int pi), .val (.int qi), .val (.int mi), .val (.ref a40), .val (.ref a42), .val (.int kI), .val (.int pv), .val (.int cv), .val (.int ov), .val (.int x1), .val (.int x2), .val (.ref a55), .val (.int ni), .val (.ref ra), .val (.int (1 : Int32)), .unset] [(.int (f 0)), (.int (0 : Int32)), (.ref ra)])) (fun _ hr => own_ldB X62 hx hZ e62 Vr.1 (by decide : (0 : Int32).toInt = ((0 : Nat) : Int)) hp rfl (g := (mkF m 349 #[.val (.int gi), .val (.int pi), .val (.int qi), .val (.int mi), .val (.ref a40), .val (.ref a42), .val (.int kI), .val (.int pv), .val (.int cv), .val (.int ov), .val (.int x1), .val (.int x2), .val (.ref a55), .val (.int ni), .val (.ref ra), .val (.int (1 : Int32)), .unset] [(.int (0 : Int32)), (.ref ra), (.int (0 : Int32)), (.ref ra)])) rfl rfl (hb hby at_349) _ hr) ?_
            refine own_go (B := T62.setTop (mkF m 351 #[.val (.int gi), .val (.int pi), .val (.int qi), .val (.int mi), .val (.ref a40), .val (.ref a42), .val (.int kI), .val (.int pv), .val (.int cv), .val (.int ov), .val (.int x1), .val (.int x2), .val (.ref a55), .val (.int ni), .val (.ref ra), .val (.int (1 : Int32)), .unset] [(.int (1 : Int32)), (.int (f 0)), (.int (0 : Int32)), (.ref ra)])) (fun _ hr => XT.iconstV X62.here hx rfl (1 : Int32) (hb hby at_350) (by decide) hr) ?_
            refine own_go (B := T62.setTop (mkF m 352 #[.val (.int gi), .val (.int pi), .val (.int qi), .val (.int mi), .val (.ref a40), .val (.ref a42), .val (.int kI), .val (.int pv), .val (.int cv), .val (.int ov), .val (.int x1), .val (.int x2), .val (.ref a55), .val (.int ni), .val (.ref ra), .val (.int (1 : Int32)), .unset] [(.int ((f 0) + (1 : Int32))), (.int (0 : Int32)), (.ref ra)])) (fun _ hr => XS.iadd X62.here hx rfl (hb hby at_351) rfl hr) ?_
            refine own_go (B := T62.setTop (mkF m 353 #[.val (.int gi), .val (.int pi), .val (.int qi), .val (.int mi), .val (.ref a40), .val (.ref a42), .val (.int kI), .val (.int pv), .val (.int cv), .val (.int ov), .val (.int x1), .val (.int x2), .val (.ref a55), .val (.int ni), .val (.ref ra), .val (.int (1 : Int32)), .unset] [(.int (((f 0) + (1 : Int32)).toInt8.toInt32)), (.int (0 : Int32)), (.ref ra)])) (fun _ hr => XT.i2b X62.here hx rfl (hb hby at_352) rfl hr) ?_
            obtain ⟨T64, h64, X64, e64, W64, V64, st64⟩ := own_stB X62 hx hZ e62 Vr.1 (by decide : (0 : Int32).toInt = ((0 : Nat) : Int)) hp (own_b8 _) (g := (mkF m 353 #[.val (.int gi), .val (.int pi), .val (.int qi), .val (.int mi), .val (.ref a40), .val (.ref a42), .val (.int kI), .val (.int pv), .val (.int cv), .val (.int ov), .val (.int x1), .val (.int x2), .val (.ref a55), .val (.int ni), .val (.ref ra), .val (.int (1 : Int32)), .unset] [(.int (((f 0) + (1 : Int32)).toInt8.toInt32)), (.int (0 : Int32)), (.ref ra)])) rfl rfl (hb hby at_353)
            have N64 := Fr.snoc X64 M62 ger0
            refine own_go (B := T64.setTop (mkF m 354 #[.val (.int gi), .val (.int pi), .val (.int qi), .val (.int mi), .val (.ref a40), .val (.ref a42), .val (.int kI), .val (.int pv), .val (.int cv), .val (.int ov), .val (.int x1), .val (.int x2), .val (.ref a55), .val (.int ni), .val (.ref ra), .val (.int (1 : Int32)), .unset] [])) (fun t₂ hr => st64 t₂ hr) ?_
            have U64 := Vr.set (fits_nar_byte _) W64
            have S3 := S2.wr W64 (by omega) (by omega) (by omega) (by omega)
            refine own_go (B := T64.setTop (mkF m 356 #[.val (.int gi), .val (.int pi), .val (.int qi), .val (.int mi), .val (.ref a40), .val (.ref a42), .val (.int kI), .val (.int pv), .val (.int cv), .val (.int ov), .val (.int x1), .val (.int x2), .val (.ref a55), .val (.int ni), .val (.ref ra), .val (.int (1 : Int32)), .unset] [(.ref a40)])) (fun _ hr => XS.aload X64.here hx rfl (hb hby at_354) rfl rfl hr) ?_
            obtain ⟨cq65, kq65, qa65, qb65, qc65⟩ := isOf hZ e64 S3.2.1.1
            obtain ⟨_, _, ⟨T65, L65, k65, n65⟩, -, X65, ⟨Lc65, hQ65, l65, y65, z65⟩, st65⟩ := X64.virtualBack hx (y := (⟨"com/example/chronaero/chronaero/Utf8Text", "toArray", "()[B"⟩ : MethodName)) (z := (⟨"com/example/chronaero/chronaero/Utf8Text", "toArray", "()[B"⟩ : MethodName)) hown (mvT hZ (hw _ (List.mem_of_getElem? (i := 39) rfl))) (mvT hZ (hw _ (List.mem_of_getElem? (i := 40) rfl))) (notFace_of_selects (args := #[]) (mvT hZ (hw _ (List.mem_of_getElem? (i := 42) rfl)))) (mvT hZ (hw _ (List.mem_of_getElem? (i := 42) rfl))) (mvT hZ (hw _ (List.mem_of_getElem? (i := 41) rfl))) (by decide) (backOf (W := 0) (rm_toa l Z a0 hw [] a40 B cap len f h64 n0 S3.1 S3.2.1) hZ (hw _ (List.mem_of_getElem? (i := 43) rfl)) (hw _ (List.mem_of_getElem? (i := 2) rfl)) (by decide) (by decide)) qa65 qc65 (g := (mkF m 356 #[.val (.int gi), .val (.int pi), .val (.int qi), .val (.int mi), .val (.ref a40), .val (.ref a42), .val (.int kI), .val (.int pv), .val (.int cv), .val (.int ov), .val (.int x1), .val (.int x2), .val (.ref a55), .val (.int ni), .val (.ref ra), .val (.int (1 : Int32)), .unset] [(.ref a40)])) rfl (by rw [hml]; rfl) (Steps.refl _) (argsL := []) (rest := []) (lenOf pd_toa rfl) rfl (by show 2 * 0 + _ ≤ _; exact Nat.le_of_eq rfl) (hb hby at_356) (fun _ _ => ⟨rfl, e64, (by decide : 8 + 1 ≤ _), (by decide : 50 + 8 ≤ _)⟩)
            dsimp only [Pt.U, Pt.locs, Pt.cells, Pt.slots] at X65 l65 y65 z65 st65 hQ65
            subst l65 y65 z65
            obtain ⟨N65, K65, rb, rfl, gerb, Vb65⟩ := hQ65
            refine own_gs (B := T65.setTop (mkF m 359 #[.val (.int gi), .val (.int pi), .val (.int qi), .val (.int mi), .val (.ref a40), .val (.ref a42), .val (.int kI), .val (.int pv), .val (.int cv), .val (.int ov), .val (.int x1), .val (.int x2), .val (.ref a55), .val (.int ni), .val (.ref ra), .val (.int (1 : Int32)), .unset] [(.ref rb)])) st65 ?_
            have M65 := Fr.app N64 N65
            have S4 := S3.keep0 K65
            have Vc : own_By Z T65.heap rb len f := Vb65.congr (fun i hi => if_pos (by omega))
            have l5 := U64.lt
            refine own_go (B := T65.setTop (mkF m 361 #[.val (.int gi), .val (.int pi), .val (.int qi), .val (.int mi), .val (.ref a40), .val (.ref a42), .val (.int kI), .val (.int pv), .val (.int cv), .val (.int ov), .val (.int x1), .val (.int x2), .val (.ref a55), .val (.int ni), .val (.ref ra), .val (.int (1 : Int32)), .val (.ref rb)] [])) (fun _ hr => XS.astore X65.here hx rfl (hb hby at_359) rfl rfl (l' := #[.val (.int gi), .val (.int pi), .val (.int qi), .val (.int mi), .val (.ref a40), .val (.ref a42), .val (.int kI), .val (.int pv), .val (.int cv), .val (.int ov), .val (.int x1), .val (.int x2), .val (.ref a55), .val (.int ni), .val (.ref ra), .val (.int (1 : Int32)), .val (.ref rb)]) rfl hr) ?_
            refine own_go (B := T65.setTop (mkF m 363 #[.val (.int gi), .val (.int pi), .val (.int qi), .val (.int mi), .val (.ref a40), .val (.ref a42), .val (.int kI), .val (.int pv), .val (.int cv), .val (.int ov), .val (.int x1), .val (.int x2), .val (.ref a55), .val (.int ni), .val (.ref ra), .val (.int (1 : Int32)), .val (.ref rb)] [(.int (1 : Int32))])) (fun _ hr => XS.iload X65.here hx rfl (hb hby at_361) rfl hr) ?_
            refine own_go (B := T65.setTop (mkF m 366 #[.val (.int gi), .val (.int pi), .val (.int qi), .val (.int mi), .val (.ref a40), .val (.ref a42), .val (.int kI), .val (.int pv), .val (.int cv), .val (.int ov), .val (.int x1), .val (.int x2), .val (.ref a55), .val (.int ni), .val (.ref ra), .val (.int (1 : Int32)), .val (.ref rb)] [])) (fun _ hr => XS.ifNo X65.here hx rfl (hb hby at_363) rfl (XT.i0_eq_f (by decide)) hr) ?_
            refine own_go (B := T65.setTop (mkF m 368 #[.val (.int gi), .val (.int pi), .val (.int qi), .val (.int mi), .val (.ref a40), .val (.ref a42), .val (.int kI), .val (.int pv), .val (.int cv), .val (.int ov), .val (.int x1), .val (.int x2), .val (.ref a55), .val (.int ni), .val (.ref ra), .val (.int (1 : Int32)), .val (.ref rb)] [(.ref rb)])) (fun _ hr => XS.aload X65.here hx rfl (hb hby at_366) rfl rfl hr) ?_
            refine own_go (B := T65.setTop (mkF m 370 #[.val (.int gi), .val (.int pi), .val (.int qi), .val (.int mi), .val (.ref a40), .val (.ref a42), .val (.int kI), .val (.int pv), .val (.int cv), .val (.int ov), .val (.int x1), .val (.int x2), .val (.ref a55), .val (.int ni), .val (.ref ra), .val (.int (1 : Int32)), .val (.ref rb)] [(.ref ra), (.ref rb)])) (fun _ hr => XS.aload X65.here hx rfl (hb hby at_368) rfl rfl hr) ?_
            refine own_go (B := T65.setTop (mkF m 373 #[.val (.int gi), .val (.int pi), .val (.int qi), .val (.int mi), .val (.ref a40), .val (.ref a42), .val (.int kI), .val (.int pv), .val (.int cv), .val (.int ov), .val (.int x1), .val (.int x2), .val (.ref a55), .val (.int ni), .val (.ref ra), .val (.int (1 : Int32)), .val (.ref rb)] [])) (fun _ hr => XT.acmpNo X65.here hx rfl (hb hby at_370) rfl rfl rfl (XT.aa_eq_f (fun q => by injection q with r; exact absurd r (Nat.ne_of_gt (Nat.lt_of_lt_of_le l5 gerb)))) hr) ?_
            refine own_go (B := T65.setTop (mkF m 375 #[.val (.int gi), .val (.int pi), .val (.int qi), .val (.int mi), .val (.ref a40), .val (.ref a42), .val (.int kI), .val (.int pv), .val (.int cv), .val (.int ov), .val (.int x1), .val (.int x2), .val (.ref a55), .val (.int ni), .val (.ref ra), .val (.int (1 : Int32)), .val (.ref rb)] [(.ref rb)])) (fun _ hr => XS.aload X65.here hx rfl (hb hby at_373) rfl rfl hr) ?_
            refine own_go (B := T65.setTop (mkF m 376 #[.val (.int gi), .val (.int pi), .val (.int qi), .val (.int mi), .val (.ref a40), .val (.ref a42), .val (.int kI), .val (.int pv), .val (.int cv), .val (.int ov), .val (.int x1), .val (.int x2), .val (.ref a55), .val (.int ni), .val (.ref ra), .val (.int (1 : Int32)), .val (.ref rb)] [(.int ni)])) (fun _ hr => own_len X65 hx hZ rfl Vc.1 hni (g := (mkF m 375 #[.val (.int gi), .val (.int pi), .val (.int qi), .val (.int mi), .val (.ref a40), .val (.ref a42), .val (.int kI), .val (.int pv), .val (.int cv), .val (.int ov), .val (.int x1), .val (.int x2), .val (.ref a55), .val (.int ni), .val (.ref ra), .val (.int (1 : Int32)), .val (.ref rb)] [(.ref rb)])) rfl rfl (hb hby at_375) _ hr) ?_
            refine own_go (B := T65.setTop (mkF m 378 #[.val (.int gi), .val (.int pi), .val (.int qi), .val (.int mi), .val (.ref a40), .val (.ref a42), .val (.int kI), .val (.int pv), .val (.int cv), .val (.int ov), .val (.int x1), .val (.int x2), .val (.ref a55), .val (.int ni), .val (.ref ra), .val (.int (1 : Int32)), .val (.ref rb)] [(.int ni), (.int ni)])) (fun _ hr => XS.iload X65.here hx rfl (hb hby at_376) rfl hr) ?_
            refine own_go (B := T65.setTop (mkF m 381 #[.val (.int gi), .val (.int pi), .val (.int qi), .val (.int mi), .val (.ref a40), .val (.ref a42), .val (.int kI), .val (.int pv), .val (.int cv), .val (.int ov), .val (.int x1), .val (.int x2), .val (.ref a55), .val (.int ni), .val (.ref ra), .val (.int (1 : Int32)), .val (.ref rb)] [])) (fun _ hr => XS.icmpNo X65.here hx rfl (hb hby at_378) rfl (XT.ii_ne_f rfl) hr) ?_
            refine own_go (B := T65.setTop (mkF m 383 #[.val (.int gi), .val (.int pi), .val (.int qi), .val (.int mi), .val (.ref a40), .val (.ref a42), .val (.int kI), .val (.int pv), .val (.int cv), .val (.int ov), .val (.int x1), .val (.int x2), .val (.ref a55), .val (.int ni), .val (.ref ra), .val (.int (1 : Int32)), .val (.ref rb)] [(.int ni)])) (fun _ hr => XS.iload X65.here hx rfl (hb hby at_381) rfl hr) ?_
            by_cases c66 : ni = 0
            · refine own_go (B := T65.setTop (mkF m 397 #[.val (.int gi), .val (.int pi), .val (.int qi), .val (.int mi), .val (.ref a40), .val (.ref a42), .val (.int kI), .val (.int pv), .val (.int cv), .val (.int ov), .val (.int x1), .val (.int x2), .val (.ref a55), .val (.int ni), .val (.ref ra), .val (.int (1 : Int32)), .val (.ref rb)] [])) (fun _ hr => XS.ifYes X65.here hx rfl (pc0 := 383) (pc' := 397) rfl (hb hby at_383) rfl (XT.i0_eq_t c66) (by decide) (by decide) hr) ?_
              refine own_go (B := T65.setTop (mkF m 398 #[.val (.int gi), .val (.int pi), .val (.int qi), .val (.int mi), .val (.ref a40), .val (.ref a42), .val (.int kI), .val (.int pv), .val (.int cv), .val (.int ov), .val (.int x1), .val (.int x2), .val (.ref a55), .val (.int ni), .val (.ref ra), .val (.int (1 : Int32)), .val (.ref rb)] [(.int (1 : Int32))])) (fun _ hr => XT.iconstV X65.here hx rfl (1 : Int32) (hb hby at_397) (by decide) hr) ?_
              refine own_go (B := T65.setTop (mkF m 402 #[.val (.int gi), .val (.int pi), .val (.int qi), .val (.int mi), .val (.ref a40), .val (.ref a42), .val (.int kI), .val (.int pv), .val (.int cv), .val (.int ov), .val (.int x1), .val (.int x2), .val (.ref a55), .val (.int ni), .val (.ref ra), .val (.int (1 : Int32)), .val (.ref rb)] [(.int (1 : Int32))])) (fun _ hr => XS.goto X65.here hx rfl (pc0 := 398) (pc' := 402) rfl (hb hby at_398) (by decide) (by decide) hr) ?_
              exact own_retZ X65 hx hlk hret (by decide) (hb hby at_402) (by decide) (by decide) ⟨rfl, M65⟩
            · refine own_go (B := T65.setTop (mkF m 386 #[.val (.int gi), .val (.int pi), .val (.int qi), .val (.int mi), .val (.ref a40), .val (.ref a42), .val (.int kI), .val (.int pv), .val (.int cv), .val (.int ov), .val (.int x1), .val (.int x2), .val (.ref a55), .val (.int ni), .val (.ref ra), .val (.int (1 : Int32)), .val (.ref rb)] [])) (fun _ hr => XS.ifNo X65.here hx rfl (hb hby at_383) rfl (XT.i0_eq_f c66) hr) ?_
              have hp : 0 < len := by have q := c66; rw [← Int32.toInt_inj, hni] at q; have : (0 : Int32).toInt = 0 := rfl; omega
              refine own_go (B := T65.setTop (mkF m 388 #[.val (.int gi), .val (.int pi), .val (.int qi), .val (.int mi), .val (.ref a40), .val (.ref a42), .val (.int kI), .val (.int pv), .val (.int cv), .val (.int ov), .val (.int x1), .val (.int x2), .val (.ref a55), .val (.int ni), .val (.ref ra), .val (.int (1 : Int32)), .val (.ref rb)] [(.ref rb)])) (fun _ hr => XS.aload X65.here hx rfl (hb hby at_386) rfl rfl hr) ?_
              refine own_go (B := T65.setTop (mkF m 389 #[.val (.int gi), .val (.int pi), .val (.int qi), .val (.int mi), .val (.ref a40), .val (.ref a42), .val (.int kI), .val (.int pv), .val (.int cv), .val (.int ov), .val (.int x1), .val (.int x2), .val (.ref a55), .val (.int ni), .val (.ref ra), .val (.int (1 : Int32)), .val (.ref rb)] [(.int (0 : Int32)), (.ref rb)])) (fun _ hr => XT.iconstV X65.here hx rfl (0 : Int32) (hb hby at_388) (by decide) hr) ?_
              refine own_go (B := T65.setTop (mkF m 390 #[.val (.int gi), .val (.int pi), .val (.int qi), .val (.int mi), .val (.ref a40), .val (.ref a42), .val (.int kI), .val (.int pv), .val (.int cv), .val (.int ov), .val (.int x1), .val (.int x2), .val (.ref a55), .val (.int ni), .val (.ref ra), .val (.int (1 : Int32)), .val (.ref rb)] [(.int (f 0))])) (fun _ hr => own_ldB X65 hx hZ rfl Vc.1 (by decide : (0 : Int32).toInt = ((0 : Nat) : Int)) hp rfl (g := (mkF m 389 #[.val (.int gi), .val (.int pi), .val (.int qi), .val (.int mi), .val (.ref a40), .val (.ref a42), .val (.int kI), .val (.int pv), .val (.int cv), .val (.int ov), .val (.int x1), .val (.int x2), .val (.ref a55), .val (.int ni), .val (.ref ra), .val (.int (1 : Int32)), .val (.ref rb)] [(.int (0 : Int32)), (.ref rb)])) rfl rfl (hb hby at_389) _ hr) ?_
              refine own_go (B := T65.setTop (mkF m 392 #[.val (.int gi), .val (.int pi), .val (.int qi), .val (.int mi), .val (.ref a40), .val (.ref a42), .val (.int kI), .val (.int pv), .val (.int cv), .val (.int ov), .val (.int x1), .val (.int x2), .val (.ref a55), .val (.int ni), .val (.ref ra), .val (.int (1 : Int32)), .val (.ref rb)] [(.ref a55), (.int (f 0))])) (fun _ hr => XS.aload X65.here hx rfl (hb hby at_390) rfl rfl hr) ?_
              refine own_go (B := T65.setTop (mkF m 393 #[.val (.int gi), .val (.int pi), .val (.int qi), .val (.int mi), .val (.ref a40), .val (.ref a42), .val (.int kI), .val (.int pv), .val (.int cv), .val (.int ov), .val (.int x1), .val (.int x2), .val (.ref a55), .val (.int ni), .val (.ref ra), .val (.int (1 : Int32)), .val (.ref rb)] [(.int (0 : Int32)), (.ref a55), (.int (f 0))])) (fun _ hr => XT.iconstV X65.here hx rfl (0 : Int32) (hb hby at_392) (by decide) hr) ?_
              refine own_go (B := T65.setTop (mkF m 394 #[.val (.int gi), .val (.int pi), .val (.int qi), .val (.int mi), .val (.ref a40), .val (.ref a42), .val (.int kI), .val (.int pv), .val (.int cv), .val (.int ov), .val (.int x1), .val (.int x2), .val (.ref a55), .val (.int ni), .val (.ref ra), .val (.int (1 : Int32)), .val (.ref rb)] [(.int (fe 0)), (.int (f 0))])) (fun _ hr => own_ldB X65 hx hZ rfl S4.2.2.2.1.1 (by decide : (0 : Int32).toInt = ((0 : Nat) : Int)) (by decide) rfl (g := (mkF m 393 #[.val (.int gi), .val (.int pi), .val (.int qi), .val (.int mi), .val (.ref a40), .val (.ref a42), .val (.int kI), .val (.int pv), .val (.int cv), .val (.int ov), .val (.int x1), .val (.int x2), .val (.ref a55), .val (.int ni), .val (.ref ra), .val (.int (1 : Int32)), .val (.ref rb)] [(.int (0 : Int32)), (.ref a55), (.int (f 0))])) rfl rfl (hb hby at_393) _ hr) ?_
              refine own_go (B := T65.setTop (mkF m 397 #[.val (.int gi), .val (.int pi), .val (.int qi), .val (.int mi), .val (.ref a40), .val (.ref a42), .val (.int kI), .val (.int pv), .val (.int cv), .val (.int ov), .val (.int x1), .val (.int x2), .val (.ref a55), .val (.int ni), .val (.ref ra), .val (.int (1 : Int32)), .val (.ref rb)] [])) (fun _ hr => XS.icmpNo X65.here hx rfl (hb hby at_394) rfl (XT.ii_ne_f (hsy 0 hp).symm) hr) ?_
              refine own_go (B := T65.setTop (mkF m 398 #[.val (.int gi), .val (.int pi), .val (.int qi), .val (.int mi), .val (.ref a40), .val (.ref a42), .val (.int kI), .val (.int pv), .val (.int cv), .val (.int ov), .val (.int x1), .val (.int x2), .val (.ref a55), .val (.int ni), .val (.ref ra), .val (.int (1 : Int32)), .val (.ref rb)] [(.int (1 : Int32))])) (fun _ hr => XT.iconstV X65.here hx rfl (1 : Int32) (hb hby at_397) (by decide) hr) ?_
              refine own_go (B := T65.setTop (mkF m 402 #[.val (.int gi), .val (.int pi), .val (.int qi), .val (.int mi), .val (.ref a40), .val (.ref a42), .val (.int kI), .val (.int pv), .val (.int cv), .val (.int ov), .val (.int x1), .val (.int x2), .val (.ref a55), .val (.int ni), .val (.ref ra), .val (.int (1 : Int32)), .val (.ref rb)] [(.int (1 : Int32))])) (fun _ hr => XS.goto X65.here hx rfl (pc0 := 398) (pc' := 402) rfl (hb hby at_398) (by decide) (by decide) hr) ?_
              exact own_retZ X65 hx hlk hret (by decide) (hb hby at_402) (by decide) (by decide) ⟨rfl, M65⟩
          · refine own_go (B := T62.setTop (mkF m 354 #[.val (.int gi), .val (.int pi), .val (.int qi), .val (.int mi), .val (.ref a40), .val (.ref a42), .val (.int kI), .val (.int pv), .val (.int cv), .val (.int ov), .val (.int x1), .val (.int x2), .val (.ref a55), .val (.int ni), .val (.ref ra), .val (.int (1 : Int32)), .unset] [])) (fun _ hr => XS.ifYes X62.here hx rfl (pc0 := 340) (pc' := 354) rfl (hb hby at_340) rfl (XT.i0_le_t c63) (by decide) (by decide) hr) ?_
            refine own_go (B := T62.setTop (mkF m 356 #[.val (.int gi), .val (.int pi), .val (.int qi), .val (.int mi), .val (.ref a40), .val (.ref a42), .val (.int kI), .val (.int pv), .val (.int cv), .val (.int ov), .val (.int x1), .val (.int x2), .val (.ref a55), .val (.int ni), .val (.ref ra), .val (.int (1 : Int32)), .unset] [(.ref a40)])) (fun _ hr => XS.aload X62.here hx rfl (hb hby at_354) rfl rfl hr) ?_
            obtain ⟨cq67, kq67, qa67, qb67, qc67⟩ := isOf hZ e62 S2.2.1.1
            obtain ⟨_, _, ⟨T67, L67, k67, n67⟩, -, X67, ⟨Lc67, hQ67, l67, y67, z67⟩, st67⟩ := X62.virtualBack hx (y := (⟨"com/example/chronaero/chronaero/Utf8Text", "toArray", "()[B"⟩ : MethodName)) (z := (⟨"com/example/chronaero/chronaero/Utf8Text", "toArray", "()[B"⟩ : MethodName)) hown (mvT hZ (hw _ (List.mem_of_getElem? (i := 39) rfl))) (mvT hZ (hw _ (List.mem_of_getElem? (i := 40) rfl))) (notFace_of_selects (args := #[]) (mvT hZ (hw _ (List.mem_of_getElem? (i := 42) rfl)))) (mvT hZ (hw _ (List.mem_of_getElem? (i := 42) rfl))) (mvT hZ (hw _ (List.mem_of_getElem? (i := 41) rfl))) (by decide) (backOf (W := 0) (rm_toa l Z a0 hw [] a40 B cap len f T56.heap n0 S2.1 S2.2.1) hZ (hw _ (List.mem_of_getElem? (i := 43) rfl)) (hw _ (List.mem_of_getElem? (i := 2) rfl)) (by decide) (by decide)) qa67 qc67 (g := (mkF m 356 #[.val (.int gi), .val (.int pi), .val (.int qi), .val (.int mi), .val (.ref a40), .val (.ref a42), .val (.int kI), .val (.int pv), .val (.int cv), .val (.int ov), .val (.int x1), .val (.int x2), .val (.ref a55), .val (.int ni), .val (.ref ra), .val (.int (1 : Int32)), .unset] [(.ref a40)])) rfl (by rw [hml]; rfl) (Steps.refl _) (argsL := []) (rest := []) (lenOf pd_toa rfl) rfl (by show 2 * 0 + _ ≤ _; exact Nat.le_of_eq rfl) (hb hby at_356) (fun _ _ => ⟨rfl, e62, (by decide : 8 + 1 ≤ _), (by decide : 50 + 8 ≤ _)⟩)
            dsimp only [Pt.U, Pt.locs, Pt.cells, Pt.slots] at X67 l67 y67 z67 st67 hQ67
            subst l67 y67 z67
            obtain ⟨N67, K67, rb, rfl, gerb, Vb67⟩ := hQ67
            refine own_gs (B := T67.setTop (mkF m 359 #[.val (.int gi), .val (.int pi), .val (.int qi), .val (.int mi), .val (.ref a40), .val (.ref a42), .val (.int kI), .val (.int pv), .val (.int cv), .val (.int ov), .val (.int x1), .val (.int x2), .val (.ref a55), .val (.int ni), .val (.ref ra), .val (.int (1 : Int32)), .unset] [(.ref rb)])) st67 ?_
            have M67 := Fr.app M62 N67
            have S4 := S2.keep0 K67
            have Vc : own_By Z T67.heap rb len f := Vb67.congr (fun i hi => if_pos (by omega))
            have l5 := Vr.lt
            refine own_go (B := T67.setTop (mkF m 361 #[.val (.int gi), .val (.int pi), .val (.int qi), .val (.int mi), .val (.ref a40), .val (.ref a42), .val (.int kI), .val (.int pv), .val (.int cv), .val (.int ov), .val (.int x1), .val (.int x2), .val (.ref a55), .val (.int ni), .val (.ref ra), .val (.int (1 : Int32)), .val (.ref rb)] [])) (fun _ hr => XS.astore X67.here hx rfl (hb hby at_359) rfl rfl (l' := #[.val (.int gi), .val (.int pi), .val (.int qi), .val (.int mi), .val (.ref a40), .val (.ref a42), .val (.int kI), .val (.int pv), .val (.int cv), .val (.int ov), .val (.int x1), .val (.int x2), .val (.ref a55), .val (.int ni), .val (.ref ra), .val (.int (1 : Int32)), .val (.ref rb)]) rfl hr) ?_
            refine own_go (B := T67.setTop (mkF m 363 #[.val (.int gi), .val (.int pi), .val (.int qi), .val (.int mi), .val (.ref a40), .val (.ref a42), .val (.int kI), .val (.int pv), .val (.int cv), .val (.int ov), .val (.int x1), .val (.int x2), .val (.ref a55), .val (.int ni), .val (.ref ra), .val (.int (1 : Int32)), .val (.ref rb)] [(.int (1 : Int32))])) (fun _ hr => XS.iload X67.here hx rfl (hb hby at_361) rfl hr) ?_
            refine own_go (B := T67.setTop (mkF m 366 #[.val (.int gi), .val (.int pi), .val (.int qi), .val (.int mi), .val (.ref a40), .val (.ref a42), .val (.int kI), .val (.int pv), .val (.int cv), .val (.int ov), .val (.int x1), .val (.int x2), .val (.ref a55), .val (.int ni), .val (.ref ra), .val (.int (1 : Int32)), .val (.ref rb)] [])) (fun _ hr => XS.ifNo X67.here hx rfl (hb hby at_363) rfl (XT.i0_eq_f (by decide)) hr) ?_
            refine own_go (B := T67.setTop (mkF m 368 #[.val (.int gi), .val (.int pi), .val (.int qi), .val (.int mi), .val (.ref a40), .val (.ref a42), .val (.int kI), .val (.int pv), .val (.int cv), .val (.int ov), .val (.int x1), .val (.int x2), .val (.ref a55), .val (.int ni), .val (.ref ra), .val (.int (1 : Int32)), .val (.ref rb)] [(.ref rb)])) (fun _ hr => XS.aload X67.here hx rfl (hb hby at_366) rfl rfl hr) ?_
            refine own_go (B := T67.setTop (mkF m 370 #[.val (.int gi), .val (.int pi), .val (.int qi), .val (.int mi), .val (.ref a40), .val (.ref a42), .val (.int kI), .val (.int pv), .val (.int cv), .val (.int ov), .val (.int x1), .val (.int x2), .val (.ref a55), .val (.int ni), .val (.ref ra), .val (.int (1 : Int32)), .val (.ref rb)] [(.ref ra), (.ref rb)])) (fun _ hr => XS.aload X67.here hx rfl (hb hby at_368) rfl rfl hr) ?_
            refine own_go (B := T67.setTop (mkF m 373 #[.val (.int gi), .val (.int pi), .val (.int qi), .val (.int mi), .val (.ref a40), .val (.ref a42), .val (.int kI), .val (.int pv), .val (.int cv), .val (.int ov), .val (.int x1), .val (.int x2), .val (.ref a55), .val (.int ni), .val (.ref ra), .val (.int (1 : Int32)), .val (.ref rb)] [])) (fun _ hr => XT.acmpNo X67.here hx rfl (hb hby at_370) rfl rfl rfl (XT.aa_eq_f (fun q => by injection q with r; exact absurd r (Nat.ne_of_gt (Nat.lt_of_lt_of_le l5 gerb)))) hr) ?_
            refine own_go (B := T67.setTop (mkF m 375 #[.val (.int gi), .val (.int pi), .val (.int qi), .val (.int mi), .val (.ref a40), .val (.ref a42), .val (.int kI), .val (.int pv), .val (.int cv), .val (.int ov), .val (.int x1), .val (.int x2), .val (.ref a55), .val (.int ni), .val (.ref ra), .val (.int (1 : Int32)), .val (.ref rb)] [(.ref rb)])) (fun _ hr => XS.aload X67.here hx rfl (hb hby at_373) rfl rfl hr) ?_
            refine own_go (B := T67.setTop (mkF m 376 #[.val (.int gi), .val (.int pi), .val (.int qi), .val (.int mi), .val (.ref a40), .val (.ref a42), .val (.int kI), .val (.int pv), .val (.int cv), .val (.int ov), .val (.int x1), .val (.int x2), .val (.ref a55), .val (.int ni), .val (.ref ra), .val (.int (1 : Int32)), .val (.ref rb)] [(.int ni)])) (fun _ hr => own_len X67 hx hZ rfl Vc.1 hni (g := (mkF m 375 #[.val (.int gi), .val (.int pi), .val (.int qi), .val (.int mi), .val (.ref a40), .val (.ref a42), .val (.int kI), .val (.int pv), .val (.int cv), .val (.int ov), .val (.int x1), .val (.int x2), .val (.ref a55), .val (.int ni), .val (.ref ra), .val (.int (1 : Int32)), .val (.ref rb)] [(.ref rb)])) rfl rfl (hb hby at_375) _ hr) ?_
            refine own_go (B := T67.setTop (mkF m 378 #[.val (.int gi), .val (.int pi), .val (.int qi), .val (.int mi), .val (.ref a40), .val (.ref a42), .val (.int kI), .val (.int pv), .val (.int cv), .val (.int ov), .val (.int x1), .val (.int x2), .val (.ref a55), .val (.int ni), .val (.ref ra), .val (.int (1 : Int32)), .val (.ref rb)] [(.int ni), (.int ni)])) (fun _ hr => XS.iload X67.here hx rfl (hb hby at_376) rfl hr) ?_
            refine own_go (B := T67.setTop (mkF m 381 #[.val (.int gi), .val (.int pi), .val (.int qi), .val (.int mi), .val (.ref a40), .val (.ref a42), .val (.int kI), .val (.int pv), .val (.int cv), .val (.int ov), .val (.int x1), .val (.int x2), .val (.ref a55), .val (.int ni), .val (.ref ra), .val (.int (1 : Int32)), .val (.ref rb)] [])) (fun _ hr => XS.icmpNo X67.here hx rfl (hb hby at_378) rfl (XT.ii_ne_f rfl) hr) ?_
            refine own_go (B := T67.setTop (mkF m 383 #[.val (.int gi), .val (.int pi), .val (.int qi), .val (.int mi), .val (.ref a40), .val (.ref a42), .val (.int kI), .val (.int pv), .val (.int cv), .val (.int ov), .val (.int x1), .val (.int x2), .val (.ref a55), .val (.int ni), .val (.ref ra), .val (.int (1 : Int32)), .val (.ref rb)] [(.int ni)])) (fun _ hr => XS.iload X67.here hx rfl (hb hby at_381) rfl hr) ?_
            by_cases c68 : ni = 0
            · refine own_go (B := T67.setTop (mkF m 397 #[.val (.int gi), .val (.int pi), .val (.int qi), .val (.int mi), .val (.ref a40), .val (.ref a42), .val (.int kI), .val (.int pv), .val (.int cv), .val (.int ov), .val (.int x1), .val (.int x2), .val (.ref a55), .val (.int ni), .val (.ref ra), .val (.int (1 : Int32)), .val (.ref rb)] [])) (fun _ hr => XS.ifYes X67.here hx rfl (pc0 := 383) (pc' := 397) rfl (hb hby at_383) rfl (XT.i0_eq_t c68) (by decide) (by decide) hr) ?_
              refine own_go (B := T67.setTop (mkF m 398 #[.val (.int gi), .val (.int pi), .val (.int qi), .val (.int mi), .val (.ref a40), .val (.ref a42), .val (.int kI), .val (.int pv), .val (.int cv), .val (.int ov), .val (.int x1), .val (.int x2), .val (.ref a55), .val (.int ni), .val (.ref ra), .val (.int (1 : Int32)), .val (.ref rb)] [(.int (1 : Int32))])) (fun _ hr => XT.iconstV X67.here hx rfl (1 : Int32) (hb hby at_397) (by decide) hr) ?_
              refine own_go (B := T67.setTop (mkF m 402 #[.val (.int gi), .val (.int pi), .val (.int qi), .val (.int mi), .val (.ref a40), .val (.ref a42), .val (.int kI), .val (.int pv), .val (.int cv), .val (.int ov), .val (.int x1), .val (.int x2), .val (.ref a55), .val (.int ni), .val (.ref ra), .val (.int (1 : Int32)), .val (.ref rb)] [(.int (1 : Int32))])) (fun _ hr => XS.goto X67.here hx rfl (pc0 := 398) (pc' := 402) rfl (hb hby at_398) (by decide) (by decide) hr) ?_
              exact own_retZ X67 hx hlk hret (by decide) (hb hby at_402) (by decide) (by decide) ⟨rfl, M67⟩
            · refine own_go (B := T67.setTop (mkF m 386 #[.val (.int gi), .val (.int pi), .val (.int qi), .val (.int mi), .val (.ref a40), .val (.ref a42), .val (.int kI), .val (.int pv), .val (.int cv), .val (.int ov), .val (.int x1), .val (.int x2), .val (.ref a55), .val (.int ni), .val (.ref ra), .val (.int (1 : Int32)), .val (.ref rb)] [])) (fun _ hr => XS.ifNo X67.here hx rfl (hb hby at_383) rfl (XT.i0_eq_f c68) hr) ?_
              have hp : 0 < len := by have q := c68; rw [← Int32.toInt_inj, hni] at q; have : (0 : Int32).toInt = 0 := rfl; omega
              refine own_go (B := T67.setTop (mkF m 388 #[.val (.int gi), .val (.int pi), .val (.int qi), .val (.int mi), .val (.ref a40), .val (.ref a42), .val (.int kI), .val (.int pv), .val (.int cv), .val (.int ov), .val (.int x1), .val (.int x2), .val (.ref a55), .val (.int ni), .val (.ref ra), .val (.int (1 : Int32)), .val (.ref rb)] [(.ref rb)])) (fun _ hr => XS.aload X67.here hx rfl (hb hby at_386) rfl rfl hr) ?_
              refine own_go (B := T67.setTop (mkF m 389 #[.val (.int gi), .val (.int pi), .val (.int qi), .val (.int mi), .val (.ref a40), .val (.ref a42), .val (.int kI), .val (.int pv), .val (.int cv), .val (.int ov), .val (.int x1), .val (.int x2), .val (.ref a55), .val (.int ni), .val (.ref ra), .val (.int (1 : Int32)), .val (.ref rb)] [(.int (0 : Int32)), (.ref rb)])) (fun _ hr => XT.iconstV X67.here hx rfl (0 : Int32) (hb hby at_388) (by decide) hr) ?_
              refine own_go (B := T67.setTop (mkF m 390 #[.val (.int gi), .val (.int pi), .val (.int qi), .val (.int mi), .val (.ref a40), .val (.ref a42), .val (.int kI), .val (.int pv), .val (.int cv), .val (.int ov), .val (.int x1), .val (.int x2), .val (.ref a55), .val (.int ni), .val (.ref ra), .val (.int (1 : Int32)), .val (.ref rb)] [(.int (f 0))])) (fun _ hr => own_ldB X67 hx hZ rfl Vc.1 (by decide : (0 : Int32).toInt = ((0 : Nat) : Int)) hp rfl (g := (mkF m 389 #[.val (.int gi), .val (.int pi), .val (.int qi), .val (.int mi), .val (.ref a40), .val (.ref a42), .val (.int kI), .val (.int pv), .val (.int cv), .val (.int ov), .val (.int x1), .val (.int x2), .val (.ref a55), .val (.int ni), .val (.ref ra), .val (.int (1 : Int32)), .val (.ref rb)] [(.int (0 : Int32)), (.ref rb)])) rfl rfl (hb hby at_389) _ hr) ?_
              refine own_go (B := T67.setTop (mkF m 392 #[.val (.int gi), .val (.int pi), .val (.int qi), .val (.int mi), .val (.ref a40), .val (.ref a42), .val (.int kI), .val (.int pv), .val (.int cv), .val (.int ov), .val (.int x1), .val (.int x2), .val (.ref a55), .val (.int ni), .val (.ref ra), .val (.int (1 : Int32)), .val (.ref rb)] [(.ref a55), (.int (f 0))])) (fun _ hr => XS.aload X67.here hx rfl (hb hby at_390) rfl rfl hr) ?_
              refine own_go (B := T67.setTop (mkF m 393 #[.val (.int gi), .val (.int pi), .val (.int qi), .val (.int mi), .val (.ref a40), .val (.ref a42), .val (.int kI), .val (.int pv), .val (.int cv), .val (.int ov), .val (.int x1), .val (.int x2), .val (.ref a55), .val (.int ni), .val (.ref ra), .val (.int (1 : Int32)), .val (.ref rb)] [(.int (0 : Int32)), (.ref a55), (.int (f 0))])) (fun _ hr => XT.iconstV X67.here hx rfl (0 : Int32) (hb hby at_392) (by decide) hr) ?_
              refine own_go (B := T67.setTop (mkF m 394 #[.val (.int gi), .val (.int pi), .val (.int qi), .val (.int mi), .val (.ref a40), .val (.ref a42), .val (.int kI), .val (.int pv), .val (.int cv), .val (.int ov), .val (.int x1), .val (.int x2), .val (.ref a55), .val (.int ni), .val (.ref ra), .val (.int (1 : Int32)), .val (.ref rb)] [(.int (fe 0)), (.int (f 0))])) (fun _ hr => own_ldB X67 hx hZ rfl S4.2.2.2.1.1 (by decide : (0 : Int32).toInt = ((0 : Nat) : Int)) (by decide) rfl (g := (mkF m 393 #[.val (.int gi), .val (.int pi), .val (.int qi), .val (.int mi), .val (.ref a40), .val (.ref a42), .val (.int kI), .val (.int pv), .val (.int cv), .val (.int ov), .val (.int x1), .val (.int x2), .val (.ref a55), .val (.int ni), .val (.ref ra), .val (.int (1 : Int32)), .val (.ref rb)] [(.int (0 : Int32)), (.ref a55), (.int (f 0))])) rfl rfl (hb hby at_393) _ hr) ?_
              refine own_go (B := T67.setTop (mkF m 397 #[.val (.int gi), .val (.int pi), .val (.int qi), .val (.int mi), .val (.ref a40), .val (.ref a42), .val (.int kI), .val (.int pv), .val (.int cv), .val (.int ov), .val (.int x1), .val (.int x2), .val (.ref a55), .val (.int ni), .val (.ref ra), .val (.int (1 : Int32)), .val (.ref rb)] [])) (fun _ hr => XS.icmpNo X67.here hx rfl (hb hby at_394) rfl (XT.ii_ne_f (hsy 0 hp).symm) hr) ?_
              refine own_go (B := T67.setTop (mkF m 398 #[.val (.int gi), .val (.int pi), .val (.int qi), .val (.int mi), .val (.ref a40), .val (.ref a42), .val (.int kI), .val (.int pv), .val (.int cv), .val (.int ov), .val (.int x1), .val (.int x2), .val (.ref a55), .val (.int ni), .val (.ref ra), .val (.int (1 : Int32)), .val (.ref rb)] [(.int (1 : Int32))])) (fun _ hr => XT.iconstV X67.here hx rfl (1 : Int32) (hb hby at_397) (by decide) hr) ?_
              refine own_go (B := T67.setTop (mkF m 402 #[.val (.int gi), .val (.int pi), .val (.int qi), .val (.int mi), .val (.ref a40), .val (.ref a42), .val (.int kI), .val (.int pv), .val (.int cv), .val (.int ov), .val (.int x1), .val (.int x2), .val (.ref a55), .val (.int ni), .val (.ref ra), .val (.int (1 : Int32)), .val (.ref rb)] [(.int (1 : Int32))])) (fun _ hr => XS.goto X67.here hx rfl (pc0 := 398) (pc' := 402) rfl (hb hby at_398) (by decide) (by decide) hr) ?_
              exact own_retZ X67 hx hlk hret (by decide) (hb hby at_402) (by decide) (by decide) ⟨rfl, M67⟩
        have stC : ∀ (TT : State) (LL : List Loc), Stand p l e room_1 s m #[(.int gi), (.int pi), (.int qi), (.int mi)] below meth c TT LL 6 34 → Fr n0 LL → ∀ (B : Addr) (cap len : Nat) (f fe : Nat → Int32), own_S Z TT.heap n0 a40 a42 a55 B cap len f fs fe → ∀ ni : Int32, ni.toInt = (len : Int) → (∀ i, i < len → fe i = f i) → len ≤ 4 → own_G p e below (own_P s below (Q_law Z gi pi qi mi h0 n0) 32 192) (TT.setTop (mkF m 223 #[.val (.int gi), .val (.int pi), .val (.int qi), .val (.int mi), .val (.ref a40), .val (.ref a42), .val (.int kI), .val (.int pv), .val (.int cv), .val (.int ov), .val (.int x1), .val (.int x2), .val (.ref a55), .val (.int ni), .unset, .unset, .unset] [])) := by
          intro TT LL XX NN B cap len f fe SS ni hni hsy hle
          refine own_go (B := TT.setTop (mkF m 225 #[.val (.int gi), .val (.int pi), .val (.int qi), .val (.int mi), .val (.ref a40), .val (.ref a42), .val (.int kI), .val (.int pv), .val (.int cv), .val (.int ov), .val (.int x1), .val (.int x2), .val (.ref a55), .val (.int ni), .unset, .unset, .unset] [(.int ov)])) (fun _ hr => XS.iload XX.here hx rfl (hb hby at_223) rfl hr) ?_
          by_cases c69 : ov = 0
          · refine own_go (B := TT.setTop (mkF m 249 #[.val (.int gi), .val (.int pi), .val (.int qi), .val (.int mi), .val (.ref a40), .val (.ref a42), .val (.int kI), .val (.int pv), .val (.int cv), .val (.int ov), .val (.int x1), .val (.int x2), .val (.ref a55), .val (.int ni), .unset, .unset, .unset] [])) (fun _ hr => XS.ifYes XX.here hx rfl (pc0 := 225) (pc' := 249) rfl (hb hby at_225) rfl (XT.i0_eq_t c69) (by decide) (by decide) hr) ?_
            exact stD _ _ (own_more XX (by decide) (by decide)) NN _ _ _ _ _ SS _ hni hsy (by omega)
          · refine own_go (B := TT.setTop (mkF m 228 #[.val (.int gi), .val (.int pi), .val (.int qi), .val (.int mi), .val (.ref a40), .val (.ref a42), .val (.int kI), .val (.int pv), .val (.int cv), .val (.int ov), .val (.int x1), .val (.int x2), .val (.ref a55), .val (.int ni), .unset, .unset, .unset] [])) (fun _ hr => XS.ifNo XX.here hx rfl (hb hby at_225) rfl (XT.i0_eq_f c69) hr) ?_
            refine own_go (B := TT.setTop (mkF m 230 #[.val (.int gi), .val (.int pi), .val (.int qi), .val (.int mi), .val (.ref a40), .val (.ref a42), .val (.int kI), .val (.int pv), .val (.int cv), .val (.int ov), .val (.int x1), .val (.int x2), .val (.ref a55), .val (.int ni), .unset, .unset, .unset] [(.ref a40)])) (fun _ hr => XS.aload XX.here hx rfl (hb hby at_228) rfl rfl hr) ?_
            refine own_go (B := TT.setTop (mkF m 232 #[.val (.int gi), .val (.int pi), .val (.int qi), .val (.int mi), .val (.ref a40), .val (.ref a42), .val (.int kI), .val (.int pv), .val (.int cv), .val (.int ov), .val (.int x1), .val (.int x2), .val (.ref a55), .val (.int ni), .unset, .unset, .unset] [(.int x2), (.ref a40)])) (fun _ hr => XS.iload XX.here hx rfl (hb hby at_230) rfl hr) ?_
            obtain ⟨cq70, kq70, qa70, qb70, qc70⟩ := isOf hZ rfl SS.2.1.1
            obtain ⟨_, _, ⟨T70, L70, k70, n70⟩, -, X70, ⟨Lc70, hQ70, l70, y70, z70⟩, st70⟩ := XX.virtualBack hx (y := (⟨"com/example/chronaero/chronaero/Utf8Text", "append", "(C)V"⟩ : MethodName)) (z := (⟨"com/example/chronaero/chronaero/Utf8Text", "append", "(C)V"⟩ : MethodName)) hown (mvT hZ (hw _ (List.mem_of_getElem? (i := 67) rfl))) (mvT hZ (hw _ (List.mem_of_getElem? (i := 68) rfl))) (notFace_of_selects (args := #[]) (mvT hZ (hw _ (List.mem_of_getElem? (i := 70) rfl)))) (mvT hZ (hw _ (List.mem_of_getElem? (i := 70) rfl))) (mvT hZ (hw _ (List.mem_of_getElem? (i := 69) rfl))) (by decide) (backOf (W := 0) (rm_apc l Z a0 hw [] a40 x2 B cap len f TT.heap n0 SS.1 SS.2.1 (by omega) ge SS.2.2.2.2.2.2.2.2.2) hZ (hw _ (List.mem_of_getElem? (i := 71) rfl)) (hw _ (List.mem_of_getElem? (i := 2) rfl)) (by decide) (by decide)) qa70 qc70 (g := (mkF m 232 #[.val (.int gi), .val (.int pi), .val (.int qi), .val (.int mi), .val (.ref a40), .val (.ref a42), .val (.int kI), .val (.int pv), .val (.int cv), .val (.int ov), .val (.int x1), .val (.int x2), .val (.ref a55), .val (.int ni), .unset, .unset, .unset] [(.int x2), (.ref a40)])) rfl (by rw [hml]; rfl) (Steps.refl _) (argsL := [(.int x2)]) (rest := []) (lenOf pd_apc rfl) rfl (by show 2 * 0 + _ ≤ _; exact Nat.le_of_eq rfl) (hb hby at_232) (fun _ _ => ⟨rfl, rfl, (by decide : 6 + 1 ≤ _), (by decide : 34 + 8 ≤ _)⟩)
            dsimp only [Pt.U, Pt.locs, Pt.cells, Pt.slots] at X70 l70 y70 z70 st70 hQ70
            subst l70 y70 z70
            obtain ⟨rfl, N70, Z70, K70, B1, cap1, f1, H70, hf1, hf2, geB1, hor⟩ := hQ70
            refine own_gs (B := T70.setTop (mkF m 235 #[.val (.int gi), .val (.int pi), .val (.int qi), .val (.int mi), .val (.ref a40), .val (.ref a42), .val (.int kI), .val (.int pv), .val (.int cv), .val (.int ov), .val (.int x1), .val (.int x2), .val (.ref a55), .val (.int ni), .unset, .unset, .unset] [])) st70 ?_
            have M70 := Fr.app NN N70
            have S2 := SS.step K70 Z70 H70 geB1 hor
            refine own_go (B := T70.setTop (mkF m 237 #[.val (.int gi), .val (.int pi), .val (.int qi), .val (.int mi), .val (.ref a40), .val (.ref a42), .val (.int kI), .val (.int pv), .val (.int cv), .val (.int ov), .val (.int x1), .val (.int x2), .val (.ref a55), .val (.int ni), .unset, .unset, .unset] [(.ref a55)])) (fun _ hr => XS.aload X70.here hx rfl (hb hby at_235) rfl rfl hr) ?_
            refine own_go (B := T70.setTop (mkF m 239 #[.val (.int gi), .val (.int pi), .val (.int qi), .val (.int mi), .val (.ref a40), .val (.ref a42), .val (.int kI), .val (.int pv), .val (.int cv), .val (.int ov), .val (.int x1), .val (.int x2), .val (.ref a55), .val (.int ni), .unset, .unset, .unset] [(.int ni), (.ref a55)])) (fun _ hr => XS.iload X70.here hx rfl (hb hby at_237) rfl hr) ?_
            refine own_go (B := T70.setTop (mkF m 241 #[.val (.int gi), .val (.int pi), .val (.int qi), .val (.int mi), .val (.ref a40), .val (.ref a42), .val (.int kI), .val (.int pv), .val (.int cv), .val (.int ov), .val (.int x1), .val (.int x2), .val (.ref a55), .val (.int ni), .unset, .unset, .unset] [(.int x2), (.int ni), (.ref a55)])) (fun _ hr => XS.iload X70.here hx rfl (hb hby at_239) rfl hr) ?_
            refine own_go (B := T70.setTop (mkF m 242 #[.val (.int gi), .val (.int pi), .val (.int qi), .val (.int mi), .val (.ref a40), .val (.ref a42), .val (.int kI), .val (.int pv), .val (.int cv), .val (.int ov), .val (.int x1), .val (.int x2), .val (.ref a55), .val (.int ni), .unset, .unset, .unset] [(.int (x2.toInt8.toInt32)), (.int ni), (.ref a55)])) (fun _ hr => XT.i2b X70.here hx rfl (hb hby at_241) rfl hr) ?_
            obtain ⟨T71, h71, X71, e71, W71, V71, st71⟩ := own_stB X70 hx hZ rfl S2.2.2.2.1.1 hni (by omega) (own_b8 _) (g := (mkF m 242 #[.val (.int gi), .val (.int pi), .val (.int qi), .val (.int mi), .val (.ref a40), .val (.ref a42), .val (.int kI), .val (.int pv), .val (.int cv), .val (.int ov), .val (.int x1), .val (.int x2), .val (.ref a55), .val (.int ni), .unset, .unset, .unset] [(.int (x2.toInt8.toInt32)), (.int ni), (.ref a55)])) rfl rfl (hb hby at_242)
            have N71 := Fr.snoc X71 M70 geE
            refine own_go (B := T71.setTop (mkF m 243 #[.val (.int gi), .val (.int pi), .val (.int qi), .val (.int mi), .val (.ref a40), .val (.ref a42), .val (.int kI), .val (.int pv), .val (.int cv), .val (.int ov), .val (.int x1), .val (.int x2), .val (.ref a55), .val (.int ni), .unset, .unset, .unset] [])) (fun t₂ hr => st71 t₂ hr) ?_
            have S3 := S2.exp (fits_nar_byte _) W71
            refine own_go (B := T71.setTop (mkF m 245 #[.val (.int gi), .val (.int pi), .val (.int qi), .val (.int mi), .val (.ref a40), .val (.ref a42), .val (.int kI), .val (.int pv), .val (.int cv), .val (.int ov), .val (.int x1), .val (.int x2), .val (.ref a55), .val (.int ni), .unset, .unset, .unset] [(.int ni)])) (fun _ hr => XS.iload X71.here hx rfl (hb hby at_243) rfl hr) ?_
            refine own_go (B := T71.setTop (mkF m 246 #[.val (.int gi), .val (.int pi), .val (.int qi), .val (.int mi), .val (.ref a40), .val (.ref a42), .val (.int kI), .val (.int pv), .val (.int cv), .val (.int ov), .val (.int x1), .val (.int x2), .val (.ref a55), .val (.int ni), .unset, .unset, .unset] [(.int (1 : Int32)), (.int ni)])) (fun _ hr => XT.iconstV X71.here hx rfl (1 : Int32) (hb hby at_245) (by decide) hr) ?_
            refine own_go (B := T71.setTop (mkF m 247 #[.val (.int gi), .val (.int pi), .val (.int qi), .val (.int mi), .val (.ref a40), .val (.ref a42), .val (.int kI), .val (.int pv), .val (.int cv), .val (.int ov), .val (.int x1), .val (.int x2), .val (.ref a55), .val (.int ni), .unset, .unset, .unset] [(.int (ni + (1 : Int32)))])) (fun _ hr => XS.iadd X71.here hx rfl (hb hby at_246) rfl hr) ?_
            refine own_go (B := T71.setTop (mkF m 249 #[.val (.int gi), .val (.int pi), .val (.int qi), .val (.int mi), .val (.ref a40), .val (.ref a42), .val (.int kI), .val (.int pv), .val (.int cv), .val (.int ov), .val (.int x1), .val (.int x2), .val (.ref a55), .val (.int (ni + (1 : Int32))), .unset, .unset, .unset] [])) (fun _ hr => XS.istore X71.here hx rfl (hb hby at_247) rfl (l' := #[.val (.int gi), .val (.int pi), .val (.int qi), .val (.int mi), .val (.ref a40), .val (.ref a42), .val (.int kI), .val (.int pv), .val (.int cv), .val (.int ov), .val (.int x1), .val (.int x2), .val (.ref a55), .val (.int (ni + (1 : Int32))), .unset, .unset, .unset]) rfl hr) ?_
            rw [← e71] at S3
            exact stD _ _ (own_more X71 (by decide) (by decide)) N71 _ _ _ _ _ S3 _ ((own_plus (q := 1) hni (by decide) (by omega)).trans (by omega)) (fun i hi => by by_cases q : i = len; (· subst q; rw [if_pos rfl, hf2]); (· rw [if_neg q, hf1 i (by omega)]; exact hsy i (by omega))) (by omega)
        have stB : ∀ (TT : State) (LL : List Loc), Stand p l e room_1 s m #[(.int gi), (.int pi), (.int qi), (.int mi)] below meth c TT LL 5 26 → Fr n0 LL → ∀ (B : Addr) (cap len : Nat) (f fe : Nat → Int32), own_S Z TT.heap n0 a40 a42 a55 B cap len f fs fe → ∀ ni : Int32, ni.toInt = (len : Int) → (∀ i, i < len → fe i = f i) → len ≤ 1 → own_G p e below (own_P s below (Q_law Z gi pi qi mi h0 n0) 32 192) (TT.setTop (mkF m 151 #[.val (.int gi), .val (.int pi), .val (.int qi), .val (.int mi), .val (.ref a40), .val (.ref a42), .val (.int kI), .val (.int pv), .val (.int cv), .val (.int ov), .val (.int x1), .val (.int x2), .val (.ref a55), .val (.int ni), .unset, .unset, .unset] [])) := by
          intro TT LL XX NN B cap len f fe SS ni hni hsy hle
          refine own_go (B := TT.setTop (mkF m 153 #[.val (.int gi), .val (.int pi), .val (.int qi), .val (.int mi), .val (.ref a40), .val (.ref a42), .val (.int kI), .val (.int pv), .val (.int cv), .val (.int ov), .val (.int x1), .val (.int x2), .val (.ref a55), .val (.int ni), .unset, .unset, .unset] [(.ref a40)])) (fun _ hr => XS.aload XX.here hx rfl (hb hby at_151) rfl rfl hr) ?_
          refine own_go (B := TT.setTop (mkF m 155 #[.val (.int gi), .val (.int pi), .val (.int qi), .val (.int mi), .val (.ref a40), .val (.ref a42), .val (.int kI), .val (.int pv), .val (.int cv), .val (.int ov), .val (.int x1), .val (.int x2), .val (.ref a55), .val (.int ni), .unset, .unset, .unset] [(.ref a42), (.ref a40)])) (fun _ hr => XS.aload XX.here hx rfl (hb hby at_153) rfl rfl hr) ?_
          refine own_go (B := TT.setTop (mkF m 156 #[.val (.int gi), .val (.int pi), .val (.int qi), .val (.int mi), .val (.ref a40), .val (.ref a42), .val (.int kI), .val (.int pv), .val (.int cv), .val (.int ov), .val (.int x1), .val (.int x2), .val (.ref a55), .val (.int ni), .unset, .unset, .unset] [(.int (0 : Int32)), (.ref a42), (.ref a40)])) (fun _ hr => XT.iconstV XX.here hx rfl (0 : Int32) (hb hby at_155) (by decide) hr) ?_
          refine own_go (B := TT.setTop (mkF m 158 #[.val (.int gi), .val (.int pi), .val (.int qi), .val (.int mi), .val (.ref a40), .val (.ref a42), .val (.int kI), .val (.int pv), .val (.int cv), .val (.int ov), .val (.int x1), .val (.int x2), .val (.ref a55), .val (.int ni), .unset, .unset, .unset] [(.int kI), (.int (0 : Int32)), (.ref a42), (.ref a40)])) (fun _ hr => XS.iload XX.here hx rfl (hb hby at_156) rfl hr) ?_
          obtain ⟨cq72, kq72, qa72, qb72, qc72⟩ := isOf hZ rfl SS.2.1.1
          obtain ⟨_, _, ⟨T72, L72, k72, n72⟩, -, X72, ⟨Lc72, hQ72, l72, y72, z72⟩, st72⟩ := XX.virtualBack hx (y := (⟨"com/example/chronaero/chronaero/Utf8Text", "append", "([BII)V"⟩ : MethodName)) (z := (⟨"com/example/chronaero/chronaero/Utf8Text", "append", "([BII)V"⟩ : MethodName)) hown (mvT hZ (hw _ (List.mem_of_getElem? (i := 12) rfl))) (mvT hZ (hw _ (List.mem_of_getElem? (i := 13) rfl))) (notFace_of_selects (args := #[]) (mvT hZ (hw _ (List.mem_of_getElem? (i := 15) rfl)))) (mvT hZ (hw _ (List.mem_of_getElem? (i := 15) rfl))) (mvT hZ (hw _ (List.mem_of_getElem? (i := 14) rfl))) (by decide) (backOf (W := 0) (rm_apb l Z a0 hw [] a40 a42 kI B cap len f kn fs TT.heap n0 SS.1 SS.2.1 hkn hk3 (by omega) ge SS.2.2.2.2.2.2.2.2.2 SS.2.2.1 SS.2.2.2.2.1) hZ (hw _ (List.mem_of_getElem? (i := 16) rfl)) (hw _ (List.mem_of_getElem? (i := 2) rfl)) (by decide) (by decide)) qa72 qc72 (g := (mkF m 158 #[.val (.int gi), .val (.int pi), .val (.int qi), .val (.int mi), .val (.ref a40), .val (.ref a42), .val (.int kI), .val (.int pv), .val (.int cv), .val (.int ov), .val (.int x1), .val (.int x2), .val (.ref a55), .val (.int ni), .unset, .unset, .unset] [(.int kI), (.int (0 : Int32)), (.ref a42), (.ref a40)])) rfl (by rw [hml]; rfl) (Steps.refl _) (argsL := [(.ref a42), (.int (0 : Int32)), (.int kI)]) (rest := []) (lenOf pd_apb rfl) rfl (by show 2 * 0 + _ ≤ _; exact Nat.le_of_eq rfl) (hb hby at_158) (fun _ _ => ⟨rfl, rfl, (by decide : 5 + 1 ≤ _), (by decide : 26 + 8 ≤ _)⟩)
          dsimp only [Pt.U, Pt.locs, Pt.cells, Pt.slots] at X72 l72 y72 z72 st72 hQ72
          subst l72 y72 z72
          obtain ⟨rfl, N72, Z72, K72, B1, cap1, f1, H72, hf1, hf2, geB1, hor⟩ := hQ72
          refine own_gs (B := T72.setTop (mkF m 161 #[.val (.int gi), .val (.int pi), .val (.int qi), .val (.int mi), .val (.ref a40), .val (.ref a42), .val (.int kI), .val (.int pv), .val (.int cv), .val (.int ov), .val (.int x1), .val (.int x2), .val (.ref a55), .val (.int ni), .unset, .unset, .unset] [])) st72 ?_
          have M72 := Fr.app NN N72
          have S2 := SS.step K72 Z72 H72 geB1 hor
          have hkc : kn = 0 ∨ kn = 1 ∨ kn = 2 ∨ kn = 3 := by omega
          rcases hkc with rfl | rfl | rfl | rfl
          · obtain rfl : kI = (0 : Int32) := Int32.toInt_inj.mp (by rw [hkn]; rfl)
            refine own_go (B := T72.setTop (mkF m 163 #[.val (.int gi), .val (.int pi), .val (.int qi), .val (.int mi), .val (.ref a40), .val (.ref a42), .val (.int (0 : Int32)), .val (.int pv), .val (.int cv), .val (.int ov), .val (.int x1), .val (.int x2), .val (.ref a55), .val (.int ni), .unset, .unset, .unset] [(.int (0 : Int32))])) (fun _ hr => XS.iload X72.here hx rfl (hb hby at_161) rfl hr) ?_
            refine own_go (B := T72.setTop (mkF m 181 #[.val (.int gi), .val (.int pi), .val (.int qi), .val (.int mi), .val (.ref a40), .val (.ref a42), .val (.int (0 : Int32)), .val (.int pv), .val (.int cv), .val (.int ov), .val (.int x1), .val (.int x2), .val (.ref a55), .val (.int ni), .unset, .unset, .unset] [])) (fun _ hr => XS.ifYes X72.here hx rfl (pc0 := 163) (pc' := 181) rfl (hb hby at_163) rfl (XT.i0_le_t (by decide)) (by decide) (by decide) hr) ?_
            refine own_go (B := T72.setTop (mkF m 183 #[.val (.int gi), .val (.int pi), .val (.int qi), .val (.int mi), .val (.ref a40), .val (.ref a42), .val (.int (0 : Int32)), .val (.int pv), .val (.int cv), .val (.int ov), .val (.int x1), .val (.int x2), .val (.ref a55), .val (.int ni), .unset, .unset, .unset] [(.int (0 : Int32))])) (fun _ hr => XS.iload X72.here hx rfl (hb hby at_181) rfl hr) ?_
            refine own_go (B := T72.setTop (mkF m 184 #[.val (.int gi), .val (.int pi), .val (.int qi), .val (.int mi), .val (.ref a40), .val (.ref a42), .val (.int (0 : Int32)), .val (.int pv), .val (.int cv), .val (.int ov), .val (.int x1), .val (.int x2), .val (.ref a55), .val (.int ni), .unset, .unset, .unset] [(.int (1 : Int32)), (.int (0 : Int32))])) (fun _ hr => XT.iconstV X72.here hx rfl (1 : Int32) (hb hby at_183) (by decide) hr) ?_
            refine own_go (B := T72.setTop (mkF m 202 #[.val (.int gi), .val (.int pi), .val (.int qi), .val (.int mi), .val (.ref a40), .val (.ref a42), .val (.int (0 : Int32)), .val (.int pv), .val (.int cv), .val (.int ov), .val (.int x1), .val (.int x2), .val (.ref a55), .val (.int ni), .unset, .unset, .unset] [])) (fun _ hr => XS.icmpYes X72.here hx rfl (pc0 := 184) (pc' := 202) rfl (hb hby at_184) rfl (XT.ii_le_t (by decide)) (by decide) (by decide) hr) ?_
            refine own_go (B := T72.setTop (mkF m 204 #[.val (.int gi), .val (.int pi), .val (.int qi), .val (.int mi), .val (.ref a40), .val (.ref a42), .val (.int (0 : Int32)), .val (.int pv), .val (.int cv), .val (.int ov), .val (.int x1), .val (.int x2), .val (.ref a55), .val (.int ni), .unset, .unset, .unset] [(.int (0 : Int32))])) (fun _ hr => XS.iload X72.here hx rfl (hb hby at_202) rfl hr) ?_
            refine own_go (B := T72.setTop (mkF m 205 #[.val (.int gi), .val (.int pi), .val (.int qi), .val (.int mi), .val (.ref a40), .val (.ref a42), .val (.int (0 : Int32)), .val (.int pv), .val (.int cv), .val (.int ov), .val (.int x1), .val (.int x2), .val (.ref a55), .val (.int ni), .unset, .unset, .unset] [(.int (2 : Int32)), (.int (0 : Int32))])) (fun _ hr => XT.iconstV X72.here hx rfl (2 : Int32) (hb hby at_204) (by decide) hr) ?_
            refine own_go (B := T72.setTop (mkF m 223 #[.val (.int gi), .val (.int pi), .val (.int qi), .val (.int mi), .val (.ref a40), .val (.ref a42), .val (.int (0 : Int32)), .val (.int pv), .val (.int cv), .val (.int ov), .val (.int x1), .val (.int x2), .val (.ref a55), .val (.int ni), .unset, .unset, .unset] [])) (fun _ hr => XS.icmpYes X72.here hx rfl (pc0 := 205) (pc' := 223) rfl (hb hby at_205) rfl (XT.ii_le_t (by decide)) (by decide) (by decide) hr) ?_
            exact stC _ _ (own_more X72 (by decide) (by decide)) M72 _ _ _ _ _ S2 _ (hni.trans (by omega)) (fun i hi => by rw [hf1 i (by omega)]; exact hsy i (by omega)) (by omega)
          · obtain rfl : kI = (1 : Int32) := Int32.toInt_inj.mp (by rw [hkn]; rfl)
            refine own_go (B := T72.setTop (mkF m 163 #[.val (.int gi), .val (.int pi), .val (.int qi), .val (.int mi), .val (.ref a40), .val (.ref a42), .val (.int (1 : Int32)), .val (.int pv), .val (.int cv), .val (.int ov), .val (.int x1), .val (.int x2), .val (.ref a55), .val (.int ni), .unset, .unset, .unset] [(.int (1 : Int32))])) (fun _ hr => XS.iload X72.here hx rfl (hb hby at_161) rfl hr) ?_
            refine own_go (B := T72.setTop (mkF m 166 #[.val (.int gi), .val (.int pi), .val (.int qi), .val (.int mi), .val (.ref a40), .val (.ref a42), .val (.int (1 : Int32)), .val (.int pv), .val (.int cv), .val (.int ov), .val (.int x1), .val (.int x2), .val (.ref a55), .val (.int ni), .unset, .unset, .unset] [])) (fun _ hr => XS.ifNo X72.here hx rfl (hb hby at_163) rfl (XT.i0_le_f (by decide)) hr) ?_
            refine own_go (B := T72.setTop (mkF m 168 #[.val (.int gi), .val (.int pi), .val (.int qi), .val (.int mi), .val (.ref a40), .val (.ref a42), .val (.int (1 : Int32)), .val (.int pv), .val (.int cv), .val (.int ov), .val (.int x1), .val (.int x2), .val (.ref a55), .val (.int ni), .unset, .unset, .unset] [(.ref a55)])) (fun _ hr => XS.aload X72.here hx rfl (hb hby at_166) rfl rfl hr) ?_
            refine own_go (B := T72.setTop (mkF m 170 #[.val (.int gi), .val (.int pi), .val (.int qi), .val (.int mi), .val (.ref a40), .val (.ref a42), .val (.int (1 : Int32)), .val (.int pv), .val (.int cv), .val (.int ov), .val (.int x1), .val (.int x2), .val (.ref a55), .val (.int ni), .unset, .unset, .unset] [(.int ni), (.ref a55)])) (fun _ hr => XS.iload X72.here hx rfl (hb hby at_168) rfl hr) ?_
            refine own_go (B := T72.setTop (mkF m 172 #[.val (.int gi), .val (.int pi), .val (.int qi), .val (.int mi), .val (.ref a40), .val (.ref a42), .val (.int (1 : Int32)), .val (.int pv), .val (.int cv), .val (.int ov), .val (.int x1), .val (.int x2), .val (.ref a55), .val (.int ni), .unset, .unset, .unset] [(.ref a42), (.int ni), (.ref a55)])) (fun _ hr => XS.aload X72.here hx rfl (hb hby at_170) rfl rfl hr) ?_
            refine own_go (B := T72.setTop (mkF m 173 #[.val (.int gi), .val (.int pi), .val (.int qi), .val (.int mi), .val (.ref a40), .val (.ref a42), .val (.int (1 : Int32)), .val (.int pv), .val (.int cv), .val (.int ov), .val (.int x1), .val (.int x2), .val (.ref a55), .val (.int ni), .unset, .unset, .unset] [(.int (0 : Int32)), (.ref a42), (.int ni), (.ref a55)])) (fun _ hr => XT.iconstV X72.here hx rfl (0 : Int32) (hb hby at_172) (by decide) hr) ?_
            refine own_go (B := T72.setTop (mkF m 174 #[.val (.int gi), .val (.int pi), .val (.int qi), .val (.int mi), .val (.ref a40), .val (.ref a42), .val (.int (1 : Int32)), .val (.int pv), .val (.int cv), .val (.int ov), .val (.int x1), .val (.int x2), .val (.ref a55), .val (.int ni), .unset, .unset, .unset] [(.int (fs 0)), (.int ni), (.ref a55)])) (fun _ hr => own_ldB X72 hx hZ rfl S2.2.2.1.1 (by decide : (0 : Int32).toInt = ((0 : Nat) : Int)) (by decide) rfl (g := (mkF m 173 #[.val (.int gi), .val (.int pi), .val (.int qi), .val (.int mi), .val (.ref a40), .val (.ref a42), .val (.int (1 : Int32)), .val (.int pv), .val (.int cv), .val (.int ov), .val (.int x1), .val (.int x2), .val (.ref a55), .val (.int ni), .unset, .unset, .unset] [(.int (0 : Int32)), (.ref a42), (.int ni), (.ref a55)])) rfl rfl (hb hby at_173) _ hr) ?_
            obtain ⟨T73, h73, X73, e73, W73, V73, st73⟩ := own_stB X72 hx hZ rfl S2.2.2.2.1.1 hni (by omega) (hb8 0 (by decide)) (g := (mkF m 174 #[.val (.int gi), .val (.int pi), .val (.int qi), .val (.int mi), .val (.ref a40), .val (.ref a42), .val (.int (1 : Int32)), .val (.int pv), .val (.int cv), .val (.int ov), .val (.int x1), .val (.int x2), .val (.ref a55), .val (.int ni), .unset, .unset, .unset] [(.int (fs 0)), (.int ni), (.ref a55)])) rfl rfl (hb hby at_174)
            have N73 := Fr.snoc X73 M72 geE
            refine own_go (B := T73.setTop (mkF m 175 #[.val (.int gi), .val (.int pi), .val (.int qi), .val (.int mi), .val (.ref a40), .val (.ref a42), .val (.int (1 : Int32)), .val (.int pv), .val (.int cv), .val (.int ov), .val (.int x1), .val (.int x2), .val (.ref a55), .val (.int ni), .unset, .unset, .unset] [])) (fun t₂ hr => st73 t₂ hr) ?_
            have S73 := S2.exp (S2.2.2.1.2.1 0 (by decide)) W73
            refine own_go (B := T73.setTop (mkF m 177 #[.val (.int gi), .val (.int pi), .val (.int qi), .val (.int mi), .val (.ref a40), .val (.ref a42), .val (.int (1 : Int32)), .val (.int pv), .val (.int cv), .val (.int ov), .val (.int x1), .val (.int x2), .val (.ref a55), .val (.int ni), .unset, .unset, .unset] [(.int ni)])) (fun _ hr => XS.iload X73.here hx rfl (hb hby at_175) rfl hr) ?_
            refine own_go (B := T73.setTop (mkF m 178 #[.val (.int gi), .val (.int pi), .val (.int qi), .val (.int mi), .val (.ref a40), .val (.ref a42), .val (.int (1 : Int32)), .val (.int pv), .val (.int cv), .val (.int ov), .val (.int x1), .val (.int x2), .val (.ref a55), .val (.int ni), .unset, .unset, .unset] [(.int (1 : Int32)), (.int ni)])) (fun _ hr => XT.iconstV X73.here hx rfl (1 : Int32) (hb hby at_177) (by decide) hr) ?_
            refine own_go (B := T73.setTop (mkF m 179 #[.val (.int gi), .val (.int pi), .val (.int qi), .val (.int mi), .val (.ref a40), .val (.ref a42), .val (.int (1 : Int32)), .val (.int pv), .val (.int cv), .val (.int ov), .val (.int x1), .val (.int x2), .val (.ref a55), .val (.int ni), .unset, .unset, .unset] [(.int (ni + (1 : Int32)))])) (fun _ hr => XS.iadd X73.here hx rfl (hb hby at_178) rfl hr) ?_
            refine own_go (B := T73.setTop (mkF m 181 #[.val (.int gi), .val (.int pi), .val (.int qi), .val (.int mi), .val (.ref a40), .val (.ref a42), .val (.int (1 : Int32)), .val (.int pv), .val (.int cv), .val (.int ov), .val (.int x1), .val (.int x2), .val (.ref a55), .val (.int (ni + (1 : Int32))), .unset, .unset, .unset] [])) (fun _ hr => XS.istore X73.here hx rfl (hb hby at_179) rfl (l' := #[.val (.int gi), .val (.int pi), .val (.int qi), .val (.int mi), .val (.ref a40), .val (.ref a42), .val (.int (1 : Int32)), .val (.int pv), .val (.int cv), .val (.int ov), .val (.int x1), .val (.int x2), .val (.ref a55), .val (.int (ni + (1 : Int32))), .unset, .unset, .unset]) rfl hr) ?_
            refine own_go (B := T73.setTop (mkF m 183 #[.val (.int gi), .val (.int pi), .val (.int qi), .val (.int mi), .val (.ref a40), .val (.ref a42), .val (.int (1 : Int32)), .val (.int pv), .val (.int cv), .val (.int ov), .val (.int x1), .val (.int x2), .val (.ref a55), .val (.int (ni + (1 : Int32))), .unset, .unset, .unset] [(.int (1 : Int32))])) (fun _ hr => XS.iload X73.here hx rfl (hb hby at_181) rfl hr) ?_
            refine own_go (B := T73.setTop (mkF m 184 #[.val (.int gi), .val (.int pi), .val (.int qi), .val (.int mi), .val (.ref a40), .val (.ref a42), .val (.int (1 : Int32)), .val (.int pv), .val (.int cv), .val (.int ov), .val (.int x1), .val (.int x2), .val (.ref a55), .val (.int (ni + (1 : Int32))), .unset, .unset, .unset] [(.int (1 : Int32)), (.int (1 : Int32))])) (fun _ hr => XT.iconstV X73.here hx rfl (1 : Int32) (hb hby at_183) (by decide) hr) ?_
            refine own_go (B := T73.setTop (mkF m 202 #[.val (.int gi), .val (.int pi), .val (.int qi), .val (.int mi), .val (.ref a40), .val (.ref a42), .val (.int (1 : Int32)), .val (.int pv), .val (.int cv), .val (.int ov), .val (.int x1), .val (.int x2), .val (.ref a55), .val (.int (ni + (1 : Int32))), .unset, .unset, .unset] [])) (fun _ hr => XS.icmpYes X73.here hx rfl (pc0 := 184) (pc' := 202) rfl (hb hby at_184) rfl (XT.ii_le_t (by decide)) (by decide) (by decide) hr) ?_
            refine own_go (B := T73.setTop (mkF m 204 #[.val (.int gi), .val (.int pi), .val (.int qi), .val (.int mi), .val (.ref a40), .val (.ref a42), .val (.int (1 : Int32)), .val (.int pv), .val (.int cv), .val (.int ov), .val (.int x1), .val (.int x2), .val (.ref a55), .val (.int (ni + (1 : Int32))), .unset, .unset, .unset] [(.int (1 : Int32))])) (fun _ hr => XS.iload X73.here hx rfl (hb hby at_202) rfl hr) ?_
            refine own_go (B := T73.setTop (mkF m 205 #[.val (.int gi), .val (.int pi), .val (.int qi), .val (.int mi), .val (.ref a40), .val (.ref a42), .val (.int (1 : Int32)), .val (.int pv), .val (.int cv), .val (.int ov), .val (.int x1), .val (.int x2), .val (.ref a55), .val (.int (ni + (1 : Int32))), .unset, .unset, .unset] [(.int (2 : Int32)), (.int (1 : Int32))])) (fun _ hr => XT.iconstV X73.here hx rfl (2 : Int32) (hb hby at_204) (by decide) hr) ?_
            refine own_go (B := T73.setTop (mkF m 223 #[.val (.int gi), .val (.int pi), .val (.int qi), .val (.int mi), .val (.ref a40), .val (.ref a42), .val (.int (1 : Int32)), .val (.int pv), .val (.int cv), .val (.int ov), .val (.int x1), .val (.int x2), .val (.ref a55), .val (.int (ni + (1 : Int32))), .unset, .unset, .unset] [])) (fun _ hr => XS.icmpYes X73.here hx rfl (pc0 := 205) (pc' := 223) rfl (hb hby at_205) rfl (XT.ii_le_t (by decide)) (by decide) (by decide) hr) ?_
            rw [← e73] at S73
            exact stC _ _ (own_more X73 (by decide) (by decide)) N73 _ _ _ _ _ S73 _ ((own_plus (q := 1) hni (by decide) (by omega)).trans (by omega)) (fun i hi => by by_cases q : i < len; (· rw [if_neg (by omega), hf1 i q]; exact hsy i q); (· have r : i = len + 0 := (by omega); (· subst r; rw [if_pos (by omega)]; exact (hf2 0 (by decide)).symm))) (by omega)
          · obtain rfl : kI = (2 : Int32) := Int32.toInt_inj.mp (by rw [hkn]; rfl)
            refine own_go (B := T72.setTop (mkF m 163 #[.val (.int gi), .val (.int pi), .val (.int qi), .val (.int mi), .val (.ref a40), .val (.ref a42), .val (.int (2 : Int32)), .val (.int pv), .val (.int cv), .val (.int ov), .val (.int x1), .val (.int x2), .val (.ref a55), .val (.int ni), .unset, .unset, .unset] [(.int (2 : Int32))])) (fun _ hr => XS.iload X72.here hx rfl (hb hby at_161) rfl hr) ?_
            refine own_go (B := T72.setTop (mkF m 166 #[.val (.int gi), .val (.int pi), .val (.int qi), .val (.int mi), .val (.ref a40), .val (.ref a42), .val (.int (2 : Int32)), .val (.int pv), .val (.int cv), .val (.int ov), .val (.int x1), .val (.int x2), .val (.ref a55), .val (.int ni), .unset, .unset, .unset] [])) (fun _ hr => XS.ifNo X72.here hx rfl (hb hby at_163) rfl (XT.i0_le_f (by decide)) hr) ?_
            refine own_go (B := T72.setTop (mkF m 168 #[.val (.int gi), .val (.int pi), .val (.int qi), .val (.int mi), .val (.ref a40), .val (.ref a42), .val (.int (2 : Int32)), .val (.int pv), .val (.int cv), .val (.int ov), .val (.int x1), .val (.int x2), .val (.ref a55), .val (.int ni), .unset, .unset, .unset] [(.ref a55)])) (fun _ hr => XS.aload X72.here hx rfl (hb hby at_166) rfl rfl hr) ?_
            refine own_go (B := T72.setTop (mkF m 170 #[.val (.int gi), .val (.int pi), .val (.int qi), .val (.int mi), .val (.ref a40), .val (.ref a42), .val (.int (2 : Int32)), .val (.int pv), .val (.int cv), .val (.int ov), .val (.int x1), .val (.int x2), .val (.ref a55), .val (.int ni), .unset, .unset, .unset] [(.int ni), (.ref a55)])) (fun _ hr => XS.iload X72.here hx rfl (hb hby at_168) rfl hr) ?_
            refine own_go (B := T72.setTop (mkF m 172 #[.val (.int gi), .val (.int pi), .val (.int qi), .val (.int mi), .val (.ref a40), .val (.ref a42), .val (.int (2 : Int32)), .val (.int pv), .val (.int cv), .val (.int ov), .val (.int x1), .val (.int x2), .val (.ref a55), .val (.int ni), .unset, .unset, .unset] [(.ref a42), (.int ni), (.ref a55)])) (fun _ hr => XS.aload X72.here hx rfl (hb hby at_170) rfl rfl hr) ?_
            refine own_go (B := T72.setTop (mkF m 173 #[.val (.int gi), .val (.int pi), .val (.int qi), .val (.int mi), .val (.ref a40), .val (.ref a42), .val (.int (2 : Int32)), .val (.int pv), .val (.int cv), .val (.int ov), .val (.int x1), .val (.int x2), .val (.ref a55), .val (.int ni), .unset, .unset, .unset] [(.int (0 : Int32)), (.ref a42), (.int ni), (.ref a55)])) (fun _ hr => XT.iconstV X72.here hx rfl (0 : Int32) (hb hby at_172) (by decide) hr) ?_
            refine own_go (B := T72.setTop (mkF m 174 #[.val (.int gi), .val (.int pi), .val (.int qi), .val (.int mi), .val (.ref a40), .val (.ref a42), .val (.int (2 : Int32)), .val (.int pv), .val (.int cv), .val (.int ov), .val (.int x1), .val (.int x2), .val (.ref a55), .val (.int ni), .unset, .unset, .unset] [(.int (fs 0)), (.int ni), (.ref a55)])) (fun _ hr => own_ldB X72 hx hZ rfl S2.2.2.1.1 (by decide : (0 : Int32).toInt = ((0 : Nat) : Int)) (by decide) rfl (g := (mkF m 173 #[.val (.int gi), .val (.int pi), .val (.int qi), .val (.int mi), .val (.ref a40), .val (.ref a42), .val (.int (2 : Int32)), .val (.int pv), .val (.int cv), .val (.int ov), .val (.int x1), .val (.int x2), .val (.ref a55), .val (.int ni), .unset, .unset, .unset] [(.int (0 : Int32)), (.ref a42), (.int ni), (.ref a55)])) rfl rfl (hb hby at_173) _ hr) ?_
            obtain ⟨T74, h74, X74, e74, W74, V74, st74⟩ := own_stB X72 hx hZ rfl S2.2.2.2.1.1 hni (by omega) (hb8 0 (by decide)) (g := (mkF m 174 #[.val (.int gi), .val (.int pi), .val (.int qi), .val (.int mi), .val (.ref a40), .val (.ref a42), .val (.int (2 : Int32)), .val (.int pv), .val (.int cv), .val (.int ov), .val (.int x1), .val (.int x2), .val (.ref a55), .val (.int ni), .unset, .unset, .unset] [(.int (fs 0)), (.int ni), (.ref a55)])) rfl rfl (hb hby at_174)
            have N74 := Fr.snoc X74 M72 geE
            refine own_go (B := T74.setTop (mkF m 175 #[.val (.int gi), .val (.int pi), .val (.int qi), .val (.int mi), .val (.ref a40), .val (.ref a42), .val (.int (2 : Int32)), .val (.int pv), .val (.int cv), .val (.int ov), .val (.int x1), .val (.int x2), .val (.ref a55), .val (.int ni), .unset, .unset, .unset] [])) (fun t₂ hr => st74 t₂ hr) ?_
            have S74 := S2.exp (S2.2.2.1.2.1 0 (by decide)) W74
            refine own_go (B := T74.setTop (mkF m 177 #[.val (.int gi), .val (.int pi), .val (.int qi), .val (.int mi), .val (.ref a40), .val (.ref a42), .val (.int (2 : Int32)), .val (.int pv), .val (.int cv), .val (.int ov), .val (.int x1), .val (.int x2), .val (.ref a55), .val (.int ni), .unset, .unset, .unset] [(.int ni)])) (fun _ hr => XS.iload X74.here hx rfl (hb hby at_175) rfl hr) ?_
            refine own_go (B := T74.setTop (mkF m 178 #[.val (.int gi), .val (.int pi), .val (.int qi), .val (.int mi), .val (.ref a40), .val (.ref a42), .val (.int (2 : Int32)), .val (.int pv), .val (.int cv), .val (.int ov), .val (.int x1), .val (.int x2), .val (.ref a55), .val (.int ni), .unset, .unset, .unset] [(.int (1 : Int32)), (.int ni)])) (fun _ hr => XT.iconstV X74.here hx rfl (1 : Int32) (hb hby at_177) (by decide) hr) ?_
            refine own_go (B := T74.setTop (mkF m 179 #[.val (.int gi), .val (.int pi), .val (.int qi), .val (.int mi), .val (.ref a40), .val (.ref a42), .val (.int (2 : Int32)), .val (.int pv), .val (.int cv), .val (.int ov), .val (.int x1), .val (.int x2), .val (.ref a55), .val (.int ni), .unset, .unset, .unset] [(.int (ni + (1 : Int32)))])) (fun _ hr => XS.iadd X74.here hx rfl (hb hby at_178) rfl hr) ?_
            refine own_go (B := T74.setTop (mkF m 181 #[.val (.int gi), .val (.int pi), .val (.int qi), .val (.int mi), .val (.ref a40), .val (.ref a42), .val (.int (2 : Int32)), .val (.int pv), .val (.int cv), .val (.int ov), .val (.int x1), .val (.int x2), .val (.ref a55), .val (.int (ni + (1 : Int32))), .unset, .unset, .unset] [])) (fun _ hr => XS.istore X74.here hx rfl (hb hby at_179) rfl (l' := #[.val (.int gi), .val (.int pi), .val (.int qi), .val (.int mi), .val (.ref a40), .val (.ref a42), .val (.int (2 : Int32)), .val (.int pv), .val (.int cv), .val (.int ov), .val (.int x1), .val (.int x2), .val (.ref a55), .val (.int (ni + (1 : Int32))), .unset, .unset, .unset]) rfl hr) ?_
            refine own_go (B := T74.setTop (mkF m 183 #[.val (.int gi), .val (.int pi), .val (.int qi), .val (.int mi), .val (.ref a40), .val (.ref a42), .val (.int (2 : Int32)), .val (.int pv), .val (.int cv), .val (.int ov), .val (.int x1), .val (.int x2), .val (.ref a55), .val (.int (ni + (1 : Int32))), .unset, .unset, .unset] [(.int (2 : Int32))])) (fun _ hr => XS.iload X74.here hx rfl (hb hby at_181) rfl hr) ?_
            refine own_go (B := T74.setTop (mkF m 184 #[.val (.int gi), .val (.int pi), .val (.int qi), .val (.int mi), .val (.ref a40), .val (.ref a42), .val (.int (2 : Int32)), .val (.int pv), .val (.int cv), .val (.int ov), .val (.int x1), .val (.int x2), .val (.ref a55), .val (.int (ni + (1 : Int32))), .unset, .unset, .unset] [(.int (1 : Int32)), (.int (2 : Int32))])) (fun _ hr => XT.iconstV X74.here hx rfl (1 : Int32) (hb hby at_183) (by decide) hr) ?_
            refine own_go (B := T74.setTop (mkF m 187 #[.val (.int gi), .val (.int pi), .val (.int qi), .val (.int mi), .val (.ref a40), .val (.ref a42), .val (.int (2 : Int32)), .val (.int pv), .val (.int cv), .val (.int ov), .val (.int x1), .val (.int x2), .val (.ref a55), .val (.int (ni + (1 : Int32))), .unset, .unset, .unset] [])) (fun _ hr => XS.icmpNo X74.here hx rfl (hb hby at_184) rfl (XT.ii_le_f (by decide)) hr) ?_
            refine own_go (B := T74.setTop (mkF m 189 #[.val (.int gi), .val (.int pi), .val (.int qi), .val (.int mi), .val (.ref a40), .val (.ref a42), .val (.int (2 : Int32)), .val (.int pv), .val (.int cv), .val (.int ov), .val (.int x1), .val (.int x2), .val (.ref a55), .val (.int (ni + (1 : Int32))), .unset, .unset, .unset] [(.ref a55)])) (fun _ hr => XS.aload X74.here hx rfl (hb hby at_187) rfl rfl hr) ?_
            refine own_go (B := T74.setTop (mkF m 191 #[.val (.int gi), .val (.int pi), .val (.int qi), .val (.int mi), .val (.ref a40), .val (.ref a42), .val (.int (2 : Int32)), .val (.int pv), .val (.int cv), .val (.int ov), .val (.int x1), .val (.int x2), .val (.ref a55), .val (.int (ni + (1 : Int32))), .unset, .unset, .unset] [(.int (ni + (1 : Int32))), (.ref a55)])) (fun _ hr => XS.iload X74.here hx rfl (hb hby at_189) rfl hr) ?_
            refine own_go (B := T74.setTop (mkF m 193 #[.val (.int gi), .val (.int pi), .val (.int qi), .val (.int mi), .val (.ref a40), .val (.ref a42), .val (.int (2 : Int32)), .val (.int pv), .val (.int cv), .val (.int ov), .val (.int x1), .val (.int x2), .val (.ref a55), .val (.int (ni + (1 : Int32))), .unset, .unset, .unset] [(.ref a42), (.int (ni + (1 : Int32))), (.ref a55)])) (fun _ hr => XS.aload X74.here hx rfl (hb hby at_191) rfl rfl hr) ?_
            refine own_go (B := T74.setTop (mkF m 194 #[.val (.int gi), .val (.int pi), .val (.int qi), .val (.int mi), .val (.ref a40), .val (.ref a42), .val (.int (2 : Int32)), .val (.int pv), .val (.int cv), .val (.int ov), .val (.int x1), .val (.int x2), .val (.ref a55), .val (.int (ni + (1 : Int32))), .unset, .unset, .unset] [(.int (1 : Int32)), (.ref a42), (.int (ni + (1 : Int32))), (.ref a55)])) (fun _ hr => XT.iconstV X74.here hx rfl (1 : Int32) (hb hby at_193) (by decide) hr) ?_
            refine own_go (B := T74.setTop (mkF m 195 #[.val (.int gi), .val (.int pi), .val (.int qi), .val (.int mi), .val (.ref a40), .val (.ref a42), .val (.int (2 : Int32)), .val (.int pv), .val (.int cv), .val (.int ov), .val (.int x1), .val (.int x2), .val (.ref a55), .val (.int (ni + (1 : Int32))), .unset, .unset, .unset] [(.int (fs 1)), (.int (ni + (1 : Int32))), (.ref a55)])) (fun _ hr => own_ldB X74 hx hZ e74 S74.2.2.1.1 (by decide : (1 : Int32).toInt = ((1 : Nat) : Int)) (by decide) rfl (g := (mkF m 194 #[.val (.int gi), .val (.int pi), .val (.int qi), .val (.int mi), .val (.ref a40), .val (.ref a42), .val (.int (2 : Int32)), .val (.int pv), .val (.int cv), .val (.int ov), .val (.int x1), .val (.int x2), .val (.ref a55), .val (.int (ni + (1 : Int32))), .unset, .unset, .unset] [(.int (1 : Int32)), (.ref a42), (.int (ni + (1 : Int32))), (.ref a55)])) rfl rfl (hb hby at_194) _ hr) ?_
            obtain ⟨T75, h75, X75, e75, W75, V75, st75⟩ := own_stB X74 hx hZ e74 S74.2.2.2.1.1 (own_plus (q := 1) hni (by decide) (by omega)) (by omega) (hb8 1 (by decide)) (g := (mkF m 195 #[.val (.int gi), .val (.int pi), .val (.int qi), .val (.int mi), .val (.ref a40), .val (.ref a42), .val (.int (2 : Int32)), .val (.int pv), .val (.int cv), .val (.int ov), .val (.int x1), .val (.int x2), .val (.ref a55), .val (.int (ni + (1 : Int32))), .unset, .unset, .unset] [(.int (fs 1)), (.int (ni + (1 : Int32))), (.ref a55)])) rfl rfl (hb hby at_195)
            have N75 := Fr.snoc X75 N74 geE
            refine own_go (B := T75.setTop (mkF m 196 #[.val (.int gi), .val (.int pi), .val (.int qi), .val (.int mi), .val (.ref a40), .val (.ref a42), .val (.int (2 : Int32)), .val (.int pv), .val (.int cv), .val (.int ov), .val (.int x1), .val (.int x2), .val (.ref a55), .val (.int (ni + (1 : Int32))), .unset, .unset, .unset] [])) (fun t₂ hr => st75 t₂ hr) ?_
            have S75 := S74.exp (S74.2.2.1.2.1 1 (by decide)) W75
            refine own_go (B := T75.setTop (mkF m 198 #[.val (.int gi), .val (.int pi), .val (.int qi), .val (.int mi), .val (.ref a40), .val (.ref a42), .val (.int (2 : Int32)), .val (.int pv), .val (.int cv), .val (.int ov), .val (.int x1), .val (.int x2), .val (.ref a55), .val (.int (ni + (1 : Int32))), .unset, .unset, .unset] [(.int (ni + (1 : Int32)))])) (fun _ hr => XS.iload X75.here hx rfl (hb hby at_196) rfl hr) ?_
            refine own_go (B := T75.setTop (mkF m 199 #[.val (.int gi), .val (.int pi), .val (.int qi), .val (.int mi), .val (.ref a40), .val (.ref a42), .val (.int (2 : Int32)), .val (.int pv), .val (.int cv), .val (.int ov), .val (.int x1), .val (.int x2), .val (.ref a55), .val (.int (ni + (1 : Int32))), .unset, .unset, .unset] [(.int (1 : Int32)), (.int (ni + (1 : Int32)))])) (fun _ hr => XT.iconstV X75.here hx rfl (1 : Int32) (hb hby at_198) (by decide) hr) ?_
            refine own_go (B := T75.setTop (mkF m 200 #[.val (.int gi), .val (.int pi), .val (.int qi), .val (.int mi), .val (.ref a40), .val (.ref a42), .val (.int (2 : Int32)), .val (.int pv), .val (.int cv), .val (.int ov), .val (.int x1), .val (.int x2), .val (.ref a55), .val (.int (ni + (1 : Int32))), .unset, .unset, .unset] [(.int ((ni + (1 : Int32)) + (1 : Int32)))])) (fun _ hr => XS.iadd X75.here hx rfl (hb hby at_199) rfl hr) ?_
            refine own_go (B := T75.setTop (mkF m 202 #[.val (.int gi), .val (.int pi), .val (.int qi), .val (.int mi), .val (.ref a40), .val (.ref a42), .val (.int (2 : Int32)), .val (.int pv), .val (.int cv), .val (.int ov), .val (.int x1), .val (.int x2), .val (.ref a55), .val (.int ((ni + (1 : Int32)) + (1 : Int32))), .unset, .unset, .unset] [])) (fun _ hr => XS.istore X75.here hx rfl (hb hby at_200) rfl (l' := #[.val (.int gi), .val (.int pi), .val (.int qi), .val (.int mi), .val (.ref a40), .val (.ref a42), .val (.int (2 : Int32)), .val (.int pv), .val (.int cv), .val (.int ov), .val (.int x1), .val (.int x2), .val (.ref a55), .val (.int ((ni + (1 : Int32)) + (1 : Int32))), .unset, .unset, .unset]) rfl hr) ?_
            refine own_go (B := T75.setTop (mkF m 204 #[.val (.int gi), .val (.int pi), .val (.int qi), .val (.int mi), .val (.ref a40), .val (.ref a42), .val (.int (2 : Int32)), .val (.int pv), .val (.int cv), .val (.int ov), .val (.int x1), .val (.int x2), .val (.ref a55), .val (.int ((ni + (1 : Int32)) + (1 : Int32))), .unset, .unset, .unset] [(.int (2 : Int32))])) (fun _ hr => XS.iload X75.here hx rfl (hb hby at_202) rfl hr) ?_
            refine own_go (B := T75.setTop (mkF m 205 #[.val (.int gi), .val (.int pi), .val (.int qi), .val (.int mi), .val (.ref a40), .val (.ref a42), .val (.int (2 : Int32)), .val (.int pv), .val (.int cv), .val (.int ov), .val (.int x1), .val (.int x2), .val (.ref a55), .val (.int ((ni + (1 : Int32)) + (1 : Int32))), .unset, .unset, .unset] [(.int (2 : Int32)), (.int (2 : Int32))])) (fun _ hr => XT.iconstV X75.here hx rfl (2 : Int32) (hb hby at_204) (by decide) hr) ?_
            refine own_go (B := T75.setTop (mkF m 223 #[.val (.int gi), .val (.int pi), .val (.int qi), .val (.int mi), .val (.ref a40), .val (.ref a42), .val (.int (2 : Int32)), .val (.int pv), .val (.int cv), .val (.int ov), .val (.int x1), .val (.int x2), .val (.ref a55), .val (.int ((ni + (1 : Int32)) + (1 : Int32))), .unset, .unset, .unset] [])) (fun _ hr => XS.icmpYes X75.here hx rfl (pc0 := 205) (pc' := 223) rfl (hb hby at_205) rfl (XT.ii_le_t (by decide)) (by decide) (by decide) hr) ?_
            rw [← e75] at S75
            exact stC _ _ (own_more X75 (by decide) (by decide)) N75 _ _ _ _ _ S75 _ ((own_plus (q := 1) (own_plus (q := 1) hni (by decide) (by omega)) (by decide) (by omega)).trans (by omega)) (fun i hi => by by_cases q : i < len; (· rw [if_neg (by omega), if_neg (by omega), hf1 i q]; exact hsy i q); (· have r : i = len + 0 ∨ i = len + 1 := (by omega); rcases r with r | r; (· subst r; rw [if_neg (by omega), if_pos (by omega)]; exact (hf2 0 (by decide)).symm); (· subst r; rw [if_pos (by omega)]; exact (hf2 1 (by decide)).symm))) (by omega)
          · obtain rfl : kI = (3 : Int32) := Int32.toInt_inj.mp (by rw [hkn]; rfl)
            refine own_go (B := T72.setTop (mkF m 163 #[.val (.int gi), .val (.int pi), .val (.int qi), .val (.int mi), .val (.ref a40), .val (.ref a42), .val (.int (3 : Int32)), .val (.int pv), .val (.int cv), .val (.int ov), .val (.int x1), .val (.int x2), .val (.ref a55), .val (.int ni), .unset, .unset, .unset] [(.int (3 : Int32))])) (fun _ hr => XS.iload X72.here hx rfl (hb hby at_161) rfl hr) ?_
            refine own_go (B := T72.setTop (mkF m 166 #[.val (.int gi), .val (.int pi), .val (.int qi), .val (.int mi), .val (.ref a40), .val (.ref a42), .val (.int (3 : Int32)), .val (.int pv), .val (.int cv), .val (.int ov), .val (.int x1), .val (.int x2), .val (.ref a55), .val (.int ni), .unset, .unset, .unset] [])) (fun _ hr => XS.ifNo X72.here hx rfl (hb hby at_163) rfl (XT.i0_le_f (by decide)) hr) ?_
            refine own_go (B := T72.setTop (mkF m 168 #[.val (.int gi), .val (.int pi), .val (.int qi), .val (.int mi), .val (.ref a40), .val (.ref a42), .val (.int (3 : Int32)), .val (.int pv), .val (.int cv), .val (.int ov), .val (.int x1), .val (.int x2), .val (.ref a55), .val (.int ni), .unset, .unset, .unset] [(.ref a55)])) (fun _ hr => XS.aload X72.here hx rfl (hb hby at_166) rfl rfl hr) ?_
            refine own_go (B := T72.setTop (mkF m 170 #[.val (.int gi), .val (.int pi), .val (.int qi), .val (.int mi), .val (.ref a40), .val (.ref a42), .val (.int (3 : Int32)), .val (.int pv), .val (.int cv), .val (.int ov), .val (.int x1), .val (.int x2), .val (.ref a55), .val (.int ni), .unset, .unset, .unset] [(.int ni), (.ref a55)])) (fun _ hr => XS.iload X72.here hx rfl (hb hby at_168) rfl hr) ?_
            refine own_go (B := T72.setTop (mkF m 172 #[.val (.int gi), .val (.int pi), .val (.int qi), .val (.int mi), .val (.ref a40), .val (.ref a42), .val (.int (3 : Int32)), .val (.int pv), .val (.int cv), .val (.int ov), .val (.int x1), .val (.int x2), .val (.ref a55), .val (.int ni), .unset, .unset, .unset] [(.ref a42), (.int ni), (.ref a55)])) (fun _ hr => XS.aload X72.here hx rfl (hb hby at_170) rfl rfl hr) ?_
            refine own_go (B := T72.setTop (mkF m 173 #[.val (.int gi), .val (.int pi), .val (.int qi), .val (.int mi), .val (.ref a40), .val (.ref a42), .val (.int (3 : Int32)), .val (.int pv), .val (.int cv), .val (.int ov), .val (.int x1), .val (.int x2), .val (.ref a55), .val (.int ni), .unset, .unset, .unset] [(.int (0 : Int32)), (.ref a42), (.int ni), (.ref a55)])) (fun _ hr => XT.iconstV X72.here hx rfl (0 : Int32) (hb hby at_172) (by decide) hr) ?_
            refine own_go (B := T72.setTop (mkF m 174 #[.val (.int gi), .val (.int pi), .val (.int qi), .val (.int mi), .val (.ref a40), .val (.ref a42), .val (.int (3 : Int32)), .val (.int pv), .val (.int cv), .val (.int ov), .val (.int x1), .val (.int x2), .val (.ref a55), .val (.int ni), .unset, .unset, .unset] [(.int (fs 0)), (.int ni), (.ref a55)])) (fun _ hr => own_ldB X72 hx hZ rfl S2.2.2.1.1 (by decide : (0 : Int32).toInt = ((0 : Nat) : Int)) (by decide) rfl (g := (mkF m 173 #[.val (.int gi), .val (.int pi), .val (.int qi), .val (.int mi), .val (.ref a40), .val (.ref a42), .val (.int (3 : Int32)), .val (.int pv), .val (.int cv), .val (.int ov), .val (.int x1), .val (.int x2), .val (.ref a55), .val (.int ni), .unset, .unset, .unset] [(.int (0 : Int32)), (.ref a42), (.int ni), (.ref a55)])) rfl rfl (hb hby at_173) _ hr) ?_
            obtain ⟨T76, h76, X76, e76, W76, V76, st76⟩ := own_stB X72 hx hZ rfl S2.2.2.2.1.1 hni (by omega) (hb8 0 (by decide)) (g := (mkF m 174 #[.val (.int gi), .val (.int pi), .val (.int qi), .val (.int mi), .val (.ref a40), .val (.ref a42), .val (.int (3 : Int32)), .val (.int pv), .val (.int cv), .val (.int ov), .val (.int x1), .val (.int x2), .val (.ref a55), .val (.int ni), .unset, .unset, .unset] [(.int (fs 0)), (.int ni), (.ref a55)])) rfl rfl (hb hby at_174)
            have N76 := Fr.snoc X76 M72 geE
            refine own_go (B := T76.setTop (mkF m 175 #[.val (.int gi), .val (.int pi), .val (.int qi), .val (.int mi), .val (.ref a40), .val (.ref a42), .val (.int (3 : Int32)), .val (.int pv), .val (.int cv), .val (.int ov), .val (.int x1), .val (.int x2), .val (.ref a55), .val (.int ni), .unset, .unset, .unset] [])) (fun t₂ hr => st76 t₂ hr) ?_
            have S76 := S2.exp (S2.2.2.1.2.1 0 (by decide)) W76
            refine own_go (B := T76.setTop (mkF m 177 #[.val (.int gi), .val (.int pi), .val (.int qi), .val (.int mi), .val (.ref a40), .val (.ref a42), .val (.int (3 : Int32)), .val (.int pv), .val (.int cv), .val (.int ov), .val (.int x1), .val (.int x2), .val (.ref a55), .val (.int ni), .unset, .unset, .unset] [(.int ni)])) (fun _ hr => XS.iload X76.here hx rfl (hb hby at_175) rfl hr) ?_
            refine own_go (B := T76.setTop (mkF m 178 #[.val (.int gi), .val (.int pi), .val (.int qi), .val (.int mi), .val (.ref a40), .val (.ref a42), .val (.int (3 : Int32)), .val (.int pv), .val (.int cv), .val (.int ov), .val (.int x1), .val (.int x2), .val (.ref a55), .val (.int ni), .unset, .unset, .unset] [(.int (1 : Int32)), (.int ni)])) (fun _ hr => XT.iconstV X76.here hx rfl (1 : Int32) (hb hby at_177) (by decide) hr) ?_
            refine own_go (B := T76.setTop (mkF m 179 #[.val (.int gi), .val (.int pi), .val (.int qi), .val (.int mi), .val (.ref a40), .val (.ref a42), .val (.int (3 : Int32)), .val (.int pv), .val (.int cv), .val (.int ov), .val (.int x1), .val (.int x2), .val (.ref a55), .val (.int ni), .unset, .unset, .unset] [(.int (ni + (1 : Int32)))])) (fun _ hr => XS.iadd X76.here hx rfl (hb hby at_178) rfl hr) ?_
            refine own_go (B := T76.setTop (mkF m 181 #[.val (.int gi), .val (.int pi), .val (.int qi), .val (.int mi), .val (.ref a40), .val (.ref a42), .val (.int (3 : Int32)), .val (.int pv), .val (.int cv), .val (.int ov), .val (.int x1), .val (.int x2), .val (.ref a55), .val (.int (ni + (1 : Int32))), .unset, .unset, .unset] [])) (fun _ hr => XS.istore X76.here hx rfl (hb hby at_179) rfl (l' := #[.val (.int gi), .val (.int pi), .val (.int qi), .val (.int mi), .val (.ref a40), .val (.ref a42), .val (.int (3 : Int32)), .val (.int pv), .val (.int cv), .val (.int ov), .val (.int x1), .val (.int x2), .val (.ref a55), .val (.int (ni + (1 : Int32))), .unset, .unset, .unset]) rfl hr) ?_
            refine own_go (B := T76.setTop (mkF m 183 #[.val (.int gi), .val (.int pi), .val (.int qi), .val (.int mi), .val (.ref a40), .val (.ref a42), .val (.int (3 : Int32)), .val (.int pv), .val (.int cv), .val (.int ov), .val (.int x1), .val (.int x2), .val (.ref a55), .val (.int (ni + (1 : Int32))), .unset, .unset, .unset] [(.int (3 : Int32))])) (fun _ hr => XS.iload X76.here hx rfl (hb hby at_181) rfl hr) ?_
            refine own_go (B := T76.setTop (mkF m 184 #[.val (.int gi), .val (.int pi), .val (.int qi), .val (.int mi), .val (.ref a40), .val (.ref a42), .val (.int (3 : Int32)), .val (.int pv), .val (.int cv), .val (.int ov), .val (.int x1), .val (.int x2), .val (.ref a55), .val (.int (ni + (1 : Int32))), .unset, .unset, .unset] [(.int (1 : Int32)), (.int (3 : Int32))])) (fun _ hr => XT.iconstV X76.here hx rfl (1 : Int32) (hb hby at_183) (by decide) hr) ?_
            refine own_go (B := T76.setTop (mkF m 187 #[.val (.int gi), .val (.int pi), .val (.int qi), .val (.int mi), .val (.ref a40), .val (.ref a42), .val (.int (3 : Int32)), .val (.int pv), .val (.int cv), .val (.int ov), .val (.int x1), .val (.int x2), .val (.ref a55), .val (.int (ni + (1 : Int32))), .unset, .unset, .unset] [])) (fun _ hr => XS.icmpNo X76.here hx rfl (hb hby at_184) rfl (XT.ii_le_f (by decide)) hr) ?_
            refine own_go (B := T76.setTop (mkF m 189 #[.val (.int gi), .val (.int pi), .val (.int qi), .val (.int mi), .val (.ref a40), .val (.ref a42), .val (.int (3 : Int32)), .val (.int pv), .val (.int cv), .val (.int ov), .val (.int x1), .val (.int x2), .val (.ref a55), .val (.int (ni + (1 : Int32))), .unset, .unset, .unset] [(.ref a55)])) (fun _ hr => XS.aload X76.here hx rfl (hb hby at_187) rfl rfl hr) ?_
            refine own_go (B := T76.setTop (mkF m 191 #[.val (.int gi), .val (.int pi), .val (.int qi), .val (.int mi), .val (.ref a40), .val (.ref a42), .val (.int (3 : Int32)), .val (.int pv), .val (.int cv), .val (.int ov), .val (.int x1), .val (.int x2), .val (.ref a55), .val (.int (ni + (1 : Int32))), .unset, .unset, .unset] [(.int (ni + (1 : Int32))), (.ref a55)])) (fun _ hr => XS.iload X76.here hx rfl (hb hby at_189) rfl hr) ?_
            refine own_go (B := T76.setTop (mkF m 193 #[.val (.int gi), .val (.int pi), .val (.int qi), .val (.int mi), .val (.ref a40), .val (.ref a42), .val (.int (3 : Int32)), .val (.int pv), .val (.int cv), .val (.int ov), .val (.int x1), .val (.int x2), .val (.ref a55), .val (.int (ni + (1 : Int32))), .unset, .unset, .unset] [(.ref a42), (.int (ni + (1 : Int32))), (.ref a55)])) (fun _ hr => XS.aload X76.here hx rfl (hb hby at_191) rfl rfl hr) ?_
            refine own_go (B := T76.setTop (mkF m 194 #[.val (.int gi), .val (.int pi), .val (.int qi), .val (.int mi), .val (.ref a40), .val (.ref a42), .val (.int (3 : Int32)), .val (.int pv), .val (.int cv), .val (.int ov), .val (.int x1), .val (.int x2), .val (.ref a55), .val (.int (ni + (1 : Int32))), .unset, .unset, .unset] [(.int (1 : Int32)), (.ref a42), (.int (ni + (1 : Int32))), (.ref a55)])) (fun _ hr => XT.iconstV X76.here hx rfl (1 : Int32) (hb hby at_193) (by decide) hr) ?_
            refine own_go (B := T76.setTop (mkF m 195 #[.val (.int gi), .val (.int pi), .val (.int qi), .val (.int mi), .val (.ref a40), .val (.ref a42), .val (.int (3 : Int32)), .val (.int pv), .val (.int cv), .val (.int ov), .val (.int x1), .val (.int x2), .val (.ref a55), .val (.int (ni + (1 : Int32))), .unset, .unset, .unset] [(.int (fs 1)), (.int (ni + (1 : Int32))), (.ref a55)])) (fun _ hr => own_ldB X76 hx hZ e76 S76.2.2.1.1 (by decide : (1 : Int32).toInt = ((1 : Nat) : Int)) (by decide) rfl (g := (mkF m 194 #[.val (.int gi), .val (.int pi), .val (.int qi), .val (.int mi), .val (.ref a40), .val (.ref a42), .val (.int (3 : Int32)), .val (.int pv), .val (.int cv), .val (.int ov), .val (.int x1), .val (.int x2), .val (.ref a55), .val (.int (ni + (1 : Int32))), .unset, .unset, .unset] [(.int (1 : Int32)), (.ref a42), (.int (ni + (1 : Int32))), (.ref a55)])) rfl rfl (hb hby at_194) _ hr) ?_
            obtain ⟨T77, h77, X77, e77, W77, V77, st77⟩ := own_stB X76 hx hZ e76 S76.2.2.2.1.1 (own_plus (q := 1) hni (by decide) (by omega)) (by omega) (hb8 1 (by decide)) (g := (mkF m 195 #[.val (.int gi), .val (.int pi), .val (.int qi), .val (.int mi), .val (.ref a40), .val (.ref a42), .val (.int (3 : Int32)), .val (.int pv), .val (.int cv), .val (.int ov), .val (.int x1), .val (.int x2), .val (.ref a55), .val (.int (ni + (1 : Int32))), .unset, .unset, .unset] [(.int (fs 1)), (.int (ni + (1 : Int32))), (.ref a55)])) rfl rfl (hb hby at_195)
            have N77 := Fr.snoc X77 N76 geE
            refine own_go (B := T77.setTop (mkF m 196 #[.val (.int gi), .val (.int pi), .val (.int qi), .val (.int mi), .val (.ref a40), .val (.ref a42), .val (.int (3 : Int32)), .val (.int pv), .val (.int cv), .val (.int ov), .val (.int x1), .val (.int x2), .val (.ref a55), .val (.int (ni + (1 : Int32))), .unset, .unset, .unset] [])) (fun t₂ hr => st77 t₂ hr) ?_
            have S77 := S76.exp (S76.2.2.1.2.1 1 (by decide)) W77
            refine own_go (B := T77.setTop (mkF m 198 #[.val (.int gi), .val (.int pi), .val (.int qi), .val (.int mi), .val (.ref a40), .val (.ref a42), .val (.int (3 : Int32)), .val (.int pv), .val (.int cv), .val (.int ov), .val (.int x1), .val (.int x2), .val (.ref a55), .val (.int (ni + (1 : Int32))), .unset, .unset, .unset] [(.int (ni + (1 : Int32)))])) (fun _ hr => XS.iload X77.here hx rfl (hb hby at_196) rfl hr) ?_
            refine own_go (B := T77.setTop (mkF m 199 #[.val (.int gi), .val (.int pi), .val (.int qi), .val (.int mi), .val (.ref a40), .val (.ref a42), .val (.int (3 : Int32)), .val (.int pv), .val (.int cv), .val (.int ov), .val (.int x1), .val (.int x2), .val (.ref a55), .val (.int (ni + (1 : Int32))), .unset, .unset, .unset] [(.int (1 : Int32)), (.int (ni + (1 : Int32)))])) (fun _ hr => XT.iconstV X77.here hx rfl (1 : Int32) (hb hby at_198) (by decide) hr) ?_
            refine own_go (B := T77.setTop (mkF m 200 #[.val (.int gi), .val (.int pi), .val (.int qi), .val (.int mi), .val (.ref a40), .val (.ref a42), .val (.int (3 : Int32)), .val (.int pv), .val (.int cv), .val (.int ov), .val (.int x1), .val (.int x2), .val (.ref a55), .val (.int (ni + (1 : Int32))), .unset, .unset, .unset] [(.int ((ni + (1 : Int32)) + (1 : Int32)))])) (fun _ hr => XS.iadd X77.here hx rfl (hb hby at_199) rfl hr) ?_
            refine own_go (B := T77.setTop (mkF m 202 #[.val (.int gi), .val (.int pi), .val (.int qi), .val (.int mi), .val (.ref a40), .val (.ref a42), .val (.int (3 : Int32)), .val (.int pv), .val (.int cv), .val (.int ov), .val (.int x1), .val (.int x2), .val (.ref a55), .val (.int ((ni + (1 : Int32)) + (1 : Int32))), .unset, .unset, .unset] [])) (fun _ hr => XS.istore X77.here hx rfl (hb hby at_200) rfl (l' := #[.val (.int gi), .val (.int pi), .val (.int qi), .val (.int mi), .val (.ref a40), .val (.ref a42), .val (.int (3 : Int32)), .val (.int pv), .val (.int cv), .val (.int ov), .val (.int x1), .val (.int x2), .val (.ref a55), .val (.int ((ni + (1 : Int32)) + (1 : Int32))), .unset, .unset, .unset]) rfl hr) ?_
            refine own_go (B := T77.setTop (mkF m 204 #[.val (.int gi), .val (.int pi), .val (.int qi), .val (.int mi), .val (.ref a40), .val (.ref a42), .val (.int (3 : Int32)), .val (.int pv), .val (.int cv), .val (.int ov), .val (.int x1), .val (.int x2), .val (.ref a55), .val (.int ((ni + (1 : Int32)) + (1 : Int32))), .unset, .unset, .unset] [(.int (3 : Int32))])) (fun _ hr => XS.iload X77.here hx rfl (hb hby at_202) rfl hr) ?_
            refine own_go (B := T77.setTop (mkF m 205 #[.val (.int gi), .val (.int pi), .val (.int qi), .val (.int mi), .val (.ref a40), .val (.ref a42), .val (.int (3 : Int32)), .val (.int pv), .val (.int cv), .val (.int ov), .val (.int x1), .val (.int x2), .val (.ref a55), .val (.int ((ni + (1 : Int32)) + (1 : Int32))), .unset, .unset, .unset] [(.int (2 : Int32)), (.int (3 : Int32))])) (fun _ hr => XT.iconstV X77.here hx rfl (2 : Int32) (hb hby at_204) (by decide) hr) ?_
            refine own_go (B := T77.setTop (mkF m 208 #[.val (.int gi), .val (.int pi), .val (.int qi), .val (.int mi), .val (.ref a40), .val (.ref a42), .val (.int (3 : Int32)), .val (.int pv), .val (.int cv), .val (.int ov), .val (.int x1), .val (.int x2), .val (.ref a55), .val (.int ((ni + (1 : Int32)) + (1 : Int32))), .unset, .unset, .unset] [])) (fun _ hr => XS.icmpNo X77.here hx rfl (hb hby at_205) rfl (XT.ii_le_f (by decide)) hr) ?_
            refine own_go (B := T77.setTop (mkF m 210 #[.val (.int gi), .val (.int pi), .val (.int qi), .val (.int mi), .val (.ref a40), .val (.ref a42), .val (.int (3 : Int32)), .val (.int pv), .val (.int cv), .val (.int ov), .val (.int x1), .val (.int x2), .val (.ref a55), .val (.int ((ni + (1 : Int32)) + (1 : Int32))), .unset, .unset, .unset] [(.ref a55)])) (fun _ hr => XS.aload X77.here hx rfl (hb hby at_208) rfl rfl hr) ?_
            refine own_go (B := T77.setTop (mkF m 212 #[.val (.int gi), .val (.int pi), .val (.int qi), .val (.int mi), .val (.ref a40), .val (.ref a42), .val (.int (3 : Int32)), .val (.int pv), .val (.int cv), .val (.int ov), .val (.int x1), .val (.int x2), .val (.ref a55), .val (.int ((ni + (1 : Int32)) + (1 : Int32))), .unset, .unset, .unset] [(.int ((ni + (1 : Int32)) + (1 : Int32))), (.ref a55)])) (fun _ hr => XS.iload X77.here hx rfl (hb hby at_210) rfl hr) ?_
            refine own_go (B := T77.setTop (mkF m 214 #[.val (.int gi), .val (.int pi), .val (.int qi), .val (.int mi), .val (.ref a40), .val (.ref a42), .val (.int (3 : Int32)), .val (.int pv), .val (.int cv), .val (.int ov), .val (.int x1), .val (.int x2), .val (.ref a55), .val (.int ((ni + (1 : Int32)) + (1 : Int32))), .unset, .unset, .unset] [(.ref a42), (.int ((ni + (1 : Int32)) + (1 : Int32))), (.ref a55)])) (fun _ hr => XS.aload X77.here hx rfl (hb hby at_212) rfl rfl hr) ?_
            refine own_go (B := T77.setTop (mkF m 215 #[.val (.int gi), .val (.int pi), .val (.int qi), .val (.int mi), .val (.ref a40), .val (.ref a42), .val (.int (3 : Int32)), .val (.int pv), .val (.int cv), .val (.int ov), .val (.int x1), .val (.int x2), .val (.ref a55), .val (.int ((ni + (1 : Int32)) + (1 : Int32))), .unset, .unset, .unset] [(.int (2 : Int32)), (.ref a42), (.int ((ni + (1 : Int32)) + (1 : Int32))), (.ref a55)])) (fun _ hr => XT.iconstV X77.here hx rfl (2 : Int32) (hb hby at_214) (by decide) hr) ?_
            refine own_go (B := T77.setTop (mkF m 216 #[.val (.int gi), .val (.int pi), .val (.int qi), .val (.int mi), .val (.ref a40), .val (.ref a42), .val (.int (3 : Int32)), .val (.int pv), .val (.int cv), .val (.int ov), .val (.int x1), .val (.int x2), .val (.ref a55), .val (.int ((ni + (1 : Int32)) + (1 : Int32))), .unset, .unset, .unset] [(.int (fs 2)), (.int ((ni + (1 : Int32)) + (1 : Int32))), (.ref a55)])) (fun _ hr => own_ldB X77 hx hZ e77 S77.2.2.1.1 (by decide : (2 : Int32).toInt = ((2 : Nat) : Int)) (by decide) rfl (g := (mkF m 215 #[.val (.int gi), .val (.int pi), .val (.int qi), .val (.int mi), .val (.ref a40), .val (.ref a42), .val (.int (3 : Int32)), .val (.int pv), .val (.int cv), .val (.int ov), .val (.int x1), .val (.int x2), .val (.ref a55), .val (.int ((ni + (1 : Int32)) + (1 : Int32))), .unset, .unset, .unset] [(.int (2 : Int32)), (.ref a42), (.int ((ni + (1 : Int32)) + (1 : Int32))), (.ref a55)])) rfl rfl (hb hby at_215) _ hr) ?_
            obtain ⟨T78, h78, X78, e78, W78, V78, st78⟩ := own_stB X77 hx hZ e77 S77.2.2.2.1.1 (own_plus (q := 1) (own_plus (q := 1) hni (by decide) (by omega)) (by decide) (by omega)) (by omega) (hb8 2 (by decide)) (g := (mkF m 216 #[.val (.int gi), .val (.int pi), .val (.int qi), .val (.int mi), .val (.ref a40), .val (.ref a42), .val (.int (3 : Int32)), .val (.int pv), .val (.int cv), .val (.int ov), .val (.int x1), .val (.int x2), .val (.ref a55), .val (.int ((ni + (1 : Int32)) + (1 : Int32))), .unset, .unset, .unset] [(.int (fs 2)), (.int ((ni + (1 : Int32)) + (1 : Int32))), (.ref a55)])) rfl rfl (hb hby at_216)
            have N78 := Fr.snoc X78 N77 geE
            refine own_go (B := T78.setTop (mkF m 217 #[.val (.int gi), .val (.int pi), .val (.int qi), .val (.int mi), .val (.ref a40), .val (.ref a42), .val (.int (3 : Int32)), .val (.int pv), .val (.int cv), .val (.int ov), .val (.int x1), .val (.int x2), .val (.ref a55), .val (.int ((ni + (1 : Int32)) + (1 : Int32))), .unset, .unset, .unset] [])) (fun t₂ hr => st78 t₂ hr) ?_
            have S78 := S77.exp (S77.2.2.1.2.1 2 (by decide)) W78
            refine own_go (B := T78.setTop (mkF m 219 #[.val (.int gi), .val (.int pi), .val (.int qi), .val (.int mi), .val (.ref a40), .val (.ref a42), .val (.int (3 : Int32)), .val (.int pv), .val (.int cv), .val (.int ov), .val (.int x1), .val (.int x2), .val (.ref a55), .val (.int ((ni + (1 : Int32)) + (1 : Int32))), .unset, .unset, .unset] [(.int ((ni + (1 : Int32)) + (1 : Int32)))])) (fun _ hr => XS.iload X78.here hx rfl (hb hby at_217) rfl hr) ?_
            refine own_go (B := T78.setTop (mkF m 220 #[.val (.int gi), .val (.int pi), .val (.int qi), .val (.int mi), .val (.ref a40), .val (.ref a42), .val (.int (3 : Int32)), .val (.int pv), .val (.int cv), .val (.int ov), .val (.int x1), .val (.int x2), .val (.ref a55), .val (.int ((ni + (1 : Int32)) + (1 : Int32))), .unset, .unset, .unset] [(.int (1 : Int32)), (.int ((ni + (1 : Int32)) + (1 : Int32)))])) (fun _ hr => XT.iconstV X78.here hx rfl (1 : Int32) (hb hby at_219) (by decide) hr) ?_
            refine own_go (B := T78.setTop (mkF m 221 #[.val (.int gi), .val (.int pi), .val (.int qi), .val (.int mi), .val (.ref a40), .val (.ref a42), .val (.int (3 : Int32)), .val (.int pv), .val (.int cv), .val (.int ov), .val (.int x1), .val (.int x2), .val (.ref a55), .val (.int ((ni + (1 : Int32)) + (1 : Int32))), .unset, .unset, .unset] [(.int (((ni + (1 : Int32)) + (1 : Int32)) + (1 : Int32)))])) (fun _ hr => XS.iadd X78.here hx rfl (hb hby at_220) rfl hr) ?_
            refine own_go (B := T78.setTop (mkF m 223 #[.val (.int gi), .val (.int pi), .val (.int qi), .val (.int mi), .val (.ref a40), .val (.ref a42), .val (.int (3 : Int32)), .val (.int pv), .val (.int cv), .val (.int ov), .val (.int x1), .val (.int x2), .val (.ref a55), .val (.int (((ni + (1 : Int32)) + (1 : Int32)) + (1 : Int32))), .unset, .unset, .unset] [])) (fun _ hr => XS.istore X78.here hx rfl (hb hby at_221) rfl (l' := #[.val (.int gi), .val (.int pi), .val (.int qi), .val (.int mi), .val (.ref a40), .val (.ref a42), .val (.int (3 : Int32)), .val (.int pv), .val (.int cv), .val (.int ov), .val (.int x1), .val (.int x2), .val (.ref a55), .val (.int (((ni + (1 : Int32)) + (1 : Int32)) + (1 : Int32))), .unset, .unset, .unset]) rfl hr) ?_
            rw [← e78] at S78
            exact stC _ _ (own_more X78 (by decide) (by decide)) N78 _ _ _ _ _ S78 _ ((own_plus (q := 1) (own_plus (q := 1) (own_plus (q := 1) hni (by decide) (by omega)) (by decide) (by omega)) (by decide) (by omega)).trans (by omega)) (fun i hi => by by_cases q : i < len; (· rw [if_neg (by omega), if_neg (by omega), if_neg (by omega), hf1 i q]; exact hsy i q); (· have r : i = len + 0 ∨ i = len + 1 ∨ i = len + 2 := (by omega); rcases r with r | r | r; (· subst r; rw [if_neg (by omega), if_neg (by omega), if_pos (by omega)]; exact (hf2 0 (by decide)).symm); (· subst r; rw [if_neg (by omega), if_pos (by omega)]; exact (hf2 1 (by decide)).symm); (· subst r; rw [if_pos (by omega)]; exact (hf2 2 (by decide)).symm))) (by omega)
        refine own_go (B := T55.setTop (mkF m 112 #[.val (.int gi), .val (.int pi), .val (.int qi), .val (.int mi), .val (.ref a40), .val (.ref a42), .val (.int kI), .val (.int pv), .val (.int cv), .val (.int ov), .val (.int x1), .val (.int x2), .val (.ref a55), .val (.int (0 : Int32)), .unset, .unset, .unset] [(.int pv)])) (fun _ hr => XS.iload X55.here hx rfl (hb hby at_110) rfl hr) ?_
        by_cases c79 : pv = 0
        · refine own_go (B := T55.setTop (mkF m 141 #[.val (.int gi), .val (.int pi), .val (.int qi), .val (.int mi), .val (.ref a40), .val (.ref a42), .val (.int kI), .val (.int pv), .val (.int cv), .val (.int ov), .val (.int x1), .val (.int x2), .val (.ref a55), .val (.int (0 : Int32)), .unset, .unset, .unset] [])) (fun _ hr => XS.ifYes X55.here hx rfl (pc0 := 112) (pc' := 141) rfl (hb hby at_112) rfl (XT.i0_eq_t c79) (by decide) (by decide) hr) ?_
          refine own_go (B := T55.setTop (mkF m 143 #[.val (.int gi), .val (.int pi), .val (.int qi), .val (.int mi), .val (.ref a40), .val (.ref a42), .val (.int kI), .val (.int pv), .val (.int cv), .val (.int ov), .val (.int x1), .val (.int x2), .val (.ref a55), .val (.int (0 : Int32)), .unset, .unset, .unset] [(.int cv)])) (fun _ hr => XS.iload X55.here hx rfl (hb hby at_141) rfl hr) ?_
          by_cases c80 : cv = 0
          · refine own_go (B := T55.setTop (mkF m 151 #[.val (.int gi), .val (.int pi), .val (.int qi), .val (.int mi), .val (.ref a40), .val (.ref a42), .val (.int kI), .val (.int pv), .val (.int cv), .val (.int ov), .val (.int x1), .val (.int x2), .val (.ref a55), .val (.int (0 : Int32)), .unset, .unset, .unset] [])) (fun _ hr => XS.ifYes X55.here hx rfl (pc0 := 143) (pc' := 151) rfl (hb hby at_143) rfl (XT.i0_eq_t c80) (by decide) (by decide) hr) ?_
            rw [← e55] at S0
            exact stB _ _ (own_more X55 (by decide) (by decide)) N45 _ _ _ _ _ S0 _ (by decide) (fun i hi => absurd hi (by omega)) (by omega)
          · refine own_go (B := T55.setTop (mkF m 146 #[.val (.int gi), .val (.int pi), .val (.int qi), .val (.int mi), .val (.ref a40), .val (.ref a42), .val (.int kI), .val (.int pv), .val (.int cv), .val (.int ov), .val (.int x1), .val (.int x2), .val (.ref a55), .val (.int (0 : Int32)), .unset, .unset, .unset] [])) (fun _ hr => XS.ifNo X55.here hx rfl (hb hby at_143) rfl (XT.i0_eq_f c80) hr) ?_
            refine own_go (B := T55.setTop (mkF m 148 #[.val (.int gi), .val (.int pi), .val (.int qi), .val (.int mi), .val (.ref a40), .val (.ref a42), .val (.int kI), .val (.int pv), .val (.int cv), .val (.int ov), .val (.int x1), .val (.int x2), .val (.ref a55), .val (.int (0 : Int32)), .unset, .unset, .unset] [(.ref a40)])) (fun _ hr => XS.aload X55.here hx rfl (hb hby at_146) rfl rfl hr) ?_
            obtain ⟨cq81, kq81, qa81, qb81, qc81⟩ := isOf hZ e55 S0.2.1.1
            obtain ⟨_, _, ⟨T81, L81, k81, n81⟩, -, X81, ⟨Lc81, hQ81, l81, y81, z81⟩, st81⟩ := X55.virtualBack hx (y := (⟨"com/example/chronaero/chronaero/Utf8Text", "clear", "()V"⟩ : MethodName)) (z := (⟨"com/example/chronaero/chronaero/Utf8Text", "clear", "()V"⟩ : MethodName)) hown (mvT hZ (hw _ (List.mem_of_getElem? (i := 62) rfl))) (mvT hZ (hw _ (List.mem_of_getElem? (i := 63) rfl))) (notFace_of_selects (args := #[]) (mvT hZ (hw _ (List.mem_of_getElem? (i := 65) rfl)))) (mvT hZ (hw _ (List.mem_of_getElem? (i := 65) rfl))) (mvT hZ (hw _ (List.mem_of_getElem? (i := 64) rfl))) (by decide) (backOf (W := 0) (rm_clear l Z a0 hw [] a40 B0 gn 0 _ h55 n0 S0.1 S0.2.1 ge) hZ (hw _ (List.mem_of_getElem? (i := 66) rfl)) (hw _ (List.mem_of_getElem? (i := 2) rfl)) (by decide) (by decide)) qa81 qc81 (g := (mkF m 148 #[.val (.int gi), .val (.int pi), .val (.int qi), .val (.int mi), .val (.ref a40), .val (.ref a42), .val (.int kI), .val (.int pv), .val (.int cv), .val (.int ov), .val (.int x1), .val (.int x2), .val (.ref a55), .val (.int (0 : Int32)), .unset, .unset, .unset] [(.ref a40)])) rfl (by rw [hml]; rfl) (Steps.refl _) (argsL := []) (rest := []) (lenOf pd_clear rfl) rfl (by show 2 * 0 + _ ≤ _; exact Nat.le_of_eq rfl) (hb hby at_148) (fun _ _ => ⟨rfl, e55, (by decide : 4 + 0 ≤ _), (by decide : 18 + 0 ≤ _)⟩)
            dsimp only [Pt.U, Pt.locs, Pt.cells, Pt.slots] at X81 l81 y81 z81 st81 hQ81
            subst l81 y81 z81
            obtain ⟨rfl, N81, Z81, K81, H81⟩ := hQ81
            refine own_gs (B := T81.setTop (mkF m 151 #[.val (.int gi), .val (.int pi), .val (.int qi), .val (.int mi), .val (.ref a40), .val (.ref a42), .val (.int kI), .val (.int pv), .val (.int cv), .val (.int ov), .val (.int x1), .val (.int x2), .val (.ref a55), .val (.int (0 : Int32)), .unset, .unset, .unset] [])) st81 ?_
            have M81 := Fr.app N45 N81
            have S9 := S0.step (own_keepw K81) Z81 H81 S0.2.2.2.2.2.2.2.2.2 (Or.inl rfl)
            exact stB _ _ (own_more X81 (by decide) (by decide)) M81 _ _ _ _ _ S9 _ (by decide) (fun i hi => absurd hi (by omega)) (by omega)
        · refine own_go (B := T55.setTop (mkF m 115 #[.val (.int gi), .val (.int pi), .val (.int qi), .val (.int mi), .val (.ref a40), .val (.ref a42), .val (.int kI), .val (.int pv), .val (.int cv), .val (.int ov), .val (.int x1), .val (.int x2), .val (.ref a55), .val (.int (0 : Int32)), .unset, .unset, .unset] [])) (fun _ hr => XS.ifNo X55.here hx rfl (hb hby at_112) rfl (XT.i0_eq_f c79) hr) ?_
          refine own_go (B := T55.setTop (mkF m 117 #[.val (.int gi), .val (.int pi), .val (.int qi), .val (.int mi), .val (.ref a40), .val (.ref a42), .val (.int kI), .val (.int pv), .val (.int cv), .val (.int ov), .val (.int x1), .val (.int x2), .val (.ref a55), .val (.int (0 : Int32)), .unset, .unset, .unset] [(.ref a40)])) (fun _ hr => XS.aload X55.here hx rfl (hb hby at_115) rfl rfl hr) ?_
          refine own_go (B := T55.setTop (mkF m 119 #[.val (.int gi), .val (.int pi), .val (.int qi), .val (.int mi), .val (.ref a40), .val (.ref a42), .val (.int kI), .val (.int pv), .val (.int cv), .val (.int ov), .val (.int x1), .val (.int x2), .val (.ref a55), .val (.int (0 : Int32)), .unset, .unset, .unset] [(.int x1), (.ref a40)])) (fun _ hr => XS.iload X55.here hx rfl (hb hby at_117) rfl hr) ?_
          obtain ⟨cq82, kq82, qa82, qb82, qc82⟩ := isOf hZ e55 S0.2.1.1
          obtain ⟨_, _, ⟨T82, L82, k82, n82⟩, -, X82, ⟨Lc82, hQ82, l82, y82, z82⟩, st82⟩ := X55.virtualBack hx (y := (⟨"com/example/chronaero/chronaero/Utf8Text", "append", "(C)V"⟩ : MethodName)) (z := (⟨"com/example/chronaero/chronaero/Utf8Text", "append", "(C)V"⟩ : MethodName)) hown (mvT hZ (hw _ (List.mem_of_getElem? (i := 67) rfl))) (mvT hZ (hw _ (List.mem_of_getElem? (i := 68) rfl))) (notFace_of_selects (args := #[]) (mvT hZ (hw _ (List.mem_of_getElem? (i := 70) rfl)))) (mvT hZ (hw _ (List.mem_of_getElem? (i := 70) rfl))) (mvT hZ (hw _ (List.mem_of_getElem? (i := 69) rfl))) (by decide) (backOf (W := 0) (rm_apc l Z a0 hw [] a40 x1 B0 gn 0 _ h55 n0 S0.1 S0.2.1 (by decide) ge geB0) hZ (hw _ (List.mem_of_getElem? (i := 71) rfl)) (hw _ (List.mem_of_getElem? (i := 2) rfl)) (by decide) (by decide)) qa82 qc82 (g := (mkF m 119 #[.val (.int gi), .val (.int pi), .val (.int qi), .val (.int mi), .val (.ref a40), .val (.ref a42), .val (.int kI), .val (.int pv), .val (.int cv), .val (.int ov), .val (.int x1), .val (.int x2), .val (.ref a55), .val (.int (0 : Int32)), .unset, .unset, .unset] [(.int x1), (.ref a40)])) rfl (by rw [hml]; rfl) (Steps.refl _) (argsL := [(.int x1)]) (rest := []) (lenOf pd_apc rfl) rfl (by show 2 * 0 + _ ≤ _; exact Nat.le_of_eq rfl) (hb hby at_119) (fun _ _ => ⟨rfl, e55, (by decide : 4 + 1 ≤ _), (by decide : 18 + 8 ≤ _)⟩)
          dsimp only [Pt.U, Pt.locs, Pt.cells, Pt.slots] at X82 l82 y82 z82 st82 hQ82
          subst l82 y82 z82
          obtain ⟨rfl, N82, Z82, K82, B1, cap1, f1, H82, hf1, hf2, geB1, hor⟩ := hQ82
          refine own_gs (B := T82.setTop (mkF m 122 #[.val (.int gi), .val (.int pi), .val (.int qi), .val (.int mi), .val (.ref a40), .val (.ref a42), .val (.int kI), .val (.int pv), .val (.int cv), .val (.int ov), .val (.int x1), .val (.int x2), .val (.ref a55), .val (.int (0 : Int32)), .unset, .unset, .unset] [])) st82 ?_
          have M82 := Fr.app N45 N82
          have S2 := S0.step K82 Z82 H82 geB1 hor
          refine own_go (B := T82.setTop (mkF m 124 #[.val (.int gi), .val (.int pi), .val (.int qi), .val (.int mi), .val (.ref a40), .val (.ref a42), .val (.int kI), .val (.int pv), .val (.int cv), .val (.int ov), .val (.int x1), .val (.int x2), .val (.ref a55), .val (.int (0 : Int32)), .unset, .unset, .unset] [(.int cv)])) (fun _ hr => XS.iload X82.here hx rfl (hb hby at_122) rfl hr) ?_
          by_cases c83 : cv = 0
          · refine own_go (B := T82.setTop (mkF m 127 #[.val (.int gi), .val (.int pi), .val (.int qi), .val (.int mi), .val (.ref a40), .val (.ref a42), .val (.int kI), .val (.int pv), .val (.int cv), .val (.int ov), .val (.int x1), .val (.int x2), .val (.ref a55), .val (.int (0 : Int32)), .unset, .unset, .unset] [])) (fun _ hr => XS.ifNo X82.here hx rfl (hb hby at_124) rfl (XT.i0_ne_f c83) hr) ?_
            refine own_go (B := T82.setTop (mkF m 129 #[.val (.int gi), .val (.int pi), .val (.int qi), .val (.int mi), .val (.ref a40), .val (.ref a42), .val (.int kI), .val (.int pv), .val (.int cv), .val (.int ov), .val (.int x1), .val (.int x2), .val (.ref a55), .val (.int (0 : Int32)), .unset, .unset, .unset] [(.ref a55)])) (fun _ hr => XS.aload X82.here hx rfl (hb hby at_127) rfl rfl hr) ?_
            refine own_go (B := T82.setTop (mkF m 131 #[.val (.int gi), .val (.int pi), .val (.int qi), .val (.int mi), .val (.ref a40), .val (.ref a42), .val (.int kI), .val (.int pv), .val (.int cv), .val (.int ov), .val (.int x1), .val (.int x2), .val (.ref a55), .val (.int (0 : Int32)), .unset, .unset, .unset] [(.int (0 : Int32)), (.ref a55)])) (fun _ hr => XS.iload X82.here hx rfl (hb hby at_129) rfl hr) ?_
            refine own_go (B := T82.setTop (mkF m 133 #[.val (.int gi), .val (.int pi), .val (.int qi), .val (.int mi), .val (.ref a40), .val (.ref a42), .val (.int kI), .val (.int pv), .val (.int cv), .val (.int ov), .val (.int x1), .val (.int x2), .val (.ref a55), .val (.int (0 : Int32)), .unset, .unset, .unset] [(.int x1), (.int (0 : Int32)), (.ref a55)])) (fun _ hr => XS.iload X82.here hx rfl (hb hby at_131) rfl hr) ?_
            refine own_go (B := T82.setTop (mkF m 134 #[.val (.int gi), .val (.int pi), .val (.int qi), .val (.int mi), .val (.ref a40), .val (.ref a42), .val (.int kI), .val (.int pv), .val (.int cv), .val (.int ov), .val (.int x1), .val (.int x2), .val (.ref a55), .val (.int (0 : Int32)), .unset, .unset, .unset] [(.int (x1.toInt8.toInt32)), (.int (0 : Int32)), (.ref a55)])) (fun _ hr => XT.i2b X82.here hx rfl (hb hby at_133) rfl hr) ?_
            obtain ⟨T84, h84, X84, e84, W84, V84, st84⟩ := own_stB X82 hx hZ rfl S2.2.2.2.1.1 (by decide : (0 : Int32).toInt = ((0 : Nat) : Int)) (by decide) (own_b8 _) (g := (mkF m 134 #[.val (.int gi), .val (.int pi), .val (.int qi), .val (.int mi), .val (.ref a40), .val (.ref a42), .val (.int kI), .val (.int pv), .val (.int cv), .val (.int ov), .val (.int x1), .val (.int x2), .val (.ref a55), .val (.int (0 : Int32)), .unset, .unset, .unset] [(.int (x1.toInt8.toInt32)), (.int (0 : Int32)), (.ref a55)])) rfl rfl (hb hby at_134)
            have N84 := Fr.snoc X84 M82 geE
            refine own_go (B := T84.setTop (mkF m 135 #[.val (.int gi), .val (.int pi), .val (.int qi), .val (.int mi), .val (.ref a40), .val (.ref a42), .val (.int kI), .val (.int pv), .val (.int cv), .val (.int ov), .val (.int x1), .val (.int x2), .val (.ref a55), .val (.int (0 : Int32)), .unset, .unset, .unset] [])) (fun t₂ hr => st84 t₂ hr) ?_
            have S3 := S2.exp (fits_nar_byte _) W84
            refine own_go (B := T84.setTop (mkF m 137 #[.val (.int gi), .val (.int pi), .val (.int qi), .val (.int mi), .val (.ref a40), .val (.ref a42), .val (.int kI), .val (.int pv), .val (.int cv), .val (.int ov), .val (.int x1), .val (.int x2), .val (.ref a55), .val (.int (0 : Int32)), .unset, .unset, .unset] [(.int (0 : Int32))])) (fun _ hr => XS.iload X84.here hx rfl (hb hby at_135) rfl hr) ?_
            refine own_go (B := T84.setTop (mkF m 138 #[.val (.int gi), .val (.int pi), .val (.int qi), .val (.int mi), .val (.ref a40), .val (.ref a42), .val (.int kI), .val (.int pv), .val (.int cv), .val (.int ov), .val (.int x1), .val (.int x2), .val (.ref a55), .val (.int (0 : Int32)), .unset, .unset, .unset] [(.int (1 : Int32)), (.int (0 : Int32))])) (fun _ hr => XT.iconstV X84.here hx rfl (1 : Int32) (hb hby at_137) (by decide) hr) ?_
            refine own_go (B := T84.setTop (mkF m 139 #[.val (.int gi), .val (.int pi), .val (.int qi), .val (.int mi), .val (.ref a40), .val (.ref a42), .val (.int kI), .val (.int pv), .val (.int cv), .val (.int ov), .val (.int x1), .val (.int x2), .val (.ref a55), .val (.int (0 : Int32)), .unset, .unset, .unset] [(.int ((0 : Int32) + (1 : Int32)))])) (fun _ hr => XS.iadd X84.here hx rfl (hb hby at_138) rfl hr) ?_
            refine own_go (B := T84.setTop (mkF m 141 #[.val (.int gi), .val (.int pi), .val (.int qi), .val (.int mi), .val (.ref a40), .val (.ref a42), .val (.int kI), .val (.int pv), .val (.int cv), .val (.int ov), .val (.int x1), .val (.int x2), .val (.ref a55), .val (.int ((0 : Int32) + (1 : Int32))), .unset, .unset, .unset] [])) (fun _ hr => XS.istore X84.here hx rfl (hb hby at_139) rfl (l' := #[.val (.int gi), .val (.int pi), .val (.int qi), .val (.int mi), .val (.ref a40), .val (.ref a42), .val (.int kI), .val (.int pv), .val (.int cv), .val (.int ov), .val (.int x1), .val (.int x2), .val (.ref a55), .val (.int ((0 : Int32) + (1 : Int32))), .unset, .unset, .unset]) rfl hr) ?_
            refine own_go (B := T84.setTop (mkF m 143 #[.val (.int gi), .val (.int pi), .val (.int qi), .val (.int mi), .val (.ref a40), .val (.ref a42), .val (.int kI), .val (.int pv), .val (.int cv), .val (.int ov), .val (.int x1), .val (.int x2), .val (.ref a55), .val (.int ((0 : Int32) + (1 : Int32))), .unset, .unset, .unset] [(.int cv)])) (fun _ hr => XS.iload X84.here hx rfl (hb hby at_141) rfl hr) ?_
            refine own_go (B := T84.setTop (mkF m 151 #[.val (.int gi), .val (.int pi), .val (.int qi), .val (.int mi), .val (.ref a40), .val (.ref a42), .val (.int kI), .val (.int pv), .val (.int cv), .val (.int ov), .val (.int x1), .val (.int x2), .val (.ref a55), .val (.int ((0 : Int32) + (1 : Int32))), .unset, .unset, .unset] [])) (fun _ hr => XS.ifYes X84.here hx rfl (pc0 := 143) (pc' := 151) rfl (hb hby at_143) rfl (XT.i0_eq_t c83) (by decide) (by decide) hr) ?_
            rw [← e84] at S3
            exact stB _ _ (own_more X84 (by decide) (by decide)) N84 _ _ _ _ _ S3 _ (by decide) (fun i hi => by obtain rfl : i = 0 := (by omega); rw [if_pos rfl]; exact hf2.symm) (by omega)
          · refine own_go (B := T82.setTop (mkF m 141 #[.val (.int gi), .val (.int pi), .val (.int qi), .val (.int mi), .val (.ref a40), .val (.ref a42), .val (.int kI), .val (.int pv), .val (.int cv), .val (.int ov), .val (.int x1), .val (.int x2), .val (.ref a55), .val (.int (0 : Int32)), .unset, .unset, .unset] [])) (fun _ hr => XS.ifYes X82.here hx rfl (pc0 := 124) (pc' := 141) rfl (hb hby at_124) rfl (XT.i0_ne_t c83) (by decide) (by decide) hr) ?_
            refine own_go (B := T82.setTop (mkF m 143 #[.val (.int gi), .val (.int pi), .val (.int qi), .val (.int mi), .val (.ref a40), .val (.ref a42), .val (.int kI), .val (.int pv), .val (.int cv), .val (.int ov), .val (.int x1), .val (.int x2), .val (.ref a55), .val (.int (0 : Int32)), .unset, .unset, .unset] [(.int cv)])) (fun _ hr => XS.iload X82.here hx rfl (hb hby at_141) rfl hr) ?_
            refine own_go (B := T82.setTop (mkF m 146 #[.val (.int gi), .val (.int pi), .val (.int qi), .val (.int mi), .val (.ref a40), .val (.ref a42), .val (.int kI), .val (.int pv), .val (.int cv), .val (.int ov), .val (.int x1), .val (.int x2), .val (.ref a55), .val (.int (0 : Int32)), .unset, .unset, .unset] [])) (fun _ hr => XS.ifNo X82.here hx rfl (hb hby at_143) rfl (XT.i0_eq_f c83) hr) ?_
            refine own_go (B := T82.setTop (mkF m 148 #[.val (.int gi), .val (.int pi), .val (.int qi), .val (.int mi), .val (.ref a40), .val (.ref a42), .val (.int kI), .val (.int pv), .val (.int cv), .val (.int ov), .val (.int x1), .val (.int x2), .val (.ref a55), .val (.int (0 : Int32)), .unset, .unset, .unset] [(.ref a40)])) (fun _ hr => XS.aload X82.here hx rfl (hb hby at_146) rfl rfl hr) ?_
            obtain ⟨cq85, kq85, qa85, qb85, qc85⟩ := isOf hZ rfl S2.2.1.1
            obtain ⟨_, _, ⟨T85, L85, k85, n85⟩, -, X85, ⟨Lc85, hQ85, l85, y85, z85⟩, st85⟩ := X82.virtualBack hx (y := (⟨"com/example/chronaero/chronaero/Utf8Text", "clear", "()V"⟩ : MethodName)) (z := (⟨"com/example/chronaero/chronaero/Utf8Text", "clear", "()V"⟩ : MethodName)) hown (mvT hZ (hw _ (List.mem_of_getElem? (i := 62) rfl))) (mvT hZ (hw _ (List.mem_of_getElem? (i := 63) rfl))) (notFace_of_selects (args := #[]) (mvT hZ (hw _ (List.mem_of_getElem? (i := 65) rfl)))) (mvT hZ (hw _ (List.mem_of_getElem? (i := 65) rfl))) (mvT hZ (hw _ (List.mem_of_getElem? (i := 64) rfl))) (by decide) (backOf (W := 0) (rm_clear l Z a0 hw [] a40 B1 cap1 _ f1 T82.heap n0 S2.1 S2.2.1 ge) hZ (hw _ (List.mem_of_getElem? (i := 66) rfl)) (hw _ (List.mem_of_getElem? (i := 2) rfl)) (by decide) (by decide)) qa85 qc85 (g := (mkF m 148 #[.val (.int gi), .val (.int pi), .val (.int qi), .val (.int mi), .val (.ref a40), .val (.ref a42), .val (.int kI), .val (.int pv), .val (.int cv), .val (.int ov), .val (.int x1), .val (.int x2), .val (.ref a55), .val (.int (0 : Int32)), .unset, .unset, .unset] [(.ref a40)])) rfl (by rw [hml]; rfl) (Steps.refl _) (argsL := []) (rest := []) (lenOf pd_clear rfl) rfl (by show 2 * 0 + _ ≤ _; exact Nat.le_of_eq rfl) (hb hby at_148) (fun _ _ => ⟨rfl, rfl, (by decide : 5 + 0 ≤ _), (by decide : 26 + 0 ≤ _)⟩)
            dsimp only [Pt.U, Pt.locs, Pt.cells, Pt.slots] at X85 l85 y85 z85 st85 hQ85
            subst l85 y85 z85
            obtain ⟨rfl, N85, Z85, K85, H85⟩ := hQ85
            refine own_gs (B := T85.setTop (mkF m 151 #[.val (.int gi), .val (.int pi), .val (.int qi), .val (.int mi), .val (.ref a40), .val (.ref a42), .val (.int kI), .val (.int pv), .val (.int cv), .val (.int ov), .val (.int x1), .val (.int x2), .val (.ref a55), .val (.int (0 : Int32)), .unset, .unset, .unset] [])) st85 ?_
            have M85 := Fr.app M82 N85
            have S9 := S2.step (own_keepw K85) Z85 H85 S2.2.2.2.2.2.2.2.2.2 (Or.inl rfl)
            exact stB _ _ (own_more X85 (by decide) (by decide)) M85 _ _ _ _ _ S9 _ (by decide) (fun i hi => absurd hi (by omega)) (by omega)
      refine own_go (B := T45.setTop (mkF m 72 #[.val (.int gi), .val (.int pi), .val (.int qi), .val (.int mi), .val (.ref a40), .val (.ref a42), .val (.int kI), .val (.int pv), .val (.int cv), .unset, .unset, .unset, .unset, .unset, .unset, .unset, .unset] [(.int mi)])) (fun _ hr => XS.iloadN X45.here hx rfl (hb hby at_71) rfl hr) ?_
      refine own_go (B := T45.setTop (mkF m 74 #[.val (.int gi), .val (.int pi), .val (.int qi), .val (.int mi), .val (.ref a40), .val (.ref a42), .val (.int kI), .val (.int pv), .val (.int cv), .unset, .unset, .unset, .unset, .unset, .unset, .unset, .unset] [(.int (16 : Int32)), (.int mi)])) (fun _ hr => XT.bipushV X45.here hx rfl (16 : Int32) (hb hby at_72) (by decide) hr) ?_
      refine own_go (B := T45.setTop (mkF m 75 #[.val (.int gi), .val (.int pi), .val (.int qi), .val (.int mi), .val (.ref a40), .val (.ref a42), .val (.int kI), .val (.int pv), .val (.int cv), .unset, .unset, .unset, .unset, .unset, .unset, .unset, .unset] [(.int (mi &&& (16 : Int32)))])) (fun _ hr => XS.iand X45.here hx rfl (hb hby at_74) rfl hr) ?_
      by_cases c86 : (mi &&& (16 : Int32)) = 0
      · refine own_go (B := T45.setTop (mkF m 82 #[.val (.int gi), .val (.int pi), .val (.int qi), .val (.int mi), .val (.ref a40), .val (.ref a42), .val (.int kI), .val (.int pv), .val (.int cv), .unset, .unset, .unset, .unset, .unset, .unset, .unset, .unset] [])) (fun _ hr => XS.ifYes X45.here hx rfl (pc0 := 75) (pc' := 82) rfl (hb hby at_75) rfl (XT.i0_eq_t c86) (by decide) (by decide) hr) ?_
        refine own_go (B := T45.setTop (mkF m 83 #[.val (.int gi), .val (.int pi), .val (.int qi), .val (.int mi), .val (.ref a40), .val (.ref a42), .val (.int kI), .val (.int pv), .val (.int cv), .unset, .unset, .unset, .unset, .unset, .unset, .unset, .unset] [(.int (0 : Int32))])) (fun _ hr => XT.iconstV X45.here hx rfl (0 : Int32) (hb hby at_82) (by decide) hr) ?_
        have q : (own_post mi) = (0 : Int32) := by simp only [own_post, if_pos c86]
        rw [q] at hk54
        exact hk54
      · refine own_go (B := T45.setTop (mkF m 78 #[.val (.int gi), .val (.int pi), .val (.int qi), .val (.int mi), .val (.ref a40), .val (.ref a42), .val (.int kI), .val (.int pv), .val (.int cv), .unset, .unset, .unset, .unset, .unset, .unset, .unset, .unset] [])) (fun _ hr => XS.ifNo X45.here hx rfl (hb hby at_75) rfl (XT.i0_eq_f c86) hr) ?_
        refine own_go (B := T45.setTop (mkF m 79 #[.val (.int gi), .val (.int pi), .val (.int qi), .val (.int mi), .val (.ref a40), .val (.ref a42), .val (.int kI), .val (.int pv), .val (.int cv), .unset, .unset, .unset, .unset, .unset, .unset, .unset, .unset] [(.int (1 : Int32))])) (fun _ hr => XT.iconstV X45.here hx rfl (1 : Int32) (hb hby at_78) (by decide) hr) ?_
        refine own_go (B := T45.setTop (mkF m 83 #[.val (.int gi), .val (.int pi), .val (.int qi), .val (.int mi), .val (.ref a40), .val (.ref a42), .val (.int kI), .val (.int pv), .val (.int cv), .unset, .unset, .unset, .unset, .unset, .unset, .unset, .unset] [(.int (1 : Int32))])) (fun _ hr => XS.goto X45.here hx rfl (pc0 := 79) (pc' := 83) rfl (hb hby at_79) (by decide) (by decide) hr) ?_
        have q : (own_post mi) = (1 : Int32) := by simp only [own_post, if_neg c86]
        rw [q] at hk54
        exact hk54
    refine own_go (B := T45.setTop (mkF m 58 #[.val (.int gi), .val (.int pi), .val (.int qi), .val (.int mi), .val (.ref a40), .val (.ref a42), .val (.int kI), .val (.int pv), .unset, .unset, .unset, .unset, .unset, .unset, .unset, .unset, .unset] [(.int mi)])) (fun _ hr => XS.iloadN X45.here hx rfl (hb hby at_57) rfl hr) ?_
    refine own_go (B := T45.setTop (mkF m 60 #[.val (.int gi), .val (.int pi), .val (.int qi), .val (.int mi), .val (.ref a40), .val (.ref a42), .val (.int kI), .val (.int pv), .unset, .unset, .unset, .unset, .unset, .unset, .unset, .unset, .unset] [(.int (8 : Int32)), (.int mi)])) (fun _ hr => XT.bipushV X45.here hx rfl (8 : Int32) (hb hby at_58) (by decide) hr) ?_
    refine own_go (B := T45.setTop (mkF m 61 #[.val (.int gi), .val (.int pi), .val (.int qi), .val (.int mi), .val (.ref a40), .val (.ref a42), .val (.int kI), .val (.int pv), .unset, .unset, .unset, .unset, .unset, .unset, .unset, .unset, .unset] [(.int (mi &&& (8 : Int32)))])) (fun _ hr => XS.iand X45.here hx rfl (hb hby at_60) rfl hr) ?_
    by_cases c87 : (mi &&& (8 : Int32)) = 0
    · refine own_go (B := T45.setTop (mkF m 68 #[.val (.int gi), .val (.int pi), .val (.int qi), .val (.int mi), .val (.ref a40), .val (.ref a42), .val (.int kI), .val (.int pv), .unset, .unset, .unset, .unset, .unset, .unset, .unset, .unset, .unset] [])) (fun _ hr => XS.ifYes X45.here hx rfl (pc0 := 61) (pc' := 68) rfl (hb hby at_61) rfl (XT.i0_eq_t c87) (by decide) (by decide) hr) ?_
      refine own_go (B := T45.setTop (mkF m 69 #[.val (.int gi), .val (.int pi), .val (.int qi), .val (.int mi), .val (.ref a40), .val (.ref a42), .val (.int kI), .val (.int pv), .unset, .unset, .unset, .unset, .unset, .unset, .unset, .unset, .unset] [(.int (0 : Int32))])) (fun _ hr => XT.iconstV X45.here hx rfl (0 : Int32) (hb hby at_68) (by decide) hr) ?_
      have q : (own_clr mi) = (0 : Int32) := by simp only [own_clr, if_pos c87]
      rw [q] at hk51
      exact hk51
    · refine own_go (B := T45.setTop (mkF m 64 #[.val (.int gi), .val (.int pi), .val (.int qi), .val (.int mi), .val (.ref a40), .val (.ref a42), .val (.int kI), .val (.int pv), .unset, .unset, .unset, .unset, .unset, .unset, .unset, .unset, .unset] [])) (fun _ hr => XS.ifNo X45.here hx rfl (hb hby at_61) rfl (XT.i0_eq_f c87) hr) ?_
      refine own_go (B := T45.setTop (mkF m 65 #[.val (.int gi), .val (.int pi), .val (.int qi), .val (.int mi), .val (.ref a40), .val (.ref a42), .val (.int kI), .val (.int pv), .unset, .unset, .unset, .unset, .unset, .unset, .unset, .unset, .unset] [(.int (1 : Int32))])) (fun _ hr => XT.iconstV X45.here hx rfl (1 : Int32) (hb hby at_64) (by decide) hr) ?_
      refine own_go (B := T45.setTop (mkF m 69 #[.val (.int gi), .val (.int pi), .val (.int qi), .val (.int mi), .val (.ref a40), .val (.ref a42), .val (.int kI), .val (.int pv), .unset, .unset, .unset, .unset, .unset, .unset, .unset, .unset, .unset] [(.int (1 : Int32))])) (fun _ hr => XS.goto X45.here hx rfl (pc0 := 65) (pc' := 69) rfl (hb hby at_65) (by decide) (by decide) hr) ?_
      have q : (own_clr mi) = (1 : Int32) := by simp only [own_clr, if_neg c87]
      rw [q] at hk51
      exact hk51
  refine own_go (B := T45.setTop (mkF m 45 #[.val (.int gi), .val (.int pi), .val (.int qi), .val (.int mi), .val (.ref a40), .val (.ref a42), .val (.int kI), .unset, .unset, .unset, .unset, .unset, .unset, .unset, .unset, .unset, .unset] [(.int mi)])) (fun _ hr => XS.iloadN X45.here hx rfl (hb hby at_44) rfl hr) ?_
  refine own_go (B := T45.setTop (mkF m 46 #[.val (.int gi), .val (.int pi), .val (.int qi), .val (.int mi), .val (.ref a40), .val (.ref a42), .val (.int kI), .unset, .unset, .unset, .unset, .unset, .unset, .unset, .unset, .unset, .unset] [(.int (4 : Int32)), (.int mi)])) (fun _ hr => XT.iconstV X45.here hx rfl (4 : Int32) (hb hby at_45) (by decide) hr) ?_
  refine own_go (B := T45.setTop (mkF m 47 #[.val (.int gi), .val (.int pi), .val (.int qi), .val (.int mi), .val (.ref a40), .val (.ref a42), .val (.int kI), .unset, .unset, .unset, .unset, .unset, .unset, .unset, .unset, .unset, .unset] [(.int (mi &&& (4 : Int32)))])) (fun _ hr => XS.iand X45.here hx rfl (hb hby at_46) rfl hr) ?_
  by_cases c88 : (mi &&& (4 : Int32)) = 0
  · refine own_go (B := T45.setTop (mkF m 54 #[.val (.int gi), .val (.int pi), .val (.int qi), .val (.int mi), .val (.ref a40), .val (.ref a42), .val (.int kI), .unset, .unset, .unset, .unset, .unset, .unset, .unset, .unset, .unset, .unset] [])) (fun _ hr => XS.ifYes X45.here hx rfl (pc0 := 47) (pc' := 54) rfl (hb hby at_47) rfl (XT.i0_eq_t c88) (by decide) (by decide) hr) ?_
    refine own_go (B := T45.setTop (mkF m 55 #[.val (.int gi), .val (.int pi), .val (.int qi), .val (.int mi), .val (.ref a40), .val (.ref a42), .val (.int kI), .unset, .unset, .unset, .unset, .unset, .unset, .unset, .unset, .unset, .unset] [(.int (0 : Int32))])) (fun _ hr => XT.iconstV X45.here hx rfl (0 : Int32) (hb hby at_54) (by decide) hr) ?_
    have q : (own_pre mi) = (0 : Int32) := by simp only [own_pre, if_pos c88]
    rw [q] at hk48
    exact hk48
  · refine own_go (B := T45.setTop (mkF m 50 #[.val (.int gi), .val (.int pi), .val (.int qi), .val (.int mi), .val (.ref a40), .val (.ref a42), .val (.int kI), .unset, .unset, .unset, .unset, .unset, .unset, .unset, .unset, .unset, .unset] [])) (fun _ hr => XS.ifNo X45.here hx rfl (hb hby at_47) rfl (XT.i0_eq_f c88) hr) ?_
    refine own_go (B := T45.setTop (mkF m 51 #[.val (.int gi), .val (.int pi), .val (.int qi), .val (.int mi), .val (.ref a40), .val (.ref a42), .val (.int kI), .unset, .unset, .unset, .unset, .unset, .unset, .unset, .unset, .unset, .unset] [(.int (1 : Int32))])) (fun _ hr => XT.iconstV X45.here hx rfl (1 : Int32) (hb hby at_50) (by decide) hr) ?_
    refine own_go (B := T45.setTop (mkF m 55 #[.val (.int gi), .val (.int pi), .val (.int qi), .val (.int mi), .val (.ref a40), .val (.ref a42), .val (.int kI), .unset, .unset, .unset, .unset, .unset, .unset, .unset, .unset, .unset, .unset] [(.int (1 : Int32))])) (fun _ hr => XS.goto X45.here hx rfl (pc0 := 51) (pc' := 55) rfl (hb hby at_51) (by decide) (by decide) hr) ?_
    have q : (own_pre mi) = (1 : Int32) := by simp only [own_pre, if_neg c88]
    rw [q] at hk48
    exact hk48
set_option maxRecDepth 65536 in
set_option maxHeartbeats 40000000 in
theorem comes_1 {Post : Tables → Env → Array Value → State → Outcome → State → Prop} (hpost : ∀ tb e args s v u, (limb_1_1.after args s (.returned v) u = true ∧ limb_1_2.after args s (.returned v) u = true ∧ True) → FrameEnd s (.returned v) u (Jvm.fieldLocs frame_1_writes args s ++ Jvm.arrayLocs frame_1_arrays args s ++ Jvm.staticLocs frame_1_statics s) 32 192 → Post tb e args s (.returned v) u) :
    ArmFor flags0 classFile x code maxLocals ret World_1 tables_1 room_1 Calls_1 rest_1 Pre_1 Post := by
  intro l hfl _ _ p e ha hc hk s m args below hf hA hF happ hP
  obtain ⟨hcalls, hrest, hpre⟩ := hP
  obtain ⟨-, -, -, hnamed, -, -, -, hat⟩ := (Spec.applies_iff hf).mp happ
  obtain ⟨hg, hn⟩ := and_e (Cond.before_iff.mp (show (Jvm.Cond.and given_1 narrow_1).before args s = true from hpre))
  obtain ⟨h1, g0⟩ := and_e hg
  obtain ⟨f0, g1⟩ := and_e g0
  obtain ⟨f1, g2⟩ := and_e g1
  obtain ⟨f2, g3⟩ := and_e g2
  obtain ⟨w0, w1, w2, w3, rfl⟩ : ∃ w0 w1 w2 w3 : Value, args = #[w0, w1, w2, w3] := by
    have hs : args.size = 4 := by simpa [Cond.value, given_1] using h1
    obtain ⟨L⟩ := args
    match L, hs with
    | [w0, w1, w2, w3], _ => exact ⟨w0, w1, w2, w3, rfl⟩
  have hw := fun d (hd : d ∈ tables_1) => atoms_spec (ws := Jvm.Cond.code x code maxLocals ret :: tables_1) hat d (List.mem_cons_of_mem _ hd)
  obtain ⟨i0, q0⟩ := is_v f0
  obtain rfl : w0 = (.int i0) := Option.some.inj q0
  obtain ⟨i1, q1⟩ := is_v f1
  obtain rfl : w1 = (.int i1) := Option.some.inj q1
  obtain ⟨i2, q2⟩ := is_v f2
  obtain rfl : w2 = (.int i2) := Option.some.inj q2
  obtain ⟨i3, q3⟩ := is_v g3
  obtain rfl : w3 = (.int i3) := Option.some.inj q3
  obtain ⟨n, o, h1, h2, h3, _, L, rfl, ⟨rfl, N⟩, hq⟩ := rm_law l s _ hw tables_1 i0 i1 i2 i3 s.heap s.heap.size (Nat.le_refl _) p e ha hc hk s m _ below hf ((Spec.applies_iff_loose hf).mp happ).1 ⟨rfl, State.Warmed39.refl s, rfl⟩ trivial
  refine ⟨n, _, h1, h2, h3, hpost _ _ _ _ _ _ ⟨Cond.after_iff.mpr rfl, Cond.after_iff.mpr (eq_i res_at (Term.int_eval (1)) rfl), trivial⟩ ⟨hq.1, hq.2.1, (hq.2.2.sift fun y hy => Or.inr (N y hy)).mono (by decide) (by decide)⟩⟩
theorem main_1_1 : Claimed_1_1 := comes_1 fun _ _ _ _ _ _ h hF => ⟨h.1, hF⟩
theorem main_1_2 : Claimed_1_2 := comes_1 fun _ _ _ _ _ _ h hF => ⟨h.2.1, hF⟩
end Jvm.Pilot.@@N@@
namespace Jvm.Pilot.@@N@@
open Jvm Jvm.ClassFile Sem Op Lib Jvm.Free Jvm.Stand Jvm.Pilot.@@N@@.Jvm.D
/-! MADE BY PROGRAM (witnessworld.py) out of the Statement's table words and the real class files: 12 classes; the members and pool entries that the words name. The judged class is class 1, her method 1. -/
namespace start1
open Jvm.ClassFile
def u (s : String) : CpInfo := .utf8 (stringToUtf16 s)
/-- a pool by its gaps: so many unusable entries, then the entry; so many at the end -/
def gap : Nat → List CpInfo → List CpInfo
  | 0, r => r
  | n + 1, r => .unusable :: gap n r
def poolList (es : List (Nat × CpInfo)) (last : Nat) : List CpInfo := es.foldr (fun e r => gap e.1 (e.2 :: r)) (gap last [])
def pool (es : List (Nat × CpInfo)) (last : Nat) : Array CpInfo := ⟨poolList es last⟩
def fileOf (pool : Array CpInfo) (this : Nat) (attrs : Array Attribute := #[]) (ms : Array MethodInfo := #[]) (fl : Nat := 33) (sup : Nat := 0) (ifs : Array Nat := #[]) (fds : Array FieldInfo := #[]) : ClassFile where
  minorVersion := 0
  majorVersion := 65
  constantPool := pool
  accessFlags := fl
  thisClass := this
  superClass := sup
  interfaces := ifs
  fields := fds
  methods := ms
  attributes := attrs
def plain (name : String) (sup : Option ClassId) : Class where
  name := name
  kind := .ordinary
  loader := none
  accessFlags := 33
  super := sup
  interfaces := #[]
  cf := none
  fields := #[]
  methods := #[]
  instanceTypes := #[]
  staticTypes := #[]
  resolved := #[]
  callSites := []
  init := .initialized
  statics := none
  mirror := none

def pool0 : Array CpInfo := pool [(5, u "<init>"), (0, u "()V"), (1, .class_ 10), (1, u "java/lang/Object"), (85, u "clone"), (0, u "()Ljava/lang/Object;")] 26

def k0c0 : Code := { maxStack := 0, maxLocals := 1, code := object_method_1_code, exceptionTable := #[], attributes := #[] }
def k0m0 : Method := { name := "<init>", desc := "()V", sig := { parameters := [], returnType := none }, accessFlags := 1, code := some k0c0 }
def k0m1 : Method := { name := "clone", desc := "()Ljava/lang/Object;", sig := { parameters := [], returnType := some (.object "java/lang/Object") }, accessFlags := 260, code := none }
/-- java/lang/Object -/
def k0 : Class := { plain "java/lang/Object" none with
  accessFlags := 33
  interfaces := #[]
  cf := some (fileOf pool0 8 #[] #[{ accessFlags := 1, nameIndex := 5, descriptorIndex := 6, attributes := #[] }, { accessFlags := 260, nameIndex := 96, descriptorIndex := 97, attributes := #[] }] 33 0 #[] #[])
  fields := #[]
  methods := #[k0m0, k0m1]
  instanceTypes := #[]
  staticTypes := #[]
  resolved := Array.replicate 124 none
  statics := none }

def pool1 : Array CpInfo := pool [(2, .class_ 4), (1, u "java/lang/Object"), (0, u "<init>"), (0, u "()V"), (0, .class_ 8), (0, u "com/example/chronaero/chronaero/Utf8Text"), (0, .methodref 7 10), (0, .nameAndType 5 11), (0, u "(I)V"), (0, .methodref 7 13), (0, .nameAndType 14 15), (0, u "append"), (0, u "(C)V"), (0, .methodref 7 17), (0, .nameAndType 18 6), (0, u "clear"), (0, .methodref 7 20), (0, .nameAndType 14 21), (0, u "([BII)V"), (0, .methodref 7 23), (0, .nameAndType 24 25), (0, u "toArray"), (0, u "()[B"), (0, .methodref 7 27), (0, .nameAndType 28 29), (0, u "length"), (0, u "()I"), (0, .methodref 31 32), (0, .class_ 33), (0, .nameAndType 34 35), (0, u "com/example/chronaero/chronaero/Utf8TextToArrayPinLaw"), (0, u "at"), (0, u "([B[BI)Z"), (2, u "law"), (0, u "(IIII)Z")] 5

def k1m0 : Method := { name := "<init>", desc := "()V", sig := { parameters := [], returnType := none }, accessFlags := 1, code := none }
def k1c1 : Code := { maxStack := 5, maxLocals := 17, code := code, exceptionTable := #[], attributes := #[] }
def k1m1 : Method := { name := "law", desc := "(IIII)Z", sig := { parameters := [.int, .int, .int, .int], returnType := some .boolean }, accessFlags := 9, code := some k1c1 }
def k1c2 : Code := { maxStack := 3, maxLocals := 3, code := method_3_code, exceptionTable := #[], attributes := #[] }
def k1m2 : Method := { name := "at", desc := "([B[BI)Z", sig := { parameters := [(.array .byte), (.array .byte), .int], returnType := some .boolean }, accessFlags := 10, code := some k1c2 }
/-- com/example/chronaero/chronaero/Utf8TextToArrayPinLaw -/
def k1 : Class := { plain "com/example/chronaero/chronaero/Utf8TextToArrayPinLaw" (some 0) with
  accessFlags := 49
  interfaces := #[]
  cf := some (fileOf pool1 31 #[] #[{ accessFlags := 1, nameIndex := 5, descriptorIndex := 6, attributes := #[] }, { accessFlags := 9, nameIndex := 38, descriptorIndex := 39, attributes := #[] }, { accessFlags := 10, nameIndex := 34, descriptorIndex := 35, attributes := #[] }] 49 2 #[] #[])
  fields := #[]
  methods := #[k1m0, k1m1, k1m2]
  instanceTypes := #[]
  staticTypes := #[]
  resolved := Array.replicate 45 none
  statics := none }

def pool2 : Array CpInfo := pool [(1, .methodref 2 3), (0, .class_ 4), (0, .nameAndType 5 6), (0, u "java/lang/Object"), (0, u "<init>"), (0, u "()V"), (0, .fieldref 8 9), (0, .class_ 10), (0, .nameAndType 11 12), (0, u "com/example/chronaero/chronaero/Utf8Text"), (0, u "bytes"), (0, u "[B"), (0, .fieldref 8 14), (0, .nameAndType 15 16), (0, u "length"), (0, u "I"), (0, .methodref 8 18), (0, .nameAndType 19 20), (0, u "room"), (0, u "(I)V"), (4, u "()I"), (2, u "append"), (22, .methodref 52 53), (0, .class_ 54), (0, .nameAndType 55 56), (0, u "java/lang/System"), (0, u "arraycopy"), (0, u "(Ljava/lang/Object;ILjava/lang/Object;II)V"), (1, .class_ 60), (1, u "java/util/Arrays"), (2, .methodref 58 64), (0, .nameAndType 65 66), (0, u "copyOf"), (0, u "([BI)[B"), (5, u "([BII)V"), (9, .methodref 83 84), (0, .class_ 85), (0, .nameAndType 86 87), (0, u "java/lang/Math"), (0, u "max"), (0, u "(II)I"), (2, u "clear"), (0, u "(C)V"), (8, u "toArray"), (0, u "()[B")] 6

def k2c0 : Code := { maxStack := 2, maxLocals := 2, code := prog_69_method_1_code, exceptionTable := #[], attributes := #[] }
def k2m0 : Method := { name := "<init>", desc := "(I)V", sig := { parameters := [.int], returnType := none }, accessFlags := 0, code := some k2c0 }
def k2c1 : Code := { maxStack := 1, maxLocals := 1, code := prog_69_method_2_code, exceptionTable := #[], attributes := #[] }
def k2m1 : Method := { name := "length", desc := "()I", sig := { parameters := [], returnType := some .int }, accessFlags := 0, code := some k2c1 }
def k2c2 : Code := { maxStack := 2, maxLocals := 1, code := prog_69_method_3_code, exceptionTable := #[], attributes := #[] }
def k2m2 : Method := { name := "clear", desc := "()V", sig := { parameters := [], returnType := none }, accessFlags := 0, code := some k2c2 }
def k2c3 : Code := { maxStack := 5, maxLocals := 2, code := prog_69_method_4_code, exceptionTable := #[], attributes := #[] }
def k2m3 : Method := { name := "append", desc := "(C)V", sig := { parameters := [.char], returnType := none }, accessFlags := 0, code := some k2c3 }
def k2c4 : Code := { maxStack := 6, maxLocals := 4, code := prog_69_method_9_code, exceptionTable := #[], attributes := #[] }
def k2m4 : Method := { name := "append", desc := "([BII)V", sig := { parameters := [(.array .byte), .int, .int], returnType := none }, accessFlags := 0, code := some k2c4 }
def k2c5 : Code := { maxStack := 2, maxLocals := 1, code := prog_69_method_11_code, exceptionTable := #[], attributes := #[] }
def k2m5 : Method := { name := "toArray", desc := "()[B", sig := { parameters := [], returnType := some (.array .byte) }, accessFlags := 0, code := some k2c5 }
def k2c6 : Code := { maxStack := 5, maxLocals := 2, code := prog_69_method_14_code, exceptionTable := #[], attributes := #[] }
def k2m6 : Method := { name := "room", desc := "(I)V", sig := { parameters := [.int], returnType := none }, accessFlags := 2, code := some k2c6 }
/-- com/example/chronaero/chronaero/Utf8Text -/
def k2 : Class := { plain "com/example/chronaero/chronaero/Utf8Text" (some 0) with
  accessFlags := 48
  interfaces := #[]
  cf := some (fileOf pool2 8 #[] #[{ accessFlags := 0, nameIndex := 5, descriptorIndex := 20, attributes := #[] }, { accessFlags := 0, nameIndex := 15, descriptorIndex := 25, attributes := #[] }, { accessFlags := 0, nameIndex := 90, descriptorIndex := 6, attributes := #[] }, { accessFlags := 0, nameIndex := 28, descriptorIndex := 91, attributes := #[] }, { accessFlags := 0, nameIndex := 28, descriptorIndex := 72, attributes := #[] }, { accessFlags := 0, nameIndex := 100, descriptorIndex := 101, attributes := #[] }, { accessFlags := 2, nameIndex := 19, descriptorIndex := 20, attributes := #[] }] 48 2 #[] #[{ accessFlags := 2, nameIndex := 11, descriptorIndex := 12, attributes := #[] }, { accessFlags := 2, nameIndex := 15, descriptorIndex := 16, attributes := #[] }])
  fields := #[{ name := "bytes", type := (.array .byte), accessFlags := 2, slot := 0, constantValue := 0 }, { name := "length", type := .int, accessFlags := 2, slot := 1, constantValue := 0 }]
  methods := #[k2m0, k2m1, k2m2, k2m3, k2m4, k2m5, k2m6]
  instanceTypes := #[(.array .byte), .int]
  staticTypes := #[]
  resolved := Array.replicate 108 none
  statics := none }

def pool3 : Array CpInfo := pool [(1, .class_ 2), (0, u "java/lang/Math"), (1, .class_ 6), (1, u "java/lang/Object"), (0, u "<init>"), (0, u "()V"), (89, .class_ 100), (1, u "java/lang/Math$RandomNumberGeneratorHolder"), (71, u "negativeZeroFloatBits"), (0, u "J"), (2, u "negativeZeroDoubleBits"), (21, u "max"), (2, u "min"), (43, u "$assertionsDisabled"), (0, u "Z"), (88, u "(II)I"), (2, u "twoToTheDoubleScaleDown"), (0, u "D"), (4, u "twoToTheDoubleScaleUp"), (9, u "E"), (3, u "PI"), (2, u "TAU"), (2, u "DEGREES_TO_RADIANS"), (0, u "RADIANS_TO_DEGREES")] 94

def k3m0 : Method := { name := "<init>", desc := "()V", sig := { parameters := [], returnType := none }, accessFlags := 2, code := none }
def k3c1 : Code := { maxStack := 2, maxLocals := 2, code := jdk_29_method_65_code, exceptionTable := #[], attributes := #[] }
def k3m1 : Method := { name := "max", desc := "(II)I", sig := { parameters := [.int, .int], returnType := some .int }, accessFlags := 9, code := some k3c1 }
def k3c2 : Code := { maxStack := 2, maxLocals := 2, code := jdk_29_method_69_code, exceptionTable := #[], attributes := #[] }
def k3m2 : Method := { name := "min", desc := "(II)I", sig := { parameters := [.int, .int], returnType := some .int }, accessFlags := 9, code := some k3c2 }
/-- java/lang/Math -/
def k3 : Class := { plain "java/lang/Math" (some 0) with
  accessFlags := 49
  interfaces := #[]
  cf := some (fileOf pool3 1 #[.nestMembers #[98]] #[{ accessFlags := 2, nameIndex := 7, descriptorIndex := 8, attributes := #[] }, { accessFlags := 9, nameIndex := 198, descriptorIndex := 335, attributes := #[] }, { accessFlags := 9, nameIndex := 201, descriptorIndex := 335, attributes := #[] }] 49 4 #[] #[{ accessFlags := 25, nameIndex := 354, descriptorIndex := 339, attributes := #[] }, { accessFlags := 25, nameIndex := 358, descriptorIndex := 339, attributes := #[] }, { accessFlags := 25, nameIndex := 361, descriptorIndex := 339, attributes := #[] }, { accessFlags := 26, nameIndex := 364, descriptorIndex := 339, attributes := #[] }, { accessFlags := 26, nameIndex := 365, descriptorIndex := 339, attributes := #[] }, { accessFlags := 26, nameIndex := 172, descriptorIndex := 173, attributes := #[] }, { accessFlags := 26, nameIndex := 176, descriptorIndex := 173, attributes := #[] }, { accessFlags := 8, nameIndex := 344, descriptorIndex := 339, attributes := #[] }, { accessFlags := 8, nameIndex := 338, descriptorIndex := 339, attributes := #[] }, { accessFlags := 4120, nameIndex := 245, descriptorIndex := 246, attributes := #[] }])
  fields := #[{ name := "E", type := .double, accessFlags := 25, slot := 0, constantValue := 0 }, { name := "PI", type := .double, accessFlags := 25, slot := 1, constantValue := 0 }, { name := "TAU", type := .double, accessFlags := 25, slot := 2, constantValue := 0 }, { name := "DEGREES_TO_RADIANS", type := .double, accessFlags := 26, slot := 3, constantValue := 0 }, { name := "RADIANS_TO_DEGREES", type := .double, accessFlags := 26, slot := 4, constantValue := 0 }, { name := "negativeZeroFloatBits", type := .long, accessFlags := 26, slot := 5, constantValue := 0 }, { name := "negativeZeroDoubleBits", type := .long, accessFlags := 26, slot := 6, constantValue := 0 }, { name := "twoToTheDoubleScaleUp", type := .double, accessFlags := 8, slot := 7, constantValue := 0 }, { name := "twoToTheDoubleScaleDown", type := .double, accessFlags := 8, slot := 8, constantValue := 0 }, { name := "$assertionsDisabled", type := .boolean, accessFlags := 4120, slot := 9, constantValue := 0 }]
  methods := #[k3m0, k3m1, k3m2]
  instanceTypes := #[]
  staticTypes := #[.double, .double, .double, .double, .double, .long, .long, .double, .double, .boolean]
  resolved := Array.replicate 460 none
  statics := none }

def pool4 : Array CpInfo := pool [(2, .class_ 4), (1, u "java/lang/Object"), (0, u "<init>"), (0, u "()V"), (7, .class_ 16), (1, u "java/util/Arrays"), (57, .class_ 76), (1, u "java/util/Arrays$NaturalOrder"), (32, u "()Ljava/lang/Object;"), (3, .class_ 115), (1, u "java/util/Arrays$LegacyMergeSort"), (1, u "Z"), (10, .nameAndType 129 109), (0, u "clone"), (20, .methodref 151 152), (0, .class_ 153), (0, .nameAndType 154 155), (0, u "java/lang/System"), (0, u "arraycopy"), (0, u "(Ljava/lang/Object;ILjava/lang/Object;II)V"), (146, u "copyOf"), (1, .methodref 305 306), (0, .class_ 307), (0, .nameAndType 308 309), (0, u "java/lang/Math"), (0, u "min"), (0, u "(II)I"), (0, .methodref 311 128), (0, .class_ 312), (0, u "[B"), (62, .class_ 376), (0, u "java/util/Arrays$ArrayList"), (68, u "$assertionsDisabled"), (269, u "MIN_ARRAY_SORT_GRAN"), (0, u "I"), (2, u "INSERTIONSORT_THRESHOLD"), (149, u "([BI)[B"), (105, .class_ 976), (0, u "java/util/Arrays$ArrayItr")] 52

def k4m0 : Method := { name := "<init>", desc := "()V", sig := { parameters := [], returnType := none }, accessFlags := 2, code := none }
def k4c1 : Code := { maxStack := 6, maxLocals := 3, code := jdk_65_method_121_code, exceptionTable := #[], attributes := #[] }
def k4m1 : Method := { name := "copyOf", desc := "([BI)[B", sig := { parameters := [(.array .byte), .int], returnType := some (.array .byte) }, accessFlags := 9, code := some k4c1 }
/-- java/util/Arrays -/
def k4 : Class := { plain "java/util/Arrays" (some 0) with
  accessFlags := 49
  interfaces := #[]
  cf := some (fileOf pool4 14 #[.nestMembers #[975, 375, 113, 74]] #[{ accessFlags := 2, nameIndex := 5, descriptorIndex := 6, attributes := #[] }, { accessFlags := 9, nameIndex := 302, descriptorIndex := 869, attributes := #[] }] 49 2 #[] #[{ accessFlags := 26, nameIndex := 715, descriptorIndex := 716, attributes := #[] }, { accessFlags := 26, nameIndex := 719, descriptorIndex := 716, attributes := #[] }, { accessFlags := 4120, nameIndex := 445, descriptorIndex := 117, attributes := #[] }])
  fields := #[{ name := "MIN_ARRAY_SORT_GRAN", type := .int, accessFlags := 26, slot := 0, constantValue := 0 }, { name := "INSERTIONSORT_THRESHOLD", type := .int, accessFlags := 26, slot := 1, constantValue := 0 }, { name := "$assertionsDisabled", type := .boolean, accessFlags := 4120, slot := 2, constantValue := 0 }]
  methods := #[k4m0, k4m1]
  instanceTypes := #[]
  staticTypes := #[.int, .int, .boolean]
  resolved := Array.replicate 1029 none
  statics := none }

def pool5 : Array CpInfo := pool [(2, .class_ 4), (1, u "java/lang/Object"), (0, u "<init>"), (0, u "()V"), (1, .class_ 10), (1, u "java/lang/System"), (0, u "allowSecurityManager"), (0, u "I"), (16, u "cons"), (0, u "Ljava/io/Console;"), (77, .class_ 110), (1, u "java/lang/System$CallersHolder"), (43, u "initialErrStream"), (0, u "Ljava/io/PrintStream;"), (19, u "security"), (0, u "Ljava/lang/SecurityManager;"), (31, .class_ 209), (0, u "java/lang/System$1"), (7, u "props"), (0, u "Ljava/util/Properties;"), (2, u "lineSeparator"), (0, u "Ljava/lang/String;"), (96, .class_ 321), (1, u "java/lang/System$LoggerFinder"), (5, .class_ 328), (0, u "java/lang/System$Logger"), (67, u "err"), (2, u "out"), (91, u "notSupportedJnuEncoding"), (15, u "in"), (17, u "initialIn"), (0, u "Ljava/io/InputStream;"), (35, u "bootLayer"), (0, u "Ljava/lang/ModuleLayer;"), (99, .class_ 664), (0, u "java/lang/System$2"), (9, u "NEVER"), (2, u "MAYBE"), (49, u "arraycopy"), (0, u "(Ljava/lang/Object;ILjava/lang/Object;II)V"), (72, .class_ 802), (0, u "java/lang/System$Logger$Level")] 31

def k5m0 : Method := { name := "<init>", desc := "()V", sig := { parameters := [], returnType := none }, accessFlags := 2, code := none }
def k5m1 : Method := { name := "arraycopy", desc := "(Ljava/lang/Object;ILjava/lang/Object;II)V", sig := { parameters := [(.object "java/lang/Object"), .int, (.object "java/lang/Object"), .int, .int], returnType := none }, accessFlags := 265, code := none }
/-- java/lang/System -/
def k5 : Class := { plain "java/lang/System" (some 0) with
  accessFlags := 49
  interfaces := #[]
  cf := some (fileOf pool5 8 #[.nestMembers #[319, 327, 801, 108, 663, 208]] #[{ accessFlags := 2, nameIndex := 5, descriptorIndex := 6, attributes := #[] }, { accessFlags := 265, nameIndex := 727, descriptorIndex := 728, attributes := #[] }] 49 2 #[] #[{ accessFlags := 25, nameIndex := 507, descriptorIndex := 526, attributes := #[] }, { accessFlags := 25, nameIndex := 399, descriptorIndex := 155, attributes := #[] }, { accessFlags := 25, nameIndex := 396, descriptorIndex := 155, attributes := #[] }, { accessFlags := 10, nameIndex := 525, descriptorIndex := 526, attributes := #[] }, { accessFlags := 26, nameIndex := 674, descriptorIndex := 12, attributes := #[] }, { accessFlags := 26, nameIndex := 677, descriptorIndex := 12, attributes := #[] }, { accessFlags := 10, nameIndex := 11, descriptorIndex := 12, attributes := #[] }, { accessFlags := 74, nameIndex := 175, descriptorIndex := 176, attributes := #[] }, { accessFlags := 10, nameIndex := 491, descriptorIndex := 222, attributes := #[] }, { accessFlags := 74, nameIndex := 29, descriptorIndex := 30, attributes := #[] }, { accessFlags := 74, nameIndex := 154, descriptorIndex := 155, attributes := #[] }, { accessFlags := 10, nameIndex := 217, descriptorIndex := 218, attributes := #[] }, { accessFlags := 10, nameIndex := 221, descriptorIndex := 222, attributes := #[] }, { accessFlags := 8, nameIndex := 562, descriptorIndex := 563, attributes := #[] }])
  fields := #[{ name := "in", type := (.object "java/io/InputStream"), accessFlags := 25, slot := 0, constantValue := 0 }, { name := "out", type := (.object "java/io/PrintStream"), accessFlags := 25, slot := 1, constantValue := 0 }, { name := "err", type := (.object "java/io/PrintStream"), accessFlags := 25, slot := 2, constantValue := 0 }, { name := "initialIn", type := (.object "java/io/InputStream"), accessFlags := 10, slot := 3, constantValue := 0 }, { name := "NEVER", type := .int, accessFlags := 26, slot := 4, constantValue := 0 }, { name := "MAYBE", type := .int, accessFlags := 26, slot := 5, constantValue := 0 }, { name := "allowSecurityManager", type := .int, accessFlags := 10, slot := 6, constantValue := 0 }, { name := "security", type := (.object "java/lang/SecurityManager"), accessFlags := 74, slot := 7, constantValue := 0 }, { name := "notSupportedJnuEncoding", type := (.object "java/lang/String"), accessFlags := 10, slot := 8, constantValue := 0 }, { name := "cons", type := (.object "java/io/Console"), accessFlags := 74, slot := 9, constantValue := 0 }, { name := "initialErrStream", type := (.object "java/io/PrintStream"), accessFlags := 74, slot := 10, constantValue := 0 }, { name := "props", type := (.object "java/util/Properties"), accessFlags := 10, slot := 11, constantValue := 0 }, { name := "lineSeparator", type := (.object "java/lang/String"), accessFlags := 10, slot := 12, constantValue := 0 }, { name := "bootLayer", type := (.object "java/lang/ModuleLayer"), accessFlags := 8, slot := 13, constantValue := 0 }]
  methods := #[k5m0, k5m1]
  instanceTypes := #[]
  staticTypes := #[(.object "java/io/InputStream"), (.object "java/io/PrintStream"), (.object "java/io/PrintStream"), (.object "java/io/InputStream"), .int, .int, .int, (.object "java/lang/SecurityManager"), (.object "java/lang/String"), (.object "java/io/Console"), (.object "java/io/PrintStream"), (.object "java/util/Properties"), (.object "java/lang/String"), (.object "java/lang/ModuleLayer")]
  resolved := Array.replicate 834 none
  statics := none }

def pool6 : Array CpInfo := pool [(1, .class_ 2), (0, u "java/lang/Cloneable"), (0, .class_ 4), (0, u "java/lang/Object")] 2

/-- java/lang/Cloneable -/
def k6 : Class := { plain "java/lang/Cloneable" (some 0) with
  accessFlags := 1537
  interfaces := #[]
  cf := some (fileOf pool6 1 #[] #[] 1537 3 #[] #[])
  fields := #[]
  methods := #[]
  instanceTypes := #[]
  staticTypes := #[]
  resolved := Array.replicate 7 none
  statics := none }

def pool7 : Array CpInfo := pool [(1, u "java/io/Serializable"), (0, .class_ 1), (0, u "java/lang/Object"), (0, .class_ 3)] 3

/-- java/io/Serializable -/
def k7 : Class := { plain "java/io/Serializable" (some 0) with
  accessFlags := 1537
  interfaces := #[]
  cf := some (fileOf pool7 2 #[] #[] 1537 4 #[] #[])
  fields := #[]
  methods := #[]
  instanceTypes := #[]
  staticTypes := #[]
  resolved := Array.replicate 8 none
  statics := none }

/-- the primitive byte -/
def k8 : Class := { plain "byte" none with kind := .primitive 'B', accessFlags := 0x411 }
/-- [B -/
def k9 : Class := { plain "[B" (some 0) with kind := .array 8 .byte, interfaces := #[6, 7], accessFlags := 1041 }

/-- the primitive int -/
def k10 : Class := { plain "int" none with kind := .primitive 'I', accessFlags := 0x411 }
/-- [I -/
def k11 : Class := { plain "[I" (some 0) with kind := .array 10 .int, interfaces := #[6, 7], accessFlags := 1041 }

def heap : Heap := #[]
def classes : Array Class := #[k0, k1, k2, k3, k4, k5, k6, k7, k8, k9, k10, k11]
def interned : List (Array UInt16 × Addr) := []
def slotsUsed : Nat := 0
def theMethod : MethodId := ⟨1, 1⟩
def args0 : Array Value := #[.int 5, .int 7, .int 1, .int 9]
def aboutOver (below : List Frame) : State where
  vm := { classes := classes, interned := interned.toArray }
  heap := heap
  slotsUsed := slotsUsed
  threads := #[{ frames := .invoking theMethod args0 :: below }]
def below0 : List Frame := [.native { method := ⟨0, 0⟩, args := #[] }]
def about1 : State := aboutOver below0
def p0 : Program := .bare "" "" ""
def e0 : Env := launch0.env 0 0 0
theorem w_frames : about1.frames = Frame.invoking theMethod args0 :: below0 := rfl
set_option maxRecDepth 65536 in
theorem w_args : argsFit about1.vm theMethod args0 = true := by decide +kernel
set_option maxRecDepth 65536 in
theorem w_heap : heapFits about1 = true := by decide +kernel
set_option maxRecDepth 65536 in
theorem w_runnable : about1.curStatus? = some .runnable := by decide +kernel
set_option maxRecDepth 65536 in
theorem w_alone : about1.alone = true := by decide +kernel
set_option maxRecDepth 65536 in
theorem w_named : about1.methodNamed? x = some theMethod := by decide +kernel
set_option maxRecDepth 65536 in
theorem w_hears : about1.hears theMethod below0 = true := by decide +kernel
set_option maxRecDepth 65536 in
theorem w_ripe : about1.ripe theMethod args0 below0 = true := by decide +kernel
theorem w_running : about1.status = .running := rfl
set_option maxRecDepth 65536 in
theorem w_room : about1.hasRoom e0.platform room_1 = true :=
  launch0.hasRoom_least _ room_1 (by decide +kernel) (by decide +kernel) (by decide +kernel) (by decide +kernel) (by decide +kernel) (by decide +kernel)
theorem allAtoms_all (ts : List Jvm.Cond) (a : Array Jvm.Value) (st : Jvm.State) : (allAtoms ts).before a st = ts.all (fun c => c.before a st) := by
  induction ts with
  | nil => rfl
  | cons c t ih =>
    show (Jvm.Cond.and c (allAtoms t)).before a st = _
    rw [Jvm.Cond.before_and, ih, List.all_cons]
def words1 : List Jvm.Cond := Jvm.Cond.code x code maxLocals ret :: tables_1
/-- a 'code' word, met by the world's own term for the bytes: nothing is compared byte by byte -/
theorem code_word {y : MethodName} {bytes : ByteArray} {mx : Nat} {rt : Option FieldType} {a : Array Value} {s : State} {m : MethodId} {meth : Method} {c : Code} (h1 : s.methodNamed? y = some m) (h2 : s.vm.method? m = some meth) (h3 : meth.code = some c) (h4 : c.code = bytes)
    (h5 : (c.maxLocals == mx && c.exceptionTable.isEmpty && decide (c.maxStack ≤ mostOperands) && decide (meth.sig.returnType = rt) && !meth.locks && decide (parseMethodDescriptor y.desc = some meth.sig)) = true) : (Jvm.Cond.code y bytes mx rt).before a s = true := by
  simp only [Bool.and_eq_true, beq_iff_eq, Bool.not_eq_true', decide_eq_true_eq] at h5
  obtain ⟨⟨⟨⟨⟨g1, g2⟩, g3⟩, g4⟩, g5⟩, g6⟩ := h5
  simp [Cond.before, Cond.holds, Cond.value, h1, h2, h3, h4, g1, g2, g3, g4, g5, g6]
def isCode : Jvm.Cond → Bool
  | .code _ _ _ _ => true
  | _ => false
theorem all_split {L : List Jvm.Cond} {P : Jvm.Cond → Bool} (h1 : L.all (fun c => isCode c || P c) = true) (h2 : ∀ c ∈ L.filter isCode, P c = true) : L.all P = true := by
  refine List.all_eq_true.mpr fun c hc => ?_
  have h := List.all_eq_true.mp h1 c hc
  rcases Bool.eq_false_or_eq_true (isCode c) with hi | hi
  · exact h2 c (List.mem_filter.mpr ⟨hc, hi⟩)
  · simpa [hi] using h
set_option maxRecDepth 65536 in
theorem w_c0 : (Jvm.Cond.code x code maxLocals ret).before args0 about1 = true := code_word (m := ⟨1, 1⟩) (meth := k1m1) (c := k1c1) (by decide +kernel) rfl rfl rfl (by decide +kernel)
set_option maxRecDepth 65536 in
theorem w_c1 : (Jvm.Cond.code ({ cls := "com/example/chronaero/chronaero/Utf8Text", name := "<init>", desc := "(I)V" } : Jvm.MethodName) prog_69_method_1_code (2 : Nat) (Option.none : Option Jvm.ClassFile.FieldType)).before args0 about1 = true := code_word (m := ⟨2, 0⟩) (meth := k2m0) (c := k2c0) (by decide +kernel) rfl rfl rfl (by decide +kernel)
set_option maxRecDepth 65536 in
theorem w_c2 : (Jvm.Cond.code ({ cls := "java/lang/Object", name := "<init>", desc := "()V" } : Jvm.MethodName) object_method_1_code (1 : Nat) (Option.none : Option Jvm.ClassFile.FieldType)).before args0 about1 = true := code_word (m := ⟨0, 0⟩) (meth := k0m0) (c := k0c0) (by decide +kernel) rfl rfl rfl (by decide +kernel)
set_option maxRecDepth 65536 in
theorem w_c3 : (Jvm.Cond.code ({ cls := "com/example/chronaero/chronaero/Utf8Text", name := "append", desc := "([BII)V" } : Jvm.MethodName) prog_69_method_9_code (4 : Nat) (Option.none : Option Jvm.ClassFile.FieldType)).before args0 about1 = true := code_word (m := ⟨2, 4⟩) (meth := k2m4) (c := k2c4) (by decide +kernel) rfl rfl rfl (by decide +kernel)
set_option maxRecDepth 65536 in
theorem w_c4 : (Jvm.Cond.code ({ cls := "com/example/chronaero/chronaero/Utf8Text", name := "room", desc := "(I)V" } : Jvm.MethodName) prog_69_method_14_code (2 : Nat) (Option.none : Option Jvm.ClassFile.FieldType)).before args0 about1 = true := code_word (m := ⟨2, 6⟩) (meth := k2m6) (c := k2c6) (by decide +kernel) rfl rfl rfl (by decide +kernel)
set_option maxRecDepth 65536 in
theorem w_c5 : (Jvm.Cond.code ({ cls := "java/lang/Math", name := "max", desc := "(II)I" } : Jvm.MethodName) jdk_29_method_65_code (2 : Nat) (Option.some Jvm.ClassFile.FieldType.int)).before args0 about1 = true := code_word (m := ⟨3, 1⟩) (meth := k3m1) (c := k3c1) (by decide +kernel) rfl rfl rfl (by decide +kernel)
set_option maxRecDepth 65536 in
theorem w_c6 : (Jvm.Cond.code ({ cls := "java/util/Arrays", name := "copyOf", desc := "([BI)[B" } : Jvm.MethodName) jdk_65_method_121_code (3 : Nat) (Option.some (Jvm.ClassFile.FieldType.array Jvm.ClassFile.FieldType.byte))).before args0 about1 = true := code_word (m := ⟨4, 1⟩) (meth := k4m1) (c := k4c1) (by decide +kernel) rfl rfl rfl (by decide +kernel)
set_option maxRecDepth 65536 in
theorem w_c7 : (Jvm.Cond.code ({ cls := "java/lang/Math", name := "min", desc := "(II)I" } : Jvm.MethodName) jdk_29_method_69_code (2 : Nat) (Option.some Jvm.ClassFile.FieldType.int)).before args0 about1 = true := code_word (m := ⟨3, 2⟩) (meth := k3m2) (c := k3c2) (by decide +kernel) rfl rfl rfl (by decide +kernel)
set_option maxRecDepth 65536 in
theorem w_c8 : (Jvm.Cond.code ({ cls := "com/example/chronaero/chronaero/Utf8Text", name := "toArray", desc := "()[B" } : Jvm.MethodName) prog_69_method_11_code (1 : Nat) (Option.some (Jvm.ClassFile.FieldType.array Jvm.ClassFile.FieldType.byte))).before args0 about1 = true := code_word (m := ⟨2, 5⟩) (meth := k2m5) (c := k2c5) (by decide +kernel) rfl rfl rfl (by decide +kernel)
set_option maxRecDepth 65536 in
theorem w_c9 : (Jvm.Cond.code ({ cls := "com/example/chronaero/chronaero/Utf8Text", name := "length", desc := "()I" } : Jvm.MethodName) prog_69_method_2_code (1 : Nat) (Option.some Jvm.ClassFile.FieldType.int)).before args0 about1 = true := code_word (m := ⟨2, 1⟩) (meth := k2m1) (c := k2c1) (by decide +kernel) rfl rfl rfl (by decide +kernel)
set_option maxRecDepth 65536 in
theorem w_c10 : (Jvm.Cond.code ({ cls := "com/example/chronaero/chronaero/Utf8TextToArrayPinLaw", name := "at", desc := "([B[BI)Z" } : Jvm.MethodName) method_3_code (3 : Nat) (Option.some Jvm.ClassFile.FieldType.boolean)).before args0 about1 = true := code_word (m := ⟨1, 2⟩) (meth := k1m2) (c := k1c2) (by decide +kernel) rfl rfl rfl (by decide +kernel)
set_option maxRecDepth 65536 in
theorem w_c11 : (Jvm.Cond.code ({ cls := "com/example/chronaero/chronaero/Utf8Text", name := "clear", desc := "()V" } : Jvm.MethodName) prog_69_method_3_code (1 : Nat) (Option.none : Option Jvm.ClassFile.FieldType)).before args0 about1 = true := code_word (m := ⟨2, 2⟩) (meth := k2m2) (c := k2c2) (by decide +kernel) rfl rfl rfl (by decide +kernel)
set_option maxRecDepth 65536 in
theorem w_c12 : (Jvm.Cond.code ({ cls := "com/example/chronaero/chronaero/Utf8Text", name := "append", desc := "(C)V" } : Jvm.MethodName) prog_69_method_4_code (2 : Nat) (Option.none : Option Jvm.ClassFile.FieldType)).before args0 about1 = true := code_word (m := ⟨2, 3⟩) (meth := k2m3) (c := k2c3) (by decide +kernel) rfl rfl rfl (by decide +kernel)
def codes1 : List Jvm.Cond := [Jvm.Cond.code x code maxLocals ret, Jvm.Cond.code ({ cls := "com/example/chronaero/chronaero/Utf8Text", name := "<init>", desc := "(I)V" } : Jvm.MethodName) prog_69_method_1_code (2 : Nat) (Option.none : Option Jvm.ClassFile.FieldType), Jvm.Cond.code ({ cls := "java/lang/Object", name := "<init>", desc := "()V" } : Jvm.MethodName) object_method_1_code (1 : Nat) (Option.none : Option Jvm.ClassFile.FieldType), Jvm.Cond.code ({ cls := "com/example/chronaero/chronaero/Utf8Text", name := "append", desc := "([BII)V" } : Jvm.MethodName) prog_69_method_9_code (4 : Nat) (Option.none : Option Jvm.ClassFile.FieldType), Jvm.Cond.code ({ cls := "com/example/chronaero/chronaero/Utf8Text", name := "room", desc := "(I)V" } : Jvm.MethodName) prog_69_method_14_code (2 : Nat) (Option.none : Option Jvm.ClassFile.FieldType), Jvm.Cond.code ({ cls := "java/lang/Math", name := "max", desc := "(II)I" } : Jvm.MethodName) jdk_29_method_65_code (2 : Nat) (Option.some Jvm.ClassFile.FieldType.int), Jvm.Cond.code ({ cls := "java/util/Arrays", name := "copyOf", desc := "([BI)[B" } : Jvm.MethodName) jdk_65_method_121_code (3 : Nat) (Option.some (Jvm.ClassFile.FieldType.array Jvm.ClassFile.FieldType.byte)), Jvm.Cond.code ({ cls := "java/lang/Math", name := "min", desc := "(II)I" } : Jvm.MethodName) jdk_29_method_69_code (2 : Nat) (Option.some Jvm.ClassFile.FieldType.int), Jvm.Cond.code ({ cls := "com/example/chronaero/chronaero/Utf8Text", name := "toArray", desc := "()[B" } : Jvm.MethodName) prog_69_method_11_code (1 : Nat) (Option.some (Jvm.ClassFile.FieldType.array Jvm.ClassFile.FieldType.byte)), Jvm.Cond.code ({ cls := "com/example/chronaero/chronaero/Utf8Text", name := "length", desc := "()I" } : Jvm.MethodName) prog_69_method_2_code (1 : Nat) (Option.some Jvm.ClassFile.FieldType.int), Jvm.Cond.code ({ cls := "com/example/chronaero/chronaero/Utf8TextToArrayPinLaw", name := "at", desc := "([B[BI)Z" } : Jvm.MethodName) method_3_code (3 : Nat) (Option.some Jvm.ClassFile.FieldType.boolean), Jvm.Cond.code ({ cls := "com/example/chronaero/chronaero/Utf8Text", name := "clear", desc := "()V" } : Jvm.MethodName) prog_69_method_3_code (1 : Nat) (Option.none : Option Jvm.ClassFile.FieldType), Jvm.Cond.code ({ cls := "com/example/chronaero/chronaero/Utf8Text", name := "append", desc := "(C)V" } : Jvm.MethodName) prog_69_method_4_code (2 : Nat) (Option.none : Option Jvm.ClassFile.FieldType)]
set_option maxRecDepth 65536 in
theorem codes_eq : words1.filter isCode = codes1 := rfl
theorem w_codes : ∀ c ∈ words1.filter isCode, c.before args0 about1 = true := by
  rw [codes_eq]
  intro c hc
  simp only [codes1, List.mem_cons, List.not_mem_nil, or_false] at hc
  rcases hc with rfl | rfl | rfl | rfl | rfl | rfl | rfl | rfl | rfl | rfl | rfl | rfl | rfl
  · exact w_c0
  · exact w_c1
  · exact w_c2
  · exact w_c3
  · exact w_c4
  · exact w_c5
  · exact w_c6
  · exact w_c7
  · exact w_c8
  · exact w_c9
  · exact w_c10
  · exact w_c11
  · exact w_c12
set_option maxRecDepth 65536 in
theorem w_t1 : (words1.take 24).all (fun c => isCode c || c.before args0 about1) = true := by decide +kernel
set_option maxRecDepth 65536 in
theorem w_t2 : ((words1.drop 24).take 24).all (fun c => isCode c || c.before args0 about1) = true := by decide +kernel
set_option maxRecDepth 65536 in
theorem w_t3 : (((words1.drop 24).drop 24).take 24).all (fun c => isCode c || c.before args0 about1) = true := by decide +kernel
set_option maxRecDepth 65536 in
theorem w_t4 : (((words1.drop 24).drop 24).drop 24).all (fun c => isCode c || c.before args0 about1) = true := by decide +kernel
theorem w_tables : (allAtoms (Jvm.Cond.code x code maxLocals ret :: tables_1)).before args0 about1 = true := by
  rw [allAtoms_all]
  show words1.all (fun c => c.before args0 about1) = true
  refine all_split ?_ w_codes
  rw [← List.take_append_drop 24 words1, List.all_append, w_t1, ← List.take_append_drop 24 (words1.drop 24), List.all_append, w_t2, ← List.take_append_drop 24 ((words1.drop 24).drop 24), List.all_append, w_t3, w_t4]
  rfl
set_option maxRecDepth 65536 in
theorem w_case : (Jvm.Cond.and given_1 narrow_1).before args0 about1 = true := by decide +kernel
theorem w_applies : (headSpec (Jvm.Cond.code x code maxLocals ret :: tables_1) room_1).applies x e0.platform about1 = true :=
  (Spec.applies_iff w_frames).mpr ⟨w_running, w_runnable, w_alone, w_named, w_hears, w_ripe, w_room, w_tables⟩
theorem atStart : AtStart classFile x code maxLocals ret World_1 tables_1 room_1 Calls_1 rest_1 Pre_1 launch0 p0 e0 about1 theMethod args0 below0 :=
  ⟨lists_1, trivial, launch0.admits_env _ _ _, launch0.least_env, fairChoices_fair.cas, fairChoices_fair.clock, w_frames, w_args, w_heap, w_applies, trivial, trivial, w_case⟩
end start1
theorem witness_1 : WitnessClaimed_1 := ⟨start1.p0, start1.e0, start1.about1, start1.theMethod, start1.args0, start1.below0, start1.atStart⟩
end Jvm.Pilot.@@N@@
