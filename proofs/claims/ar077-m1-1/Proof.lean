import JvmDerived
import JvmDerived.Pilot.@@N@@Statement
import JvmDerived.Pilot.@@N@@Code
set_option linter.unusedVariables false
set_option linter.unusedSimpArgs false
@@BLOCK:NumsL.lean.txt@@
namespace Jvm.Pilot.@@N@@
open Jvm Jvm.ClassFile Sem Op Lib Jvm.Free Jvm.Stand Jvm.LawKit Jvm.RoadKit Bundle Jvm.Pilot.@@N@@.Jvm.D
section Own
variable {p : Program} {l : Launch} {e : Env} {R : Room} {s : State} {m : MethodId} {args : Array Value} {below : List Frame} {meth : Method} {c : Code} {T : State} {locs : List Loc} {cells slots : Nat}
/-- from A the run comes to an end of which P holds -/
def own_G (p : Program) (e : Env) (below : List Frame) (P : State → Outcome → Prop) (A : State) : Prop := ∃ s₂ o, Steps p.tables e below A s₂ ∧ P s₂ o
/-- the end of a body: it returned, Q holds of the answer, the heap and the places written, and the frame is kept -/
def own_P (s : State) (below : List Frame) (Q : Option Value → Heap → List Loc → Prop) (k n : Nat) (s₂ : State) (o : Outcome) : Prop := s₂.status = .running ∧ Ended s₂ below o ∧ ∃ v L, o = .returned v ∧ Q v s₂.heap L ∧ FrameEnd s o s₂ L k n
theorem own_go {P : State → Outcome → Prop} {A B : State} (k : ∀ t, Steps p.tables e below B t → Steps p.tables e below A t) (h : own_G p e below P B) : own_G p e below P A := by
  obtain ⟨s₂, o, h1, h2⟩ := h
  exact ⟨s₂, o, k _ h1, h2⟩
theorem own_gs {P : State → Outcome → Prop} {A B : State} (k : Steps p.tables e below A B) (h : own_G p e below P B) : own_G p e below P A := own_go (fun _ hr => k.trans hr) h
theorem own_end (X : Stand p l e R s m args below meth c T locs cells slots) (hlk : meth.locks = false) {v : Option Value} (hv : meth.sig.returnType = none → v = none) {A : State} {Q : Option Value → Heap → List Loc → Prop} {k n : Nat} (hk : cells ≤ k) (hn : slots ≤ n)
    (st : ∀ fs, (∀ (f : JFrame) (acts : List Action), f.method = m → f.locked = none → f.entered = [] → (doReturn e (T.setTop f) acts v).1 = T.setFrames fs) → Steps p.tables e below A (T.setFrames fs)) (q : Q v T.heap locs) : own_G p e below (own_P s below Q k n) A := by
  obtain ⟨fs, hr, hrun, hended, hW, hsame⟩ := X.leave (v := v) hv hlk
  exact ⟨_, _, st fs hr, hrun, hended, _, _, rfl, q, ⟨_, rfl⟩, hW, hsame.mono hk hn⟩
theorem own_retI (X : Stand p l e R s m args below meth c T locs cells slots) (hx : p.tables.exec = Jvm.exec) (hlk : meth.locks = false) {pc : Nat} {Ls : Array Slot} {z : Int32} {rest : List Value} {Q : Option Value → Heap → List Loc → Prop} {k n : Nat} (hret : meth.sig.returnType = some .int) (hd : decode c.code pc = .ok (.ireturn, 1)) (hk : cells ≤ k) (hn : slots ≤ n)
    (q : Q (some (.int z)) T.heap locs) : own_G p e below (own_P s below Q k n) (T.setTop (mkF m pc Ls (.int z :: rest))) :=
  own_end X hlk (fun h => by rw [hret] at h; cases h) hk hn (fun fs hr => retOut X hx hret rfl (Or.inl ⟨rfl, Or.inl rfl, z, rfl⟩) hd hr) q
theorem own_bit {z : Int32} (hz : z = 0 ∨ z = 1) : narrow .boolean (.int z) = .int z := by rcases hz with rfl | rfl <;> rfl
theorem own_retZ (X : Stand p l e R s m args below meth c T locs cells slots) (hx : p.tables.exec = Jvm.exec) (hlk : meth.locks = false) {pc : Nat} {Ls : Array Slot} {z : Int32} {rest : List Value} {Q : Option Value → Heap → List Loc → Prop} {k n : Nat} (hret : meth.sig.returnType = some .boolean) (hz : z = 0 ∨ z = 1) (hd : decode c.code pc = .ok (.ireturn, 1)) (hk : cells ≤ k) (hn : slots ≤ n)
    (q : Q (some (.int z)) T.heap locs) : own_G p e below (own_P s below Q k n) (T.setTop (mkF m pc Ls (.int z :: rest))) :=
  own_end X hlk (fun h => by rw [hret] at h; cases h) hk hn (fun fs hr => retOut X hx hret (own_bit hz) (Or.inl ⟨rfl, Or.inr (Or.inl rfl), z, rfl⟩) hd hr) q
theorem own_retJ (X : Stand p l e R s m args below meth c T locs cells slots) (hx : p.tables.exec = Jvm.exec) (hlk : meth.locks = false) {pc : Nat} {Ls : Array Slot} {z : Int64} {rest : List Value} {Q : Option Value → Heap → List Loc → Prop} {k n : Nat} (hret : meth.sig.returnType = some .long) (hd : decode c.code pc = .ok (.lreturn, 1)) (hk : cells ≤ k) (hn : slots ≤ n)
    (q : Q (some (.long z)) T.heap locs) : own_G p e below (own_P s below Q k n) (T.setTop (mkF m pc Ls (.long z :: rest))) :=
  own_end X hlk (fun h => by rw [hret] at h; cases h) hk hn (fun fs hr => retOut X hx hret rfl (Or.inr (Or.inl ⟨rfl, rfl, z, rfl⟩)) hd hr) q
theorem own_retA (X : Stand p l e R s m args below meth c T locs cells slots) (hx : p.tables.exec = Jvm.exec) (hlk : meth.locks = false) {pc : Nat} {Ls : Array Slot} {z : Addr} {t : FieldType} {rest : List Value} {Q : Option Value → Heap → List Loc → Prop} {k n : Nat} (hret : meth.sig.returnType = some t) (ht : t.isReference = true) (hn0 : narrow t (.ref z) = .ref z) (hd : decode c.code pc = .ok (.areturn, 1)) (hk : cells ≤ k) (hn : slots ≤ n)
    (q : Q (some (.ref z)) T.heap locs) : own_G p e below (own_P s below Q k n) (T.setTop (mkF m pc Ls (.ref z :: rest))) :=
  own_end X hlk (fun h => by rw [hret] at h; cases h) hk hn (fun fs hr => retOut X hx hret hn0 (Or.inr (Or.inr (Or.inr (Or.inr ⟨rfl, ht, rfl⟩)))) hd hr) q
theorem own_retV (X : Stand p l e R s m args below meth c T locs cells slots) (hx : p.tables.exec = Jvm.exec) (hlk : meth.locks = false) {pc : Nat} {Ls : Array Slot} {Q : Option Value → Heap → List Loc → Prop} {k n : Nat} (hret : meth.sig.returnType = none) (hd : decode c.code pc = .ok (.return_, 1)) (hk : cells ≤ k) (hn : slots ≤ n)
    (q : Q none T.heap locs) : own_G p e below (own_P s below Q k n) (T.setTop (mkF m pc Ls [])) :=
  own_end X hlk (fun _ => rfl) hk hn (fun fs hr => X.returnOut hx hret hd hr) q
end Own

section OwnArr
variable {p : Program} {l : Launch} {e : Env} {R : Room} {s : State} {m : MethodId} {args : Array Value} {below : List Frame} {meth : Method} {c : Code} {T : State} {locs : List Loc} {cells slots : Nat} {Z : State} {h h' : Heap} {a b : Addr} {ty : FieldType} {n : Nat} {f : Nat → Value}
/-- an array of n places, place i holds f i -/
def own_Ar (Z : State) (h : Heap) (a : Addr) (ty : FieldType) (n : Nat) (f : Nat → Value) : Prop := ∃ cl : Cell, Arr Z h a cl ty ∧ cl.slots.size = n ∧ ∀ i, i < n → cl.slots[i]? = some (f i)
theorem own_Ar.lt (F : own_Ar Z h a ty n f) : a < h.size := by obtain ⟨cl, A, -⟩ := F; exact A.lt
theorem own_Ar.ext (F : own_Ar Z h a ty n f) (E : Ext h h') : own_Ar Z h' a ty n f := by obtain ⟨cl, A, r⟩ := F; exact ⟨cl, A.ext E, r⟩
theorem own_Ar.keep {ws : List Addr} (F : own_Ar Z h a ty n f) (K : Keep h h' ws) (q : a ∉ ws) : own_Ar Z h' a ty n f := by obtain ⟨cl, A, r⟩ := F; exact ⟨cl, ⟨K.2.1 a cl A.1 q, A.2⟩, r⟩
theorem own_Ar.other {sl : Nat} {v : Value} (F : own_Ar Z h b ty n f) (W : Wr h h' a sl v) (q : b ≠ a) : own_Ar Z h' b ty n f := by obtain ⟨cl, A, r⟩ := F; exact ⟨cl, A.other W q, r⟩
theorem own_Ar.set {j : Nat} {v : Value} (F : own_Ar Z h a ty n f) (W : Wr h h' a j v) : own_Ar Z h' a ty n (fun i => if i = j then v else f i) := by
  obtain ⟨cl, A, S, H⟩ := F
  refine ⟨_, A.same W, by rw [sz_set]; exact S, fun i hi => ?_⟩
  have hs : i < cl.slots.size := by rw [S]; exact hi
  show (cl.slots.setIfInBounds j v)[i]? = _
  rw [Array.getElem?_setIfInBounds]
  by_cases q : j = i
  · subst q; simp [hs]
  · have r : ¬ i = j := fun r => q r.symm
    show (if j = i then _ else cl.slots[i]?) = some (if i = j then v else f i)
    rw [if_neg q, if_neg r]; exact H i hi
theorem own_Ar.new {cA : ClassId} {nn : Int32} (A : Arr Z h a (newA cA ty nn) ty) (hn : nn.toInt = (n : Int)) : own_Ar Z h a ty n (fun _ => defaultValue ty) := by
  have hn' : nn.toNatClampNeg = n := by show nn.toInt.toNat = n; omega
  exact ⟨_, A, by rw [sz_new]; exact hn', fun i hi => by simp [newA, hn', hi]⟩
theorem own_Ar.congr {f' : Nat → Value} (F : own_Ar Z h a ty n f) (q : ∀ i, i < n → f i = f' i) : own_Ar Z h a ty n f' := by obtain ⟨cl, A, S, H⟩ := F; exact ⟨cl, A, S, fun i hi => by rw [← q i hi]; exact H i hi⟩
theorem own_Ar.setJ {j : Nat} {x : Int64} {g : Nat → Int64} (F : own_Ar Z h a ty n (fun i => .long (g i))) (W : Wr h h' a j (.long x)) : own_Ar Z h' a ty n (fun i => .long (if i = j then x else g i)) := (F.set W).congr fun i _ => by by_cases q : i = j <;> simp [q]
theorem own_Ar.setI {j : Nat} {x : Int32} {g : Nat → Int32} (F : own_Ar Z h a ty n (fun i => .int (g i))) (W : Wr h h' a j (.int x)) : own_Ar Z h' a ty n (fun i => .int (if i = j then x else g i)) := (F.set W).congr fun i _ => by by_cases q : i = j <;> simp [q]
theorem own_at {j : Int32} {i : Nat} (hj : j.toInt = (i : Int)) : ¬ j < 0 ∧ j.toNatClampNeg = i := ⟨by rw [Int32.lt_iff_toInt_lt, hj]; show ¬ ((i : Int) < 0); omega, by show j.toInt.toNat = i; omega⟩
theorem own_in {j : Int32} {i : Nat} (hj : j.toInt = (i : Int)) (hi : i < n) : ¬ (j < 0 ∨ n ≤ j.toNatClampNeg) := by
  obtain ⟨q1, q2⟩ := own_at hj
  rw [q2]
  rintro (r | r)
  · exact q1 r
  · omega
theorem own_plus {j k : Int32} {i q : Nat} (hj : j.toInt = (i : Int)) (hk : k.toInt = (q : Int)) (hb : i + q < 2147483648) : (j + k).toInt = ((i + q : Nat) : Int) := by
  have c := c_iadd j k
  have r := rng32 (j + k)
  omega
theorem own_minus {j k : Int32} {i q : Nat} (hj : j.toInt = (i : Int)) (hk : k.toInt = (q : Int)) (hb : q ≤ i) : (j - k).toInt = ((i - q : Nat) : Int) := by
  have c := c_isub j k
  have r := rng32 (j - k)
  have r2 := rng32 j
  omega
theorem own_stB (X : Stand p l e R s m args below meth c T locs cells slots) (hx : p.tables.exec = Jvm.exec) (hZ : Z.Warmed39 s.vm) (eT : T.heap = h) (F : own_Ar Z h a .byte n f) {j x y : Int32} {i : Nat} (hj : j.toInt = (i : Int)) (hi : i < n) (hy : x.toInt8.toInt32 = y) {g : JFrame} (hg : g.method = m) {rest : List Value} (hs : g.stack = .int x :: .int j :: .ref a :: rest) (hd : decode c.code g.pc = .ok (.bastore, 1)) :
    ∃ T' h', Stand p l e R s m args below meth c T' (locs ++ [⟨a, j.toNatClampNeg⟩]) cells slots ∧ T'.heap = h' ∧ Wr h h' a i (.int y) ∧ own_Ar Z h' a .byte n (fun k => if k = i then .int y else f k) ∧ ∀ target, Steps p.tables e below (T'.setTop { g with pc := g.pc + 1, stack := rest }) target → Steps p.tables e below (T.setTop g) target := by
  obtain ⟨cl, A, S, H⟩ := F
  obtain ⟨T', h', X', e', W', st⟩ := stB X hx hZ eT A (by rw [S]; exact own_in hj hi) hg hs hd
  have W2 : Wr h h' a i (.int y) := by
    have w := W'
    rw [(own_at hj).2] at w
    exact hy ▸ w
  exact ⟨T', h', X', e', W2, own_Ar.set ⟨cl, A, S, H⟩ W2, st⟩
theorem own_stI (X : Stand p l e R s m args below meth c T locs cells slots) (hx : p.tables.exec = Jvm.exec) (hZ : Z.Warmed39 s.vm) (eT : T.heap = h) (F : own_Ar Z h a .int n f) {j x : Int32} {i : Nat} (hj : j.toInt = (i : Int)) (hi : i < n) {g : JFrame} (hg : g.method = m) {rest : List Value} (hs : g.stack = .int x :: .int j :: .ref a :: rest) (hd : decode c.code g.pc = .ok (.iastore, 1)) :
    ∃ T' h', Stand p l e R s m args below meth c T' (locs ++ [⟨a, j.toNatClampNeg⟩]) cells slots ∧ T'.heap = h' ∧ Wr h h' a i (.int x) ∧ own_Ar Z h' a .int n (fun k => if k = i then .int x else f k) ∧ ∀ target, Steps p.tables e below (T'.setTop { g with pc := g.pc + 1, stack := rest }) target → Steps p.tables e below (T.setTop g) target := by
  obtain ⟨cl, A, S, H⟩ := F
  obtain ⟨T', h', X', e', W', st⟩ := stI X hx hZ eT A (by rw [S]; exact own_in hj hi) hg hs hd
  rw [(own_at hj).2] at W'
  exact ⟨T', h', X', e', W', own_Ar.set ⟨cl, A, S, H⟩ W', st⟩
theorem own_stJ (X : Stand p l e R s m args below meth c T locs cells slots) (hx : p.tables.exec = Jvm.exec) (hZ : Z.Warmed39 s.vm) (eT : T.heap = h) (F : own_Ar Z h a .long n f) {j : Int32} {x : Int64} {i : Nat} (hj : j.toInt = (i : Int)) (hi : i < n) {g : JFrame} (hg : g.method = m) {rest : List Value} (hs : g.stack = .long x :: .int j :: .ref a :: rest) (hd : decode c.code g.pc = .ok (.lastore, 1)) :
    ∃ T' h', Stand p l e R s m args below meth c T' (locs ++ [⟨a, j.toNatClampNeg⟩]) cells slots ∧ T'.heap = h' ∧ Wr h h' a i (.long x) ∧ own_Ar Z h' a .long n (fun k => if k = i then .long x else f k) ∧ ∀ target, Steps p.tables e below (T'.setTop { g with pc := g.pc + 1, stack := rest }) target → Steps p.tables e below (T.setTop g) target := by
  obtain ⟨cl, A, S, H⟩ := F
  obtain ⟨T', h', X', e', W', st⟩ := stJ X hx hZ eT A (by rw [S]; exact own_in hj hi) hg hs hd
  rw [(own_at hj).2] at W'
  exact ⟨T', h', X', e', W', own_Ar.set ⟨cl, A, S, H⟩ W', st⟩
theorem own_ldB (X : Stand p l e R s m args below meth c T locs cells slots) (hx : p.tables.exec = Jvm.exec) (hZ : Z.Warmed39 s.vm) (eT : T.heap = h) (F : own_Ar Z h a .byte n f) {j : Int32} {i : Nat} {v : Value} (hj : j.toInt = (i : Int)) (hi : i < n) (hv : f i = v) {g : JFrame} (hg : g.method = m) {rest : List Value} (hs : g.stack = .int j :: .ref a :: rest) (hd : decode c.code g.pc = .ok (.baload, 1)) (target : State)
    (hr : Steps p.tables e below (T.setTop { g with pc := g.pc + 1, stack := v :: rest }) target) : Steps p.tables e below (T.setTop g) target := by
  obtain ⟨cl, A, S, H⟩ := F
  exact X.baloadBytes hx (j := j) (v := v) (by rw [eT]; exact A.1) (State.isArrayOf_alike hZ.alike A.2.1) A.2.2 (by rw [S]; exact own_in hj hi) (by rw [(own_at hj).2, H i hi, hv]) hg hs hd _ hr
theorem own_ldI (X : Stand p l e R s m args below meth c T locs cells slots) (hx : p.tables.exec = Jvm.exec) (hZ : Z.Warmed39 s.vm) (eT : T.heap = h) (F : own_Ar Z h a .int n f) {j : Int32} {i : Nat} {v : Value} (hj : j.toInt = (i : Int)) (hi : i < n) (hv : f i = v) {g : JFrame} (hg : g.method = m) {rest : List Value} (hs : g.stack = .int j :: .ref a :: rest) (hd : decode c.code g.pc = .ok (.iaload, 1)) (target : State)
    (hr : Steps p.tables e below (T.setTop { g with pc := g.pc + 1, stack := v :: rest }) target) : Steps p.tables e below (T.setTop g) target := by
  obtain ⟨cl, A, S, H⟩ := F
  exact X.iaload hx (j := j) (v := v) (by rw [eT]; exact A.1) (State.isArrayOf_alike hZ.alike A.2.1) A.2.2 (by rw [S]; exact own_in hj hi) (by rw [(own_at hj).2, H i hi, hv]) hg hs hd _ hr
theorem own_ldJ (X : Stand p l e R s m args below meth c T locs cells slots) (hx : p.tables.exec = Jvm.exec) (hZ : Z.Warmed39 s.vm) (eT : T.heap = h) (F : own_Ar Z h a .long n f) {j : Int32} {i : Nat} {v : Value} (hj : j.toInt = (i : Int)) (hi : i < n) (hv : f i = v) {g : JFrame} (hg : g.method = m) {rest : List Value} (hs : g.stack = .int j :: .ref a :: rest) (hd : decode c.code g.pc = .ok (.laload, 1)) (target : State)
    (hr : Steps p.tables e below (T.setTop { g with pc := g.pc + 1, stack := v :: rest }) target) : Steps p.tables e below (T.setTop g) target := by
  obtain ⟨cl, A, S, H⟩ := F
  exact X.laload hx (j := j) (v := v) (by rw [eT]; exact A.1) (State.isArrayOf_alike hZ.alike A.2.1) A.2.2 (by rw [S]; exact own_in hj hi) (by rw [(own_at hj).2, H i hi, hv]) hg hs hd _ hr
theorem own_len (X : Stand p l e R s m args below meth c T locs cells slots) (hx : p.tables.exec = Jvm.exec) (hZ : Z.Warmed39 s.vm) (eT : T.heap = h) (F : own_Ar Z h a ty n f) {N : Int32} (hN : N.toInt = (n : Int)) {g : JFrame} (hg : g.method = m) {rest : List Value} (hs : g.stack = .ref a :: rest) (hd : decode c.code g.pc = .ok (.arraylength, 1)) (target : State)
    (hr : Steps p.tables e below (T.setTop { g with pc := g.pc + 1, stack := .int N :: rest }) target) : Steps p.tables e below (T.setTop g) target := by
  obtain ⟨cl, A, S, H⟩ := F
  have q : cl.slots.size.toInt32 = N := by
    have b := rng32 N
    rw [← Int32.toInt_inj, S, hN]
    exact len_toInt (by omega)
  exact X.arraylength hx (by rw [eT]; exact A.1) (State.isArrayOf_alike hZ.alike A.2.1) hg hs hd _ (by rw [q]; exact hr)
end OwnArr

theorem own_b8 (x : Int32) : (x.toInt8.toInt32).toInt8.toInt32 = x.toInt8.toInt32 := by simp
def own_gi (w0 w1 w2 w3 : Int32) : Int32 := ((((w0 <<< ((24 : Int32) &&& 31)) ||| ((w1 &&& (255 : Int32)) <<< ((16 : Int32) &&& 31))) ||| ((w2 &&& (255 : Int32)) <<< ((8 : Int32) &&& 31))) ||| (w3 &&& (255 : Int32)))
theorem own_seed (x : Int32) : ∃ t : Nat, ((x &&& (2147483647 : Int32)) % (5 : Int32)).toInt = (t : Int) ∧ t ≤ 4 := by
  have h1 : (x &&& (2147483647 : Int32)).toInt = x.toInt % 2 ^ 31 := Jvm.Kit.i32_mask x 2147483647 (k := 31) (by decide) (by decide)
  have h2 : ((x &&& (2147483647 : Int32)) % (5 : Int32)).toInt = (x &&& (2147483647 : Int32)).toInt % (5 : Int32).toInt := Jvm.Kit.i32_rem_nonneg (by omega)
  have h3 : (5 : Int32).toInt = 5 := rfl
  rw [h3] at h2
  exact ⟨((x &&& (2147483647 : Int32)) % (5 : Int32)).toInt.toNat, by omega, by omega⟩
theorem own_255 (i : Nat) : (255#32).getLsbD i = decide (i < 8) := by
  rw [BitVec.getLsbD_ofNat]
  have : (255 : Nat) = 2 ^ 8 - 1 := rfl
  rw [this, Nat.testBit_two_pow_sub_one]
  by_cases h : i < 8 <;> simp [h] <;> omega
theorem own_disj (x y : BitVec 32) (k n : Nat) (hk : k = n + 8) : (x <<< k) &&& ((y &&& 255#32) <<< n) = 0#32 := by
  refine BitVec.eq_of_getLsbD_eq fun i hi => ?_
  simp only [BitVec.getLsbD_and, BitVec.getLsbD_shiftLeft, own_255, BitVec.getLsbD_zero, hi, decide_true, Bool.true_and]
  by_cases h1 : i < k
  · simp [h1]
  · have : ¬ (i - n < 8) := by omega
    simp [this]
theorem own_shl8 (x : BitVec 32) (y : BitVec 32) (k n : Nat) (hk : k = n + 8) : (x <<< 8 ||| (y &&& 255#32)) <<< n = x <<< k ||| (y &&& 255#32) <<< n := by
  subst hk
  rw [BitVec.shiftLeft_or_distrib, ← BitVec.shiftLeft_add, Nat.add_comm 8 n]
theorem own_bv (s x y z : BitVec 32) : ((s <<< 24 ||| (x &&& 255#32) <<< 16) ||| (y &&& 255#32) <<< 8) ||| (z &&& 255#32) = s * 16777216#32 + (x &&& 255#32) * 65536#32 + (y &&& 255#32) * 256#32 + (z &&& 255#32) := by
  have e1 : s * 16777216#32 = s <<< 24 := BitVec.mul_twoPow_eq_shiftLeft s 24
  have e2 : (x &&& 255#32) * 65536#32 = (x &&& 255#32) <<< 16 := BitVec.mul_twoPow_eq_shiftLeft _ 16
  have e3 : (y &&& 255#32) * 256#32 = (y &&& 255#32) <<< 8 := BitVec.mul_twoPow_eq_shiftLeft _ 8
  rw [e1, e2, e3]
  have d1 : s <<< 24 + (x &&& 255#32) <<< 16 = s <<< 24 ||| (x &&& 255#32) <<< 16 := BitVec.add_eq_or_of_and_eq_zero _ _ (own_disj s x 24 16 rfl)
  rw [d1, ← own_shl8 s x 24 16 rfl]
  have d2 : (s <<< 8 ||| (x &&& 255#32)) <<< 16 + (y &&& 255#32) <<< 8 = (s <<< 8 ||| (x &&& 255#32)) <<< 16 ||| (y &&& 255#32) <<< 8 := BitVec.add_eq_or_of_and_eq_zero _ _ (own_disj _ y 16 8 rfl)
  rw [d2, ← own_shl8 _ y 16 8 rfl]
  have d3 := own_disj ((s <<< 8 ||| (x &&& 255#32)) <<< 8 ||| (y &&& 255#32)) z 8 0 rfl
  rw [BitVec.shiftLeft_zero] at d3
  exact (BitVec.add_eq_or_of_and_eq_zero _ _ d3).symm
theorem own_low (x : Int32) : (x.toInt8.toInt32) &&& (255 : Int32) = x &&& 255 := by
  rw [← Int32.toBitVec_inj, Int32.toBitVec_and, Int32.toBitVec_and]
  refine BitVec.eq_of_getLsbD_eq fun i hi => ?_
  have e : (255 : Int32).toBitVec = 255#32 := rfl
  rw [e, BitVec.getLsbD_and, BitVec.getLsbD_and, own_255]
  by_cases h : i < 8
  · rw [Int8.toBitVec_toInt32, Int32.toBitVec_toInt8, BitVec.getLsbD_signExtend, BitVec.getLsbD_signExtend]
    simp [h, hi]
  · simp [h]
theorem own_law (u0 u1 u2 u3 : Int32) : own_gi (u0.toInt8.toInt32) (u1.toInt8.toInt32) (u2.toInt8.toInt32) (u3.toInt8.toInt32) = (((((u0.toInt8.toInt32) * (16777216 : Int32)) + ((u1 &&& (255 : Int32)) * (65536 : Int32))) + ((u2 &&& (255 : Int32)) * (256 : Int32))) + (u3 &&& (255 : Int32))) := by
  simp only [own_gi, own_low]
  rw [← Int32.toBitVec_inj]
  exact own_bv u0.toInt8.toInt32.toBitVec u1.toBitVec u2.toBitVec u3.toBitVec
theorem d1_0 : decode prog_36_method_4_code 0 = .ok (.aload_n 0, 1) := by decide +kernel
theorem d1_1 : decode prog_36_method_4_code 1 = .ok (.iload_n 1, 1) := by decide +kernel
theorem d1_2 : decode prog_36_method_4_code 2 = .ok (.baload, 1) := by decide +kernel
theorem d1_3 : decode prog_36_method_4_code 3 = .ok (.bipush 24, 2) := by decide +kernel
theorem d1_5 : decode prog_36_method_4_code 5 = .ok (.ishl, 1) := by decide +kernel
theorem d1_6 : decode prog_36_method_4_code 6 = .ok (.aload_n 0, 1) := by decide +kernel
theorem d1_7 : decode prog_36_method_4_code 7 = .ok (.iload_n 1, 1) := by decide +kernel
theorem d1_8 : decode prog_36_method_4_code 8 = .ok (.iconst 1, 1) := by decide +kernel
theorem d1_9 : decode prog_36_method_4_code 9 = .ok (.iadd, 1) := by decide +kernel
theorem d1_10 : decode prog_36_method_4_code 10 = .ok (.baload, 1) := by decide +kernel
theorem d1_11 : decode prog_36_method_4_code 11 = .ok (.sipush 255, 3) := by decide +kernel
theorem d1_14 : decode prog_36_method_4_code 14 = .ok (.iand, 1) := by decide +kernel
theorem d1_15 : decode prog_36_method_4_code 15 = .ok (.bipush 16, 2) := by decide +kernel
theorem d1_17 : decode prog_36_method_4_code 17 = .ok (.ishl, 1) := by decide +kernel
theorem d1_18 : decode prog_36_method_4_code 18 = .ok (.ior, 1) := by decide +kernel
theorem d1_19 : decode prog_36_method_4_code 19 = .ok (.aload_n 0, 1) := by decide +kernel
theorem d1_20 : decode prog_36_method_4_code 20 = .ok (.iload_n 1, 1) := by decide +kernel
theorem d1_21 : decode prog_36_method_4_code 21 = .ok (.iconst 2, 1) := by decide +kernel
theorem d1_22 : decode prog_36_method_4_code 22 = .ok (.iadd, 1) := by decide +kernel
theorem d1_23 : decode prog_36_method_4_code 23 = .ok (.baload, 1) := by decide +kernel
theorem d1_24 : decode prog_36_method_4_code 24 = .ok (.sipush 255, 3) := by decide +kernel
theorem d1_27 : decode prog_36_method_4_code 27 = .ok (.iand, 1) := by decide +kernel
theorem d1_28 : decode prog_36_method_4_code 28 = .ok (.bipush 8, 2) := by decide +kernel
theorem d1_30 : decode prog_36_method_4_code 30 = .ok (.ishl, 1) := by decide +kernel
theorem d1_31 : decode prog_36_method_4_code 31 = .ok (.ior, 1) := by decide +kernel
theorem d1_32 : decode prog_36_method_4_code 32 = .ok (.aload_n 0, 1) := by decide +kernel
theorem d1_33 : decode prog_36_method_4_code 33 = .ok (.iload_n 1, 1) := by decide +kernel
theorem d1_34 : decode prog_36_method_4_code 34 = .ok (.iconst 3, 1) := by decide +kernel
theorem d1_35 : decode prog_36_method_4_code 35 = .ok (.iadd, 1) := by decide +kernel
theorem d1_36 : decode prog_36_method_4_code 36 = .ok (.baload, 1) := by decide +kernel
theorem d1_37 : decode prog_36_method_4_code 37 = .ok (.sipush 255, 3) := by decide +kernel
theorem d1_40 : decode prog_36_method_4_code 40 = .ok (.iand, 1) := by decide +kernel
theorem d1_41 : decode prog_36_method_4_code 41 = .ok (.ior, 1) := by decide +kernel
theorem d1_42 : decode prog_36_method_4_code 42 = .ok (.ireturn, 1) := by decide +kernel
theorem pn_gi : plainName "org/quirebase/store/page/Bytes" = true := by first | (simp [plainName, overriddenIn]; done) | decide +kernel
theorem pd_gi : parseMethodDescriptor "([BI)I" = some ⟨[(.array .byte), .int], some .int⟩ := by decide +kernel
theorem ef_gi (m : MethodId) (x0 : Addr) (x1 : Int32) : entryFrame m #[(.ref x0), (.int x1)] 2 = mkF m 0 #[.val (.ref x0), .val (.int x1)] [] := by first | (simp [entryFrame, mkF, argsToLocals, Value.category, maxLocals]; done) | rfl
def Q_gi (Z : State) (a : Addr) (ii : Int32) (nn : Nat) (f : Nat → Value) (t : Nat) (w0 : Int32) (w1 : Int32) (w2 : Int32) (w3 : Int32) (h0 : Heap) (n0 : Nat) (v : Option Value) (h : Heap) (L : List Loc) : Prop := v = some (.int (own_gi w0 w1 w2 w3)) ∧ Fr n0 L ∧ h = h0
set_option maxRecDepth 65536 in
set_option maxHeartbeats 40000000 in
theorem rm_gi (l : Launch) (Z : State) (a0 : Array Value) (hw : ∀ d ∈ tables_1, d.before a0 Z = true) (ws : List Jvm.Cond) (a : Addr) (ii : Int32) (nn : Nat) (f : Nat → Value) (t : Nat) (w0 : Int32) (w1 : Int32) (w2 : Int32) (w3 : Int32) (h0 : Heap) (n0 : Nat) (Z0 : n0 ≤ h0.size) (V : own_Ar Z h0 a .byte nn f) (ht : ii.toInt = (t : Int)) (hb4 : t + 3 < nn) (hbig : nn < 2147483648) (q0 : f t = .int w0) (q1 : f (t + 1) = .int w1) (q2 : f (t + 2) = .int w2) (q3 : f (t + 3) = .int w3) :
    MetFree l (⟨"org/quirebase/store/page/Bytes", "getInt", "([BI)I"⟩ : MethodName) (head1 (Jvm.Cond.code (⟨"org/quirebase/store/page/Bytes", "getInt", "([BI)I"⟩ : MethodName) prog_36_method_4_code 2 (some .int) :: ws) ({ frames := 0, cells := 0, slots := 0, locals := 0 } : Room)) (fun as U => as = #[(.ref a), (.int ii)] ∧ Z.Warmed39 U.vm ∧ U.heap = h0) (fun _ _ _ _ _ => True) (fun _ U o U' => ∃ v L, o = .returned v ∧ Q_gi Z a ii nn f t w0 w1 w2 w3 h0 n0 v U'.heap L ∧ FrameEnd U o U' L ({ frames := 0, cells := 0, slots := 0, locals := 0 } : Room).cells ({ frames := 0, cells := 0, slots := 0, locals := 0 } : Room).slots) := by
  refine MetFree.of_bodySF (plainFor_of_name pn_gi) hisR ?_
  intro p e s m args below meth c s₁ Bd hml0 hP hK
  obtain ⟨rfl, hZ, hh⟩ := hP
  have hx := Bd.exec
  have hby := Bd.bytes
  have hml : c.maxLocals = 2 := hml0
  have hown : s.vm.findClass "org/quirebase/store/page/Bytes" = some m.cls := findClass_of_methodNamed Bd.named
  have hnm := (name_of_methodNamed Bd.named Bd.method).1
  have hlk := BodyLoose.notSynchronized Bd
  have hret := Bd.returns
  have X0 : Stand p l e ({ frames := 0, cells := 0, slots := 0, locals := 0 } : Room) s m #[(.ref a), (.int ii)] below meth c s₁ [] 0 0 := Stand.of_body Bd
  have e0 : s₁.heap = h0 := by rw [← hh, Bd.state]; rfl
  have N0 := Fr.nil n0
  show own_G p e below (own_P s below (Q_gi Z a ii nn f t w0 w1 w2 w3 h0 n0) ({ frames := 0, cells := 0, slots := 0, locals := 0 } : Room).cells ({ frames := 0, cells := 0, slots := 0, locals := 0 } : Room).slots) _
  refine own_go (B := s₁.setTop (mkF m 0 #[.val (.ref a), .val (.int ii)] [])) (fun t k => castTop (ef_gi m a ii) k) ?_
  refine own_go (B := s₁.setTop (mkF m 1 #[.val (.ref a), .val (.int ii)] [(.ref a)])) (fun _ hr => XS.aloadN X0.here hx rfl (hb hby d1_0) rfl rfl hr) ?_
  refine own_go (B := s₁.setTop (mkF m 2 #[.val (.ref a), .val (.int ii)] [(.int ii), (.ref a)])) (fun _ hr => XS.iloadN X0.here hx rfl (hb hby d1_1) rfl hr) ?_
  refine own_go (B := s₁.setTop (mkF m 3 #[.val (.ref a), .val (.int ii)] [(.int w0)])) (fun _ hr => own_ldB X0 hx hZ e0 V ht (by omega) q0 (g := (mkF m 2 #[.val (.ref a), .val (.int ii)] [(.int ii), (.ref a)])) rfl rfl (hb hby d1_2) _ hr) ?_
  refine own_go (B := s₁.setTop (mkF m 5 #[.val (.ref a), .val (.int ii)] [(.int (24 : Int32)), (.int w0)])) (fun _ hr => XT.bipushV X0.here hx rfl (24 : Int32) (hb hby d1_3) (by decide) hr) ?_
  refine own_go (B := s₁.setTop (mkF m 6 #[.val (.ref a), .val (.int ii)] [(.int (w0 <<< ((24 : Int32) &&& 31)))])) (fun _ hr => XT.ishl X0.here hx rfl (hb hby d1_5) rfl hr) ?_
  refine own_go (B := s₁.setTop (mkF m 7 #[.val (.ref a), .val (.int ii)] [(.ref a), (.int (w0 <<< ((24 : Int32) &&& 31)))])) (fun _ hr => XS.aloadN X0.here hx rfl (hb hby d1_6) rfl rfl hr) ?_
  refine own_go (B := s₁.setTop (mkF m 8 #[.val (.ref a), .val (.int ii)] [(.int ii), (.ref a), (.int (w0 <<< ((24 : Int32) &&& 31)))])) (fun _ hr => XS.iloadN X0.here hx rfl (hb hby d1_7) rfl hr) ?_
  refine own_go (B := s₁.setTop (mkF m 9 #[.val (.ref a), .val (.int ii)] [(.int (1 : Int32)), (.int ii), (.ref a), (.int (w0 <<< ((24 : Int32) &&& 31)))])) (fun _ hr => XT.iconstV X0.here hx rfl (1 : Int32) (hb hby d1_8) (by decide) hr) ?_
  refine own_go (B := s₁.setTop (mkF m 10 #[.val (.ref a), .val (.int ii)] [(.int (ii + (1 : Int32))), (.ref a), (.int (w0 <<< ((24 : Int32) &&& 31)))])) (fun _ hr => XS.iadd X0.here hx rfl (hb hby d1_9) rfl hr) ?_
  refine own_go (B := s₁.setTop (mkF m 11 #[.val (.ref a), .val (.int ii)] [(.int w1), (.int (w0 <<< ((24 : Int32) &&& 31)))])) (fun _ hr => own_ldB X0 hx hZ e0 V (own_plus (q := 1) ht (by decide) (by omega)) (by omega) q1 (g := (mkF m 10 #[.val (.ref a), .val (.int ii)] [(.int (ii + (1 : Int32))), (.ref a), (.int (w0 <<< ((24 : Int32) &&& 31)))])) rfl rfl (hb hby d1_10) _ hr) ?_
  refine own_go (B := s₁.setTop (mkF m 14 #[.val (.ref a), .val (.int ii)] [(.int (255 : Int32)), (.int w1), (.int (w0 <<< ((24 : Int32) &&& 31)))])) (fun _ hr => XT.sipushV X0.here hx rfl (255 : Int32) (hb hby d1_11) (by decide) hr) ?_
  refine own_go (B := s₁.setTop (mkF m 15 #[.val (.ref a), .val (.int ii)] [(.int (w1 &&& (255 : Int32))), (.int (w0 <<< ((24 : Int32) &&& 31)))])) (fun _ hr => XS.iand X0.here hx rfl (hb hby d1_14) rfl hr) ?_
  refine own_go (B := s₁.setTop (mkF m 17 #[.val (.ref a), .val (.int ii)] [(.int (16 : Int32)), (.int (w1 &&& (255 : Int32))), (.int (w0 <<< ((24 : Int32) &&& 31)))])) (fun _ hr => XT.bipushV X0.here hx rfl (16 : Int32) (hb hby d1_15) (by decide) hr) ?_
  refine own_go (B := s₁.setTop (mkF m 18 #[.val (.ref a), .val (.int ii)] [(.int ((w1 &&& (255 : Int32)) <<< ((16 : Int32) &&& 31))), (.int (w0 <<< ((24 : Int32) &&& 31)))])) (fun _ hr => XT.ishl X0.here hx rfl (hb hby d1_17) rfl hr) ?_
  refine own_go (B := s₁.setTop (mkF m 19 #[.val (.ref a), .val (.int ii)] [(.int ((w0 <<< ((24 : Int32) &&& 31)) ||| ((w1 &&& (255 : Int32)) <<< ((16 : Int32) &&& 31))))])) (fun _ hr => XT.ior X0.here hx rfl (hb hby d1_18) rfl hr) ?_
  refine own_go (B := s₁.setTop (mkF m 20 #[.val (.ref a), .val (.int ii)] [(.ref a), (.int ((w0 <<< ((24 : Int32) &&& 31)) ||| ((w1 &&& (255 : Int32)) <<< ((16 : Int32) &&& 31))))])) (fun _ hr => XS.aloadN X0.here hx rfl (hb hby d1_19) rfl rfl hr) ?_
  refine own_go (B := s₁.setTop (mkF m 21 #[.val (.ref a), .val (.int ii)] [(.int ii), (.ref a), (.int ((w0 <<< ((24 : Int32) &&& 31)) ||| ((w1 &&& (255 : Int32)) <<< ((16 : Int32) &&& 31))))])) (fun _ hr => XS.iloadN X0.here hx rfl (hb hby d1_20) rfl hr) ?_
  refine own_go (B := s₁.setTop (mkF m 22 #[.val (.ref a), .val (.int ii)] [(.int (2 : Int32)), (.int ii), (.ref a), (.int ((w0 <<< ((24 : Int32) &&& 31)) ||| ((w1 &&& (255 : Int32)) <<< ((16 : Int32) &&& 31))))])) (fun _ hr => XT.iconstV X0.here hx rfl (2 : Int32) (hb hby d1_21) (by decide) hr) ?_
  refine own_go (B := s₁.setTop (mkF m 23 #[.val (.ref a), .val (.int ii)] [(.int (ii + (2 : Int32))), (.ref a), (.int ((w0 <<< ((24 : Int32) &&& 31)) ||| ((w1 &&& (255 : Int32)) <<< ((16 : Int32) &&& 31))))])) (fun _ hr => XS.iadd X0.here hx rfl (hb hby d1_22) rfl hr) ?_
  refine own_go (B := s₁.setTop (mkF m 24 #[.val (.ref a), .val (.int ii)] [(.int w2), (.int ((w0 <<< ((24 : Int32) &&& 31)) ||| ((w1 &&& (255 : Int32)) <<< ((16 : Int32) &&& 31))))])) (fun _ hr => own_ldB X0 hx hZ e0 V (own_plus (q := 2) ht (by decide) (by omega)) (by omega) q2 (g := (mkF m 23 #[.val (.ref a), .val (.int ii)] [(.int (ii + (2 : Int32))), (.ref a), (.int ((w0 <<< ((24 : Int32) &&& 31)) ||| ((w1 &&& (255 : Int32)) <<< ((16 : Int32) &&& 31))))])) rfl rfl (hb hby d1_23) _ hr) ?_
  refine own_go (B := s₁.setTop (mkF m 27 #[.val (.ref a), .val (.int ii)] [(.int (255 : Int32)), (.int w2), (.int ((w0 <<< ((24 : Int32) &&& 31)) ||| ((w1 &&& (255 : Int32)) <<< ((16 : Int32) &&& 31))))])) (fun _ hr => XT.sipushV X0.here hx rfl (255 : Int32) (hb hby d1_24) (by decide) hr) ?_
  refine own_go (B := s₁.setTop (mkF m 28 #[.val (.ref a), .val (.int ii)] [(.int (w2 &&& (255 : Int32))), (.int ((w0 <<< ((24 : Int32) &&& 31)) ||| ((w1 &&& (255 : Int32)) <<< ((16 : Int32) &&& 31))))])) (fun _ hr => XS.iand X0.here hx rfl (hb hby d1_27) rfl hr) ?_
  refine own_go (B := s₁.setTop (mkF m 30 #[.val (.ref a), .val (.int ii)] [(.int (8 : Int32)), (.int (w2 &&& (255 : Int32))), (.int ((w0 <<< ((24 : Int32) &&& 31)) ||| ((w1 &&& (255 : Int32)) <<< ((16 : Int32) &&& 31))))])) (fun _ hr => XT.bipushV X0.here hx rfl (8 : Int32) (hb hby d1_28) (by decide) hr) ?_
  refine own_go (B := s₁.setTop (mkF m 31 #[.val (.ref a), .val (.int ii)] [(.int ((w2 &&& (255 : Int32)) <<< ((8 : Int32) &&& 31))), (.int ((w0 <<< ((24 : Int32) &&& 31)) ||| ((w1 &&& (255 : Int32)) <<< ((16 : Int32) &&& 31))))])) (fun _ hr => XT.ishl X0.here hx rfl (hb hby d1_30) rfl hr) ?_
  refine own_go (B := s₁.setTop (mkF m 32 #[.val (.ref a), .val (.int ii)] [(.int (((w0 <<< ((24 : Int32) &&& 31)) ||| ((w1 &&& (255 : Int32)) <<< ((16 : Int32) &&& 31))) ||| ((w2 &&& (255 : Int32)) <<< ((8 : Int32) &&& 31))))])) (fun _ hr => XT.ior X0.here hx rfl (hb hby d1_31) rfl hr) ?_
  refine own_go (B := s₁.setTop (mkF m 33 #[.val (.ref a), .val (.int ii)] [(.ref a), (.int (((w0 <<< ((24 : Int32) &&& 31)) ||| ((w1 &&& (255 : Int32)) <<< ((16 : Int32) &&& 31))) ||| ((w2 &&& (255 : Int32)) <<< ((8 : Int32) &&& 31))))])) (fun _ hr => XS.aloadN X0.here hx rfl (hb hby d1_32) rfl rfl hr) ?_
  refine own_go (B := s₁.setTop (mkF m 34 #[.val (.ref a), .val (.int ii)] [(.int ii), (.ref a), (.int (((w0 <<< ((24 : Int32) &&& 31)) ||| ((w1 &&& (255 : Int32)) <<< ((16 : Int32) &&& 31))) ||| ((w2 &&& (255 : Int32)) <<< ((8 : Int32) &&& 31))))])) (fun _ hr => XS.iloadN X0.here hx rfl (hb hby d1_33) rfl hr) ?_
  refine own_go (B := s₁.setTop (mkF m 35 #[.val (.ref a), .val (.int ii)] [(.int (3 : Int32)), (.int ii), (.ref a), (.int (((w0 <<< ((24 : Int32) &&& 31)) ||| ((w1 &&& (255 : Int32)) <<< ((16 : Int32) &&& 31))) ||| ((w2 &&& (255 : Int32)) <<< ((8 : Int32) &&& 31))))])) (fun _ hr => XT.iconstV X0.here hx rfl (3 : Int32) (hb hby d1_34) (by decide) hr) ?_
  refine own_go (B := s₁.setTop (mkF m 36 #[.val (.ref a), .val (.int ii)] [(.int (ii + (3 : Int32))), (.ref a), (.int (((w0 <<< ((24 : Int32) &&& 31)) ||| ((w1 &&& (255 : Int32)) <<< ((16 : Int32) &&& 31))) ||| ((w2 &&& (255 : Int32)) <<< ((8 : Int32) &&& 31))))])) (fun _ hr => XS.iadd X0.here hx rfl (hb hby d1_35) rfl hr) ?_
  refine own_go (B := s₁.setTop (mkF m 37 #[.val (.ref a), .val (.int ii)] [(.int w3), (.int (((w0 <<< ((24 : Int32) &&& 31)) ||| ((w1 &&& (255 : Int32)) <<< ((16 : Int32) &&& 31))) ||| ((w2 &&& (255 : Int32)) <<< ((8 : Int32) &&& 31))))])) (fun _ hr => own_ldB X0 hx hZ e0 V (own_plus (q := 3) ht (by decide) (by omega)) (by omega) q3 (g := (mkF m 36 #[.val (.ref a), .val (.int ii)] [(.int (ii + (3 : Int32))), (.ref a), (.int (((w0 <<< ((24 : Int32) &&& 31)) ||| ((w1 &&& (255 : Int32)) <<< ((16 : Int32) &&& 31))) ||| ((w2 &&& (255 : Int32)) <<< ((8 : Int32) &&& 31))))])) rfl rfl (hb hby d1_36) _ hr) ?_
  refine own_go (B := s₁.setTop (mkF m 40 #[.val (.ref a), .val (.int ii)] [(.int (255 : Int32)), (.int w3), (.int (((w0 <<< ((24 : Int32) &&& 31)) ||| ((w1 &&& (255 : Int32)) <<< ((16 : Int32) &&& 31))) ||| ((w2 &&& (255 : Int32)) <<< ((8 : Int32) &&& 31))))])) (fun _ hr => XT.sipushV X0.here hx rfl (255 : Int32) (hb hby d1_37) (by decide) hr) ?_
  refine own_go (B := s₁.setTop (mkF m 41 #[.val (.ref a), .val (.int ii)] [(.int (w3 &&& (255 : Int32))), (.int (((w0 <<< ((24 : Int32) &&& 31)) ||| ((w1 &&& (255 : Int32)) <<< ((16 : Int32) &&& 31))) ||| ((w2 &&& (255 : Int32)) <<< ((8 : Int32) &&& 31))))])) (fun _ hr => XS.iand X0.here hx rfl (hb hby d1_40) rfl hr) ?_
  refine own_go (B := s₁.setTop (mkF m 42 #[.val (.ref a), .val (.int ii)] [(.int ((((w0 <<< ((24 : Int32) &&& 31)) ||| ((w1 &&& (255 : Int32)) <<< ((16 : Int32) &&& 31))) ||| ((w2 &&& (255 : Int32)) <<< ((8 : Int32) &&& 31))) ||| (w3 &&& (255 : Int32))))])) (fun _ hr => XT.ior X0.here hx rfl (hb hby d1_41) rfl hr) ?_
  exact own_retI X0 hx hlk hret  (hb hby d1_42) (by decide) (by decide) ⟨rfl, N0, e0⟩
theorem pn_law : plainName "org/quirebase/store/page/BytesGetIntPinLaw" = true := by first | (simp [plainName, overriddenIn]; done) | decide +kernel
theorem ef_law (m : MethodId) (x0 : Int32) (x1 : Int32) (x2 : Int32) (x3 : Int32) (x4 : Int32) (x5 : Int32) : entryFrame m #[(.int x0), (.int x1), (.int x2), (.int x3), (.int x4), (.int x5)] maxLocals = mkF m 0 #[.val (.int x0), .val (.int x1), .val (.int x2), .val (.int x3), .val (.int x4), .val (.int x5), .unset, .unset, .unset, .unset, .unset, .unset, .unset] [] := by first | (simp [entryFrame, mkF, argsToLocals, Value.category, maxLocals]; done) | rfl
def Q_law (Z : State) (u0 : Int32) (u1 : Int32) (u2 : Int32) (u3 : Int32) (si : Int32) (fi : Int32) (h0 : Heap) (n0 : Nat) (v : Option Value) (h : Heap) (L : List Loc) : Prop := v = some (.int 1) ∧ Fr n0 L
set_option maxRecDepth 65536 in
set_option maxHeartbeats 40000000 in
theorem rm_law (l : Launch) (Z : State) (a0 : Array Value) (hw : ∀ d ∈ tables_1, d.before a0 Z = true) (ws : List Jvm.Cond) (u0 : Int32) (u1 : Int32) (u2 : Int32) (u3 : Int32) (si : Int32) (fi : Int32) (h0 : Heap) (n0 : Nat) (Z0 : n0 ≤ h0.size)  :
    MetFree l x (head1 (Jvm.Cond.code x code maxLocals ret :: ws) room_1) (fun as U => as = #[(.int u0), (.int u1), (.int u2), (.int u3), (.int si), (.int fi)] ∧ Z.Warmed39 U.vm ∧ U.heap = h0) (fun _ _ _ _ _ => True) (fun _ U o U' => ∃ v L, o = .returned v ∧ Q_law Z u0 u1 u2 u3 si fi h0 n0 v U'.heap L ∧ FrameEnd U o U' L 16 128) := by
  refine MetFree.of_bodySF (plainFor_of_name pn_law) hisR ?_
  intro p e s m args below meth c s₁ Bd hml0 hP hK
  obtain ⟨rfl, hZ, hh⟩ := hP
  have hx := Bd.exec
  have hby := Bd.bytes
  have hml : c.maxLocals = 13 := hml0
  have hown : s.vm.findClass "org/quirebase/store/page/BytesGetIntPinLaw" = some m.cls := findClass_of_methodNamed Bd.named
  have hnm := (name_of_methodNamed Bd.named Bd.method).1
  have hlk := BodyLoose.notSynchronized Bd
  have hret := Bd.returns
  have X0 : Stand p l e room_1 s m #[(.int u0), (.int u1), (.int u2), (.int u3), (.int si), (.int fi)] below meth c s₁ [] 0 0 := Stand.of_body Bd
  have e0 : s₁.heap = h0 := by rw [← hh, Bd.state]; rfl
  have N0 := Fr.nil n0
  show own_G p e below (own_P s below (Q_law Z u0 u1 u2 u3 si fi h0 n0) 16 128) _
  refine own_go (B := s₁.setTop (mkF m 0 #[.val (.int u0), .val (.int u1), .val (.int u2), .val (.int u3), .val (.int si), .val (.int fi), .unset, .unset, .unset, .unset, .unset, .unset, .unset] [])) (fun t k => castTop (ef_law m u0 u1 u2 u3 si fi) k) ?_
  refine own_go (B := s₁.setTop (mkF m 2 #[.val (.int u0), .val (.int u1), .val (.int u2), .val (.int u3), .val (.int si), .val (.int fi), .unset, .unset, .unset, .unset, .unset, .unset, .unset] [(.int si)])) (fun _ hr => XS.iload X0.here hx rfl (hb hby at_0) rfl hr) ?_
  refine own_go (B := s₁.setTop (mkF m 4 #[.val (.int u0), .val (.int u1), .val (.int u2), .val (.int u3), .val (.int si), .val (.int fi), .unset, .unset, .unset, .unset, .unset, .unset, .unset] [(.int (2147483647 : Int32)), (.int si)])) (fun _ hr => X0.ldcI hx hown (mvT hZ (hw _ (List.mem_of_getElem? (i := 0) rfl))) rfl (hb hby at_2) hr) ?_
  refine own_go (B := s₁.setTop (mkF m 5 #[.val (.int u0), .val (.int u1), .val (.int u2), .val (.int u3), .val (.int si), .val (.int fi), .unset, .unset, .unset, .unset, .unset, .unset, .unset] [(.int (si &&& (2147483647 : Int32)))])) (fun _ hr => XS.iand X0.here hx rfl (hb hby at_4) rfl hr) ?_
  refine own_go (B := s₁.setTop (mkF m 6 #[.val (.int u0), .val (.int u1), .val (.int u2), .val (.int u3), .val (.int si), .val (.int fi), .unset, .unset, .unset, .unset, .unset, .unset, .unset] [(.int (5 : Int32)), (.int (si &&& (2147483647 : Int32)))])) (fun _ hr => XT.iconstV X0.here hx rfl (5 : Int32) (hb hby at_5) (by decide) hr) ?_
  refine own_go (B := s₁.setTop (mkF m 7 #[.val (.int u0), .val (.int u1), .val (.int u2), .val (.int u3), .val (.int si), .val (.int fi), .unset, .unset, .unset, .unset, .unset, .unset, .unset] [(.int ((si &&& (2147483647 : Int32)) % (5 : Int32)))])) (fun _ hr => iremM X0 hx rfl (hb hby at_6) rfl (by decide) hr) ?_
  refine own_go (B := s₁.setTop (mkF m 9 #[.val (.int u0), .val (.int u1), .val (.int u2), .val (.int u3), .val (.int si), .val (.int fi), .val (.int ((si &&& (2147483647 : Int32)) % (5 : Int32))), .unset, .unset, .unset, .unset, .unset, .unset] [])) (fun _ hr => XS.istore X0.here hx rfl (hb hby at_7) rfl (l' := #[.val (.int u0), .val (.int u1), .val (.int u2), .val (.int u3), .val (.int si), .val (.int fi), .val (.int ((si &&& (2147483647 : Int32)) % (5 : Int32))), .unset, .unset, .unset, .unset, .unset, .unset]) rfl hr) ?_
  obtain ⟨t, hat, ht4⟩ := own_seed si
  generalize ((si &&& (2147483647 : Int32)) % (5 : Int32)) = ai at hat ⊢
  refine own_go (B := s₁.setTop (mkF m 11 #[.val (.int u0), .val (.int u1), .val (.int u2), .val (.int u3), .val (.int si), .val (.int fi), .val (.int ai), .unset, .unset, .unset, .unset, .unset, .unset] [(.int (8 : Int32))])) (fun _ hr => XT.bipushV X0.here hx rfl (8 : Int32) (hb hby at_9) (by decide) hr) ?_
  obtain ⟨T1, h1, cA1, X1, e1, E1, A1, st1⟩ := newP X0 hx hZ (hw _ (List.mem_of_getElem? (i := 1) rfl)) e0 (g := (mkF m 11 #[.val (.int u0), .val (.int u1), .val (.int u2), .val (.int u3), .val (.int si), .val (.int fi), .val (.int ai), .unset, .unset, .unset, .unset, .unset, .unset] [(.int (8 : Int32))])) rfl (hb hby at_11) rfl (by decide) (cap := 8) (by rw [(own_at (by decide : (8 : Int32).toInt = ((8 : Nat) : Int))).2]; omega) (by decide) (by decide) (by decide)
  obtain ⟨a1, g1⟩ : ∃ z, z = h0.size := ⟨_, rfl⟩
  rw [← g1] at A1 st1
  have V1 := own_Ar.new A1 (by decide : (8 : Int32).toInt = ((8 : Nat) : Int))
  refine own_go (B := T1.setTop (mkF m 13 #[.val (.int u0), .val (.int u1), .val (.int u2), .val (.int u3), .val (.int si), .val (.int fi), .val (.int ai), .unset, .unset, .unset, .unset, .unset, .unset] [(.ref a1)])) (fun t hr => st1 t hr) ?_
  have ge : n0 ≤ a1 := Nat.le_trans Z0 (Nat.le_of_eq g1.symm)
  refine own_go (B := T1.setTop (mkF m 15 #[.val (.int u0), .val (.int u1), .val (.int u2), .val (.int u3), .val (.int si), .val (.int fi), .val (.int ai), .val (.ref a1), .unset, .unset, .unset, .unset, .unset] [])) (fun _ hr => XS.astore X1.here hx rfl (hb hby at_13) rfl rfl (l' := #[.val (.int u0), .val (.int u1), .val (.int u2), .val (.int u3), .val (.int si), .val (.int fi), .val (.int ai), .val (.ref a1), .unset, .unset, .unset, .unset, .unset]) rfl hr) ?_
  refine own_go (B := T1.setTop (mkF m 17 #[.val (.int u0), .val (.int u1), .val (.int u2), .val (.int u3), .val (.int si), .val (.int fi), .val (.int ai), .val (.ref a1), .unset, .unset, .unset, .unset, .unset] [(.ref a1)])) (fun _ hr => XS.aload X1.here hx rfl (hb hby at_15) rfl rfl hr) ?_
  refine own_go (B := T1.setTop (mkF m 18 #[.val (.int u0), .val (.int u1), .val (.int u2), .val (.int u3), .val (.int si), .val (.int fi), .val (.int ai), .val (.ref a1), .unset, .unset, .unset, .unset, .unset] [(.int (0 : Int32)), (.ref a1)])) (fun _ hr => XT.iconstV X1.here hx rfl (0 : Int32) (hb hby at_17) (by decide) hr) ?_
  refine own_go (B := T1.setTop (mkF m 20 #[.val (.int u0), .val (.int u1), .val (.int u2), .val (.int u3), .val (.int si), .val (.int fi), .val (.int ai), .val (.ref a1), .unset, .unset, .unset, .unset, .unset] [(.int fi), (.int (0 : Int32)), (.ref a1)])) (fun _ hr => XS.iload X1.here hx rfl (hb hby at_18) rfl hr) ?_
  refine own_go (B := T1.setTop (mkF m 21 #[.val (.int u0), .val (.int u1), .val (.int u2), .val (.int u3), .val (.int si), .val (.int fi), .val (.int ai), .val (.ref a1), .unset, .unset, .unset, .unset, .unset] [(.int (fi.toInt8.toInt32)), (.int (0 : Int32)), (.ref a1)])) (fun _ hr => XT.i2b X1.here hx rfl (hb hby at_20) rfl hr) ?_
  obtain ⟨T2, h2, X2, e2, W2, V2, st2⟩ := own_stB X1 hx hZ e1 V1 (by decide : (0 : Int32).toInt = ((0 : Nat) : Int)) (by decide) (own_b8 _) (g := (mkF m 21 #[.val (.int u0), .val (.int u1), .val (.int u2), .val (.int u3), .val (.int si), .val (.int fi), .val (.int ai), .val (.ref a1), .unset, .unset, .unset, .unset, .unset] [(.int (fi.toInt8.toInt32)), (.int (0 : Int32)), (.ref a1)])) rfl rfl (hb hby at_21)
  have N2 := Fr.snoc X2 N0 ge
  refine own_go (B := T2.setTop (mkF m 22 #[.val (.int u0), .val (.int u1), .val (.int u2), .val (.int u3), .val (.int si), .val (.int fi), .val (.int ai), .val (.ref a1), .unset, .unset, .unset, .unset, .unset] [])) (fun t hr => st2 t hr) ?_
  refine own_go (B := T2.setTop (mkF m 24 #[.val (.int u0), .val (.int u1), .val (.int u2), .val (.int u3), .val (.int si), .val (.int fi), .val (.int ai), .val (.ref a1), .unset, .unset, .unset, .unset, .unset] [(.ref a1)])) (fun _ hr => XS.aload X2.here hx rfl (hb hby at_22) rfl rfl hr) ?_
  refine own_go (B := T2.setTop (mkF m 25 #[.val (.int u0), .val (.int u1), .val (.int u2), .val (.int u3), .val (.int si), .val (.int fi), .val (.int ai), .val (.ref a1), .unset, .unset, .unset, .unset, .unset] [(.int (1 : Int32)), (.ref a1)])) (fun _ hr => XT.iconstV X2.here hx rfl (1 : Int32) (hb hby at_24) (by decide) hr) ?_
  refine own_go (B := T2.setTop (mkF m 27 #[.val (.int u0), .val (.int u1), .val (.int u2), .val (.int u3), .val (.int si), .val (.int fi), .val (.int ai), .val (.ref a1), .unset, .unset, .unset, .unset, .unset] [(.int fi), (.int (1 : Int32)), (.ref a1)])) (fun _ hr => XS.iload X2.here hx rfl (hb hby at_25) rfl hr) ?_
  refine own_go (B := T2.setTop (mkF m 29 #[.val (.int u0), .val (.int u1), .val (.int u2), .val (.int u3), .val (.int si), .val (.int fi), .val (.int ai), .val (.ref a1), .unset, .unset, .unset, .unset, .unset] [(.int (8 : Int32)), (.int fi), (.int (1 : Int32)), (.ref a1)])) (fun _ hr => XT.bipushV X2.here hx rfl (8 : Int32) (hb hby at_27) (by decide) hr) ?_
  refine own_go (B := T2.setTop (mkF m 30 #[.val (.int u0), .val (.int u1), .val (.int u2), .val (.int u3), .val (.int si), .val (.int fi), .val (.int ai), .val (.ref a1), .unset, .unset, .unset, .unset, .unset] [(.int (XT.ushr fi (8 : Int32))), (.int (1 : Int32)), (.ref a1)])) (fun _ hr => XT.iushr X2.here hx rfl (hb hby at_29) rfl hr) ?_
  refine own_go (B := T2.setTop (mkF m 31 #[.val (.int u0), .val (.int u1), .val (.int u2), .val (.int u3), .val (.int si), .val (.int fi), .val (.int ai), .val (.ref a1), .unset, .unset, .unset, .unset, .unset] [(.int ((XT.ushr fi (8 : Int32)).toInt8.toInt32)), (.int (1 : Int32)), (.ref a1)])) (fun _ hr => XT.i2b X2.here hx rfl (hb hby at_30) rfl hr) ?_
  obtain ⟨T3, h3, X3, e3, W3, V3, st3⟩ := own_stB X2 hx hZ e2 V2 (by decide : (1 : Int32).toInt = ((1 : Nat) : Int)) (by decide) (own_b8 _) (g := (mkF m 31 #[.val (.int u0), .val (.int u1), .val (.int u2), .val (.int u3), .val (.int si), .val (.int fi), .val (.int ai), .val (.ref a1), .unset, .unset, .unset, .unset, .unset] [(.int ((XT.ushr fi (8 : Int32)).toInt8.toInt32)), (.int (1 : Int32)), (.ref a1)])) rfl rfl (hb hby at_31)
  have N3 := Fr.snoc X3 N2 ge
  refine own_go (B := T3.setTop (mkF m 32 #[.val (.int u0), .val (.int u1), .val (.int u2), .val (.int u3), .val (.int si), .val (.int fi), .val (.int ai), .val (.ref a1), .unset, .unset, .unset, .unset, .unset] [])) (fun t hr => st3 t hr) ?_
  refine own_go (B := T3.setTop (mkF m 34 #[.val (.int u0), .val (.int u1), .val (.int u2), .val (.int u3), .val (.int si), .val (.int fi), .val (.int ai), .val (.ref a1), .unset, .unset, .unset, .unset, .unset] [(.ref a1)])) (fun _ hr => XS.aload X3.here hx rfl (hb hby at_32) rfl rfl hr) ?_
  refine own_go (B := T3.setTop (mkF m 35 #[.val (.int u0), .val (.int u1), .val (.int u2), .val (.int u3), .val (.int si), .val (.int fi), .val (.int ai), .val (.ref a1), .unset, .unset, .unset, .unset, .unset] [(.int (2 : Int32)), (.ref a1)])) (fun _ hr => XT.iconstV X3.here hx rfl (2 : Int32) (hb hby at_34) (by decide) hr) ?_
  refine own_go (B := T3.setTop (mkF m 37 #[.val (.int u0), .val (.int u1), .val (.int u2), .val (.int u3), .val (.int si), .val (.int fi), .val (.int ai), .val (.ref a1), .unset, .unset, .unset, .unset, .unset] [(.int fi), (.int (2 : Int32)), (.ref a1)])) (fun _ hr => XS.iload X3.here hx rfl (hb hby at_35) rfl hr) ?_
  refine own_go (B := T3.setTop (mkF m 39 #[.val (.int u0), .val (.int u1), .val (.int u2), .val (.int u3), .val (.int si), .val (.int fi), .val (.int ai), .val (.ref a1), .unset, .unset, .unset, .unset, .unset] [(.int (16 : Int32)), (.int fi), (.int (2 : Int32)), (.ref a1)])) (fun _ hr => XT.bipushV X3.here hx rfl (16 : Int32) (hb hby at_37) (by decide) hr) ?_
  refine own_go (B := T3.setTop (mkF m 40 #[.val (.int u0), .val (.int u1), .val (.int u2), .val (.int u3), .val (.int si), .val (.int fi), .val (.int ai), .val (.ref a1), .unset, .unset, .unset, .unset, .unset] [(.int (XT.ushr fi (16 : Int32))), (.int (2 : Int32)), (.ref a1)])) (fun _ hr => XT.iushr X3.here hx rfl (hb hby at_39) rfl hr) ?_
  refine own_go (B := T3.setTop (mkF m 41 #[.val (.int u0), .val (.int u1), .val (.int u2), .val (.int u3), .val (.int si), .val (.int fi), .val (.int ai), .val (.ref a1), .unset, .unset, .unset, .unset, .unset] [(.int ((XT.ushr fi (16 : Int32)).toInt8.toInt32)), (.int (2 : Int32)), (.ref a1)])) (fun _ hr => XT.i2b X3.here hx rfl (hb hby at_40) rfl hr) ?_
  obtain ⟨T4, h4, X4, e4, W4, V4, st4⟩ := own_stB X3 hx hZ e3 V3 (by decide : (2 : Int32).toInt = ((2 : Nat) : Int)) (by decide) (own_b8 _) (g := (mkF m 41 #[.val (.int u0), .val (.int u1), .val (.int u2), .val (.int u3), .val (.int si), .val (.int fi), .val (.int ai), .val (.ref a1), .unset, .unset, .unset, .unset, .unset] [(.int ((XT.ushr fi (16 : Int32)).toInt8.toInt32)), (.int (2 : Int32)), (.ref a1)])) rfl rfl (hb hby at_41)
  have N4 := Fr.snoc X4 N3 ge
  refine own_go (B := T4.setTop (mkF m 42 #[.val (.int u0), .val (.int u1), .val (.int u2), .val (.int u3), .val (.int si), .val (.int fi), .val (.int ai), .val (.ref a1), .unset, .unset, .unset, .unset, .unset] [])) (fun t hr => st4 t hr) ?_
  refine own_go (B := T4.setTop (mkF m 44 #[.val (.int u0), .val (.int u1), .val (.int u2), .val (.int u3), .val (.int si), .val (.int fi), .val (.int ai), .val (.ref a1), .unset, .unset, .unset, .unset, .unset] [(.ref a1)])) (fun _ hr => XS.aload X4.here hx rfl (hb hby at_42) rfl rfl hr) ?_
  refine own_go (B := T4.setTop (mkF m 45 #[.val (.int u0), .val (.int u1), .val (.int u2), .val (.int u3), .val (.int si), .val (.int fi), .val (.int ai), .val (.ref a1), .unset, .unset, .unset, .unset, .unset] [(.int (3 : Int32)), (.ref a1)])) (fun _ hr => XT.iconstV X4.here hx rfl (3 : Int32) (hb hby at_44) (by decide) hr) ?_
  refine own_go (B := T4.setTop (mkF m 47 #[.val (.int u0), .val (.int u1), .val (.int u2), .val (.int u3), .val (.int si), .val (.int fi), .val (.int ai), .val (.ref a1), .unset, .unset, .unset, .unset, .unset] [(.int fi), (.int (3 : Int32)), (.ref a1)])) (fun _ hr => XS.iload X4.here hx rfl (hb hby at_45) rfl hr) ?_
  refine own_go (B := T4.setTop (mkF m 49 #[.val (.int u0), .val (.int u1), .val (.int u2), .val (.int u3), .val (.int si), .val (.int fi), .val (.int ai), .val (.ref a1), .unset, .unset, .unset, .unset, .unset] [(.int (24 : Int32)), (.int fi), (.int (3 : Int32)), (.ref a1)])) (fun _ hr => XT.bipushV X4.here hx rfl (24 : Int32) (hb hby at_47) (by decide) hr) ?_
  refine own_go (B := T4.setTop (mkF m 50 #[.val (.int u0), .val (.int u1), .val (.int u2), .val (.int u3), .val (.int si), .val (.int fi), .val (.int ai), .val (.ref a1), .unset, .unset, .unset, .unset, .unset] [(.int (XT.ushr fi (24 : Int32))), (.int (3 : Int32)), (.ref a1)])) (fun _ hr => XT.iushr X4.here hx rfl (hb hby at_49) rfl hr) ?_
  refine own_go (B := T4.setTop (mkF m 51 #[.val (.int u0), .val (.int u1), .val (.int u2), .val (.int u3), .val (.int si), .val (.int fi), .val (.int ai), .val (.ref a1), .unset, .unset, .unset, .unset, .unset] [(.int ((XT.ushr fi (24 : Int32)).toInt8.toInt32)), (.int (3 : Int32)), (.ref a1)])) (fun _ hr => XT.i2b X4.here hx rfl (hb hby at_50) rfl hr) ?_
  obtain ⟨T5, h5, X5, e5, W5, V5, st5⟩ := own_stB X4 hx hZ e4 V4 (by decide : (3 : Int32).toInt = ((3 : Nat) : Int)) (by decide) (own_b8 _) (g := (mkF m 51 #[.val (.int u0), .val (.int u1), .val (.int u2), .val (.int u3), .val (.int si), .val (.int fi), .val (.int ai), .val (.ref a1), .unset, .unset, .unset, .unset, .unset] [(.int ((XT.ushr fi (24 : Int32)).toInt8.toInt32)), (.int (3 : Int32)), (.ref a1)])) rfl rfl (hb hby at_51)
  have N5 := Fr.snoc X5 N4 ge
  refine own_go (B := T5.setTop (mkF m 52 #[.val (.int u0), .val (.int u1), .val (.int u2), .val (.int u3), .val (.int si), .val (.int fi), .val (.int ai), .val (.ref a1), .unset, .unset, .unset, .unset, .unset] [])) (fun t hr => st5 t hr) ?_
  refine own_go (B := T5.setTop (mkF m 54 #[.val (.int u0), .val (.int u1), .val (.int u2), .val (.int u3), .val (.int si), .val (.int fi), .val (.int ai), .val (.ref a1), .unset, .unset, .unset, .unset, .unset] [(.ref a1)])) (fun _ hr => XS.aload X5.here hx rfl (hb hby at_52) rfl rfl hr) ?_
  refine own_go (B := T5.setTop (mkF m 55 #[.val (.int u0), .val (.int u1), .val (.int u2), .val (.int u3), .val (.int si), .val (.int fi), .val (.int ai), .val (.ref a1), .unset, .unset, .unset, .unset, .unset] [(.int (4 : Int32)), (.ref a1)])) (fun _ hr => XT.iconstV X5.here hx rfl (4 : Int32) (hb hby at_54) (by decide) hr) ?_
  refine own_go (B := T5.setTop (mkF m 57 #[.val (.int u0), .val (.int u1), .val (.int u2), .val (.int u3), .val (.int si), .val (.int fi), .val (.int ai), .val (.ref a1), .unset, .unset, .unset, .unset, .unset] [(.int fi), (.int (4 : Int32)), (.ref a1)])) (fun _ hr => XS.iload X5.here hx rfl (hb hby at_55) rfl hr) ?_
  refine own_go (B := T5.setTop (mkF m 58 #[.val (.int u0), .val (.int u1), .val (.int u2), .val (.int u3), .val (.int si), .val (.int fi), .val (.int ai), .val (.ref a1), .unset, .unset, .unset, .unset, .unset] [(.int (-1 : Int32)), (.int fi), (.int (4 : Int32)), (.ref a1)])) (fun _ hr => XT.iconstV X5.here hx rfl (-1 : Int32) (hb hby at_57) (by decide) hr) ?_
  refine own_go (B := T5.setTop (mkF m 59 #[.val (.int u0), .val (.int u1), .val (.int u2), .val (.int u3), .val (.int si), .val (.int fi), .val (.int ai), .val (.ref a1), .unset, .unset, .unset, .unset, .unset] [(.int (fi ^^^ (-1 : Int32))), (.int (4 : Int32)), (.ref a1)])) (fun _ hr => XT.ixor X5.here hx rfl (hb hby at_58) rfl hr) ?_
  refine own_go (B := T5.setTop (mkF m 60 #[.val (.int u0), .val (.int u1), .val (.int u2), .val (.int u3), .val (.int si), .val (.int fi), .val (.int ai), .val (.ref a1), .unset, .unset, .unset, .unset, .unset] [(.int ((fi ^^^ (-1 : Int32)).toInt8.toInt32)), (.int (4 : Int32)), (.ref a1)])) (fun _ hr => XT.i2b X5.here hx rfl (hb hby at_59) rfl hr) ?_
  obtain ⟨T6, h6, X6, e6, W6, V6, st6⟩ := own_stB X5 hx hZ e5 V5 (by decide : (4 : Int32).toInt = ((4 : Nat) : Int)) (by decide) (own_b8 _) (g := (mkF m 60 #[.val (.int u0), .val (.int u1), .val (.int u2), .val (.int u3), .val (.int si), .val (.int fi), .val (.int ai), .val (.ref a1), .unset, .unset, .unset, .unset, .unset] [(.int ((fi ^^^ (-1 : Int32)).toInt8.toInt32)), (.int (4 : Int32)), (.ref a1)])) rfl rfl (hb hby at_60)
  have N6 := Fr.snoc X6 N5 ge
  refine own_go (B := T6.setTop (mkF m 61 #[.val (.int u0), .val (.int u1), .val (.int u2), .val (.int u3), .val (.int si), .val (.int fi), .val (.int ai), .val (.ref a1), .unset, .unset, .unset, .unset, .unset] [])) (fun t hr => st6 t hr) ?_
  refine own_go (B := T6.setTop (mkF m 63 #[.val (.int u0), .val (.int u1), .val (.int u2), .val (.int u3), .val (.int si), .val (.int fi), .val (.int ai), .val (.ref a1), .unset, .unset, .unset, .unset, .unset] [(.ref a1)])) (fun _ hr => XS.aload X6.here hx rfl (hb hby at_61) rfl rfl hr) ?_
  refine own_go (B := T6.setTop (mkF m 64 #[.val (.int u0), .val (.int u1), .val (.int u2), .val (.int u3), .val (.int si), .val (.int fi), .val (.int ai), .val (.ref a1), .unset, .unset, .unset, .unset, .unset] [(.int (5 : Int32)), (.ref a1)])) (fun _ hr => XT.iconstV X6.here hx rfl (5 : Int32) (hb hby at_63) (by decide) hr) ?_
  refine own_go (B := T6.setTop (mkF m 66 #[.val (.int u0), .val (.int u1), .val (.int u2), .val (.int u3), .val (.int si), .val (.int fi), .val (.int ai), .val (.ref a1), .unset, .unset, .unset, .unset, .unset] [(.int fi), (.int (5 : Int32)), (.ref a1)])) (fun _ hr => XS.iload X6.here hx rfl (hb hby at_64) rfl hr) ?_
  refine own_go (B := T6.setTop (mkF m 68 #[.val (.int u0), .val (.int u1), .val (.int u2), .val (.int u3), .val (.int si), .val (.int fi), .val (.int ai), .val (.ref a1), .unset, .unset, .unset, .unset, .unset] [(.int (8 : Int32)), (.int fi), (.int (5 : Int32)), (.ref a1)])) (fun _ hr => XT.bipushV X6.here hx rfl (8 : Int32) (hb hby at_66) (by decide) hr) ?_
  refine own_go (B := T6.setTop (mkF m 69 #[.val (.int u0), .val (.int u1), .val (.int u2), .val (.int u3), .val (.int si), .val (.int fi), .val (.int ai), .val (.ref a1), .unset, .unset, .unset, .unset, .unset] [(.int (XT.ushr fi (8 : Int32))), (.int (5 : Int32)), (.ref a1)])) (fun _ hr => XT.iushr X6.here hx rfl (hb hby at_68) rfl hr) ?_
  refine own_go (B := T6.setTop (mkF m 70 #[.val (.int u0), .val (.int u1), .val (.int u2), .val (.int u3), .val (.int si), .val (.int fi), .val (.int ai), .val (.ref a1), .unset, .unset, .unset, .unset, .unset] [(.int (-1 : Int32)), (.int (XT.ushr fi (8 : Int32))), (.int (5 : Int32)), (.ref a1)])) (fun _ hr => XT.iconstV X6.here hx rfl (-1 : Int32) (hb hby at_69) (by decide) hr) ?_
  refine own_go (B := T6.setTop (mkF m 71 #[.val (.int u0), .val (.int u1), .val (.int u2), .val (.int u3), .val (.int si), .val (.int fi), .val (.int ai), .val (.ref a1), .unset, .unset, .unset, .unset, .unset] [(.int ((XT.ushr fi (8 : Int32)) ^^^ (-1 : Int32))), (.int (5 : Int32)), (.ref a1)])) (fun _ hr => XT.ixor X6.here hx rfl (hb hby at_70) rfl hr) ?_
  refine own_go (B := T6.setTop (mkF m 72 #[.val (.int u0), .val (.int u1), .val (.int u2), .val (.int u3), .val (.int si), .val (.int fi), .val (.int ai), .val (.ref a1), .unset, .unset, .unset, .unset, .unset] [(.int (((XT.ushr fi (8 : Int32)) ^^^ (-1 : Int32)).toInt8.toInt32)), (.int (5 : Int32)), (.ref a1)])) (fun _ hr => XT.i2b X6.here hx rfl (hb hby at_71) rfl hr) ?_
  obtain ⟨T7, h7, X7, e7, W7, V7, st7⟩ := own_stB X6 hx hZ e6 V6 (by decide : (5 : Int32).toInt = ((5 : Nat) : Int)) (by decide) (own_b8 _) (g := (mkF m 72 #[.val (.int u0), .val (.int u1), .val (.int u2), .val (.int u3), .val (.int si), .val (.int fi), .val (.int ai), .val (.ref a1), .unset, .unset, .unset, .unset, .unset] [(.int (((XT.ushr fi (8 : Int32)) ^^^ (-1 : Int32)).toInt8.toInt32)), (.int (5 : Int32)), (.ref a1)])) rfl rfl (hb hby at_72)
  have N7 := Fr.snoc X7 N6 ge
  refine own_go (B := T7.setTop (mkF m 73 #[.val (.int u0), .val (.int u1), .val (.int u2), .val (.int u3), .val (.int si), .val (.int fi), .val (.int ai), .val (.ref a1), .unset, .unset, .unset, .unset, .unset] [])) (fun t hr => st7 t hr) ?_
  refine own_go (B := T7.setTop (mkF m 75 #[.val (.int u0), .val (.int u1), .val (.int u2), .val (.int u3), .val (.int si), .val (.int fi), .val (.int ai), .val (.ref a1), .unset, .unset, .unset, .unset, .unset] [(.ref a1)])) (fun _ hr => XS.aload X7.here hx rfl (hb hby at_73) rfl rfl hr) ?_
  refine own_go (B := T7.setTop (mkF m 77 #[.val (.int u0), .val (.int u1), .val (.int u2), .val (.int u3), .val (.int si), .val (.int fi), .val (.int ai), .val (.ref a1), .unset, .unset, .unset, .unset, .unset] [(.int (6 : Int32)), (.ref a1)])) (fun _ hr => XT.bipushV X7.here hx rfl (6 : Int32) (hb hby at_75) (by decide) hr) ?_
  refine own_go (B := T7.setTop (mkF m 79 #[.val (.int u0), .val (.int u1), .val (.int u2), .val (.int u3), .val (.int si), .val (.int fi), .val (.int ai), .val (.ref a1), .unset, .unset, .unset, .unset, .unset] [(.int fi), (.int (6 : Int32)), (.ref a1)])) (fun _ hr => XS.iload X7.here hx rfl (hb hby at_77) rfl hr) ?_
  refine own_go (B := T7.setTop (mkF m 81 #[.val (.int u0), .val (.int u1), .val (.int u2), .val (.int u3), .val (.int si), .val (.int fi), .val (.int ai), .val (.ref a1), .unset, .unset, .unset, .unset, .unset] [(.int (16 : Int32)), (.int fi), (.int (6 : Int32)), (.ref a1)])) (fun _ hr => XT.bipushV X7.here hx rfl (16 : Int32) (hb hby at_79) (by decide) hr) ?_
  refine own_go (B := T7.setTop (mkF m 82 #[.val (.int u0), .val (.int u1), .val (.int u2), .val (.int u3), .val (.int si), .val (.int fi), .val (.int ai), .val (.ref a1), .unset, .unset, .unset, .unset, .unset] [(.int (XT.ushr fi (16 : Int32))), (.int (6 : Int32)), (.ref a1)])) (fun _ hr => XT.iushr X7.here hx rfl (hb hby at_81) rfl hr) ?_
  refine own_go (B := T7.setTop (mkF m 83 #[.val (.int u0), .val (.int u1), .val (.int u2), .val (.int u3), .val (.int si), .val (.int fi), .val (.int ai), .val (.ref a1), .unset, .unset, .unset, .unset, .unset] [(.int (-1 : Int32)), (.int (XT.ushr fi (16 : Int32))), (.int (6 : Int32)), (.ref a1)])) (fun _ hr => XT.iconstV X7.here hx rfl (-1 : Int32) (hb hby at_82) (by decide) hr) ?_
  refine own_go (B := T7.setTop (mkF m 84 #[.val (.int u0), .val (.int u1), .val (.int u2), .val (.int u3), .val (.int si), .val (.int fi), .val (.int ai), .val (.ref a1), .unset, .unset, .unset, .unset, .unset] [(.int ((XT.ushr fi (16 : Int32)) ^^^ (-1 : Int32))), (.int (6 : Int32)), (.ref a1)])) (fun _ hr => XT.ixor X7.here hx rfl (hb hby at_83) rfl hr) ?_
  refine own_go (B := T7.setTop (mkF m 85 #[.val (.int u0), .val (.int u1), .val (.int u2), .val (.int u3), .val (.int si), .val (.int fi), .val (.int ai), .val (.ref a1), .unset, .unset, .unset, .unset, .unset] [(.int (((XT.ushr fi (16 : Int32)) ^^^ (-1 : Int32)).toInt8.toInt32)), (.int (6 : Int32)), (.ref a1)])) (fun _ hr => XT.i2b X7.here hx rfl (hb hby at_84) rfl hr) ?_
  obtain ⟨T8, h8, X8, e8, W8, V8, st8⟩ := own_stB X7 hx hZ e7 V7 (by decide : (6 : Int32).toInt = ((6 : Nat) : Int)) (by decide) (own_b8 _) (g := (mkF m 85 #[.val (.int u0), .val (.int u1), .val (.int u2), .val (.int u3), .val (.int si), .val (.int fi), .val (.int ai), .val (.ref a1), .unset, .unset, .unset, .unset, .unset] [(.int (((XT.ushr fi (16 : Int32)) ^^^ (-1 : Int32)).toInt8.toInt32)), (.int (6 : Int32)), (.ref a1)])) rfl rfl (hb hby at_85)
  have N8 := Fr.snoc X8 N7 ge
  refine own_go (B := T8.setTop (mkF m 86 #[.val (.int u0), .val (.int u1), .val (.int u2), .val (.int u3), .val (.int si), .val (.int fi), .val (.int ai), .val (.ref a1), .unset, .unset, .unset, .unset, .unset] [])) (fun t hr => st8 t hr) ?_
  refine own_go (B := T8.setTop (mkF m 88 #[.val (.int u0), .val (.int u1), .val (.int u2), .val (.int u3), .val (.int si), .val (.int fi), .val (.int ai), .val (.ref a1), .unset, .unset, .unset, .unset, .unset] [(.ref a1)])) (fun _ hr => XS.aload X8.here hx rfl (hb hby at_86) rfl rfl hr) ?_
  refine own_go (B := T8.setTop (mkF m 90 #[.val (.int u0), .val (.int u1), .val (.int u2), .val (.int u3), .val (.int si), .val (.int fi), .val (.int ai), .val (.ref a1), .unset, .unset, .unset, .unset, .unset] [(.int (7 : Int32)), (.ref a1)])) (fun _ hr => XT.bipushV X8.here hx rfl (7 : Int32) (hb hby at_88) (by decide) hr) ?_
  refine own_go (B := T8.setTop (mkF m 92 #[.val (.int u0), .val (.int u1), .val (.int u2), .val (.int u3), .val (.int si), .val (.int fi), .val (.int ai), .val (.ref a1), .unset, .unset, .unset, .unset, .unset] [(.int fi), (.int (7 : Int32)), (.ref a1)])) (fun _ hr => XS.iload X8.here hx rfl (hb hby at_90) rfl hr) ?_
  refine own_go (B := T8.setTop (mkF m 94 #[.val (.int u0), .val (.int u1), .val (.int u2), .val (.int u3), .val (.int si), .val (.int fi), .val (.int ai), .val (.ref a1), .unset, .unset, .unset, .unset, .unset] [(.int (24 : Int32)), (.int fi), (.int (7 : Int32)), (.ref a1)])) (fun _ hr => XT.bipushV X8.here hx rfl (24 : Int32) (hb hby at_92) (by decide) hr) ?_
  refine own_go (B := T8.setTop (mkF m 95 #[.val (.int u0), .val (.int u1), .val (.int u2), .val (.int u3), .val (.int si), .val (.int fi), .val (.int ai), .val (.ref a1), .unset, .unset, .unset, .unset, .unset] [(.int (XT.ushr fi (24 : Int32))), (.int (7 : Int32)), (.ref a1)])) (fun _ hr => XT.iushr X8.here hx rfl (hb hby at_94) rfl hr) ?_
  refine own_go (B := T8.setTop (mkF m 96 #[.val (.int u0), .val (.int u1), .val (.int u2), .val (.int u3), .val (.int si), .val (.int fi), .val (.int ai), .val (.ref a1), .unset, .unset, .unset, .unset, .unset] [(.int (-1 : Int32)), (.int (XT.ushr fi (24 : Int32))), (.int (7 : Int32)), (.ref a1)])) (fun _ hr => XT.iconstV X8.here hx rfl (-1 : Int32) (hb hby at_95) (by decide) hr) ?_
  refine own_go (B := T8.setTop (mkF m 97 #[.val (.int u0), .val (.int u1), .val (.int u2), .val (.int u3), .val (.int si), .val (.int fi), .val (.int ai), .val (.ref a1), .unset, .unset, .unset, .unset, .unset] [(.int ((XT.ushr fi (24 : Int32)) ^^^ (-1 : Int32))), (.int (7 : Int32)), (.ref a1)])) (fun _ hr => XT.ixor X8.here hx rfl (hb hby at_96) rfl hr) ?_
  refine own_go (B := T8.setTop (mkF m 98 #[.val (.int u0), .val (.int u1), .val (.int u2), .val (.int u3), .val (.int si), .val (.int fi), .val (.int ai), .val (.ref a1), .unset, .unset, .unset, .unset, .unset] [(.int (((XT.ushr fi (24 : Int32)) ^^^ (-1 : Int32)).toInt8.toInt32)), (.int (7 : Int32)), (.ref a1)])) (fun _ hr => XT.i2b X8.here hx rfl (hb hby at_97) rfl hr) ?_
  obtain ⟨T9, h9, X9, e9, W9, V9, st9⟩ := own_stB X8 hx hZ e8 V8 (by decide : (7 : Int32).toInt = ((7 : Nat) : Int)) (by decide) (own_b8 _) (g := (mkF m 98 #[.val (.int u0), .val (.int u1), .val (.int u2), .val (.int u3), .val (.int si), .val (.int fi), .val (.int ai), .val (.ref a1), .unset, .unset, .unset, .unset, .unset] [(.int (((XT.ushr fi (24 : Int32)) ^^^ (-1 : Int32)).toInt8.toInt32)), (.int (7 : Int32)), (.ref a1)])) rfl rfl (hb hby at_98)
  have N9 := Fr.snoc X9 N8 ge
  refine own_go (B := T9.setTop (mkF m 99 #[.val (.int u0), .val (.int u1), .val (.int u2), .val (.int u3), .val (.int si), .val (.int fi), .val (.int ai), .val (.ref a1), .unset, .unset, .unset, .unset, .unset] [])) (fun t hr => st9 t hr) ?_
  refine own_go (B := T9.setTop (mkF m 101 #[.val (.int u0), .val (.int u1), .val (.int u2), .val (.int u3), .val (.int si), .val (.int fi), .val (.int ai), .val (.ref a1), .unset, .unset, .unset, .unset, .unset] [(.ref a1)])) (fun _ hr => XS.aload X9.here hx rfl (hb hby at_99) rfl rfl hr) ?_
  refine own_go (B := T9.setTop (mkF m 103 #[.val (.int u0), .val (.int u1), .val (.int u2), .val (.int u3), .val (.int si), .val (.int fi), .val (.int ai), .val (.ref a1), .unset, .unset, .unset, .unset, .unset] [(.int ai), (.ref a1)])) (fun _ hr => XS.iload X9.here hx rfl (hb hby at_101) rfl hr) ?_
  refine own_go (B := T9.setTop (mkF m 104 #[.val (.int u0), .val (.int u1), .val (.int u2), .val (.int u3), .val (.int si), .val (.int fi), .val (.int ai), .val (.ref a1), .unset, .unset, .unset, .unset, .unset] [(.int u0), (.int ai), (.ref a1)])) (fun _ hr => XS.iloadN X9.here hx rfl (hb hby at_103) rfl hr) ?_
  refine own_go (B := T9.setTop (mkF m 105 #[.val (.int u0), .val (.int u1), .val (.int u2), .val (.int u3), .val (.int si), .val (.int fi), .val (.int ai), .val (.ref a1), .unset, .unset, .unset, .unset, .unset] [(.int (u0.toInt8.toInt32)), (.int ai), (.ref a1)])) (fun _ hr => XT.i2b X9.here hx rfl (hb hby at_104) rfl hr) ?_
  obtain ⟨T10, h10, X10, e10, W10, V10, st10⟩ := own_stB X9 hx hZ e9 V9 hat (by omega) (own_b8 _) (g := (mkF m 105 #[.val (.int u0), .val (.int u1), .val (.int u2), .val (.int u3), .val (.int si), .val (.int fi), .val (.int ai), .val (.ref a1), .unset, .unset, .unset, .unset, .unset] [(.int (u0.toInt8.toInt32)), (.int ai), (.ref a1)])) rfl rfl (hb hby at_105)
  have N10 := Fr.snoc X10 N9 ge
  refine own_go (B := T10.setTop (mkF m 106 #[.val (.int u0), .val (.int u1), .val (.int u2), .val (.int u3), .val (.int si), .val (.int fi), .val (.int ai), .val (.ref a1), .unset, .unset, .unset, .unset, .unset] [])) (fun t hr => st10 t hr) ?_
  refine own_go (B := T10.setTop (mkF m 108 #[.val (.int u0), .val (.int u1), .val (.int u2), .val (.int u3), .val (.int si), .val (.int fi), .val (.int ai), .val (.ref a1), .unset, .unset, .unset, .unset, .unset] [(.ref a1)])) (fun _ hr => XS.aload X10.here hx rfl (hb hby at_106) rfl rfl hr) ?_
  refine own_go (B := T10.setTop (mkF m 110 #[.val (.int u0), .val (.int u1), .val (.int u2), .val (.int u3), .val (.int si), .val (.int fi), .val (.int ai), .val (.ref a1), .unset, .unset, .unset, .unset, .unset] [(.int ai), (.ref a1)])) (fun _ hr => XS.iload X10.here hx rfl (hb hby at_108) rfl hr) ?_
  refine own_go (B := T10.setTop (mkF m 111 #[.val (.int u0), .val (.int u1), .val (.int u2), .val (.int u3), .val (.int si), .val (.int fi), .val (.int ai), .val (.ref a1), .unset, .unset, .unset, .unset, .unset] [(.int (1 : Int32)), (.int ai), (.ref a1)])) (fun _ hr => XT.iconstV X10.here hx rfl (1 : Int32) (hb hby at_110) (by decide) hr) ?_
  refine own_go (B := T10.setTop (mkF m 112 #[.val (.int u0), .val (.int u1), .val (.int u2), .val (.int u3), .val (.int si), .val (.int fi), .val (.int ai), .val (.ref a1), .unset, .unset, .unset, .unset, .unset] [(.int (ai + (1 : Int32))), (.ref a1)])) (fun _ hr => XS.iadd X10.here hx rfl (hb hby at_111) rfl hr) ?_
  refine own_go (B := T10.setTop (mkF m 113 #[.val (.int u0), .val (.int u1), .val (.int u2), .val (.int u3), .val (.int si), .val (.int fi), .val (.int ai), .val (.ref a1), .unset, .unset, .unset, .unset, .unset] [(.int u1), (.int (ai + (1 : Int32))), (.ref a1)])) (fun _ hr => XS.iloadN X10.here hx rfl (hb hby at_112) rfl hr) ?_
  refine own_go (B := T10.setTop (mkF m 114 #[.val (.int u0), .val (.int u1), .val (.int u2), .val (.int u3), .val (.int si), .val (.int fi), .val (.int ai), .val (.ref a1), .unset, .unset, .unset, .unset, .unset] [(.int (u1.toInt8.toInt32)), (.int (ai + (1 : Int32))), (.ref a1)])) (fun _ hr => XT.i2b X10.here hx rfl (hb hby at_113) rfl hr) ?_
  obtain ⟨T11, h11, X11, e11, W11, V11, st11⟩ := own_stB X10 hx hZ e10 V10 (own_plus (q := 1) hat (by decide) (by omega)) (by omega) (own_b8 _) (g := (mkF m 114 #[.val (.int u0), .val (.int u1), .val (.int u2), .val (.int u3), .val (.int si), .val (.int fi), .val (.int ai), .val (.ref a1), .unset, .unset, .unset, .unset, .unset] [(.int (u1.toInt8.toInt32)), (.int (ai + (1 : Int32))), (.ref a1)])) rfl rfl (hb hby at_114)
  have N11 := Fr.snoc X11 N10 ge
  refine own_go (B := T11.setTop (mkF m 115 #[.val (.int u0), .val (.int u1), .val (.int u2), .val (.int u3), .val (.int si), .val (.int fi), .val (.int ai), .val (.ref a1), .unset, .unset, .unset, .unset, .unset] [])) (fun t hr => st11 t hr) ?_
  refine own_go (B := T11.setTop (mkF m 117 #[.val (.int u0), .val (.int u1), .val (.int u2), .val (.int u3), .val (.int si), .val (.int fi), .val (.int ai), .val (.ref a1), .unset, .unset, .unset, .unset, .unset] [(.ref a1)])) (fun _ hr => XS.aload X11.here hx rfl (hb hby at_115) rfl rfl hr) ?_
  refine own_go (B := T11.setTop (mkF m 119 #[.val (.int u0), .val (.int u1), .val (.int u2), .val (.int u3), .val (.int si), .val (.int fi), .val (.int ai), .val (.ref a1), .unset, .unset, .unset, .unset, .unset] [(.int ai), (.ref a1)])) (fun _ hr => XS.iload X11.here hx rfl (hb hby at_117) rfl hr) ?_
  refine own_go (B := T11.setTop (mkF m 120 #[.val (.int u0), .val (.int u1), .val (.int u2), .val (.int u3), .val (.int si), .val (.int fi), .val (.int ai), .val (.ref a1), .unset, .unset, .unset, .unset, .unset] [(.int (2 : Int32)), (.int ai), (.ref a1)])) (fun _ hr => XT.iconstV X11.here hx rfl (2 : Int32) (hb hby at_119) (by decide) hr) ?_
  refine own_go (B := T11.setTop (mkF m 121 #[.val (.int u0), .val (.int u1), .val (.int u2), .val (.int u3), .val (.int si), .val (.int fi), .val (.int ai), .val (.ref a1), .unset, .unset, .unset, .unset, .unset] [(.int (ai + (2 : Int32))), (.ref a1)])) (fun _ hr => XS.iadd X11.here hx rfl (hb hby at_120) rfl hr) ?_
  refine own_go (B := T11.setTop (mkF m 122 #[.val (.int u0), .val (.int u1), .val (.int u2), .val (.int u3), .val (.int si), .val (.int fi), .val (.int ai), .val (.ref a1), .unset, .unset, .unset, .unset, .unset] [(.int u2), (.int (ai + (2 : Int32))), (.ref a1)])) (fun _ hr => XS.iloadN X11.here hx rfl (hb hby at_121) rfl hr) ?_
  refine own_go (B := T11.setTop (mkF m 123 #[.val (.int u0), .val (.int u1), .val (.int u2), .val (.int u3), .val (.int si), .val (.int fi), .val (.int ai), .val (.ref a1), .unset, .unset, .unset, .unset, .unset] [(.int (u2.toInt8.toInt32)), (.int (ai + (2 : Int32))), (.ref a1)])) (fun _ hr => XT.i2b X11.here hx rfl (hb hby at_122) rfl hr) ?_
  obtain ⟨T12, h12, X12, e12, W12, V12, st12⟩ := own_stB X11 hx hZ e11 V11 (own_plus (q := 2) hat (by decide) (by omega)) (by omega) (own_b8 _) (g := (mkF m 123 #[.val (.int u0), .val (.int u1), .val (.int u2), .val (.int u3), .val (.int si), .val (.int fi), .val (.int ai), .val (.ref a1), .unset, .unset, .unset, .unset, .unset] [(.int (u2.toInt8.toInt32)), (.int (ai + (2 : Int32))), (.ref a1)])) rfl rfl (hb hby at_123)
  have N12 := Fr.snoc X12 N11 ge
  refine own_go (B := T12.setTop (mkF m 124 #[.val (.int u0), .val (.int u1), .val (.int u2), .val (.int u3), .val (.int si), .val (.int fi), .val (.int ai), .val (.ref a1), .unset, .unset, .unset, .unset, .unset] [])) (fun t hr => st12 t hr) ?_
  refine own_go (B := T12.setTop (mkF m 126 #[.val (.int u0), .val (.int u1), .val (.int u2), .val (.int u3), .val (.int si), .val (.int fi), .val (.int ai), .val (.ref a1), .unset, .unset, .unset, .unset, .unset] [(.ref a1)])) (fun _ hr => XS.aload X12.here hx rfl (hb hby at_124) rfl rfl hr) ?_
  refine own_go (B := T12.setTop (mkF m 128 #[.val (.int u0), .val (.int u1), .val (.int u2), .val (.int u3), .val (.int si), .val (.int fi), .val (.int ai), .val (.ref a1), .unset, .unset, .unset, .unset, .unset] [(.int ai), (.ref a1)])) (fun _ hr => XS.iload X12.here hx rfl (hb hby at_126) rfl hr) ?_
  refine own_go (B := T12.setTop (mkF m 129 #[.val (.int u0), .val (.int u1), .val (.int u2), .val (.int u3), .val (.int si), .val (.int fi), .val (.int ai), .val (.ref a1), .unset, .unset, .unset, .unset, .unset] [(.int (3 : Int32)), (.int ai), (.ref a1)])) (fun _ hr => XT.iconstV X12.here hx rfl (3 : Int32) (hb hby at_128) (by decide) hr) ?_
  refine own_go (B := T12.setTop (mkF m 130 #[.val (.int u0), .val (.int u1), .val (.int u2), .val (.int u3), .val (.int si), .val (.int fi), .val (.int ai), .val (.ref a1), .unset, .unset, .unset, .unset, .unset] [(.int (ai + (3 : Int32))), (.ref a1)])) (fun _ hr => XS.iadd X12.here hx rfl (hb hby at_129) rfl hr) ?_
  refine own_go (B := T12.setTop (mkF m 131 #[.val (.int u0), .val (.int u1), .val (.int u2), .val (.int u3), .val (.int si), .val (.int fi), .val (.int ai), .val (.ref a1), .unset, .unset, .unset, .unset, .unset] [(.int u3), (.int (ai + (3 : Int32))), (.ref a1)])) (fun _ hr => XS.iloadN X12.here hx rfl (hb hby at_130) rfl hr) ?_
  refine own_go (B := T12.setTop (mkF m 132 #[.val (.int u0), .val (.int u1), .val (.int u2), .val (.int u3), .val (.int si), .val (.int fi), .val (.int ai), .val (.ref a1), .unset, .unset, .unset, .unset, .unset] [(.int (u3.toInt8.toInt32)), (.int (ai + (3 : Int32))), (.ref a1)])) (fun _ hr => XT.i2b X12.here hx rfl (hb hby at_131) rfl hr) ?_
  obtain ⟨T13, h13, X13, e13, W13, V13, st13⟩ := own_stB X12 hx hZ e12 V12 (own_plus (q := 3) hat (by decide) (by omega)) (by omega) (own_b8 _) (g := (mkF m 132 #[.val (.int u0), .val (.int u1), .val (.int u2), .val (.int u3), .val (.int si), .val (.int fi), .val (.int ai), .val (.ref a1), .unset, .unset, .unset, .unset, .unset] [(.int (u3.toInt8.toInt32)), (.int (ai + (3 : Int32))), (.ref a1)])) rfl rfl (hb hby at_132)
  have N13 := Fr.snoc X13 N12 ge
  refine own_go (B := T13.setTop (mkF m 133 #[.val (.int u0), .val (.int u1), .val (.int u2), .val (.int u3), .val (.int si), .val (.int fi), .val (.int ai), .val (.ref a1), .unset, .unset, .unset, .unset, .unset] [])) (fun t hr => st13 t hr) ?_
  refine own_go (B := T13.setTop (mkF m 134 #[.val (.int u0), .val (.int u1), .val (.int u2), .val (.int u3), .val (.int si), .val (.int fi), .val (.int ai), .val (.ref a1), .unset, .unset, .unset, .unset, .unset] [(.int u0)])) (fun _ hr => XS.iloadN X13.here hx rfl (hb hby at_133) rfl hr) ?_
  refine own_go (B := T13.setTop (mkF m 135 #[.val (.int u0), .val (.int u1), .val (.int u2), .val (.int u3), .val (.int si), .val (.int fi), .val (.int ai), .val (.ref a1), .unset, .unset, .unset, .unset, .unset] [(.int (u0.toInt8.toInt32))])) (fun _ hr => XT.i2b X13.here hx rfl (hb hby at_134) rfl hr) ?_
  refine own_go (B := T13.setTop (mkF m 137 #[.val (.int u0), .val (.int u1), .val (.int u2), .val (.int u3), .val (.int si), .val (.int fi), .val (.int ai), .val (.ref a1), .val (.int (u0.toInt8.toInt32)), .unset, .unset, .unset, .unset] [])) (fun _ hr => XS.istore X13.here hx rfl (hb hby at_135) rfl (l' := #[.val (.int u0), .val (.int u1), .val (.int u2), .val (.int u3), .val (.int si), .val (.int fi), .val (.int ai), .val (.ref a1), .val (.int (u0.toInt8.toInt32)), .unset, .unset, .unset, .unset]) rfl hr) ?_
  refine own_go (B := T13.setTop (mkF m 138 #[.val (.int u0), .val (.int u1), .val (.int u2), .val (.int u3), .val (.int si), .val (.int fi), .val (.int ai), .val (.ref a1), .val (.int (u0.toInt8.toInt32)), .unset, .unset, .unset, .unset] [(.int u1)])) (fun _ hr => XS.iloadN X13.here hx rfl (hb hby at_137) rfl hr) ?_
  refine own_go (B := T13.setTop (mkF m 141 #[.val (.int u0), .val (.int u1), .val (.int u2), .val (.int u3), .val (.int si), .val (.int fi), .val (.int ai), .val (.ref a1), .val (.int (u0.toInt8.toInt32)), .unset, .unset, .unset, .unset] [(.int (255 : Int32)), (.int u1)])) (fun _ hr => XT.sipushV X13.here hx rfl (255 : Int32) (hb hby at_138) (by decide) hr) ?_
  refine own_go (B := T13.setTop (mkF m 142 #[.val (.int u0), .val (.int u1), .val (.int u2), .val (.int u3), .val (.int si), .val (.int fi), .val (.int ai), .val (.ref a1), .val (.int (u0.toInt8.toInt32)), .unset, .unset, .unset, .unset] [(.int (u1 &&& (255 : Int32)))])) (fun _ hr => XS.iand X13.here hx rfl (hb hby at_141) rfl hr) ?_
  refine own_go (B := T13.setTop (mkF m 144 #[.val (.int u0), .val (.int u1), .val (.int u2), .val (.int u3), .val (.int si), .val (.int fi), .val (.int ai), .val (.ref a1), .val (.int (u0.toInt8.toInt32)), .val (.int (u1 &&& (255 : Int32))), .unset, .unset, .unset] [])) (fun _ hr => XS.istore X13.here hx rfl (hb hby at_142) rfl (l' := #[.val (.int u0), .val (.int u1), .val (.int u2), .val (.int u3), .val (.int si), .val (.int fi), .val (.int ai), .val (.ref a1), .val (.int (u0.toInt8.toInt32)), .val (.int (u1 &&& (255 : Int32))), .unset, .unset, .unset]) rfl hr) ?_
  refine own_go (B := T13.setTop (mkF m 145 #[.val (.int u0), .val (.int u1), .val (.int u2), .val (.int u3), .val (.int si), .val (.int fi), .val (.int ai), .val (.ref a1), .val (.int (u0.toInt8.toInt32)), .val (.int (u1 &&& (255 : Int32))), .unset, .unset, .unset] [(.int u2)])) (fun _ hr => XS.iloadN X13.here hx rfl (hb hby at_144) rfl hr) ?_
  refine own_go (B := T13.setTop (mkF m 148 #[.val (.int u0), .val (.int u1), .val (.int u2), .val (.int u3), .val (.int si), .val (.int fi), .val (.int ai), .val (.ref a1), .val (.int (u0.toInt8.toInt32)), .val (.int (u1 &&& (255 : Int32))), .unset, .unset, .unset] [(.int (255 : Int32)), (.int u2)])) (fun _ hr => XT.sipushV X13.here hx rfl (255 : Int32) (hb hby at_145) (by decide) hr) ?_
  refine own_go (B := T13.setTop (mkF m 149 #[.val (.int u0), .val (.int u1), .val (.int u2), .val (.int u3), .val (.int si), .val (.int fi), .val (.int ai), .val (.ref a1), .val (.int (u0.toInt8.toInt32)), .val (.int (u1 &&& (255 : Int32))), .unset, .unset, .unset] [(.int (u2 &&& (255 : Int32)))])) (fun _ hr => XS.iand X13.here hx rfl (hb hby at_148) rfl hr) ?_
  refine own_go (B := T13.setTop (mkF m 151 #[.val (.int u0), .val (.int u1), .val (.int u2), .val (.int u3), .val (.int si), .val (.int fi), .val (.int ai), .val (.ref a1), .val (.int (u0.toInt8.toInt32)), .val (.int (u1 &&& (255 : Int32))), .val (.int (u2 &&& (255 : Int32))), .unset, .unset] [])) (fun _ hr => XS.istore X13.here hx rfl (hb hby at_149) rfl (l' := #[.val (.int u0), .val (.int u1), .val (.int u2), .val (.int u3), .val (.int si), .val (.int fi), .val (.int ai), .val (.ref a1), .val (.int (u0.toInt8.toInt32)), .val (.int (u1 &&& (255 : Int32))), .val (.int (u2 &&& (255 : Int32))), .unset, .unset]) rfl hr) ?_
  refine own_go (B := T13.setTop (mkF m 152 #[.val (.int u0), .val (.int u1), .val (.int u2), .val (.int u3), .val (.int si), .val (.int fi), .val (.int ai), .val (.ref a1), .val (.int (u0.toInt8.toInt32)), .val (.int (u1 &&& (255 : Int32))), .val (.int (u2 &&& (255 : Int32))), .unset, .unset] [(.int u3)])) (fun _ hr => XS.iloadN X13.here hx rfl (hb hby at_151) rfl hr) ?_
  refine own_go (B := T13.setTop (mkF m 155 #[.val (.int u0), .val (.int u1), .val (.int u2), .val (.int u3), .val (.int si), .val (.int fi), .val (.int ai), .val (.ref a1), .val (.int (u0.toInt8.toInt32)), .val (.int (u1 &&& (255 : Int32))), .val (.int (u2 &&& (255 : Int32))), .unset, .unset] [(.int (255 : Int32)), (.int u3)])) (fun _ hr => XT.sipushV X13.here hx rfl (255 : Int32) (hb hby at_152) (by decide) hr) ?_
  refine own_go (B := T13.setTop (mkF m 156 #[.val (.int u0), .val (.int u1), .val (.int u2), .val (.int u3), .val (.int si), .val (.int fi), .val (.int ai), .val (.ref a1), .val (.int (u0.toInt8.toInt32)), .val (.int (u1 &&& (255 : Int32))), .val (.int (u2 &&& (255 : Int32))), .unset, .unset] [(.int (u3 &&& (255 : Int32)))])) (fun _ hr => XS.iand X13.here hx rfl (hb hby at_155) rfl hr) ?_
  refine own_go (B := T13.setTop (mkF m 158 #[.val (.int u0), .val (.int u1), .val (.int u2), .val (.int u3), .val (.int si), .val (.int fi), .val (.int ai), .val (.ref a1), .val (.int (u0.toInt8.toInt32)), .val (.int (u1 &&& (255 : Int32))), .val (.int (u2 &&& (255 : Int32))), .val (.int (u3 &&& (255 : Int32))), .unset] [])) (fun _ hr => XS.istore X13.here hx rfl (hb hby at_156) rfl (l' := #[.val (.int u0), .val (.int u1), .val (.int u2), .val (.int u3), .val (.int si), .val (.int fi), .val (.int ai), .val (.ref a1), .val (.int (u0.toInt8.toInt32)), .val (.int (u1 &&& (255 : Int32))), .val (.int (u2 &&& (255 : Int32))), .val (.int (u3 &&& (255 : Int32))), .unset]) rfl hr) ?_
  refine own_go (B := T13.setTop (mkF m 160 #[.val (.int u0), .val (.int u1), .val (.int u2), .val (.int u3), .val (.int si), .val (.int fi), .val (.int ai), .val (.ref a1), .val (.int (u0.toInt8.toInt32)), .val (.int (u1 &&& (255 : Int32))), .val (.int (u2 &&& (255 : Int32))), .val (.int (u3 &&& (255 : Int32))), .unset] [(.int (u0.toInt8.toInt32))])) (fun _ hr => XS.iload X13.here hx rfl (hb hby at_158) rfl hr) ?_
  refine own_go (B := T13.setTop (mkF m 162 #[.val (.int u0), .val (.int u1), .val (.int u2), .val (.int u3), .val (.int si), .val (.int fi), .val (.int ai), .val (.ref a1), .val (.int (u0.toInt8.toInt32)), .val (.int (u1 &&& (255 : Int32))), .val (.int (u2 &&& (255 : Int32))), .val (.int (u3 &&& (255 : Int32))), .unset] [(.int (16777216 : Int32)), (.int (u0.toInt8.toInt32))])) (fun _ hr => X13.ldcI hx hown (mvT hZ (hw _ (List.mem_of_getElem? (i := 2) rfl))) rfl (hb hby at_160) hr) ?_
  refine own_go (B := T13.setTop (mkF m 163 #[.val (.int u0), .val (.int u1), .val (.int u2), .val (.int u3), .val (.int si), .val (.int fi), .val (.int ai), .val (.ref a1), .val (.int (u0.toInt8.toInt32)), .val (.int (u1 &&& (255 : Int32))), .val (.int (u2 &&& (255 : Int32))), .val (.int (u3 &&& (255 : Int32))), .unset] [(.int ((u0.toInt8.toInt32) * (16777216 : Int32)))])) (fun _ hr => XS.imul X13.here hx rfl (hb hby at_162) rfl hr) ?_
  refine own_go (B := T13.setTop (mkF m 165 #[.val (.int u0), .val (.int u1), .val (.int u2), .val (.int u3), .val (.int si), .val (.int fi), .val (.int ai), .val (.ref a1), .val (.int (u0.toInt8.toInt32)), .val (.int (u1 &&& (255 : Int32))), .val (.int (u2 &&& (255 : Int32))), .val (.int (u3 &&& (255 : Int32))), .unset] [(.int (u1 &&& (255 : Int32))), (.int ((u0.toInt8.toInt32) * (16777216 : Int32)))])) (fun _ hr => XS.iload X13.here hx rfl (hb hby at_163) rfl hr) ?_
  refine own_go (B := T13.setTop (mkF m 167 #[.val (.int u0), .val (.int u1), .val (.int u2), .val (.int u3), .val (.int si), .val (.int fi), .val (.int ai), .val (.ref a1), .val (.int (u0.toInt8.toInt32)), .val (.int (u1 &&& (255 : Int32))), .val (.int (u2 &&& (255 : Int32))), .val (.int (u3 &&& (255 : Int32))), .unset] [(.int (65536 : Int32)), (.int (u1 &&& (255 : Int32))), (.int ((u0.toInt8.toInt32) * (16777216 : Int32)))])) (fun _ hr => X13.ldcI hx hown (mvT hZ (hw _ (List.mem_of_getElem? (i := 3) rfl))) rfl (hb hby at_165) hr) ?_
  refine own_go (B := T13.setTop (mkF m 168 #[.val (.int u0), .val (.int u1), .val (.int u2), .val (.int u3), .val (.int si), .val (.int fi), .val (.int ai), .val (.ref a1), .val (.int (u0.toInt8.toInt32)), .val (.int (u1 &&& (255 : Int32))), .val (.int (u2 &&& (255 : Int32))), .val (.int (u3 &&& (255 : Int32))), .unset] [(.int ((u1 &&& (255 : Int32)) * (65536 : Int32))), (.int ((u0.toInt8.toInt32) * (16777216 : Int32)))])) (fun _ hr => XS.imul X13.here hx rfl (hb hby at_167) rfl hr) ?_
  refine own_go (B := T13.setTop (mkF m 169 #[.val (.int u0), .val (.int u1), .val (.int u2), .val (.int u3), .val (.int si), .val (.int fi), .val (.int ai), .val (.ref a1), .val (.int (u0.toInt8.toInt32)), .val (.int (u1 &&& (255 : Int32))), .val (.int (u2 &&& (255 : Int32))), .val (.int (u3 &&& (255 : Int32))), .unset] [(.int (((u0.toInt8.toInt32) * (16777216 : Int32)) + ((u1 &&& (255 : Int32)) * (65536 : Int32))))])) (fun _ hr => XS.iadd X13.here hx rfl (hb hby at_168) rfl hr) ?_
  refine own_go (B := T13.setTop (mkF m 171 #[.val (.int u0), .val (.int u1), .val (.int u2), .val (.int u3), .val (.int si), .val (.int fi), .val (.int ai), .val (.ref a1), .val (.int (u0.toInt8.toInt32)), .val (.int (u1 &&& (255 : Int32))), .val (.int (u2 &&& (255 : Int32))), .val (.int (u3 &&& (255 : Int32))), .unset] [(.int (u2 &&& (255 : Int32))), (.int (((u0.toInt8.toInt32) * (16777216 : Int32)) + ((u1 &&& (255 : Int32)) * (65536 : Int32))))])) (fun _ hr => XS.iload X13.here hx rfl (hb hby at_169) rfl hr) ?_
  refine own_go (B := T13.setTop (mkF m 174 #[.val (.int u0), .val (.int u1), .val (.int u2), .val (.int u3), .val (.int si), .val (.int fi), .val (.int ai), .val (.ref a1), .val (.int (u0.toInt8.toInt32)), .val (.int (u1 &&& (255 : Int32))), .val (.int (u2 &&& (255 : Int32))), .val (.int (u3 &&& (255 : Int32))), .unset] [(.int (256 : Int32)), (.int (u2 &&& (255 : Int32))), (.int (((u0.toInt8.toInt32) * (16777216 : Int32)) + ((u1 &&& (255 : Int32)) * (65536 : Int32))))])) (fun _ hr => XT.sipushV X13.here hx rfl (256 : Int32) (hb hby at_171) (by decide) hr) ?_
  refine own_go (B := T13.setTop (mkF m 175 #[.val (.int u0), .val (.int u1), .val (.int u2), .val (.int u3), .val (.int si), .val (.int fi), .val (.int ai), .val (.ref a1), .val (.int (u0.toInt8.toInt32)), .val (.int (u1 &&& (255 : Int32))), .val (.int (u2 &&& (255 : Int32))), .val (.int (u3 &&& (255 : Int32))), .unset] [(.int ((u2 &&& (255 : Int32)) * (256 : Int32))), (.int (((u0.toInt8.toInt32) * (16777216 : Int32)) + ((u1 &&& (255 : Int32)) * (65536 : Int32))))])) (fun _ hr => XS.imul X13.here hx rfl (hb hby at_174) rfl hr) ?_
  refine own_go (B := T13.setTop (mkF m 176 #[.val (.int u0), .val (.int u1), .val (.int u2), .val (.int u3), .val (.int si), .val (.int fi), .val (.int ai), .val (.ref a1), .val (.int (u0.toInt8.toInt32)), .val (.int (u1 &&& (255 : Int32))), .val (.int (u2 &&& (255 : Int32))), .val (.int (u3 &&& (255 : Int32))), .unset] [(.int ((((u0.toInt8.toInt32) * (16777216 : Int32)) + ((u1 &&& (255 : Int32)) * (65536 : Int32))) + ((u2 &&& (255 : Int32)) * (256 : Int32))))])) (fun _ hr => XS.iadd X13.here hx rfl (hb hby at_175) rfl hr) ?_
  refine own_go (B := T13.setTop (mkF m 178 #[.val (.int u0), .val (.int u1), .val (.int u2), .val (.int u3), .val (.int si), .val (.int fi), .val (.int ai), .val (.ref a1), .val (.int (u0.toInt8.toInt32)), .val (.int (u1 &&& (255 : Int32))), .val (.int (u2 &&& (255 : Int32))), .val (.int (u3 &&& (255 : Int32))), .unset] [(.int (u3 &&& (255 : Int32))), (.int ((((u0.toInt8.toInt32) * (16777216 : Int32)) + ((u1 &&& (255 : Int32)) * (65536 : Int32))) + ((u2 &&& (255 : Int32)) * (256 : Int32))))])) (fun _ hr => XS.iload X13.here hx rfl (hb hby at_176) rfl hr) ?_
  refine own_go (B := T13.setTop (mkF m 179 #[.val (.int u0), .val (.int u1), .val (.int u2), .val (.int u3), .val (.int si), .val (.int fi), .val (.int ai), .val (.ref a1), .val (.int (u0.toInt8.toInt32)), .val (.int (u1 &&& (255 : Int32))), .val (.int (u2 &&& (255 : Int32))), .val (.int (u3 &&& (255 : Int32))), .unset] [(.int (((((u0.toInt8.toInt32) * (16777216 : Int32)) + ((u1 &&& (255 : Int32)) * (65536 : Int32))) + ((u2 &&& (255 : Int32)) * (256 : Int32))) + (u3 &&& (255 : Int32))))])) (fun _ hr => XS.iadd X13.here hx rfl (hb hby at_178) rfl hr) ?_
  refine own_go (B := T13.setTop (mkF m 181 #[.val (.int u0), .val (.int u1), .val (.int u2), .val (.int u3), .val (.int si), .val (.int fi), .val (.int ai), .val (.ref a1), .val (.int (u0.toInt8.toInt32)), .val (.int (u1 &&& (255 : Int32))), .val (.int (u2 &&& (255 : Int32))), .val (.int (u3 &&& (255 : Int32))), .val (.int (((((u0.toInt8.toInt32) * (16777216 : Int32)) + ((u1 &&& (255 : Int32)) * (65536 : Int32))) + ((u2 &&& (255 : Int32)) * (256 : Int32))) + (u3 &&& (255 : Int32))))] [])) (fun _ hr => XS.istore X13.here hx rfl (hb hby at_179) rfl (l' := #[.val (.int u0), .val (.int u1), .val (.int u2), .val (.int u3), .val (.int si), .val (.int fi), .val (.int ai), .val (.ref a1), .val (.int (u0.toInt8.toInt32)), .val (.int (u1 &&& (255 : Int32))), .val (.int (u2 &&& (255 : Int32))), .val (.int (u3 &&& (255 : Int32))), .val (.int (((((u0.toInt8.toInt32) * (16777216 : Int32)) + ((u1 &&& (255 : Int32)) * (65536 : Int32))) + ((u2 &&& (255 : Int32)) * (256 : Int32))) + (u3 &&& (255 : Int32))))]) rfl hr) ?_
  refine own_go (B := T13.setTop (mkF m 183 #[.val (.int u0), .val (.int u1), .val (.int u2), .val (.int u3), .val (.int si), .val (.int fi), .val (.int ai), .val (.ref a1), .val (.int (u0.toInt8.toInt32)), .val (.int (u1 &&& (255 : Int32))), .val (.int (u2 &&& (255 : Int32))), .val (.int (u3 &&& (255 : Int32))), .val (.int (((((u0.toInt8.toInt32) * (16777216 : Int32)) + ((u1 &&& (255 : Int32)) * (65536 : Int32))) + ((u2 &&& (255 : Int32)) * (256 : Int32))) + (u3 &&& (255 : Int32))))] [(.ref a1)])) (fun _ hr => XS.aload X13.here hx rfl (hb hby at_181) rfl rfl hr) ?_
  refine own_go (B := T13.setTop (mkF m 185 #[.val (.int u0), .val (.int u1), .val (.int u2), .val (.int u3), .val (.int si), .val (.int fi), .val (.int ai), .val (.ref a1), .val (.int (u0.toInt8.toInt32)), .val (.int (u1 &&& (255 : Int32))), .val (.int (u2 &&& (255 : Int32))), .val (.int (u3 &&& (255 : Int32))), .val (.int (((((u0.toInt8.toInt32) * (16777216 : Int32)) + ((u1 &&& (255 : Int32)) * (65536 : Int32))) + ((u2 &&& (255 : Int32)) * (256 : Int32))) + (u3 &&& (255 : Int32))))] [(.int ai), (.ref a1)])) (fun _ hr => XS.iload X13.here hx rfl (hb hby at_183) rfl hr) ?_
  have Zk : n0 ≤ h13.size := Nat.le_trans ge (Nat.le_of_lt V13.lt)
  obtain ⟨_, _, ⟨T14, L14, k14, n14⟩, -, X14, ⟨Lc14, hQ14, l14, y14, z14⟩, st14⟩ := Jvm.LawKit.callS X13 hx (y := (⟨"org/quirebase/store/page/Bytes", "getInt", "([BI)I"⟩ : MethodName)) hown (mvT hZ (hw _ (List.mem_of_getElem? (i := 4) rfl))) (mvT hZ (hw _ (List.mem_of_getElem? (i := 5) rfl))) (mvT hZ (hw _ (List.mem_of_getElem? (i := 6) rfl))) (mvT hZ (hw _ (List.mem_of_getElem? (i := 7) rfl))) (by decide) (backOf (W := 0) (rm_gi l Z a0 hw [] a1 ai 8 _ t (u0.toInt8.toInt32) (u1.toInt8.toInt32) (u2.toInt8.toInt32) (u3.toInt8.toInt32) h13 n0 Zk V13 hat (by omega) (by decide) (by simp) (by simp) (by simp) (by simp)) hZ (hw _ (List.mem_of_getElem? (i := 7) rfl)) (hw _ (List.mem_of_getElem? (i := 6) rfl)) (by decide) (by decide)) (g := (mkF m 185 #[.val (.int u0), .val (.int u1), .val (.int u2), .val (.int u3), .val (.int si), .val (.int fi), .val (.int ai), .val (.ref a1), .val (.int (u0.toInt8.toInt32)), .val (.int (u1 &&& (255 : Int32))), .val (.int (u2 &&& (255 : Int32))), .val (.int (u3 &&& (255 : Int32))), .val (.int (((((u0.toInt8.toInt32) * (16777216 : Int32)) + ((u1 &&& (255 : Int32)) * (65536 : Int32))) + ((u2 &&& (255 : Int32)) * (256 : Int32))) + (u3 &&& (255 : Int32))))] [(.int ai), (.ref a1)])) rfl (by rw [hml]; rfl) (argsL := [(.ref a1), (.int ai)]) (rest := []) (lenOf pd_gi rfl) rfl (by show 2 * 0 + _ ≤ _; exact Nat.le_of_eq rfl) (hb hby at_185) (fun _ _ => ⟨rfl, e13, (by decide : 1 + 0 ≤ _), (by decide : 8 + 0 ≤ _)⟩)
  dsimp only [Pt.U, Pt.locs, Pt.cells, Pt.slots] at X14 l14 y14 z14 st14 hQ14
  subst l14 y14 z14
  obtain ⟨rfl, N14, e14⟩ := hQ14
  have M14 := Fr.app N13 N14
  refine own_go (B := T14.setTop (mkF m 188 #[.val (.int u0), .val (.int u1), .val (.int u2), .val (.int u3), .val (.int si), .val (.int fi), .val (.int ai), .val (.ref a1), .val (.int (u0.toInt8.toInt32)), .val (.int (u1 &&& (255 : Int32))), .val (.int (u2 &&& (255 : Int32))), .val (.int (u3 &&& (255 : Int32))), .val (.int (((((u0.toInt8.toInt32) * (16777216 : Int32)) + ((u1 &&& (255 : Int32)) * (65536 : Int32))) + ((u2 &&& (255 : Int32)) * (256 : Int32))) + (u3 &&& (255 : Int32))))] [(.int (own_gi (u0.toInt8.toInt32) (u1.toInt8.toInt32) (u2.toInt8.toInt32) (u3.toInt8.toInt32)))])) (fun t hr => st14 t hr) ?_
  refine own_go (B := T14.setTop (mkF m 190 #[.val (.int u0), .val (.int u1), .val (.int u2), .val (.int u3), .val (.int si), .val (.int fi), .val (.int ai), .val (.ref a1), .val (.int (u0.toInt8.toInt32)), .val (.int (u1 &&& (255 : Int32))), .val (.int (u2 &&& (255 : Int32))), .val (.int (u3 &&& (255 : Int32))), .val (.int (((((u0.toInt8.toInt32) * (16777216 : Int32)) + ((u1 &&& (255 : Int32)) * (65536 : Int32))) + ((u2 &&& (255 : Int32)) * (256 : Int32))) + (u3 &&& (255 : Int32))))] [(.int (((((u0.toInt8.toInt32) * (16777216 : Int32)) + ((u1 &&& (255 : Int32)) * (65536 : Int32))) + ((u2 &&& (255 : Int32)) * (256 : Int32))) + (u3 &&& (255 : Int32)))), (.int (own_gi (u0.toInt8.toInt32) (u1.toInt8.toInt32) (u2.toInt8.toInt32) (u3.toInt8.toInt32)))])) (fun _ hr => XS.iload X14.here hx rfl (hb hby at_188) rfl hr) ?_
  refine own_go (B := T14.setTop (mkF m 193 #[.val (.int u0), .val (.int u1), .val (.int u2), .val (.int u3), .val (.int si), .val (.int fi), .val (.int ai), .val (.ref a1), .val (.int (u0.toInt8.toInt32)), .val (.int (u1 &&& (255 : Int32))), .val (.int (u2 &&& (255 : Int32))), .val (.int (u3 &&& (255 : Int32))), .val (.int (((((u0.toInt8.toInt32) * (16777216 : Int32)) + ((u1 &&& (255 : Int32)) * (65536 : Int32))) + ((u2 &&& (255 : Int32)) * (256 : Int32))) + (u3 &&& (255 : Int32))))] [])) (fun _ hr => XS.icmpNo X14.here hx rfl (hb hby at_190) rfl (XT.ii_ne_f (own_law u0 u1 u2 u3)) hr) ?_
  refine own_go (B := T14.setTop (mkF m 194 #[.val (.int u0), .val (.int u1), .val (.int u2), .val (.int u3), .val (.int si), .val (.int fi), .val (.int ai), .val (.ref a1), .val (.int (u0.toInt8.toInt32)), .val (.int (u1 &&& (255 : Int32))), .val (.int (u2 &&& (255 : Int32))), .val (.int (u3 &&& (255 : Int32))), .val (.int (((((u0.toInt8.toInt32) * (16777216 : Int32)) + ((u1 &&& (255 : Int32)) * (65536 : Int32))) + ((u2 &&& (255 : Int32)) * (256 : Int32))) + (u3 &&& (255 : Int32))))] [(.int (1 : Int32))])) (fun _ hr => XT.iconstV X14.here hx rfl (1 : Int32) (hb hby at_193) (by decide) hr) ?_
  refine own_go (B := T14.setTop (mkF m 198 #[.val (.int u0), .val (.int u1), .val (.int u2), .val (.int u3), .val (.int si), .val (.int fi), .val (.int ai), .val (.ref a1), .val (.int (u0.toInt8.toInt32)), .val (.int (u1 &&& (255 : Int32))), .val (.int (u2 &&& (255 : Int32))), .val (.int (u3 &&& (255 : Int32))), .val (.int (((((u0.toInt8.toInt32) * (16777216 : Int32)) + ((u1 &&& (255 : Int32)) * (65536 : Int32))) + ((u2 &&& (255 : Int32)) * (256 : Int32))) + (u3 &&& (255 : Int32))))] [(.int (1 : Int32))])) (fun _ hr => XS.goto X14.here hx rfl (pc0 := 194) (pc' := 198) rfl (hb hby at_194) (by decide) (by decide) hr) ?_
  exact own_retZ X14 hx hlk hret (by decide) (hb hby at_198) (by decide) (by decide) ⟨rfl, M14⟩
set_option maxRecDepth 65536 in
set_option maxHeartbeats 40000000 in
theorem comes_1 {Post : Tables → Env → Array Value → State → Outcome → State → Prop} (hpost : ∀ tb e args s v u, (limb_1_1.after args s (.returned v) u = true ∧ limb_1_2.after args s (.returned v) u = true ∧ True) → FrameEnd s (.returned v) u (Jvm.fieldLocs frame_1_writes args s ++ Jvm.arrayLocs frame_1_arrays args s ++ Jvm.staticLocs frame_1_statics s) 16 128 → Post tb e args s (.returned v) u) :
    ArmFor flags0 classFile x code maxLocals ret World_1 tables_1 room_1 Calls_1 rest_1 Pre_1 Post := by
  intro l hfl _ _ p e ha hc hk s m args below hf hA hF happ hP
  obtain ⟨hcalls, hrest, hpre⟩ := hP
  obtain ⟨-, -, -, hnamed, -, -, -, hat⟩ := (Spec.applies_iff hf).mp happ
  obtain ⟨hg, hn⟩ := and_e (Cond.before_iff.mp (show (Jvm.Cond.and given_1 narrow_1).before args s = true from hpre))
  obtain ⟨h1, g0⟩ := and_e hg
  obtain ⟨f0, g1⟩ := and_e g0
  obtain ⟨f1, g2⟩ := and_e g1
  obtain ⟨f2, g3⟩ := and_e g2
  obtain ⟨f3, g4⟩ := and_e g3
  obtain ⟨f4, g5⟩ := and_e g4
  obtain ⟨w0, w1, w2, w3, w4, w5, rfl⟩ : ∃ w0 w1 w2 w3 w4 w5 : Value, args = #[w0, w1, w2, w3, w4, w5] := by
    have hs : args.size = 6 := by simpa [Cond.value, given_1] using h1
    obtain ⟨L⟩ := args
    match L, hs with
    | [w0, w1, w2, w3, w4, w5], _ => exact ⟨w0, w1, w2, w3, w4, w5, rfl⟩
  have hw := fun d (hd : d ∈ tables_1) => atoms_spec (ws := Jvm.Cond.code x code maxLocals ret :: tables_1) hat d (List.mem_cons_of_mem _ hd)
  obtain ⟨i0, q0⟩ := is_v f0
  obtain rfl : w0 = (.int i0) := Option.some.inj q0
  obtain ⟨i1, q1⟩ := is_v f1
  obtain rfl : w1 = (.int i1) := Option.some.inj q1
  obtain ⟨i2, q2⟩ := is_v f2
  obtain rfl : w2 = (.int i2) := Option.some.inj q2
  obtain ⟨i3, q3⟩ := is_v f3
  obtain rfl : w3 = (.int i3) := Option.some.inj q3
  obtain ⟨i4, q4⟩ := is_v f4
  obtain rfl : w4 = (.int i4) := Option.some.inj q4
  obtain ⟨i5, q5⟩ := is_v g5
  obtain rfl : w5 = (.int i5) := Option.some.inj q5
  obtain ⟨n, o, h1, h2, h3, _, L, rfl, ⟨rfl, N⟩, hq⟩ := rm_law l s _ hw tables_1 i0 i1 i2 i3 i4 i5 s.heap s.heap.size (Nat.le_refl _) p e ha hc hk s m _ below hf ((Spec.applies_iff_loose hf).mp happ).1 ⟨rfl, State.Warmed39.refl s, rfl⟩ trivial
  refine ⟨n, _, h1, h2, h3, hpost _ _ _ _ _ _ ⟨Cond.after_iff.mpr rfl, Cond.after_iff.mpr (eq_i res_at (Term.int_eval (1)) rfl), trivial⟩ ⟨hq.1, hq.2.1, (hq.2.2.sift fun y hy => Or.inr (N y hy)).mono (by decide) (by decide)⟩⟩
theorem main_1_1 : Claimed_1_1 := comes_1 fun _ _ _ _ _ _ h hF => ⟨h.1, hF⟩
theorem main_1_2 : Claimed_1_2 := comes_1 fun _ _ _ _ _ _ h hF => ⟨h.2.1, hF⟩
end Jvm.Pilot.@@N@@
namespace Jvm.Pilot.@@N@@
open Jvm Jvm.ClassFile Sem Op Lib Jvm.Free Jvm.Stand Jvm.Pilot.@@N@@.Jvm.D
/-! MADE BY PROGRAM (witnessworld.py) out of the Statement's table words and the real class files: 9 classes; the members and pool entries that the words name. The judged class is class 1, her method 1. -/
namespace start1
open Jvm.ClassFile
def u (s : String) : CpInfo := .utf8 (stringToUtf16 s)
/-- a pool by its gaps: so many unusable entries, then the entry; so many at the end -/
def gap : Nat → List CpInfo → List CpInfo
  | 0, r => r
  | n + 1, r => .unusable :: gap n r
def poolList (es : List (Nat × CpInfo)) (last : Nat) : List CpInfo := es.foldr (fun e r => gap e.1 (e.2 :: r)) (gap last [])
def pool (es : List (Nat × CpInfo)) (last : Nat) : Array CpInfo := ⟨poolList es last⟩
def fileOf (pool : Array CpInfo) (this : Nat) (attrs : Array Attribute := #[]) (ms : Array MethodInfo := #[]) (fl : Nat := 33) (sup : Nat := 0) (ifs : Array Nat := #[]) (fds : Array FieldInfo := #[]) : ClassFile where
  minorVersion := 0
  majorVersion := 65
  constantPool := pool
  accessFlags := fl
  thisClass := this
  superClass := sup
  interfaces := ifs
  fields := fds
  methods := ms
  attributes := attrs
def plain (name : String) (sup : Option ClassId) : Class where
  name := name
  kind := .ordinary
  loader := none
  accessFlags := 33
  super := sup
  interfaces := #[]
  cf := none
  fields := #[]
  methods := #[]
  instanceTypes := #[]
  staticTypes := #[]
  resolved := #[]
  callSites := []
  init := .initialized
  statics := none
  mirror := none

def pool0 : Array CpInfo := pool [(5, u "<init>"), (0, u "()V"), (1, .class_ 10), (1, u "java/lang/Object")] 113

def k0m0 : Method := { name := "<init>", desc := "()V", sig := { parameters := [], returnType := none }, accessFlags := 1, code := none }
/-- java/lang/Object -/
def k0 : Class := { plain "java/lang/Object" none with
  accessFlags := 33
  interfaces := #[]
  cf := some (fileOf pool0 8 #[] #[{ accessFlags := 1, nameIndex := 5, descriptorIndex := 6, attributes := #[] }] 33 0 #[] #[])
  fields := #[]
  methods := #[k0m0]
  instanceTypes := #[]
  staticTypes := #[]
  resolved := Array.replicate 124 none
  statics := none }

def pool1 : Array CpInfo := pool [(2, .class_ 4), (1, u "java/lang/Object"), (0, u "<init>"), (0, u "()V"), (0, .integer 2147483647), (0, .integer 16777216), (0, .integer 65536), (0, .methodref 11 12), (0, .class_ 13), (0, .nameAndType 14 15), (0, u "org/quirebase/store/page/Bytes"), (0, u "getInt"), (0, u "([BI)I"), (0, .class_ 17), (0, u "org/quirebase/store/page/BytesGetIntPinLaw"), (2, u "law"), (0, u "(IIIIII)Z")] 5

def k1m0 : Method := { name := "<init>", desc := "()V", sig := { parameters := [], returnType := none }, accessFlags := 2, code := none }
def k1c1 : Code := { maxStack := 4, maxLocals := 13, code := code, exceptionTable := #[], attributes := #[] }
def k1m1 : Method := { name := "law", desc := "(IIIIII)Z", sig := { parameters := [.int, .int, .int, .int, .int, .int], returnType := some .boolean }, accessFlags := 9, code := some k1c1 }
/-- org/quirebase/store/page/BytesGetIntPinLaw -/
def k1 : Class := { plain "org/quirebase/store/page/BytesGetIntPinLaw" (some 0) with
  accessFlags := 49
  interfaces := #[]
  cf := some (fileOf pool1 16 #[] #[{ accessFlags := 2, nameIndex := 5, descriptorIndex := 6, attributes := #[] }, { accessFlags := 9, nameIndex := 20, descriptorIndex := 21, attributes := #[] }] 49 2 #[] #[])
  fields := #[]
  methods := #[k1m0, k1m1]
  instanceTypes := #[]
  staticTypes := #[]
  resolved := Array.replicate 27 none
  statics := none }

def pool2 : Array CpInfo := pool [(2, .class_ 4), (1, u "java/lang/Object"), (0, u "<init>"), (0, u "()V"), (1, .class_ 10), (1, u "org/quirebase/store/page/Bytes"), (0, u "getInt"), (0, u "([BI)I")] 25

def k2m0 : Method := { name := "<init>", desc := "()V", sig := { parameters := [], returnType := none }, accessFlags := 2, code := none }
def k2c1 : Code := { maxStack := 4, maxLocals := 2, code := prog_36_method_4_code, exceptionTable := #[], attributes := #[] }
def k2m1 : Method := { name := "getInt", desc := "([BI)I", sig := { parameters := [(.array .byte), .int], returnType := some .int }, accessFlags := 9, code := some k2c1 }
/-- org/quirebase/store/page/Bytes -/
def k2 : Class := { plain "org/quirebase/store/page/Bytes" (some 0) with
  accessFlags := 49
  interfaces := #[]
  cf := some (fileOf pool2 8 #[] #[{ accessFlags := 2, nameIndex := 5, descriptorIndex := 6, attributes := #[] }, { accessFlags := 9, nameIndex := 11, descriptorIndex := 12, attributes := #[] }] 49 2 #[] #[])
  fields := #[]
  methods := #[k2m0, k2m1]
  instanceTypes := #[]
  staticTypes := #[]
  resolved := Array.replicate 38 none
  statics := none }

def pool3 : Array CpInfo := pool [(1, u "java/lang/Cloneable"), (0, .class_ 1), (0, u "java/lang/Object"), (0, .class_ 3)] 3

/-- java/lang/Cloneable -/
def k3 : Class := { plain "java/lang/Cloneable" (some 0) with
  accessFlags := 1537
  interfaces := #[]
  cf := some (fileOf pool3 2 #[] #[] 1537 4 #[] #[])
  fields := #[]
  methods := #[]
  instanceTypes := #[]
  staticTypes := #[]
  resolved := Array.replicate 8 none
  statics := none }

def pool4 : Array CpInfo := pool [(1, u "java/io/Serializable"), (0, .class_ 1), (0, u "java/lang/Object"), (0, .class_ 3)] 3

/-- java/io/Serializable -/
def k4 : Class := { plain "java/io/Serializable" (some 0) with
  accessFlags := 1537
  interfaces := #[]
  cf := some (fileOf pool4 2 #[] #[] 1537 4 #[] #[])
  fields := #[]
  methods := #[]
  instanceTypes := #[]
  staticTypes := #[]
  resolved := Array.replicate 8 none
  statics := none }

/-- the primitive byte -/
def k5 : Class := { plain "byte" none with kind := .primitive 'B', accessFlags := 0x411 }
/-- [B -/
def k6 : Class := { plain "[B" (some 0) with kind := .array 5 .byte, interfaces := #[3, 4], accessFlags := 1041 }

/-- the primitive int -/
def k7 : Class := { plain "int" none with kind := .primitive 'I', accessFlags := 0x411 }
/-- [I -/
def k8 : Class := { plain "[I" (some 0) with kind := .array 7 .int, interfaces := #[3, 4], accessFlags := 1041 }

def heap : Heap := #[]
def classes : Array Class := #[k0, k1, k2, k3, k4, k5, k6, k7, k8]
def interned : List (Array UInt16 × Addr) := []
def slotsUsed : Nat := 0
def theMethod : MethodId := ⟨1, 1⟩
def args0 : Array Value := #[.int 5, .int 7, .int 1, .int 9, .int 2, .int 3]
def aboutOver (below : List Frame) : State where
  vm := { classes := classes, interned := interned.toArray }
  heap := heap
  slotsUsed := slotsUsed
  threads := #[{ frames := .invoking theMethod args0 :: below }]
def below0 : List Frame := [.native { method := ⟨0, 0⟩, args := #[] }]
def about1 : State := aboutOver below0
def p0 : Program := .bare "" "" ""
def e0 : Env := launch0.env 0 0 0
theorem w_frames : about1.frames = Frame.invoking theMethod args0 :: below0 := rfl
set_option maxRecDepth 65536 in
theorem w_args : argsFit about1.vm theMethod args0 = true := by decide +kernel
set_option maxRecDepth 65536 in
theorem w_heap : heapFits about1 = true := by decide +kernel
set_option maxRecDepth 65536 in
theorem w_runnable : about1.curStatus? = some .runnable := by decide +kernel
set_option maxRecDepth 65536 in
theorem w_alone : about1.alone = true := by decide +kernel
set_option maxRecDepth 65536 in
theorem w_named : about1.methodNamed? x = some theMethod := by decide +kernel
set_option maxRecDepth 65536 in
theorem w_hears : about1.hears theMethod below0 = true := by decide +kernel
set_option maxRecDepth 65536 in
theorem w_ripe : about1.ripe theMethod args0 below0 = true := by decide +kernel
theorem w_running : about1.status = .running := rfl
set_option maxRecDepth 65536 in
theorem w_room : about1.hasRoom e0.platform room_1 = true :=
  launch0.hasRoom_least _ room_1 (by decide +kernel) (by decide +kernel) (by decide +kernel) (by decide +kernel) (by decide +kernel) (by decide +kernel)
theorem allAtoms_all (ts : List Jvm.Cond) (a : Array Jvm.Value) (st : Jvm.State) : (allAtoms ts).before a st = ts.all (fun c => c.before a st) := by
  induction ts with
  | nil => rfl
  | cons c t ih =>
    show (Jvm.Cond.and c (allAtoms t)).before a st = _
    rw [Jvm.Cond.before_and, ih, List.all_cons]
def words1 : List Jvm.Cond := Jvm.Cond.code x code maxLocals ret :: tables_1
/-- a 'code' word, met by the world's own term for the bytes: nothing is compared byte by byte -/
theorem code_word {y : MethodName} {bytes : ByteArray} {mx : Nat} {rt : Option FieldType} {a : Array Value} {s : State} {m : MethodId} {meth : Method} {c : Code} (h1 : s.methodNamed? y = some m) (h2 : s.vm.method? m = some meth) (h3 : meth.code = some c) (h4 : c.code = bytes)
    (h5 : (c.maxLocals == mx && c.exceptionTable.isEmpty && decide (c.maxStack ≤ mostOperands) && decide (meth.sig.returnType = rt) && !meth.locks && decide (parseMethodDescriptor y.desc = some meth.sig)) = true) : (Jvm.Cond.code y bytes mx rt).before a s = true := by
  simp only [Bool.and_eq_true, beq_iff_eq, Bool.not_eq_true', decide_eq_true_eq] at h5
  obtain ⟨⟨⟨⟨⟨g1, g2⟩, g3⟩, g4⟩, g5⟩, g6⟩ := h5
  simp [Cond.before, Cond.holds, Cond.value, h1, h2, h3, h4, g1, g2, g3, g4, g5, g6]
def isCode : Jvm.Cond → Bool
  | .code _ _ _ _ => true
  | _ => false
theorem all_split {L : List Jvm.Cond} {P : Jvm.Cond → Bool} (h1 : L.all (fun c => isCode c || P c) = true) (h2 : ∀ c ∈ L.filter isCode, P c = true) : L.all P = true := by
  refine List.all_eq_true.mpr fun c hc => ?_
  have h := List.all_eq_true.mp h1 c hc
  rcases Bool.eq_false_or_eq_true (isCode c) with hi | hi
  · exact h2 c (List.mem_filter.mpr ⟨hc, hi⟩)
  · simpa [hi] using h
set_option maxRecDepth 65536 in
theorem w_c0 : (Jvm.Cond.code x code maxLocals ret).before args0 about1 = true := code_word (m := ⟨1, 1⟩) (meth := k1m1) (c := k1c1) (by decide +kernel) rfl rfl rfl (by decide +kernel)
set_option maxRecDepth 65536 in
theorem w_c1 : (Jvm.Cond.code ({ cls := "org/quirebase/store/page/Bytes", name := "getInt", desc := "([BI)I" } : Jvm.MethodName) prog_36_method_4_code (2 : Nat) (Option.some Jvm.ClassFile.FieldType.int)).before args0 about1 = true := code_word (m := ⟨2, 1⟩) (meth := k2m1) (c := k2c1) (by decide +kernel) rfl rfl rfl (by decide +kernel)
def codes1 : List Jvm.Cond := [Jvm.Cond.code x code maxLocals ret, Jvm.Cond.code ({ cls := "org/quirebase/store/page/Bytes", name := "getInt", desc := "([BI)I" } : Jvm.MethodName) prog_36_method_4_code (2 : Nat) (Option.some Jvm.ClassFile.FieldType.int)]
set_option maxRecDepth 65536 in
theorem codes_eq : words1.filter isCode = codes1 := rfl
theorem w_codes : ∀ c ∈ words1.filter isCode, c.before args0 about1 = true := by
  rw [codes_eq]
  intro c hc
  simp only [codes1, List.mem_cons, List.not_mem_nil, or_false] at hc
  rcases hc with rfl | rfl
  · exact w_c0
  · exact w_c1
set_option maxRecDepth 65536 in
theorem w_t1 : words1.all (fun c => isCode c || c.before args0 about1) = true := by decide +kernel
theorem w_tables : (allAtoms (Jvm.Cond.code x code maxLocals ret :: tables_1)).before args0 about1 = true := by
  rw [allAtoms_all]
  show words1.all (fun c => c.before args0 about1) = true
  refine all_split ?_ w_codes
  rw [w_t1]
set_option maxRecDepth 65536 in
theorem w_case : (Jvm.Cond.and given_1 narrow_1).before args0 about1 = true := by decide +kernel
theorem w_applies : (headSpec (Jvm.Cond.code x code maxLocals ret :: tables_1) room_1).applies x e0.platform about1 = true :=
  (Spec.applies_iff w_frames).mpr ⟨w_running, w_runnable, w_alone, w_named, w_hears, w_ripe, w_room, w_tables⟩
theorem atStart : AtStart classFile x code maxLocals ret World_1 tables_1 room_1 Calls_1 rest_1 Pre_1 launch0 p0 e0 about1 theMethod args0 below0 :=
  ⟨lists_1, trivial, launch0.admits_env _ _ _, launch0.least_env, fairChoices_fair.cas, fairChoices_fair.clock, w_frames, w_args, w_heap, w_applies, trivial, trivial, w_case⟩
end start1
theorem witness_1 : WitnessClaimed_1 := ⟨start1.p0, start1.e0, start1.about1, start1.theMethod, start1.args0, start1.below0, start1.atStart⟩
end Jvm.Pilot.@@N@@
