import JvmDerived
import JvmDerived.Pilot.@@N@@Statement
import JvmDerived.Pilot.@@N@@Code
set_option linter.unusedVariables false
set_option linter.unusedSimpArgs false
namespace Jvm.Pilot.@@N@@
open Jvm Jvm.ClassFile Sem Op Lib Jvm.Free Jvm.Stand Jvm.LawKit Jvm.RoadKit Bundle Jvm.Pilot.@@N@@.Jvm.D
section Own
variable {p : Program} {l : Launch} {e : Env} {R : Room} {s : State} {m : MethodId} {args : Array Value} {below : List Frame} {meth : Method} {c : Code} {T : State} {locs : List Loc} {cells slots : Nat}
/-- from this frame on the run comes to an end of which Φ holds -/
def own_Go (tb : Tables) (e : Env) (below : List Frame) (T : State) (g : JFrame) (Φ : State → Outcome → Prop) : Prop :=
  ∃ s₂ o, Steps tb e below (T.setTop g) s₂ ∧ s₂.status = .running ∧ Ended s₂ below o ∧ Φ s₂ o
def own_End (s : State) (Q : Option Value → Heap → List Loc → Prop) (k n : Nat) (t : State) (o : Outcome) : Prop := ∃ v L, o = .returned v ∧ Q v t.heap L ∧ FrameEnd s o t L k n
theorem own_st {tb : Tables} {T' : State} {g g' : JFrame} {Φ : State → Outcome → Prop} (h : own_Go tb e below T' g' Φ) (k : ∀ t, Steps tb e below (T'.setTop g') t → Steps tb e below (T.setTop g) t) : own_Go tb e below T g Φ := by
  obtain ⟨s₂, o, h1, h2⟩ := h
  exact ⟨s₂, o, k _ h1, h2⟩
theorem own_in {tb : Tables} {g g' : JFrame} {Q : Option Value → Heap → List Loc → Prop} {k n : Nat} (q : g = g') (h : own_Go tb e below T g' (own_End s Q k n)) : ∃ s₂ o, Steps tb e below (T.setTop g) s₂ ∧ s₂.status = .running ∧ Ended s₂ below o ∧ ∃ v L, o = .returned v ∧ Q v s₂.heap L ∧ FrameEnd s o s₂ L k n := by
  subst q
  exact h
theorem own_ret (X : Stand p l e R s m args below meth c T locs cells slots) (hlocks : meth.locks = false) {g : JFrame} {v : Option Value} (hv : meth.sig.returnType = none → v = none) {Q : Option Value → Heap → List Loc → Prop} {k n : Nat} (hk : cells ≤ k) (hn : slots ≤ n) (hQ : Q v T.heap locs)
    (hst : ∀ fs, (∀ (f : JFrame) (acts : List Action), f.method = m → f.locked = none → f.entered = [] → (doReturn e (T.setTop f) acts v).1 = T.setFrames fs) → Steps p.tables e below (T.setTop g) (T.setFrames fs)) : own_Go p.tables e below T g (own_End s Q k n) := by
  obtain ⟨fs, hr, hrun, hended, hW, hsame⟩ := X.leave (v := v) hv hlocks
  exact ⟨_, _, hst fs hr, hrun, hended, _, _, rfl, hQ, ⟨_, rfl⟩, hW, hsame.mono hk hn⟩
theorem own_retZ (X : Stand p l e R s m args below meth c T locs cells slots) (hx : p.tables.exec = Jvm.exec) (hlocks : meth.locks = false) {pc : Nat} {Ls : Array Slot} {z : Int32} {rest : List Value} (hret : meth.sig.returnType = some .boolean) (hd : decode c.code pc = .ok (.ireturn, 1)) {Q : Option Value → Heap → List Loc → Prop} {k n : Nat} (hk : cells ≤ k) (hn : slots ≤ n) (hz : z &&& 1 = z) (hQ : Q (some (.int z)) T.heap locs) :
    own_Go p.tables e below T (mkF m pc Ls (.int z :: rest)) (own_End s Q k n) :=
  own_ret X hlocks (fun h => by rw [hret] at h; cases h) hk hn hQ fun fs hr => retOut X hx hret (by show Value.int (z &&& 1) = _; rw [hz]) (Or.inl ⟨rfl, Or.inr (Or.inl rfl), _, rfl⟩) hd hr
theorem own_retI (X : Stand p l e R s m args below meth c T locs cells slots) (hx : p.tables.exec = Jvm.exec) (hlocks : meth.locks = false) {pc : Nat} {Ls : Array Slot} {z : Int32} {rest : List Value} (hret : meth.sig.returnType = some .int) (hd : decode c.code pc = .ok (.ireturn, 1)) {Q : Option Value → Heap → List Loc → Prop} {k n : Nat} (hk : cells ≤ k) (hn : slots ≤ n) (hQ : Q (some (.int z)) T.heap locs) :
    own_Go p.tables e below T (mkF m pc Ls (.int z :: rest)) (own_End s Q k n) :=
  own_ret X hlocks (fun h => by rw [hret] at h; cases h) hk hn hQ fun fs hr => retOut X hx hret rfl (Or.inl ⟨rfl, Or.inl rfl, _, rfl⟩) hd hr
theorem own_retJ (X : Stand p l e R s m args below meth c T locs cells slots) (hx : p.tables.exec = Jvm.exec) (hlocks : meth.locks = false) {pc : Nat} {Ls : Array Slot} {z : Int64} {rest : List Value} (hret : meth.sig.returnType = some .long) (hd : decode c.code pc = .ok (.lreturn, 1)) {Q : Option Value → Heap → List Loc → Prop} {k n : Nat} (hk : cells ≤ k) (hn : slots ≤ n) (hQ : Q (some (.long z)) T.heap locs) :
    own_Go p.tables e below T (mkF m pc Ls (.long z :: rest)) (own_End s Q k n) :=
  own_ret X hlocks (fun h => by rw [hret] at h; cases h) hk hn hQ fun fs hr => retOut X hx hret rfl (Or.inr (Or.inl ⟨rfl, rfl, _, rfl⟩)) hd hr
theorem own_retA (X : Stand p l e R s m args below meth c T locs cells slots) (hx : p.tables.exec = Jvm.exec) (hlocks : meth.locks = false) {pc : Nat} {Ls : Array Slot} {z : Addr} {rest : List Value} {C : String} (hret : meth.sig.returnType = some (.object C)) (hd : decode c.code pc = .ok (.areturn, 1)) {Q : Option Value → Heap → List Loc → Prop} {k n : Nat} (hk : cells ≤ k) (hn : slots ≤ n) (hQ : Q (some (.ref z)) T.heap locs) :
    own_Go p.tables e below T (mkF m pc Ls (.ref z :: rest)) (own_End s Q k n) :=
  own_ret X hlocks (fun h => by rw [hret] at h; cases h) hk hn hQ fun fs hr => retOut X hx hret rfl (Or.inr (Or.inr (Or.inr (Or.inr ⟨rfl, rfl, rfl⟩)))) hd hr
theorem own_retV (X : Stand p l e R s m args below meth c T locs cells slots) (hx : p.tables.exec = Jvm.exec) (hlocks : meth.locks = false) {pc : Nat} {Ls : Array Slot} (hret : meth.sig.returnType = none) (hd : decode c.code pc = .ok (.return_, 1)) {Q : Option Value → Heap → List Loc → Prop} {k n : Nat} (hk : cells ≤ k) (hn : slots ≤ n) (hQ : Q none T.heap locs) :
    own_Go p.tables e below T (mkF m pc Ls []) (own_End s Q k n) :=
  own_ret X hlocks (fun _ => rfl) hk hn hQ fun fs hr => X.returnOut hx hret hd hr
/-- a truth as Java's int -/
def own_b (b : Bool) : Int32 := if b then 1 else 0
theorem own_bt {b : Bool} (h : b = true) : own_b b = 1 := by rw [h]; rfl
theorem own_bf {b : Bool} (h : b = false) : own_b b = 0 := by rw [h]; rfl
theorem own_bz {a : Bool} : own_b a = 0 ↔ a = false := by cases a <;> decide
theorem own_bo {a : Bool} : own_b a = 1 ↔ a = true := by cases a <;> decide
theorem own_zb {a : Bool} : 0 = own_b a ↔ a = false := by cases a <;> decide
theorem own_ob {a : Bool} : 1 = own_b a ↔ a = true := by cases a <;> decide
theorem own_binj {a b : Bool} : own_b a = own_b b ↔ a = b := by cases a <;> cases b <;> decide
theorem own_b1 (a : Bool) : own_b a &&& 1 = own_b a := by cases a <;> decide
end Own
section OwnA
variable {p : Program} {l : Launch} {e : Env} {R : Room} {s : State} {m : MethodId} {args : Array Value} {below : List Frame} {meth : Method} {c : Code} {T : State} {locs : List Loc} {cells slots : Nat} {Z : State} {h h' : Heap} {a b : Addr} {ty : FieldType} {n : Nat} {f g : Nat → Value} {v : Value} {sl : Nat} {ws : List Addr}
/-- an array of n places; f says what lies in each -/
def own_A (Z : State) (h : Heap) (a : Addr) (ty : FieldType) (n : Nat) (f : Nat → Value) : Prop := ∃ c : Cell, Arr Z h a c ty ∧ c.slots.size = n ∧ ∀ i, i < n → c.slots[i]? = some (f i)
theorem own_A.lt (F : own_A Z h a ty n f) : a < h.size := by obtain ⟨c, A, -⟩ := F; exact A.lt
theorem own_A.ext (F : own_A Z h a ty n f) (E : Ext h h') : own_A Z h' a ty n f := by obtain ⟨c, A, r⟩ := F; exact ⟨c, A.ext E, r⟩
theorem own_A.other (F : own_A Z h b ty n f) (W : Wr h h' a sl v) (q : b ≠ a) : own_A Z h' b ty n f := by obtain ⟨c, A, r⟩ := F; exact ⟨c, A.other W q, r⟩
theorem own_A.keep (F : own_A Z h a ty n f) (K : Keep h h' ws) (q : a ∉ ws) : own_A Z h' a ty n f := by obtain ⟨c, A, r⟩ := F; exact ⟨c, ⟨K.2.1 a c A.1 q, A.2⟩, r⟩
theorem own_A.congr (F : own_A Z h a ty n f) (q : ∀ i, i < n → f i = g i) : own_A Z h a ty n g := by obtain ⟨c, A, s, H⟩ := F; exact ⟨c, A, s, fun i hi => by rw [← q i hi]; exact H i hi⟩
theorem own_A.new {k : ClassId} {z : Int32} (A : Arr Z h a (newA k ty z) ty) (hn : z.toInt.toNat = n) : own_A Z h a ty n (fun _ => defaultValue ty) := by
  subst hn
  refine ⟨_, A, sz_new _ _ _, fun i hi => ?_⟩
  have hi' : i < z.toNatClampNeg := hi
  simp [newA, hi']
theorem own_A.set {j : Nat} (F : own_A Z h a ty n f) (W : Wr h h' a j v) : own_A Z h' a ty n (fun i => if i = j then v else f i) := by
  obtain ⟨c, A, q, H⟩ := F
  refine ⟨c.setSlot j v, A.same W, by rw [sz_set]; exact q, fun i hi => ?_⟩
  show (c.slots.setIfInBounds j v)[i]? = _
  rw [Array.getElem?_setIfInBounds]
  by_cases e : j = i
  · subst e
    have : j < c.slots.size := by omega
    simp [this]
  · have e' : ¬ i = j := fun q => e q.symm
    simp [e, e', H i hi]
theorem own_A.setI {j : Nat} {x : Int32} {f : Nat → Int32} (F : own_A Z h a ty n (fun i => .int (f i))) (W : Wr h h' a j (.int x)) : own_A Z h' a ty n (fun i => .int (if i = j then x else f i)) := (F.set W).congr fun i _ => by split <;> rfl
theorem own_A.setJ {j : Nat} {x : Int64} {f : Nat → Int64} (F : own_A Z h a ty n (fun i => .long (f i))) (W : Wr h h' a j (.long x)) : own_A Z h' a ty n (fun i => .long (if i = j then x else f i)) := (F.set W).congr fun i _ => by split <;> rfl
theorem own_ix {j : Int32} (hj : 0 ≤ j.toInt) (hn : j.toInt < n) {cl : Cell} (q : cl.slots.size = n) : ¬ (j < 0 ∨ cl.slots.size ≤ j.toNatClampNeg) := by
  have e0 : (0 : Int32).toInt = 0 := by decide
  have e1 : j.toNatClampNeg = j.toInt.toNat := rfl
  rw [Int32.lt_iff_toInt_lt, e0, e1]
  omega
theorem own_A.at {j : Int32} (F : own_A Z h a ty n f) (hj : 0 ≤ j.toInt) (hn : j.toInt < n) : ∃ cl : Cell, Arr Z h a cl ty ∧ ¬ (j < 0 ∨ cl.slots.size ≤ j.toNatClampNeg) ∧ cl.slots[j.toNatClampNeg]? = some (f j.toInt.toNat) := by
  obtain ⟨c, A, q, H⟩ := F
  exact ⟨c, A, own_ix hj hn q, H _ (by have e1 : j.toNatClampNeg = j.toInt.toNat := rfl; omega)⟩
theorem own_iaload (X : Stand p l e R s m args below meth c T locs cells slots) (hx : p.tables.exec = Jvm.exec) (hZ : Z.Warmed39 s.vm) (eT : T.heap = h) (A : own_A Z h a .int n f) {j : Int32} (hj : 0 ≤ j.toInt) (hn : j.toInt < n) (hv : f j.toInt.toNat = v) {pc : Nat} {Ls : Array Slot} {rest : List Value} (hd : decode c.code pc = .ok (.iaload, 1)) (target : State)
    (k : Steps p.tables e below (T.setTop (mkF m (pc + 1) Ls (v :: rest))) target) : Steps p.tables e below (T.setTop (mkF m pc Ls (.int j :: .ref a :: rest))) target := by
  obtain ⟨cl, Ar, hin, hat⟩ := A.at hj hn
  exact X.iaload hx (j := j) (v := v) (by rw [eT]; exact Ar.1) (State.isArrayOf_alike hZ.alike Ar.2.1) Ar.2.2 hin (by rw [hat, hv]) (g := mkF m pc Ls (.int j :: .ref a :: rest)) rfl rfl hd target k
theorem own_laload (X : Stand p l e R s m args below meth c T locs cells slots) (hx : p.tables.exec = Jvm.exec) (hZ : Z.Warmed39 s.vm) (eT : T.heap = h) (A : own_A Z h a .long n f) {j : Int32} (hj : 0 ≤ j.toInt) (hn : j.toInt < n) (hv : f j.toInt.toNat = v) {pc : Nat} {Ls : Array Slot} {rest : List Value} (hd : decode c.code pc = .ok (.laload, 1)) (target : State)
    (k : Steps p.tables e below (T.setTop (mkF m (pc + 1) Ls (v :: rest))) target) : Steps p.tables e below (T.setTop (mkF m pc Ls (.int j :: .ref a :: rest))) target := by
  obtain ⟨cl, Ar, hin, hat⟩ := A.at hj hn
  exact X.laload hx (j := j) (v := v) (by rw [eT]; exact Ar.1) (State.isArrayOf_alike hZ.alike Ar.2.1) Ar.2.2 hin (by rw [hat, hv]) (g := mkF m pc Ls (.int j :: .ref a :: rest)) rfl rfl hd target k
theorem own_baload (X : Stand p l e R s m args below meth c T locs cells slots) (hx : p.tables.exec = Jvm.exec) (hZ : Z.Warmed39 s.vm) (eT : T.heap = h) (A : own_A Z h a .byte n f) {j : Int32} (hj : 0 ≤ j.toInt) (hn : j.toInt < n) (hv : f j.toInt.toNat = v) {pc : Nat} {Ls : Array Slot} {rest : List Value} (hd : decode c.code pc = .ok (.baload, 1)) (target : State)
    (k : Steps p.tables e below (T.setTop (mkF m (pc + 1) Ls (v :: rest))) target) : Steps p.tables e below (T.setTop (mkF m pc Ls (.int j :: .ref a :: rest))) target := by
  obtain ⟨cl, Ar, hin, hat⟩ := A.at hj hn
  exact X.baloadBytes hx (j := j) (v := v) (by rw [eT]; exact Ar.1) (State.isArrayOf_alike hZ.alike Ar.2.1) Ar.2.2 hin (by rw [hat, hv]) (g := mkF m pc Ls (.int j :: .ref a :: rest)) rfl rfl hd target k
theorem own_len (X : Stand p l e R s m args below meth c T locs cells slots) (hx : p.tables.exec = Jvm.exec) (hZ : Z.Warmed39 s.vm) (eT : T.heap = h) (A : own_A Z h a ty n f) {z : Int32} (hz : n.toInt32 = z) {pc : Nat} {Ls : Array Slot} {rest : List Value} (hd : decode c.code pc = .ok (.arraylength, 1)) (target : State)
    (k : Steps p.tables e below (T.setTop (mkF m (pc + 1) Ls (.int z :: rest))) target) : Steps p.tables e below (T.setTop (mkF m pc Ls (.ref a :: rest))) target := by
  obtain ⟨cl, Ar, q, -⟩ := A
  refine X.arraylength hx (by rw [eT]; exact Ar.1) (State.isArrayOf_alike hZ.alike Ar.2.1) (g := mkF m pc Ls (.ref a :: rest)) rfl rfl hd target ?_
  rw [q, hz]
  exact k
theorem own_iastore (X : Stand p l e R s m args below meth c T locs cells slots) (hx : p.tables.exec = Jvm.exec) (hZ : Z.Warmed39 s.vm) (eT : T.heap = h) (A : own_A Z h a .int n f) {j x : Int32} (hj : 0 ≤ j.toInt) (hn : j.toInt < n) {pc : Nat} {Ls : Array Slot} {rest : List Value} (hd : decode c.code pc = .ok (.iastore, 1)) :
    ∃ T' h', Stand p l e R s m args below meth c T' (locs ++ [⟨a, j.toInt.toNat⟩]) cells slots ∧ T'.heap = h' ∧ Wr h h' a j.toInt.toNat (.int x) ∧ ∀ target, Steps p.tables e below (T'.setTop (mkF m (pc + 1) Ls rest)) target → Steps p.tables e below (T.setTop (mkF m pc Ls (.int x :: .int j :: .ref a :: rest))) target := by
  obtain ⟨cl, Ar, hin, -⟩ := A.at hj hn
  exact stI X hx hZ eT Ar hin (g := mkF m pc Ls (.int x :: .int j :: .ref a :: rest)) rfl rfl hd
theorem own_lastore (X : Stand p l e R s m args below meth c T locs cells slots) (hx : p.tables.exec = Jvm.exec) (hZ : Z.Warmed39 s.vm) (eT : T.heap = h) (A : own_A Z h a .long n f) {j : Int32} {x : Int64} (hj : 0 ≤ j.toInt) (hn : j.toInt < n) {pc : Nat} {Ls : Array Slot} {rest : List Value} (hd : decode c.code pc = .ok (.lastore, 1)) :
    ∃ T' h', Stand p l e R s m args below meth c T' (locs ++ [⟨a, j.toInt.toNat⟩]) cells slots ∧ T'.heap = h' ∧ Wr h h' a j.toInt.toNat (.long x) ∧ ∀ target, Steps p.tables e below (T'.setTop (mkF m (pc + 1) Ls rest)) target → Steps p.tables e below (T.setTop (mkF m pc Ls (.long x :: .int j :: .ref a :: rest))) target := by
  obtain ⟨cl, Ar, hin, -⟩ := A.at hj hn
  exact stJ X hx hZ eT Ar hin (g := mkF m pc Ls (.long x :: .int j :: .ref a :: rest)) rfl rfl hd
theorem own_bastore (X : Stand p l e R s m args below meth c T locs cells slots) (hx : p.tables.exec = Jvm.exec) (hZ : Z.Warmed39 s.vm) (eT : T.heap = h) (A : own_A Z h a .byte n f) {j x : Int32} (hj : 0 ≤ j.toInt) (hn : j.toInt < n) {pc : Nat} {Ls : Array Slot} {rest : List Value} (hd : decode c.code pc = .ok (.bastore, 1)) :
    ∃ T' h', Stand p l e R s m args below meth c T' (locs ++ [⟨a, j.toInt.toNat⟩]) cells slots ∧ T'.heap = h' ∧ Wr h h' a j.toInt.toNat (.int x.toInt8.toInt32) ∧ ∀ target, Steps p.tables e below (T'.setTop (mkF m (pc + 1) Ls rest)) target → Steps p.tables e below (T.setTop (mkF m pc Ls (.int x :: .int j :: .ref a :: rest))) target := by
  obtain ⟨cl, Ar, hin, -⟩ := A.at hj hn
  exact stB X hx hZ eT Ar hin (g := mkF m pc Ls (.int x :: .int j :: .ref a :: rest)) rfl rfl hd
end OwnA
theorem own_Im2147483648 : (-2147483648 : Int32).toInt = -2147483648 := by decide +kernel
theorem own_I0 : (0 : Int32).toInt = 0 := by decide +kernel
theorem own_I1 : (1 : Int32).toInt = 1 := by decide +kernel
theorem own_I2 : (2 : Int32).toInt = 2 := by decide +kernel
theorem own_I3 : (3 : Int32).toInt = 3 := by decide +kernel
theorem own_I4 : (4 : Int32).toInt = 4 := by decide +kernel
theorem own_I5 : (5 : Int32).toInt = 5 := by decide +kernel
theorem own_I6 : (6 : Int32).toInt = 6 := by decide +kernel
theorem own_I7 : (7 : Int32).toInt = 7 := by decide +kernel
theorem own_I8 : (8 : Int32).toInt = 8 := by decide +kernel
theorem own_I9 : (9 : Int32).toInt = 9 := by decide +kernel
theorem own_I10 : (10 : Int32).toInt = 10 := by decide +kernel
theorem own_I11 : (11 : Int32).toInt = 11 := by decide +kernel
theorem own_I12 : (12 : Int32).toInt = 12 := by decide +kernel
theorem own_I13 : (13 : Int32).toInt = 13 := by decide +kernel
theorem own_I14 : (14 : Int32).toInt = 14 := by decide +kernel
theorem own_I15 : (15 : Int32).toInt = 15 := by decide +kernel
theorem own_I16 : (16 : Int32).toInt = 16 := by decide +kernel
theorem own_I31 : (31 : Int32).toInt = 31 := by decide +kernel
theorem own_I32 : (32 : Int32).toInt = 32 := by decide +kernel
theorem own_I55295 : (55295 : Int32).toInt = 55295 := by decide +kernel
theorem own_I55296 : (55296 : Int32).toInt = 55296 := by decide +kernel
theorem own_I57343 : (57343 : Int32).toInt = 57343 := by decide +kernel
theorem own_I57344 : (57344 : Int32).toInt = 57344 := by decide +kernel
theorem own_I65533 : (65533 : Int32).toInt = 65533 := by decide +kernel
theorem own_I65534 : (65534 : Int32).toInt = 65534 := by decide +kernel
theorem own_I65535 : (65535 : Int32).toInt = 65535 := by decide +kernel
theorem own_I65536 : (65536 : Int32).toInt = 65536 := by decide +kernel
theorem own_I1114111 : (1114111 : Int32).toInt = 1114111 := by decide +kernel
theorem own_I2147483647 : (2147483647 : Int32).toInt = 2147483647 := by decide +kernel
theorem d1_0 : decode prog_38_method_2_code 0 = .ok (.iload_n 0, 1) := by decide +kernel
theorem d1_1 : decode prog_38_method_2_code 1 = .ok (.bipush 9, 2) := by decide +kernel
theorem d1_3 : decode prog_38_method_2_code 3 = .ok (.if_icmp .eq 51, 3) := by decide +kernel
theorem d1_6 : decode prog_38_method_2_code 6 = .ok (.iload_n 0, 1) := by decide +kernel
theorem d1_7 : decode prog_38_method_2_code 7 = .ok (.bipush 10, 2) := by decide +kernel
theorem d1_9 : decode prog_38_method_2_code 9 = .ok (.if_icmp .eq 45, 3) := by decide +kernel
theorem d1_12 : decode prog_38_method_2_code 12 = .ok (.iload_n 0, 1) := by decide +kernel
theorem d1_13 : decode prog_38_method_2_code 13 = .ok (.bipush 13, 2) := by decide +kernel
theorem d1_15 : decode prog_38_method_2_code 15 = .ok (.if_icmp .eq 39, 3) := by decide +kernel
theorem d1_18 : decode prog_38_method_2_code 18 = .ok (.iload_n 0, 1) := by decide +kernel
theorem d1_19 : decode prog_38_method_2_code 19 = .ok (.bipush 32, 2) := by decide +kernel
theorem d1_21 : decode prog_38_method_2_code 21 = .ok (.if_icmp .lt 9, 3) := by decide +kernel
theorem d1_24 : decode prog_38_method_2_code 24 = .ok (.iload_n 0, 1) := by decide +kernel
theorem d1_25 : decode prog_38_method_2_code 25 = .ok (.ldc 7, 2) := by decide +kernel
theorem d1_27 : decode prog_38_method_2_code 27 = .ok (.if_icmp .le 27, 3) := by decide +kernel
theorem d1_30 : decode prog_38_method_2_code 30 = .ok (.iload_n 0, 1) := by decide +kernel
theorem d1_31 : decode prog_38_method_2_code 31 = .ok (.ldc 8, 2) := by decide +kernel
theorem d1_33 : decode prog_38_method_2_code 33 = .ok (.if_icmp .lt 9, 3) := by decide +kernel
theorem d1_36 : decode prog_38_method_2_code 36 = .ok (.iload_n 0, 1) := by decide +kernel
theorem d1_37 : decode prog_38_method_2_code 37 = .ok (.ldc 9, 2) := by decide +kernel
theorem d1_39 : decode prog_38_method_2_code 39 = .ok (.if_icmp .le 15, 3) := by decide +kernel
theorem d1_42 : decode prog_38_method_2_code 42 = .ok (.iload_n 0, 1) := by decide +kernel
theorem d1_43 : decode prog_38_method_2_code 43 = .ok (.ldc 10, 2) := by decide +kernel
theorem d1_45 : decode prog_38_method_2_code 45 = .ok (.if_icmp .lt 13, 3) := by decide +kernel
theorem d1_48 : decode prog_38_method_2_code 48 = .ok (.iload_n 0, 1) := by decide +kernel
theorem d1_49 : decode prog_38_method_2_code 49 = .ok (.ldc 11, 2) := by decide +kernel
theorem d1_51 : decode prog_38_method_2_code 51 = .ok (.if_icmp .gt 7, 3) := by decide +kernel
theorem d1_54 : decode prog_38_method_2_code 54 = .ok (.iconst 1, 1) := by decide +kernel
theorem d1_55 : decode prog_38_method_2_code 55 = .ok (.goto 4, 3) := by decide +kernel
theorem d1_58 : decode prog_38_method_2_code 58 = .ok (.iconst 0, 1) := by decide +kernel
theorem d1_59 : decode prog_38_method_2_code 59 = .ok (.ireturn, 1) := by decide +kernel
theorem pn_1 : plainName "com/example/markup_into_tree/markupintotree/model/XmlChars" = true := by first | (simp [plainName, overriddenIn]; done) | decide +kernel
theorem ef_1 (m : MethodId) (p0 : Int32) : entryFrame m #[(.int p0)] 1 = mkF m 0 #[.val (.int p0)] [] := by first | (simp [entryFrame, mkF, argsToLocals, Value.category]; done) | rfl
def Q1 (Z : State) (p0 : Int32) (h0 : Heap) (n0 : Nat) (v : Option Value) (h : Heap) (L : List Loc) : Prop := v = some (.int (own_b (decide (p0.toInt = 9 ∨ p0.toInt = 10 ∨ p0.toInt = 13 ∨ (32 ≤ p0.toInt ∧ p0.toInt ≤ 55295) ∨ (57344 ≤ p0.toInt ∧ p0.toInt ≤ 65533) ∨ (65536 ≤ p0.toInt ∧ p0.toInt ≤ 1114111))))) ∧ Fr n0 L ∧ h = h0
set_option maxRecDepth 65536 in
set_option maxHeartbeats 40000000 in
theorem rm1 (l : Launch) (Z : State) (a0 : Array Value) (hw : ∀ d ∈ tables_1, d.before a0 Z = true) (ws : List Jvm.Cond) (p0 : Int32) (h0 : Heap) (n0 : Nat) (Z0 : n0 ≤ h0.size)  :
    MetFree l (⟨"com/example/markup_into_tree/markupintotree/model/XmlChars", "isChar", "(I)Z"⟩ : MethodName) (head1 (Jvm.Cond.code (⟨"com/example/markup_into_tree/markupintotree/model/XmlChars", "isChar", "(I)Z"⟩ : MethodName) prog_38_method_2_code 1 (some .boolean) :: ws) ({ frames := 0, cells := 0, slots := 0, locals := 0 } : Room)) (fun a U => a = #[(.int p0)] ∧ Z.Warmed39 U.vm ∧ U.heap = h0) (fun _ _ _ _ _ => True) (fun _ U o U' => ∃ v L, o = .returned v ∧ Q1 Z p0 h0 n0 v U'.heap L ∧ FrameEnd U o U' L ({ frames := 0, cells := 0, slots := 0, locals := 0 } : Room).cells ({ frames := 0, cells := 0, slots := 0, locals := 0 } : Room).slots) := by
  refine MetFree.of_bodySF (plainFor_of_name pn_1) hisR ?_
  intro p e s m args below meth c s₁ Bd hml0 hP hK
  obtain ⟨rfl, hZ, hh⟩ := hP
  have hx := Bd.exec
  have hby := Bd.bytes
  have hml : c.maxLocals = 1 := hml0
  have hown : s.vm.findClass "com/example/markup_into_tree/markupintotree/model/XmlChars" = some m.cls := findClass_of_methodNamed Bd.named
  have hnm := (name_of_methodNamed Bd.named Bd.method).1
  have X0 : Stand p l e ({ frames := 0, cells := 0, slots := 0, locals := 0 } : Room) s m #[(.int p0)] below meth c s₁ [] 0 0 := Stand.of_body Bd
  have e0 : s₁.heap = h0 := by rw [← hh, Bd.state]; rfl
  have N0 := Fr.nil n0
  have hlk := Bd.notSynchronized
  refine own_in (Q := Q1 Z p0 h0 n0) (ef_1 m p0) ?_
  refine own_st (T' := s₁) (g' := (mkF m 1 #[.val (.int p0)] [(.int p0)])) ?_ fun _ k => XS.iloadN X0.here hx rfl (hb hby d1_0) rfl k
  refine own_st (T' := s₁) (g' := (mkF m 3 #[.val (.int p0)] [(.int (9 : Int32)), (.int p0)])) ?_ fun _ k => XS.bipush X0.here hx rfl (hb hby d1_1) k
  by_cases hc1 : p0 = (9 : Int32)
  · refine own_st (T' := s₁) (g' := (mkF m 54 #[.val (.int p0)] [])) ?_ fun _ k => XS.icmpYes X0.here hx rfl (pc0 := 3) (pc' := 54) rfl (hb hby d1_3) rfl ((teq hc1).1) (by decide) (by decide) k
    refine own_st (T' := s₁) (g' := (mkF m 55 #[.val (.int p0)] [(.int (1 : Int32))])) ?_ fun _ k => XS.iconst X0.here hx rfl (hb hby d1_54) k
    refine own_st (T' := s₁) (g' := (mkF m 59 #[.val (.int p0)] [(.int (1 : Int32))])) ?_ fun _ k => XS.goto X0.here hx rfl (pc0 := 55) (pc' := 59) rfl (hb hby d1_55) (by decide) (by decide) k
    refine own_retZ X0 hx hlk Bd.returns (hb hby d1_59) (Q := (Q1 Z p0 h0 n0)) (by decide) (by decide) (by decide) ?_
    refine ⟨?_, N0, e0⟩
    simp only [Int32.lt_iff_toInt_lt, ← Int32.toInt_inj, own_Im2147483648, own_I0, own_I1, own_I2, own_I3, own_I4, own_I5, own_I6, own_I7, own_I8, own_I9, own_I10, own_I11, own_I12, own_I13, own_I14, own_I15, own_I16, own_I31, own_I32, own_I55295, own_I55296, own_I57343, own_I57344, own_I65533, own_I65534, own_I65535, own_I65536, own_I1114111, own_I2147483647] at hc1
    rw [own_bt (decide_eq_true (by omega))]
  · refine own_st (T' := s₁) (g' := (mkF m 6 #[.val (.int p0)] [])) ?_ fun _ k => XS.icmpNo X0.here hx rfl (hb hby d1_3) rfl ((feq hc1).1) k
    refine own_st (T' := s₁) (g' := (mkF m 7 #[.val (.int p0)] [(.int p0)])) ?_ fun _ k => XS.iloadN X0.here hx rfl (hb hby d1_6) rfl k
    refine own_st (T' := s₁) (g' := (mkF m 9 #[.val (.int p0)] [(.int (10 : Int32)), (.int p0)])) ?_ fun _ k => XS.bipush X0.here hx rfl (hb hby d1_7) k
    by_cases hc2 : p0 = (10 : Int32)
    · refine own_st (T' := s₁) (g' := (mkF m 54 #[.val (.int p0)] [])) ?_ fun _ k => XS.icmpYes X0.here hx rfl (pc0 := 9) (pc' := 54) rfl (hb hby d1_9) rfl ((teq hc2).1) (by decide) (by decide) k
      refine own_st (T' := s₁) (g' := (mkF m 55 #[.val (.int p0)] [(.int (1 : Int32))])) ?_ fun _ k => XS.iconst X0.here hx rfl (hb hby d1_54) k
      refine own_st (T' := s₁) (g' := (mkF m 59 #[.val (.int p0)] [(.int (1 : Int32))])) ?_ fun _ k => XS.goto X0.here hx rfl (pc0 := 55) (pc' := 59) rfl (hb hby d1_55) (by decide) (by decide) k
      refine own_retZ X0 hx hlk Bd.returns (hb hby d1_59) (Q := (Q1 Z p0 h0 n0)) (by decide) (by decide) (by decide) ?_
      refine ⟨?_, N0, e0⟩
      simp only [Int32.lt_iff_toInt_lt, ← Int32.toInt_inj, own_Im2147483648, own_I0, own_I1, own_I2, own_I3, own_I4, own_I5, own_I6, own_I7, own_I8, own_I9, own_I10, own_I11, own_I12, own_I13, own_I14, own_I15, own_I16, own_I31, own_I32, own_I55295, own_I55296, own_I57343, own_I57344, own_I65533, own_I65534, own_I65535, own_I65536, own_I1114111, own_I2147483647] at hc1 hc2
      rw [own_bt (decide_eq_true (by omega))]
    · refine own_st (T' := s₁) (g' := (mkF m 12 #[.val (.int p0)] [])) ?_ fun _ k => XS.icmpNo X0.here hx rfl (hb hby d1_9) rfl ((feq hc2).1) k
      refine own_st (T' := s₁) (g' := (mkF m 13 #[.val (.int p0)] [(.int p0)])) ?_ fun _ k => XS.iloadN X0.here hx rfl (hb hby d1_12) rfl k
      refine own_st (T' := s₁) (g' := (mkF m 15 #[.val (.int p0)] [(.int (13 : Int32)), (.int p0)])) ?_ fun _ k => XS.bipush X0.here hx rfl (hb hby d1_13) k
      by_cases hc3 : p0 = (13 : Int32)
      · refine own_st (T' := s₁) (g' := (mkF m 54 #[.val (.int p0)] [])) ?_ fun _ k => XS.icmpYes X0.here hx rfl (pc0 := 15) (pc' := 54) rfl (hb hby d1_15) rfl ((teq hc3).1) (by decide) (by decide) k
        refine own_st (T' := s₁) (g' := (mkF m 55 #[.val (.int p0)] [(.int (1 : Int32))])) ?_ fun _ k => XS.iconst X0.here hx rfl (hb hby d1_54) k
        refine own_st (T' := s₁) (g' := (mkF m 59 #[.val (.int p0)] [(.int (1 : Int32))])) ?_ fun _ k => XS.goto X0.here hx rfl (pc0 := 55) (pc' := 59) rfl (hb hby d1_55) (by decide) (by decide) k
        refine own_retZ X0 hx hlk Bd.returns (hb hby d1_59) (Q := (Q1 Z p0 h0 n0)) (by decide) (by decide) (by decide) ?_
        refine ⟨?_, N0, e0⟩
        simp only [Int32.lt_iff_toInt_lt, ← Int32.toInt_inj, own_Im2147483648, own_I0, own_I1, own_I2, own_I3, own_I4, own_I5, own_I6, own_I7, own_I8, own_I9, own_I10, own_I11, own_I12, own_I13, own_I14, own_I15, own_I16, own_I31, own_I32, own_I55295, own_I55296, own_I57343, own_I57344, own_I65533, own_I65534, own_I65535, own_I65536, own_I1114111, own_I2147483647] at hc1 hc2 hc3
        rw [own_bt (decide_eq_true (by omega))]
      · refine own_st (T' := s₁) (g' := (mkF m 18 #[.val (.int p0)] [])) ?_ fun _ k => XS.icmpNo X0.here hx rfl (hb hby d1_15) rfl ((feq hc3).1) k
        refine own_st (T' := s₁) (g' := (mkF m 19 #[.val (.int p0)] [(.int p0)])) ?_ fun _ k => XS.iloadN X0.here hx rfl (hb hby d1_18) rfl k
        refine own_st (T' := s₁) (g' := (mkF m 21 #[.val (.int p0)] [(.int (32 : Int32)), (.int p0)])) ?_ fun _ k => XS.bipush X0.here hx rfl (hb hby d1_19) k
        by_cases hc4 : p0 < (32 : Int32)
        · refine own_st (T' := s₁) (g' := (mkF m 30 #[.val (.int p0)] [])) ?_ fun _ k => XS.icmpYes X0.here hx rfl (pc0 := 21) (pc' := 30) rfl (hb hby d1_21) rfl ((tlt hc4).1) (by decide) (by decide) k
          refine own_st (T' := s₁) (g' := (mkF m 31 #[.val (.int p0)] [(.int p0)])) ?_ fun _ k => XS.iloadN X0.here hx rfl (hb hby d1_30) rfl k
          refine own_st (T' := s₁) (g' := (mkF m 33 #[.val (.int p0)] [(.int (57344 : Int32)), (.int p0)])) ?_ fun _ k => X0.ldcInt hx hown (mvT hZ (hw _ (List.mem_of_getElem? (i := 14) rfl))) (g := (mkF m 31 #[.val (.int p0)] [(.int p0)])) rfl (hb hby d1_31) _ k
          by_cases hc5 : p0 < (57344 : Int32)
          · refine own_st (T' := s₁) (g' := (mkF m 42 #[.val (.int p0)] [])) ?_ fun _ k => XS.icmpYes X0.here hx rfl (pc0 := 33) (pc' := 42) rfl (hb hby d1_33) rfl ((tlt hc5).1) (by decide) (by decide) k
            refine own_st (T' := s₁) (g' := (mkF m 43 #[.val (.int p0)] [(.int p0)])) ?_ fun _ k => XS.iloadN X0.here hx rfl (hb hby d1_42) rfl k
            refine own_st (T' := s₁) (g' := (mkF m 45 #[.val (.int p0)] [(.int (65536 : Int32)), (.int p0)])) ?_ fun _ k => X0.ldcInt hx hown (mvT hZ (hw _ (List.mem_of_getElem? (i := 15) rfl))) (g := (mkF m 43 #[.val (.int p0)] [(.int p0)])) rfl (hb hby d1_43) _ k
            by_cases hc6 : p0 < (65536 : Int32)
            · refine own_st (T' := s₁) (g' := (mkF m 58 #[.val (.int p0)] [])) ?_ fun _ k => XS.icmpYes X0.here hx rfl (pc0 := 45) (pc' := 58) rfl (hb hby d1_45) rfl ((tlt hc6).1) (by decide) (by decide) k
              refine own_st (T' := s₁) (g' := (mkF m 59 #[.val (.int p0)] [(.int (0 : Int32))])) ?_ fun _ k => XS.iconst X0.here hx rfl (hb hby d1_58) k
              refine own_retZ X0 hx hlk Bd.returns (hb hby d1_59) (Q := (Q1 Z p0 h0 n0)) (by decide) (by decide) (by decide) ?_
              refine ⟨?_, N0, e0⟩
              simp only [Int32.lt_iff_toInt_lt, ← Int32.toInt_inj, own_Im2147483648, own_I0, own_I1, own_I2, own_I3, own_I4, own_I5, own_I6, own_I7, own_I8, own_I9, own_I10, own_I11, own_I12, own_I13, own_I14, own_I15, own_I16, own_I31, own_I32, own_I55295, own_I55296, own_I57343, own_I57344, own_I65533, own_I65534, own_I65535, own_I65536, own_I1114111, own_I2147483647] at hc1 hc2 hc3 hc4 hc5 hc6
              rw [own_bf (decide_eq_false (by omega))]
            · refine own_st (T' := s₁) (g' := (mkF m 48 #[.val (.int p0)] [])) ?_ fun _ k => XS.icmpNo X0.here hx rfl (hb hby d1_45) rfl ((flt hc6).1) k
              refine own_st (T' := s₁) (g' := (mkF m 49 #[.val (.int p0)] [(.int p0)])) ?_ fun _ k => XS.iloadN X0.here hx rfl (hb hby d1_48) rfl k
              refine own_st (T' := s₁) (g' := (mkF m 51 #[.val (.int p0)] [(.int (1114111 : Int32)), (.int p0)])) ?_ fun _ k => X0.ldcInt hx hown (mvT hZ (hw _ (List.mem_of_getElem? (i := 24) rfl))) (g := (mkF m 49 #[.val (.int p0)] [(.int p0)])) rfl (hb hby d1_49) _ k
              by_cases hc7 : (1114111 : Int32) < p0
              · refine own_st (T' := s₁) (g' := (mkF m 58 #[.val (.int p0)] [])) ?_ fun _ k => XS.icmpYes X0.here hx rfl (pc0 := 51) (pc' := 58) rfl (hb hby d1_51) rfl ((tlt hc7).2.2.1) (by decide) (by decide) k
                refine own_st (T' := s₁) (g' := (mkF m 59 #[.val (.int p0)] [(.int (0 : Int32))])) ?_ fun _ k => XS.iconst X0.here hx rfl (hb hby d1_58) k
                refine own_retZ X0 hx hlk Bd.returns (hb hby d1_59) (Q := (Q1 Z p0 h0 n0)) (by decide) (by decide) (by decide) ?_
                refine ⟨?_, N0, e0⟩
                simp only [Int32.lt_iff_toInt_lt, ← Int32.toInt_inj, own_Im2147483648, own_I0, own_I1, own_I2, own_I3, own_I4, own_I5, own_I6, own_I7, own_I8, own_I9, own_I10, own_I11, own_I12, own_I13, own_I14, own_I15, own_I16, own_I31, own_I32, own_I55295, own_I55296, own_I57343, own_I57344, own_I65533, own_I65534, own_I65535, own_I65536, own_I1114111, own_I2147483647] at hc1 hc2 hc3 hc4 hc5 hc6 hc7
                rw [own_bf (decide_eq_false (by omega))]
              · refine own_st (T' := s₁) (g' := (mkF m 54 #[.val (.int p0)] [])) ?_ fun _ k => XS.icmpNo X0.here hx rfl (hb hby d1_51) rfl ((flt hc7).2.2.1) k
                refine own_st (T' := s₁) (g' := (mkF m 55 #[.val (.int p0)] [(.int (1 : Int32))])) ?_ fun _ k => XS.iconst X0.here hx rfl (hb hby d1_54) k
                refine own_st (T' := s₁) (g' := (mkF m 59 #[.val (.int p0)] [(.int (1 : Int32))])) ?_ fun _ k => XS.goto X0.here hx rfl (pc0 := 55) (pc' := 59) rfl (hb hby d1_55) (by decide) (by decide) k
                refine own_retZ X0 hx hlk Bd.returns (hb hby d1_59) (Q := (Q1 Z p0 h0 n0)) (by decide) (by decide) (by decide) ?_
                refine ⟨?_, N0, e0⟩
                simp only [Int32.lt_iff_toInt_lt, ← Int32.toInt_inj, own_Im2147483648, own_I0, own_I1, own_I2, own_I3, own_I4, own_I5, own_I6, own_I7, own_I8, own_I9, own_I10, own_I11, own_I12, own_I13, own_I14, own_I15, own_I16, own_I31, own_I32, own_I55295, own_I55296, own_I57343, own_I57344, own_I65533, own_I65534, own_I65535, own_I65536, own_I1114111, own_I2147483647] at hc1 hc2 hc3 hc4 hc5 hc6 hc7
                rw [own_bt (decide_eq_true (by omega))]
          · refine own_st (T' := s₁) (g' := (mkF m 36 #[.val (.int p0)] [])) ?_ fun _ k => XS.icmpNo X0.here hx rfl (hb hby d1_33) rfl ((flt hc5).1) k
            refine own_st (T' := s₁) (g' := (mkF m 37 #[.val (.int p0)] [(.int p0)])) ?_ fun _ k => XS.iloadN X0.here hx rfl (hb hby d1_36) rfl k
            refine own_st (T' := s₁) (g' := (mkF m 39 #[.val (.int p0)] [(.int (65533 : Int32)), (.int p0)])) ?_ fun _ k => X0.ldcInt hx hown (mvT hZ (hw _ (List.mem_of_getElem? (i := 23) rfl))) (g := (mkF m 37 #[.val (.int p0)] [(.int p0)])) rfl (hb hby d1_37) _ k
            by_cases hc8 : (65533 : Int32) < p0
            · refine own_st (T' := s₁) (g' := (mkF m 42 #[.val (.int p0)] [])) ?_ fun _ k => XS.icmpNo X0.here hx rfl (hb hby d1_39) rfl ((tlt hc8).2.2.2) k
              refine own_st (T' := s₁) (g' := (mkF m 43 #[.val (.int p0)] [(.int p0)])) ?_ fun _ k => XS.iloadN X0.here hx rfl (hb hby d1_42) rfl k
              refine own_st (T' := s₁) (g' := (mkF m 45 #[.val (.int p0)] [(.int (65536 : Int32)), (.int p0)])) ?_ fun _ k => X0.ldcInt hx hown (mvT hZ (hw _ (List.mem_of_getElem? (i := 15) rfl))) (g := (mkF m 43 #[.val (.int p0)] [(.int p0)])) rfl (hb hby d1_43) _ k
              by_cases hc9 : p0 < (65536 : Int32)
              · refine own_st (T' := s₁) (g' := (mkF m 58 #[.val (.int p0)] [])) ?_ fun _ k => XS.icmpYes X0.here hx rfl (pc0 := 45) (pc' := 58) rfl (hb hby d1_45) rfl ((tlt hc9).1) (by decide) (by decide) k
                refine own_st (T' := s₁) (g' := (mkF m 59 #[.val (.int p0)] [(.int (0 : Int32))])) ?_ fun _ k => XS.iconst X0.here hx rfl (hb hby d1_58) k
                refine own_retZ X0 hx hlk Bd.returns (hb hby d1_59) (Q := (Q1 Z p0 h0 n0)) (by decide) (by decide) (by decide) ?_
                refine ⟨?_, N0, e0⟩
                simp only [Int32.lt_iff_toInt_lt, ← Int32.toInt_inj, own_Im2147483648, own_I0, own_I1, own_I2, own_I3, own_I4, own_I5, own_I6, own_I7, own_I8, own_I9, own_I10, own_I11, own_I12, own_I13, own_I14, own_I15, own_I16, own_I31, own_I32, own_I55295, own_I55296, own_I57343, own_I57344, own_I65533, own_I65534, own_I65535, own_I65536, own_I1114111, own_I2147483647] at hc1 hc2 hc3 hc4 hc5 hc8 hc9
                rw [own_bf (decide_eq_false (by omega))]
              · refine own_st (T' := s₁) (g' := (mkF m 48 #[.val (.int p0)] [])) ?_ fun _ k => XS.icmpNo X0.here hx rfl (hb hby d1_45) rfl ((flt hc9).1) k
                refine own_st (T' := s₁) (g' := (mkF m 49 #[.val (.int p0)] [(.int p0)])) ?_ fun _ k => XS.iloadN X0.here hx rfl (hb hby d1_48) rfl k
                refine own_st (T' := s₁) (g' := (mkF m 51 #[.val (.int p0)] [(.int (1114111 : Int32)), (.int p0)])) ?_ fun _ k => X0.ldcInt hx hown (mvT hZ (hw _ (List.mem_of_getElem? (i := 24) rfl))) (g := (mkF m 49 #[.val (.int p0)] [(.int p0)])) rfl (hb hby d1_49) _ k
                by_cases hc10 : (1114111 : Int32) < p0
                · refine own_st (T' := s₁) (g' := (mkF m 58 #[.val (.int p0)] [])) ?_ fun _ k => XS.icmpYes X0.here hx rfl (pc0 := 51) (pc' := 58) rfl (hb hby d1_51) rfl ((tlt hc10).2.2.1) (by decide) (by decide) k
                  refine own_st (T' := s₁) (g' := (mkF m 59 #[.val (.int p0)] [(.int (0 : Int32))])) ?_ fun _ k => XS.iconst X0.here hx rfl (hb hby d1_58) k
                  refine own_retZ X0 hx hlk Bd.returns (hb hby d1_59) (Q := (Q1 Z p0 h0 n0)) (by decide) (by decide) (by decide) ?_
                  refine ⟨?_, N0, e0⟩
                  simp only [Int32.lt_iff_toInt_lt, ← Int32.toInt_inj, own_Im2147483648, own_I0, own_I1, own_I2, own_I3, own_I4, own_I5, own_I6, own_I7, own_I8, own_I9, own_I10, own_I11, own_I12, own_I13, own_I14, own_I15, own_I16, own_I31, own_I32, own_I55295, own_I55296, own_I57343, own_I57344, own_I65533, own_I65534, own_I65535, own_I65536, own_I1114111, own_I2147483647] at hc1 hc2 hc3 hc4 hc5 hc8 hc9 hc10
                  rw [own_bf (decide_eq_false (by omega))]
                · refine own_st (T' := s₁) (g' := (mkF m 54 #[.val (.int p0)] [])) ?_ fun _ k => XS.icmpNo X0.here hx rfl (hb hby d1_51) rfl ((flt hc10).2.2.1) k
                  refine own_st (T' := s₁) (g' := (mkF m 55 #[.val (.int p0)] [(.int (1 : Int32))])) ?_ fun _ k => XS.iconst X0.here hx rfl (hb hby d1_54) k
                  refine own_st (T' := s₁) (g' := (mkF m 59 #[.val (.int p0)] [(.int (1 : Int32))])) ?_ fun _ k => XS.goto X0.here hx rfl (pc0 := 55) (pc' := 59) rfl (hb hby d1_55) (by decide) (by decide) k
                  refine own_retZ X0 hx hlk Bd.returns (hb hby d1_59) (Q := (Q1 Z p0 h0 n0)) (by decide) (by decide) (by decide) ?_
                  refine ⟨?_, N0, e0⟩
                  simp only [Int32.lt_iff_toInt_lt, ← Int32.toInt_inj, own_Im2147483648, own_I0, own_I1, own_I2, own_I3, own_I4, own_I5, own_I6, own_I7, own_I8, own_I9, own_I10, own_I11, own_I12, own_I13, own_I14, own_I15, own_I16, own_I31, own_I32, own_I55295, own_I55296, own_I57343, own_I57344, own_I65533, own_I65534, own_I65535, own_I65536, own_I1114111, own_I2147483647] at hc1 hc2 hc3 hc4 hc5 hc8 hc9 hc10
                  rw [own_bt (decide_eq_true (by omega))]
            · refine own_st (T' := s₁) (g' := (mkF m 54 #[.val (.int p0)] [])) ?_ fun _ k => XS.icmpYes X0.here hx rfl (pc0 := 39) (pc' := 54) rfl (hb hby d1_39) rfl ((flt hc8).2.2.2) (by decide) (by decide) k
              refine own_st (T' := s₁) (g' := (mkF m 55 #[.val (.int p0)] [(.int (1 : Int32))])) ?_ fun _ k => XS.iconst X0.here hx rfl (hb hby d1_54) k
              refine own_st (T' := s₁) (g' := (mkF m 59 #[.val (.int p0)] [(.int (1 : Int32))])) ?_ fun _ k => XS.goto X0.here hx rfl (pc0 := 55) (pc' := 59) rfl (hb hby d1_55) (by decide) (by decide) k
              refine own_retZ X0 hx hlk Bd.returns (hb hby d1_59) (Q := (Q1 Z p0 h0 n0)) (by decide) (by decide) (by decide) ?_
              refine ⟨?_, N0, e0⟩
              simp only [Int32.lt_iff_toInt_lt, ← Int32.toInt_inj, own_Im2147483648, own_I0, own_I1, own_I2, own_I3, own_I4, own_I5, own_I6, own_I7, own_I8, own_I9, own_I10, own_I11, own_I12, own_I13, own_I14, own_I15, own_I16, own_I31, own_I32, own_I55295, own_I55296, own_I57343, own_I57344, own_I65533, own_I65534, own_I65535, own_I65536, own_I1114111, own_I2147483647] at hc1 hc2 hc3 hc4 hc5 hc8
              rw [own_bt (decide_eq_true (by omega))]
        · refine own_st (T' := s₁) (g' := (mkF m 24 #[.val (.int p0)] [])) ?_ fun _ k => XS.icmpNo X0.here hx rfl (hb hby d1_21) rfl ((flt hc4).1) k
          refine own_st (T' := s₁) (g' := (mkF m 25 #[.val (.int p0)] [(.int p0)])) ?_ fun _ k => XS.iloadN X0.here hx rfl (hb hby d1_24) rfl k
          refine own_st (T' := s₁) (g' := (mkF m 27 #[.val (.int p0)] [(.int (55295 : Int32)), (.int p0)])) ?_ fun _ k => X0.ldcInt hx hown (mvT hZ (hw _ (List.mem_of_getElem? (i := 20) rfl))) (g := (mkF m 25 #[.val (.int p0)] [(.int p0)])) rfl (hb hby d1_25) _ k
          by_cases hc11 : (55295 : Int32) < p0
          · refine own_st (T' := s₁) (g' := (mkF m 30 #[.val (.int p0)] [])) ?_ fun _ k => XS.icmpNo X0.here hx rfl (hb hby d1_27) rfl ((tlt hc11).2.2.2) k
            refine own_st (T' := s₁) (g' := (mkF m 31 #[.val (.int p0)] [(.int p0)])) ?_ fun _ k => XS.iloadN X0.here hx rfl (hb hby d1_30) rfl k
            refine own_st (T' := s₁) (g' := (mkF m 33 #[.val (.int p0)] [(.int (57344 : Int32)), (.int p0)])) ?_ fun _ k => X0.ldcInt hx hown (mvT hZ (hw _ (List.mem_of_getElem? (i := 14) rfl))) (g := (mkF m 31 #[.val (.int p0)] [(.int p0)])) rfl (hb hby d1_31) _ k
            by_cases hc12 : p0 < (57344 : Int32)
            · refine own_st (T' := s₁) (g' := (mkF m 42 #[.val (.int p0)] [])) ?_ fun _ k => XS.icmpYes X0.here hx rfl (pc0 := 33) (pc' := 42) rfl (hb hby d1_33) rfl ((tlt hc12).1) (by decide) (by decide) k
              refine own_st (T' := s₁) (g' := (mkF m 43 #[.val (.int p0)] [(.int p0)])) ?_ fun _ k => XS.iloadN X0.here hx rfl (hb hby d1_42) rfl k
              refine own_st (T' := s₁) (g' := (mkF m 45 #[.val (.int p0)] [(.int (65536 : Int32)), (.int p0)])) ?_ fun _ k => X0.ldcInt hx hown (mvT hZ (hw _ (List.mem_of_getElem? (i := 15) rfl))) (g := (mkF m 43 #[.val (.int p0)] [(.int p0)])) rfl (hb hby d1_43) _ k
              by_cases hc13 : p0 < (65536 : Int32)
              · refine own_st (T' := s₁) (g' := (mkF m 58 #[.val (.int p0)] [])) ?_ fun _ k => XS.icmpYes X0.here hx rfl (pc0 := 45) (pc' := 58) rfl (hb hby d1_45) rfl ((tlt hc13).1) (by decide) (by decide) k
                refine own_st (T' := s₁) (g' := (mkF m 59 #[.val (.int p0)] [(.int (0 : Int32))])) ?_ fun _ k => XS.iconst X0.here hx rfl (hb hby d1_58) k
                refine own_retZ X0 hx hlk Bd.returns (hb hby d1_59) (Q := (Q1 Z p0 h0 n0)) (by decide) (by decide) (by decide) ?_
                refine ⟨?_, N0, e0⟩
                simp only [Int32.lt_iff_toInt_lt, ← Int32.toInt_inj, own_Im2147483648, own_I0, own_I1, own_I2, own_I3, own_I4, own_I5, own_I6, own_I7, own_I8, own_I9, own_I10, own_I11, own_I12, own_I13, own_I14, own_I15, own_I16, own_I31, own_I32, own_I55295, own_I55296, own_I57343, own_I57344, own_I65533, own_I65534, own_I65535, own_I65536, own_I1114111, own_I2147483647] at hc1 hc2 hc3 hc4 hc11 hc12 hc13
                rw [own_bf (decide_eq_false (by omega))]
              · refine own_st (T' := s₁) (g' := (mkF m 48 #[.val (.int p0)] [])) ?_ fun _ k => XS.icmpNo X0.here hx rfl (hb hby d1_45) rfl ((flt hc13).1) k
                refine own_st (T' := s₁) (g' := (mkF m 49 #[.val (.int p0)] [(.int p0)])) ?_ fun _ k => XS.iloadN X0.here hx rfl (hb hby d1_48) rfl k
                refine own_st (T' := s₁) (g' := (mkF m 51 #[.val (.int p0)] [(.int (1114111 : Int32)), (.int p0)])) ?_ fun _ k => X0.ldcInt hx hown (mvT hZ (hw _ (List.mem_of_getElem? (i := 24) rfl))) (g := (mkF m 49 #[.val (.int p0)] [(.int p0)])) rfl (hb hby d1_49) _ k
                by_cases hc14 : (1114111 : Int32) < p0
                · refine own_st (T' := s₁) (g' := (mkF m 58 #[.val (.int p0)] [])) ?_ fun _ k => XS.icmpYes X0.here hx rfl (pc0 := 51) (pc' := 58) rfl (hb hby d1_51) rfl ((tlt hc14).2.2.1) (by decide) (by decide) k
                  refine own_st (T' := s₁) (g' := (mkF m 59 #[.val (.int p0)] [(.int (0 : Int32))])) ?_ fun _ k => XS.iconst X0.here hx rfl (hb hby d1_58) k
                  refine own_retZ X0 hx hlk Bd.returns (hb hby d1_59) (Q := (Q1 Z p0 h0 n0)) (by decide) (by decide) (by decide) ?_
                  refine ⟨?_, N0, e0⟩
                  simp only [Int32.lt_iff_toInt_lt, ← Int32.toInt_inj, own_Im2147483648, own_I0, own_I1, own_I2, own_I3, own_I4, own_I5, own_I6, own_I7, own_I8, own_I9, own_I10, own_I11, own_I12, own_I13, own_I14, own_I15, own_I16, own_I31, own_I32, own_I55295, own_I55296, own_I57343, own_I57344, own_I65533, own_I65534, own_I65535, own_I65536, own_I1114111, own_I2147483647] at hc1 hc2 hc3 hc4 hc11 hc12 hc13 hc14
                  rw [own_bf (decide_eq_false (by omega))]
                · refine own_st (T' := s₁) (g' := (mkF m 54 #[.val (.int p0)] [])) ?_ fun _ k => XS.icmpNo X0.here hx rfl (hb hby d1_51) rfl ((flt hc14).2.2.1) k
                  refine own_st (T' := s₁) (g' := (mkF m 55 #[.val (.int p0)] [(.int (1 : Int32))])) ?_ fun _ k => XS.iconst X0.here hx rfl (hb hby d1_54) k
                  refine own_st (T' := s₁) (g' := (mkF m 59 #[.val (.int p0)] [(.int (1 : Int32))])) ?_ fun _ k => XS.goto X0.here hx rfl (pc0 := 55) (pc' := 59) rfl (hb hby d1_55) (by decide) (by decide) k
                  refine own_retZ X0 hx hlk Bd.returns (hb hby d1_59) (Q := (Q1 Z p0 h0 n0)) (by decide) (by decide) (by decide) ?_
                  refine ⟨?_, N0, e0⟩
                  simp only [Int32.lt_iff_toInt_lt, ← Int32.toInt_inj, own_Im2147483648, own_I0, own_I1, own_I2, own_I3, own_I4, own_I5, own_I6, own_I7, own_I8, own_I9, own_I10, own_I11, own_I12, own_I13, own_I14, own_I15, own_I16, own_I31, own_I32, own_I55295, own_I55296, own_I57343, own_I57344, own_I65533, own_I65534, own_I65535, own_I65536, own_I1114111, own_I2147483647] at hc1 hc2 hc3 hc4 hc11 hc12 hc13 hc14
                  rw [own_bt (decide_eq_true (by omega))]
            · refine own_st (T' := s₁) (g' := (mkF m 36 #[.val (.int p0)] [])) ?_ fun _ k => XS.icmpNo X0.here hx rfl (hb hby d1_33) rfl ((flt hc12).1) k
              refine own_st (T' := s₁) (g' := (mkF m 37 #[.val (.int p0)] [(.int p0)])) ?_ fun _ k => XS.iloadN X0.here hx rfl (hb hby d1_36) rfl k
              refine own_st (T' := s₁) (g' := (mkF m 39 #[.val (.int p0)] [(.int (65533 : Int32)), (.int p0)])) ?_ fun _ k => X0.ldcInt hx hown (mvT hZ (hw _ (List.mem_of_getElem? (i := 23) rfl))) (g := (mkF m 37 #[.val (.int p0)] [(.int p0)])) rfl (hb hby d1_37) _ k
              by_cases hc15 : (65533 : Int32) < p0
              · refine own_st (T' := s₁) (g' := (mkF m 42 #[.val (.int p0)] [])) ?_ fun _ k => XS.icmpNo X0.here hx rfl (hb hby d1_39) rfl ((tlt hc15).2.2.2) k
                refine own_st (T' := s₁) (g' := (mkF m 43 #[.val (.int p0)] [(.int p0)])) ?_ fun _ k => XS.iloadN X0.here hx rfl (hb hby d1_42) rfl k
                refine own_st (T' := s₁) (g' := (mkF m 45 #[.val (.int p0)] [(.int (65536 : Int32)), (.int p0)])) ?_ fun _ k => X0.ldcInt hx hown (mvT hZ (hw _ (List.mem_of_getElem? (i := 15) rfl))) (g := (mkF m 43 #[.val (.int p0)] [(.int p0)])) rfl (hb hby d1_43) _ k
                by_cases hc16 : p0 < (65536 : Int32)
                · refine own_st (T' := s₁) (g' := (mkF m 58 #[.val (.int p0)] [])) ?_ fun _ k => XS.icmpYes X0.here hx rfl (pc0 := 45) (pc' := 58) rfl (hb hby d1_45) rfl ((tlt hc16).1) (by decide) (by decide) k
                  refine own_st (T' := s₁) (g' := (mkF m 59 #[.val (.int p0)] [(.int (0 : Int32))])) ?_ fun _ k => XS.iconst X0.here hx rfl (hb hby d1_58) k
                  refine own_retZ X0 hx hlk Bd.returns (hb hby d1_59) (Q := (Q1 Z p0 h0 n0)) (by decide) (by decide) (by decide) ?_
                  refine ⟨?_, N0, e0⟩
                  simp only [Int32.lt_iff_toInt_lt, ← Int32.toInt_inj, own_Im2147483648, own_I0, own_I1, own_I2, own_I3, own_I4, own_I5, own_I6, own_I7, own_I8, own_I9, own_I10, own_I11, own_I12, own_I13, own_I14, own_I15, own_I16, own_I31, own_I32, own_I55295, own_I55296, own_I57343, own_I57344, own_I65533, own_I65534, own_I65535, own_I65536, own_I1114111, own_I2147483647] at hc1 hc2 hc3 hc4 hc11 hc12 hc15 hc16
                  rw [own_bf (decide_eq_false (by omega))]
                · refine own_st (T' := s₁) (g' := (mkF m 48 #[.val (.int p0)] [])) ?_ fun _ k => XS.icmpNo X0.here hx rfl (hb hby d1_45) rfl ((flt hc16).1) k
                  refine own_st (T' := s₁) (g' := (mkF m 49 #[.val (.int p0)] [(.int p0)])) ?_ fun _ k => XS.iloadN X0.here hx rfl (hb hby d1_48) rfl k
                  refine own_st (T' := s₁) (g' := (mkF m 51 #[.val (.int p0)] [(.int (1114111 : Int32)), (.int p0)])) ?_ fun _ k => X0.ldcInt hx hown (mvT hZ (hw _ (List.mem_of_getElem? (i := 24) rfl))) (g := (mkF m 49 #[.val (.int p0)] [(.int p0)])) rfl (hb hby d1_49) _ k
                  by_cases hc17 : (1114111 : Int32) < p0
                  · refine own_st (T' := s₁) (g' := (mkF m 58 #[.val (.int p0)] [])) ?_ fun _ k => XS.icmpYes X0.here hx rfl (pc0 := 51) (pc' := 58) rfl (hb hby d1_51) rfl ((tlt hc17).2.2.1) (by decide) (by decide) k
                    refine own_st (T' := s₁) (g' := (mkF m 59 #[.val (.int p0)] [(.int (0 : Int32))])) ?_ fun _ k => XS.iconst X0.here hx rfl (hb hby d1_58) k
                    refine own_retZ X0 hx hlk Bd.returns (hb hby d1_59) (Q := (Q1 Z p0 h0 n0)) (by decide) (by decide) (by decide) ?_
                    refine ⟨?_, N0, e0⟩
                    simp only [Int32.lt_iff_toInt_lt, ← Int32.toInt_inj, own_Im2147483648, own_I0, own_I1, own_I2, own_I3, own_I4, own_I5, own_I6, own_I7, own_I8, own_I9, own_I10, own_I11, own_I12, own_I13, own_I14, own_I15, own_I16, own_I31, own_I32, own_I55295, own_I55296, own_I57343, own_I57344, own_I65533, own_I65534, own_I65535, own_I65536, own_I1114111, own_I2147483647] at hc1 hc2 hc3 hc4 hc11 hc12 hc15 hc16 hc17
                    rw [own_bf (decide_eq_false (by omega))]
                  · refine own_st (T' := s₁) (g' := (mkF m 54 #[.val (.int p0)] [])) ?_ fun _ k => XS.icmpNo X0.here hx rfl (hb hby d1_51) rfl ((flt hc17).2.2.1) k
                    refine own_st (T' := s₁) (g' := (mkF m 55 #[.val (.int p0)] [(.int (1 : Int32))])) ?_ fun _ k => XS.iconst X0.here hx rfl (hb hby d1_54) k
                    refine own_st (T' := s₁) (g' := (mkF m 59 #[.val (.int p0)] [(.int (1 : Int32))])) ?_ fun _ k => XS.goto X0.here hx rfl (pc0 := 55) (pc' := 59) rfl (hb hby d1_55) (by decide) (by decide) k
                    refine own_retZ X0 hx hlk Bd.returns (hb hby d1_59) (Q := (Q1 Z p0 h0 n0)) (by decide) (by decide) (by decide) ?_
                    refine ⟨?_, N0, e0⟩
                    simp only [Int32.lt_iff_toInt_lt, ← Int32.toInt_inj, own_Im2147483648, own_I0, own_I1, own_I2, own_I3, own_I4, own_I5, own_I6, own_I7, own_I8, own_I9, own_I10, own_I11, own_I12, own_I13, own_I14, own_I15, own_I16, own_I31, own_I32, own_I55295, own_I55296, own_I57343, own_I57344, own_I65533, own_I65534, own_I65535, own_I65536, own_I1114111, own_I2147483647] at hc1 hc2 hc3 hc4 hc11 hc12 hc15 hc16 hc17
                    rw [own_bt (decide_eq_true (by omega))]
              · refine own_st (T' := s₁) (g' := (mkF m 54 #[.val (.int p0)] [])) ?_ fun _ k => XS.icmpYes X0.here hx rfl (pc0 := 39) (pc' := 54) rfl (hb hby d1_39) rfl ((flt hc15).2.2.2) (by decide) (by decide) k
                refine own_st (T' := s₁) (g' := (mkF m 55 #[.val (.int p0)] [(.int (1 : Int32))])) ?_ fun _ k => XS.iconst X0.here hx rfl (hb hby d1_54) k
                refine own_st (T' := s₁) (g' := (mkF m 59 #[.val (.int p0)] [(.int (1 : Int32))])) ?_ fun _ k => XS.goto X0.here hx rfl (pc0 := 55) (pc' := 59) rfl (hb hby d1_55) (by decide) (by decide) k
                refine own_retZ X0 hx hlk Bd.returns (hb hby d1_59) (Q := (Q1 Z p0 h0 n0)) (by decide) (by decide) (by decide) ?_
                refine ⟨?_, N0, e0⟩
                simp only [Int32.lt_iff_toInt_lt, ← Int32.toInt_inj, own_Im2147483648, own_I0, own_I1, own_I2, own_I3, own_I4, own_I5, own_I6, own_I7, own_I8, own_I9, own_I10, own_I11, own_I12, own_I13, own_I14, own_I15, own_I16, own_I31, own_I32, own_I55295, own_I55296, own_I57343, own_I57344, own_I65533, own_I65534, own_I65535, own_I65536, own_I1114111, own_I2147483647] at hc1 hc2 hc3 hc4 hc11 hc12 hc15
                rw [own_bt (decide_eq_true (by omega))]
          · refine own_st (T' := s₁) (g' := (mkF m 54 #[.val (.int p0)] [])) ?_ fun _ k => XS.icmpYes X0.here hx rfl (pc0 := 27) (pc' := 54) rfl (hb hby d1_27) rfl ((flt hc11).2.2.2) (by decide) (by decide) k
            refine own_st (T' := s₁) (g' := (mkF m 55 #[.val (.int p0)] [(.int (1 : Int32))])) ?_ fun _ k => XS.iconst X0.here hx rfl (hb hby d1_54) k
            refine own_st (T' := s₁) (g' := (mkF m 59 #[.val (.int p0)] [(.int (1 : Int32))])) ?_ fun _ k => XS.goto X0.here hx rfl (pc0 := 55) (pc' := 59) rfl (hb hby d1_55) (by decide) (by decide) k
            refine own_retZ X0 hx hlk Bd.returns (hb hby d1_59) (Q := (Q1 Z p0 h0 n0)) (by decide) (by decide) (by decide) ?_
            refine ⟨?_, N0, e0⟩
            simp only [Int32.lt_iff_toInt_lt, ← Int32.toInt_inj, own_Im2147483648, own_I0, own_I1, own_I2, own_I3, own_I4, own_I5, own_I6, own_I7, own_I8, own_I9, own_I10, own_I11, own_I12, own_I13, own_I14, own_I15, own_I16, own_I31, own_I32, own_I55295, own_I55296, own_I57343, own_I57344, own_I65533, own_I65534, own_I65535, own_I65536, own_I1114111, own_I2147483647] at hc1 hc2 hc3 hc4 hc11
            rw [own_bt (decide_eq_true (by omega))]
theorem d2_0 : decode method_2_code 0 = .ok (.iload_n 0, 1) := by decide +kernel
theorem d2_1 : decode method_2_code 1 = .ok (.ifCond .lt 9, 3) := by decide +kernel
theorem d2_4 : decode method_2_code 4 = .ok (.iload_n 0, 1) := by decide +kernel
theorem d2_5 : decode method_2_code 5 = .ok (.ldc 7, 2) := by decide +kernel
theorem d2_7 : decode method_2_code 7 = .ok (.if_icmp .le 5, 3) := by decide +kernel
theorem d2_10 : decode method_2_code 10 = .ok (.iconst 0, 1) := by decide +kernel
theorem d2_11 : decode method_2_code 11 = .ok (.ireturn, 1) := by decide +kernel
theorem d2_12 : decode method_2_code 12 = .ok (.iload_n 0, 1) := by decide +kernel
theorem d2_13 : decode method_2_code 13 = .ok (.bipush 32, 2) := by decide +kernel
theorem d2_15 : decode method_2_code 15 = .ok (.if_icmp .ge 27, 3) := by decide +kernel
theorem d2_18 : decode method_2_code 18 = .ok (.iload_n 0, 1) := by decide +kernel
theorem d2_19 : decode method_2_code 19 = .ok (.bipush 9, 2) := by decide +kernel
theorem d2_21 : decode method_2_code 21 = .ok (.if_icmp .eq 15, 3) := by decide +kernel
theorem d2_24 : decode method_2_code 24 = .ok (.iload_n 0, 1) := by decide +kernel
theorem d2_25 : decode method_2_code 25 = .ok (.bipush 10, 2) := by decide +kernel
theorem d2_27 : decode method_2_code 27 = .ok (.if_icmp .eq 9, 3) := by decide +kernel
theorem d2_30 : decode method_2_code 30 = .ok (.iload_n 0, 1) := by decide +kernel
theorem d2_31 : decode method_2_code 31 = .ok (.bipush 13, 2) := by decide +kernel
theorem d2_33 : decode method_2_code 33 = .ok (.if_icmp .ne 7, 3) := by decide +kernel
theorem d2_36 : decode method_2_code 36 = .ok (.iconst 1, 1) := by decide +kernel
theorem d2_37 : decode method_2_code 37 = .ok (.goto 4, 3) := by decide +kernel
theorem d2_40 : decode method_2_code 40 = .ok (.iconst 0, 1) := by decide +kernel
theorem d2_41 : decode method_2_code 41 = .ok (.ireturn, 1) := by decide +kernel
theorem d2_42 : decode method_2_code 42 = .ok (.iload_n 0, 1) := by decide +kernel
theorem d2_43 : decode method_2_code 43 = .ok (.ldc 8, 2) := by decide +kernel
theorem d2_45 : decode method_2_code 45 = .ok (.if_icmp .lt 11, 3) := by decide +kernel
theorem d2_48 : decode method_2_code 48 = .ok (.iload_n 0, 1) := by decide +kernel
theorem d2_49 : decode method_2_code 49 = .ok (.ldc 9, 2) := by decide +kernel
theorem d2_51 : decode method_2_code 51 = .ok (.if_icmp .gt 5, 3) := by decide +kernel
theorem d2_54 : decode method_2_code 54 = .ok (.iconst 0, 1) := by decide +kernel
theorem d2_55 : decode method_2_code 55 = .ok (.ireturn, 1) := by decide +kernel
theorem d2_56 : decode method_2_code 56 = .ok (.iload_n 0, 1) := by decide +kernel
theorem d2_57 : decode method_2_code 57 = .ok (.ldc 10, 2) := by decide +kernel
theorem d2_59 : decode method_2_code 59 = .ok (.if_icmp .eq 9, 3) := by decide +kernel
theorem d2_62 : decode method_2_code 62 = .ok (.iload_n 0, 1) := by decide +kernel
theorem d2_63 : decode method_2_code 63 = .ok (.ldc 11, 2) := by decide +kernel
theorem d2_65 : decode method_2_code 65 = .ok (.if_icmp .ne 5, 3) := by decide +kernel
theorem d2_68 : decode method_2_code 68 = .ok (.iconst 0, 1) := by decide +kernel
theorem d2_69 : decode method_2_code 69 = .ok (.ireturn, 1) := by decide +kernel
theorem d2_70 : decode method_2_code 70 = .ok (.iconst 1, 1) := by decide +kernel
theorem d2_71 : decode method_2_code 71 = .ok (.ireturn, 1) := by decide +kernel
theorem pn_2 : plainName "com/example/markup_into_tree/markupintotree/model/XmlCharsIsCharPinLaw" = true := by first | (simp [plainName, overriddenIn]; done) | decide +kernel
theorem ef_2 (m : MethodId) (p0 : Int32) : entryFrame m #[(.int p0)] 1 = mkF m 0 #[.val (.int p0)] [] := by first | (simp [entryFrame, mkF, argsToLocals, Value.category]; done) | rfl
def Q2 (Z : State) (p0 : Int32) (h0 : Heap) (n0 : Nat) (v : Option Value) (h : Heap) (L : List Loc) : Prop := v = some (.int (own_b (decide (p0.toInt = 9 ∨ p0.toInt = 10 ∨ p0.toInt = 13 ∨ (32 ≤ p0.toInt ∧ p0.toInt ≤ 55295) ∨ (57344 ≤ p0.toInt ∧ p0.toInt ≤ 65533) ∨ (65536 ≤ p0.toInt ∧ p0.toInt ≤ 1114111))))) ∧ Fr n0 L ∧ h = h0
set_option maxRecDepth 65536 in
set_option maxHeartbeats 40000000 in
theorem rm2 (l : Launch) (Z : State) (a0 : Array Value) (hw : ∀ d ∈ tables_1, d.before a0 Z = true) (ws : List Jvm.Cond) (p0 : Int32) (h0 : Heap) (n0 : Nat) (Z0 : n0 ≤ h0.size)  :
    MetFree l (⟨"com/example/markup_into_tree/markupintotree/model/XmlCharsIsCharPinLaw", "expected", "(I)Z"⟩ : MethodName) (head1 (Jvm.Cond.code (⟨"com/example/markup_into_tree/markupintotree/model/XmlCharsIsCharPinLaw", "expected", "(I)Z"⟩ : MethodName) method_2_code 1 (some .boolean) :: ws) ({ frames := 0, cells := 0, slots := 0, locals := 0 } : Room)) (fun a U => a = #[(.int p0)] ∧ Z.Warmed39 U.vm ∧ U.heap = h0) (fun _ _ _ _ _ => True) (fun _ U o U' => ∃ v L, o = .returned v ∧ Q2 Z p0 h0 n0 v U'.heap L ∧ FrameEnd U o U' L ({ frames := 0, cells := 0, slots := 0, locals := 0 } : Room).cells ({ frames := 0, cells := 0, slots := 0, locals := 0 } : Room).slots) := by
  refine MetFree.of_bodySF (plainFor_of_name pn_2) hisR ?_
  intro p e s m args below meth c s₁ Bd hml0 hP hK
  obtain ⟨rfl, hZ, hh⟩ := hP
  have hx := Bd.exec
  have hby := Bd.bytes
  have hml : c.maxLocals = 1 := hml0
  have hown : s.vm.findClass "com/example/markup_into_tree/markupintotree/model/XmlCharsIsCharPinLaw" = some m.cls := findClass_of_methodNamed Bd.named
  have hnm := (name_of_methodNamed Bd.named Bd.method).1
  have X0 : Stand p l e ({ frames := 0, cells := 0, slots := 0, locals := 0 } : Room) s m #[(.int p0)] below meth c s₁ [] 0 0 := Stand.of_body Bd
  have e0 : s₁.heap = h0 := by rw [← hh, Bd.state]; rfl
  have N0 := Fr.nil n0
  have hlk := Bd.notSynchronized
  refine own_in (Q := Q2 Z p0 h0 n0) (ef_2 m p0) ?_
  refine own_st (T' := s₁) (g' := (mkF m 1 #[.val (.int p0)] [(.int p0)])) ?_ fun _ k => XS.iloadN X0.here hx rfl (hb hby d2_0) rfl k
  by_cases hc1 : p0 < (0 : Int32)
  · refine own_st (T' := s₁) (g' := (mkF m 10 #[.val (.int p0)] [])) ?_ fun _ k => XS.ifYes X0.here hx rfl (pc0 := 1) (pc' := 10) rfl (hb hby d2_1) rfl ((if0 _ _).trans (tlt hc1).1) (by decide) (by decide) k
    refine own_st (T' := s₁) (g' := (mkF m 11 #[.val (.int p0)] [(.int (0 : Int32))])) ?_ fun _ k => XS.iconst X0.here hx rfl (hb hby d2_10) k
    refine own_retZ X0 hx hlk Bd.returns (hb hby d2_11) (Q := (Q2 Z p0 h0 n0)) (by decide) (by decide) (by decide) ?_
    refine ⟨?_, N0, e0⟩
    simp only [Int32.lt_iff_toInt_lt, ← Int32.toInt_inj, own_Im2147483648, own_I0, own_I1, own_I2, own_I3, own_I4, own_I5, own_I6, own_I7, own_I8, own_I9, own_I10, own_I11, own_I12, own_I13, own_I14, own_I15, own_I16, own_I31, own_I32, own_I55295, own_I55296, own_I57343, own_I57344, own_I65533, own_I65534, own_I65535, own_I65536, own_I1114111, own_I2147483647] at hc1
    rw [own_bf (decide_eq_false (by omega))]
  · refine own_st (T' := s₁) (g' := (mkF m 4 #[.val (.int p0)] [])) ?_ fun _ k => XS.ifNo X0.here hx rfl (hb hby d2_1) rfl ((if0 _ _).trans (flt hc1).1) k
    refine own_st (T' := s₁) (g' := (mkF m 5 #[.val (.int p0)] [(.int p0)])) ?_ fun _ k => XS.iloadN X0.here hx rfl (hb hby d2_4) rfl k
    refine own_st (T' := s₁) (g' := (mkF m 7 #[.val (.int p0)] [(.int (1114111 : Int32)), (.int p0)])) ?_ fun _ k => X0.ldcInt hx hown (mvT hZ (hw _ (List.mem_of_getElem? (i := 7) rfl))) (g := (mkF m 5 #[.val (.int p0)] [(.int p0)])) rfl (hb hby d2_5) _ k
    by_cases hc2 : (1114111 : Int32) < p0
    · refine own_st (T' := s₁) (g' := (mkF m 10 #[.val (.int p0)] [])) ?_ fun _ k => XS.icmpNo X0.here hx rfl (hb hby d2_7) rfl ((tlt hc2).2.2.2) k
      refine own_st (T' := s₁) (g' := (mkF m 11 #[.val (.int p0)] [(.int (0 : Int32))])) ?_ fun _ k => XS.iconst X0.here hx rfl (hb hby d2_10) k
      refine own_retZ X0 hx hlk Bd.returns (hb hby d2_11) (Q := (Q2 Z p0 h0 n0)) (by decide) (by decide) (by decide) ?_
      refine ⟨?_, N0, e0⟩
      simp only [Int32.lt_iff_toInt_lt, ← Int32.toInt_inj, own_Im2147483648, own_I0, own_I1, own_I2, own_I3, own_I4, own_I5, own_I6, own_I7, own_I8, own_I9, own_I10, own_I11, own_I12, own_I13, own_I14, own_I15, own_I16, own_I31, own_I32, own_I55295, own_I55296, own_I57343, own_I57344, own_I65533, own_I65534, own_I65535, own_I65536, own_I1114111, own_I2147483647] at hc1 hc2
      rw [own_bf (decide_eq_false (by omega))]
    · refine own_st (T' := s₁) (g' := (mkF m 12 #[.val (.int p0)] [])) ?_ fun _ k => XS.icmpYes X0.here hx rfl (pc0 := 7) (pc' := 12) rfl (hb hby d2_7) rfl ((flt hc2).2.2.2) (by decide) (by decide) k
      refine own_st (T' := s₁) (g' := (mkF m 13 #[.val (.int p0)] [(.int p0)])) ?_ fun _ k => XS.iloadN X0.here hx rfl (hb hby d2_12) rfl k
      refine own_st (T' := s₁) (g' := (mkF m 15 #[.val (.int p0)] [(.int (32 : Int32)), (.int p0)])) ?_ fun _ k => XS.bipush X0.here hx rfl (hb hby d2_13) k
      by_cases hc3 : p0 < (32 : Int32)
      · refine own_st (T' := s₁) (g' := (mkF m 18 #[.val (.int p0)] [])) ?_ fun _ k => XS.icmpNo X0.here hx rfl (hb hby d2_15) rfl ((tlt hc3).2.1) k
        refine own_st (T' := s₁) (g' := (mkF m 19 #[.val (.int p0)] [(.int p0)])) ?_ fun _ k => XS.iloadN X0.here hx rfl (hb hby d2_18) rfl k
        refine own_st (T' := s₁) (g' := (mkF m 21 #[.val (.int p0)] [(.int (9 : Int32)), (.int p0)])) ?_ fun _ k => XS.bipush X0.here hx rfl (hb hby d2_19) k
        by_cases hc4 : p0 = (9 : Int32)
        · refine own_st (T' := s₁) (g' := (mkF m 36 #[.val (.int p0)] [])) ?_ fun _ k => XS.icmpYes X0.here hx rfl (pc0 := 21) (pc' := 36) rfl (hb hby d2_21) rfl ((teq hc4).1) (by decide) (by decide) k
          refine own_st (T' := s₁) (g' := (mkF m 37 #[.val (.int p0)] [(.int (1 : Int32))])) ?_ fun _ k => XS.iconst X0.here hx rfl (hb hby d2_36) k
          refine own_st (T' := s₁) (g' := (mkF m 41 #[.val (.int p0)] [(.int (1 : Int32))])) ?_ fun _ k => XS.goto X0.here hx rfl (pc0 := 37) (pc' := 41) rfl (hb hby d2_37) (by decide) (by decide) k
          refine own_retZ X0 hx hlk Bd.returns (hb hby d2_41) (Q := (Q2 Z p0 h0 n0)) (by decide) (by decide) (by decide) ?_
          refine ⟨?_, N0, e0⟩
          simp only [Int32.lt_iff_toInt_lt, ← Int32.toInt_inj, own_Im2147483648, own_I0, own_I1, own_I2, own_I3, own_I4, own_I5, own_I6, own_I7, own_I8, own_I9, own_I10, own_I11, own_I12, own_I13, own_I14, own_I15, own_I16, own_I31, own_I32, own_I55295, own_I55296, own_I57343, own_I57344, own_I65533, own_I65534, own_I65535, own_I65536, own_I1114111, own_I2147483647] at hc1 hc2 hc3 hc4
          rw [own_bt (decide_eq_true (by omega))]
        · refine own_st (T' := s₁) (g' := (mkF m 24 #[.val (.int p0)] [])) ?_ fun _ k => XS.icmpNo X0.here hx rfl (hb hby d2_21) rfl ((feq hc4).1) k
          refine own_st (T' := s₁) (g' := (mkF m 25 #[.val (.int p0)] [(.int p0)])) ?_ fun _ k => XS.iloadN X0.here hx rfl (hb hby d2_24) rfl k
          refine own_st (T' := s₁) (g' := (mkF m 27 #[.val (.int p0)] [(.int (10 : Int32)), (.int p0)])) ?_ fun _ k => XS.bipush X0.here hx rfl (hb hby d2_25) k
          by_cases hc5 : p0 = (10 : Int32)
          · refine own_st (T' := s₁) (g' := (mkF m 36 #[.val (.int p0)] [])) ?_ fun _ k => XS.icmpYes X0.here hx rfl (pc0 := 27) (pc' := 36) rfl (hb hby d2_27) rfl ((teq hc5).1) (by decide) (by decide) k
            refine own_st (T' := s₁) (g' := (mkF m 37 #[.val (.int p0)] [(.int (1 : Int32))])) ?_ fun _ k => XS.iconst X0.here hx rfl (hb hby d2_36) k
            refine own_st (T' := s₁) (g' := (mkF m 41 #[.val (.int p0)] [(.int (1 : Int32))])) ?_ fun _ k => XS.goto X0.here hx rfl (pc0 := 37) (pc' := 41) rfl (hb hby d2_37) (by decide) (by decide) k
            refine own_retZ X0 hx hlk Bd.returns (hb hby d2_41) (Q := (Q2 Z p0 h0 n0)) (by decide) (by decide) (by decide) ?_
            refine ⟨?_, N0, e0⟩
            simp only [Int32.lt_iff_toInt_lt, ← Int32.toInt_inj, own_Im2147483648, own_I0, own_I1, own_I2, own_I3, own_I4, own_I5, own_I6, own_I7, own_I8, own_I9, own_I10, own_I11, own_I12, own_I13, own_I14, own_I15, own_I16, own_I31, own_I32, own_I55295, own_I55296, own_I57343, own_I57344, own_I65533, own_I65534, own_I65535, own_I65536, own_I1114111, own_I2147483647] at hc1 hc2 hc3 hc4 hc5
            rw [own_bt (decide_eq_true (by omega))]
          · refine own_st (T' := s₁) (g' := (mkF m 30 #[.val (.int p0)] [])) ?_ fun _ k => XS.icmpNo X0.here hx rfl (hb hby d2_27) rfl ((feq hc5).1) k
            refine own_st (T' := s₁) (g' := (mkF m 31 #[.val (.int p0)] [(.int p0)])) ?_ fun _ k => XS.iloadN X0.here hx rfl (hb hby d2_30) rfl k
            refine own_st (T' := s₁) (g' := (mkF m 33 #[.val (.int p0)] [(.int (13 : Int32)), (.int p0)])) ?_ fun _ k => XS.bipush X0.here hx rfl (hb hby d2_31) k
            by_cases hc6 : p0 = (13 : Int32)
            · refine own_st (T' := s₁) (g' := (mkF m 36 #[.val (.int p0)] [])) ?_ fun _ k => XS.icmpNo X0.here hx rfl (hb hby d2_33) rfl ((teq hc6).2) k
              refine own_st (T' := s₁) (g' := (mkF m 37 #[.val (.int p0)] [(.int (1 : Int32))])) ?_ fun _ k => XS.iconst X0.here hx rfl (hb hby d2_36) k
              refine own_st (T' := s₁) (g' := (mkF m 41 #[.val (.int p0)] [(.int (1 : Int32))])) ?_ fun _ k => XS.goto X0.here hx rfl (pc0 := 37) (pc' := 41) rfl (hb hby d2_37) (by decide) (by decide) k
              refine own_retZ X0 hx hlk Bd.returns (hb hby d2_41) (Q := (Q2 Z p0 h0 n0)) (by decide) (by decide) (by decide) ?_
              refine ⟨?_, N0, e0⟩
              simp only [Int32.lt_iff_toInt_lt, ← Int32.toInt_inj, own_Im2147483648, own_I0, own_I1, own_I2, own_I3, own_I4, own_I5, own_I6, own_I7, own_I8, own_I9, own_I10, own_I11, own_I12, own_I13, own_I14, own_I15, own_I16, own_I31, own_I32, own_I55295, own_I55296, own_I57343, own_I57344, own_I65533, own_I65534, own_I65535, own_I65536, own_I1114111, own_I2147483647] at hc1 hc2 hc3 hc4 hc5 hc6
              rw [own_bt (decide_eq_true (by omega))]
            · refine own_st (T' := s₁) (g' := (mkF m 40 #[.val (.int p0)] [])) ?_ fun _ k => XS.icmpYes X0.here hx rfl (pc0 := 33) (pc' := 40) rfl (hb hby d2_33) rfl ((feq hc6).2) (by decide) (by decide) k
              refine own_st (T' := s₁) (g' := (mkF m 41 #[.val (.int p0)] [(.int (0 : Int32))])) ?_ fun _ k => XS.iconst X0.here hx rfl (hb hby d2_40) k
              refine own_retZ X0 hx hlk Bd.returns (hb hby d2_41) (Q := (Q2 Z p0 h0 n0)) (by decide) (by decide) (by decide) ?_
              refine ⟨?_, N0, e0⟩
              simp only [Int32.lt_iff_toInt_lt, ← Int32.toInt_inj, own_Im2147483648, own_I0, own_I1, own_I2, own_I3, own_I4, own_I5, own_I6, own_I7, own_I8, own_I9, own_I10, own_I11, own_I12, own_I13, own_I14, own_I15, own_I16, own_I31, own_I32, own_I55295, own_I55296, own_I57343, own_I57344, own_I65533, own_I65534, own_I65535, own_I65536, own_I1114111, own_I2147483647] at hc1 hc2 hc3 hc4 hc5 hc6
              rw [own_bf (decide_eq_false (by omega))]
      · refine own_st (T' := s₁) (g' := (mkF m 42 #[.val (.int p0)] [])) ?_ fun _ k => XS.icmpYes X0.here hx rfl (pc0 := 15) (pc' := 42) rfl (hb hby d2_15) rfl ((flt hc3).2.1) (by decide) (by decide) k
        refine own_st (T' := s₁) (g' := (mkF m 43 #[.val (.int p0)] [(.int p0)])) ?_ fun _ k => XS.iloadN X0.here hx rfl (hb hby d2_42) rfl k
        refine own_st (T' := s₁) (g' := (mkF m 45 #[.val (.int p0)] [(.int (55296 : Int32)), (.int p0)])) ?_ fun _ k => X0.ldcInt hx hown (mvT hZ (hw _ (List.mem_of_getElem? (i := 21) rfl))) (g := (mkF m 43 #[.val (.int p0)] [(.int p0)])) rfl (hb hby d2_43) _ k
        by_cases hc7 : p0 < (55296 : Int32)
        · refine own_st (T' := s₁) (g' := (mkF m 56 #[.val (.int p0)] [])) ?_ fun _ k => XS.icmpYes X0.here hx rfl (pc0 := 45) (pc' := 56) rfl (hb hby d2_45) rfl ((tlt hc7).1) (by decide) (by decide) k
          refine own_st (T' := s₁) (g' := (mkF m 57 #[.val (.int p0)] [(.int p0)])) ?_ fun _ k => XS.iloadN X0.here hx rfl (hb hby d2_56) rfl k
          refine own_st (T' := s₁) (g' := (mkF m 59 #[.val (.int p0)] [(.int (65534 : Int32)), (.int p0)])) ?_ fun _ k => X0.ldcInt hx hown (mvT hZ (hw _ (List.mem_of_getElem? (i := 22) rfl))) (g := (mkF m 57 #[.val (.int p0)] [(.int p0)])) rfl (hb hby d2_57) _ k
          by_cases hc8 : p0 = (65534 : Int32)
          · refine own_st (T' := s₁) (g' := (mkF m 68 #[.val (.int p0)] [])) ?_ fun _ k => XS.icmpYes X0.here hx rfl (pc0 := 59) (pc' := 68) rfl (hb hby d2_59) rfl ((teq hc8).1) (by decide) (by decide) k
            refine own_st (T' := s₁) (g' := (mkF m 69 #[.val (.int p0)] [(.int (0 : Int32))])) ?_ fun _ k => XS.iconst X0.here hx rfl (hb hby d2_68) k
            refine own_retZ X0 hx hlk Bd.returns (hb hby d2_69) (Q := (Q2 Z p0 h0 n0)) (by decide) (by decide) (by decide) ?_
            refine ⟨?_, N0, e0⟩
            simp only [Int32.lt_iff_toInt_lt, ← Int32.toInt_inj, own_Im2147483648, own_I0, own_I1, own_I2, own_I3, own_I4, own_I5, own_I6, own_I7, own_I8, own_I9, own_I10, own_I11, own_I12, own_I13, own_I14, own_I15, own_I16, own_I31, own_I32, own_I55295, own_I55296, own_I57343, own_I57344, own_I65533, own_I65534, own_I65535, own_I65536, own_I1114111, own_I2147483647] at hc1 hc2 hc3 hc7 hc8
            rw [own_bf (decide_eq_false (by omega))]
          · refine own_st (T' := s₁) (g' := (mkF m 62 #[.val (.int p0)] [])) ?_ fun _ k => XS.icmpNo X0.here hx rfl (hb hby d2_59) rfl ((feq hc8).1) k
            refine own_st (T' := s₁) (g' := (mkF m 63 #[.val (.int p0)] [(.int p0)])) ?_ fun _ k => XS.iloadN X0.here hx rfl (hb hby d2_62) rfl k
            refine own_st (T' := s₁) (g' := (mkF m 65 #[.val (.int p0)] [(.int (65535 : Int32)), (.int p0)])) ?_ fun _ k => X0.ldcInt hx hown (mvT hZ (hw _ (List.mem_of_getElem? (i := 5) rfl))) (g := (mkF m 63 #[.val (.int p0)] [(.int p0)])) rfl (hb hby d2_63) _ k
            by_cases hc9 : p0 = (65535 : Int32)
            · refine own_st (T' := s₁) (g' := (mkF m 68 #[.val (.int p0)] [])) ?_ fun _ k => XS.icmpNo X0.here hx rfl (hb hby d2_65) rfl ((teq hc9).2) k
              refine own_st (T' := s₁) (g' := (mkF m 69 #[.val (.int p0)] [(.int (0 : Int32))])) ?_ fun _ k => XS.iconst X0.here hx rfl (hb hby d2_68) k
              refine own_retZ X0 hx hlk Bd.returns (hb hby d2_69) (Q := (Q2 Z p0 h0 n0)) (by decide) (by decide) (by decide) ?_
              refine ⟨?_, N0, e0⟩
              simp only [Int32.lt_iff_toInt_lt, ← Int32.toInt_inj, own_Im2147483648, own_I0, own_I1, own_I2, own_I3, own_I4, own_I5, own_I6, own_I7, own_I8, own_I9, own_I10, own_I11, own_I12, own_I13, own_I14, own_I15, own_I16, own_I31, own_I32, own_I55295, own_I55296, own_I57343, own_I57344, own_I65533, own_I65534, own_I65535, own_I65536, own_I1114111, own_I2147483647] at hc1 hc2 hc3 hc7 hc8 hc9
              rw [own_bf (decide_eq_false (by omega))]
            · refine own_st (T' := s₁) (g' := (mkF m 70 #[.val (.int p0)] [])) ?_ fun _ k => XS.icmpYes X0.here hx rfl (pc0 := 65) (pc' := 70) rfl (hb hby d2_65) rfl ((feq hc9).2) (by decide) (by decide) k
              refine own_st (T' := s₁) (g' := (mkF m 71 #[.val (.int p0)] [(.int (1 : Int32))])) ?_ fun _ k => XS.iconst X0.here hx rfl (hb hby d2_70) k
              refine own_retZ X0 hx hlk Bd.returns (hb hby d2_71) (Q := (Q2 Z p0 h0 n0)) (by decide) (by decide) (by decide) ?_
              refine ⟨?_, N0, e0⟩
              simp only [Int32.lt_iff_toInt_lt, ← Int32.toInt_inj, own_Im2147483648, own_I0, own_I1, own_I2, own_I3, own_I4, own_I5, own_I6, own_I7, own_I8, own_I9, own_I10, own_I11, own_I12, own_I13, own_I14, own_I15, own_I16, own_I31, own_I32, own_I55295, own_I55296, own_I57343, own_I57344, own_I65533, own_I65534, own_I65535, own_I65536, own_I1114111, own_I2147483647] at hc1 hc2 hc3 hc7 hc8 hc9
              rw [own_bt (decide_eq_true (by omega))]
        · refine own_st (T' := s₁) (g' := (mkF m 48 #[.val (.int p0)] [])) ?_ fun _ k => XS.icmpNo X0.here hx rfl (hb hby d2_45) rfl ((flt hc7).1) k
          refine own_st (T' := s₁) (g' := (mkF m 49 #[.val (.int p0)] [(.int p0)])) ?_ fun _ k => XS.iloadN X0.here hx rfl (hb hby d2_48) rfl k
          refine own_st (T' := s₁) (g' := (mkF m 51 #[.val (.int p0)] [(.int (57343 : Int32)), (.int p0)])) ?_ fun _ k => X0.ldcInt hx hown (mvT hZ (hw _ (List.mem_of_getElem? (i := 2) rfl))) (g := (mkF m 49 #[.val (.int p0)] [(.int p0)])) rfl (hb hby d2_49) _ k
          by_cases hc10 : (57343 : Int32) < p0
          · refine own_st (T' := s₁) (g' := (mkF m 56 #[.val (.int p0)] [])) ?_ fun _ k => XS.icmpYes X0.here hx rfl (pc0 := 51) (pc' := 56) rfl (hb hby d2_51) rfl ((tlt hc10).2.2.1) (by decide) (by decide) k
            refine own_st (T' := s₁) (g' := (mkF m 57 #[.val (.int p0)] [(.int p0)])) ?_ fun _ k => XS.iloadN X0.here hx rfl (hb hby d2_56) rfl k
            refine own_st (T' := s₁) (g' := (mkF m 59 #[.val (.int p0)] [(.int (65534 : Int32)), (.int p0)])) ?_ fun _ k => X0.ldcInt hx hown (mvT hZ (hw _ (List.mem_of_getElem? (i := 22) rfl))) (g := (mkF m 57 #[.val (.int p0)] [(.int p0)])) rfl (hb hby d2_57) _ k
            by_cases hc11 : p0 = (65534 : Int32)
            · refine own_st (T' := s₁) (g' := (mkF m 68 #[.val (.int p0)] [])) ?_ fun _ k => XS.icmpYes X0.here hx rfl (pc0 := 59) (pc' := 68) rfl (hb hby d2_59) rfl ((teq hc11).1) (by decide) (by decide) k
              refine own_st (T' := s₁) (g' := (mkF m 69 #[.val (.int p0)] [(.int (0 : Int32))])) ?_ fun _ k => XS.iconst X0.here hx rfl (hb hby d2_68) k
              refine own_retZ X0 hx hlk Bd.returns (hb hby d2_69) (Q := (Q2 Z p0 h0 n0)) (by decide) (by decide) (by decide) ?_
              refine ⟨?_, N0, e0⟩
              simp only [Int32.lt_iff_toInt_lt, ← Int32.toInt_inj, own_Im2147483648, own_I0, own_I1, own_I2, own_I3, own_I4, own_I5, own_I6, own_I7, own_I8, own_I9, own_I10, own_I11, own_I12, own_I13, own_I14, own_I15, own_I16, own_I31, own_I32, own_I55295, own_I55296, own_I57343, own_I57344, own_I65533, own_I65534, own_I65535, own_I65536, own_I1114111, own_I2147483647] at hc1 hc2 hc3 hc7 hc10 hc11
              rw [own_bf (decide_eq_false (by omega))]
            · refine own_st (T' := s₁) (g' := (mkF m 62 #[.val (.int p0)] [])) ?_ fun _ k => XS.icmpNo X0.here hx rfl (hb hby d2_59) rfl ((feq hc11).1) k
              refine own_st (T' := s₁) (g' := (mkF m 63 #[.val (.int p0)] [(.int p0)])) ?_ fun _ k => XS.iloadN X0.here hx rfl (hb hby d2_62) rfl k
              refine own_st (T' := s₁) (g' := (mkF m 65 #[.val (.int p0)] [(.int (65535 : Int32)), (.int p0)])) ?_ fun _ k => X0.ldcInt hx hown (mvT hZ (hw _ (List.mem_of_getElem? (i := 5) rfl))) (g := (mkF m 63 #[.val (.int p0)] [(.int p0)])) rfl (hb hby d2_63) _ k
              by_cases hc12 : p0 = (65535 : Int32)
              · refine own_st (T' := s₁) (g' := (mkF m 68 #[.val (.int p0)] [])) ?_ fun _ k => XS.icmpNo X0.here hx rfl (hb hby d2_65) rfl ((teq hc12).2) k
                refine own_st (T' := s₁) (g' := (mkF m 69 #[.val (.int p0)] [(.int (0 : Int32))])) ?_ fun _ k => XS.iconst X0.here hx rfl (hb hby d2_68) k
                refine own_retZ X0 hx hlk Bd.returns (hb hby d2_69) (Q := (Q2 Z p0 h0 n0)) (by decide) (by decide) (by decide) ?_
                refine ⟨?_, N0, e0⟩
                simp only [Int32.lt_iff_toInt_lt, ← Int32.toInt_inj, own_Im2147483648, own_I0, own_I1, own_I2, own_I3, own_I4, own_I5, own_I6, own_I7, own_I8, own_I9, own_I10, own_I11, own_I12, own_I13, own_I14, own_I15, own_I16, own_I31, own_I32, own_I55295, own_I55296, own_I57343, own_I57344, own_I65533, own_I65534, own_I65535, own_I65536, own_I1114111, own_I2147483647] at hc1 hc2 hc3 hc7 hc10 hc11 hc12
                rw [own_bf (decide_eq_false (by omega))]
              · refine own_st (T' := s₁) (g' := (mkF m 70 #[.val (.int p0)] [])) ?_ fun _ k => XS.icmpYes X0.here hx rfl (pc0 := 65) (pc' := 70) rfl (hb hby d2_65) rfl ((feq hc12).2) (by decide) (by decide) k
                refine own_st (T' := s₁) (g' := (mkF m 71 #[.val (.int p0)] [(.int (1 : Int32))])) ?_ fun _ k => XS.iconst X0.here hx rfl (hb hby d2_70) k
                refine own_retZ X0 hx hlk Bd.returns (hb hby d2_71) (Q := (Q2 Z p0 h0 n0)) (by decide) (by decide) (by decide) ?_
                refine ⟨?_, N0, e0⟩
                simp only [Int32.lt_iff_toInt_lt, ← Int32.toInt_inj, own_Im2147483648, own_I0, own_I1, own_I2, own_I3, own_I4, own_I5, own_I6, own_I7, own_I8, own_I9, own_I10, own_I11, own_I12, own_I13, own_I14, own_I15, own_I16, own_I31, own_I32, own_I55295, own_I55296, own_I57343, own_I57344, own_I65533, own_I65534, own_I65535, own_I65536, own_I1114111, own_I2147483647] at hc1 hc2 hc3 hc7 hc10 hc11 hc12
                rw [own_bt (decide_eq_true (by omega))]
          · refine own_st (T' := s₁) (g' := (mkF m 54 #[.val (.int p0)] [])) ?_ fun _ k => XS.icmpNo X0.here hx rfl (hb hby d2_51) rfl ((flt hc10).2.2.1) k
            refine own_st (T' := s₁) (g' := (mkF m 55 #[.val (.int p0)] [(.int (0 : Int32))])) ?_ fun _ k => XS.iconst X0.here hx rfl (hb hby d2_54) k
            refine own_retZ X0 hx hlk Bd.returns (hb hby d2_55) (Q := (Q2 Z p0 h0 n0)) (by decide) (by decide) (by decide) ?_
            refine ⟨?_, N0, e0⟩
            simp only [Int32.lt_iff_toInt_lt, ← Int32.toInt_inj, own_Im2147483648, own_I0, own_I1, own_I2, own_I3, own_I4, own_I5, own_I6, own_I7, own_I8, own_I9, own_I10, own_I11, own_I12, own_I13, own_I14, own_I15, own_I16, own_I31, own_I32, own_I55295, own_I55296, own_I57343, own_I57344, own_I65533, own_I65534, own_I65535, own_I65536, own_I1114111, own_I2147483647] at hc1 hc2 hc3 hc7 hc10
            rw [own_bf (decide_eq_false (by omega))]
theorem own_m15 (x : Int32) : 0 ≤ (x &&& (15 : Int32)).toInt ∧ (x &&& (15 : Int32)).toInt < (16 : Nat) := by
  have := c_mask x 15 4 (by decide) (by decide +kernel)
  omega
theorem pd0_0 : parseMethodDescriptor "(I)Z" = some ⟨[.int], some .boolean⟩ := by decide +kernel
theorem pn_0 : plainName "com/example/markup_into_tree/markupintotree/model/XmlCharsIsCharPinLaw" = true := by first | (simp [plainName, overriddenIn]; done) | decide +kernel
theorem ef_0 (m : MethodId) (p0 : Int32) (p1 : Int32) : entryFrame m #[(.int p0), (.int p1)] maxLocals = mkF m 0 #[.val (.int p0), .val (.int p1), .unset, .unset, .unset] [] := by first | (simp [entryFrame, mkF, argsToLocals, Value.category, maxLocals]; done) | rfl
def Q0 (Z : State) (p0 : Int32) (p1 : Int32) (h0 : Heap) (n0 : Nat) (v : Option Value) (h : Heap) (L : List Loc) : Prop := v = some (.int 1) ∧ Fr n0 L
set_option maxRecDepth 65536 in
set_option maxHeartbeats 40000000 in
theorem rm0 (l : Launch) (Z : State) (a0 : Array Value) (hw : ∀ d ∈ tables_1, d.before a0 Z = true) (ws : List Jvm.Cond) (p0 : Int32) (p1 : Int32) (h0 : Heap) (n0 : Nat) (Z0 : n0 ≤ h0.size)  :
    MetFree l x (head1 (Jvm.Cond.code x code maxLocals ret :: ws) room_1) (fun a U => a = #[(.int p0), (.int p1)] ∧ Z.Warmed39 U.vm ∧ U.heap = h0) (fun _ _ _ _ _ => True) (fun _ U o U' => ∃ v L, o = .returned v ∧ Q0 Z p0 p1 h0 n0 v U'.heap L ∧ FrameEnd U o U' L 1 16) := by
  refine MetFree.of_bodySF (plainFor_of_name pn_0) hisR ?_
  intro p e s m args below meth c s₁ Bd hml0 hP hK
  obtain ⟨rfl, hZ, hh⟩ := hP
  have hx := Bd.exec
  have hby := Bd.bytes
  have hml : c.maxLocals = 5 := hml0
  have hown : s.vm.findClass "com/example/markup_into_tree/markupintotree/model/XmlCharsIsCharPinLaw" = some m.cls := findClass_of_methodNamed Bd.named
  have hnm := (name_of_methodNamed Bd.named Bd.method).1
  have X0 : Stand p l e room_1 s m #[(.int p0), (.int p1)] below meth c s₁ [] 0 0 := Stand.of_body Bd
  have e0 : s₁.heap = h0 := by rw [← hh, Bd.state]; rfl
  have N0 := Fr.nil n0
  have hlk := Bd.notSynchronized
  refine own_in (Q := Q0 Z p0 p1 h0 n0) (ef_0 m p0 p1) ?_
  refine own_st (T' := s₁) (g' := (mkF m 2 #[.val (.int p0), .val (.int p1), .unset, .unset, .unset] [(.int (16 : Int32))])) ?_ fun _ k => XS.bipush X0.here hx rfl (hb hby at_0) k
  obtain ⟨T1, h1, k1, X1, e1, E1, A1, st1⟩ := newP X0 hx hZ (hw _ (List.mem_of_getElem? (i := 0) rfl)) e0 (g := (mkF m 2 #[.val (.int p0), .val (.int p1), .unset, .unset, .unset] [(.int (16 : Int32))])) rfl (hb hby at_2) rfl (by decide) (cap := 16) (by decide) (by decide) (by decide) (by decide)
  obtain ⟨b1, g1⟩ : ∃ z, z = h0.size := ⟨_, rfl⟩
  rw [← g1] at A1 st1
  have V1 : own_A Z h1 b1 .int 16 (fun i => .int ((fun _ => 0 : Nat → Int32) i)) := own_A.new A1 (by decide +kernel)
  have gb1 : n0 ≤ b1 := Nat.le_trans Z0 (Nat.le_of_eq g1.symm)
  refine own_st (T' := T1) (g' := (mkF m 4 #[.val (.int p0), .val (.int p1), .unset, .unset, .unset] [(.ref b1)])) ?_ fun _ k => st1 _ k
  refine own_st (T' := T1) (g' := (mkF m 5 #[.val (.int p0), .val (.int p1), .unset, .unset, .unset] [(.ref b1), (.ref b1)])) ?_ fun _ k => XS.dup X1.here hx rfl (hb hby at_4) rfl rfl k
  refine own_st (T' := T1) (g' := (mkF m 6 #[.val (.int p0), .val (.int p1), .unset, .unset, .unset] [(.int (0 : Int32)), (.ref b1), (.ref b1)])) ?_ fun _ k => XS.iconst X1.here hx rfl (hb hby at_5) k
  refine own_st (T' := T1) (g' := (mkF m 7 #[.val (.int p0), .val (.int p1), .unset, .unset, .unset] [(.int (0 : Int32)), (.int (0 : Int32)), (.ref b1), (.ref b1)])) ?_ fun _ k => XS.iconst X1.here hx rfl (hb hby at_6) k
  obtain ⟨T2, h2, X2, e2, W2, st2⟩ := own_iastore X1 hx hZ e1 V1 (j := (0 : Int32)) (x := (0 : Int32)) (by decide) (by decide) (Ls := #[.val (.int p0), .val (.int p1), .unset, .unset, .unset]) (rest := [(.ref b1)]) (hb hby at_7)
  have ZH2 : n0 ≤ h2.size := Nat.le_trans (Nat.le_trans Z0 E1.1) (Keep.of_wr W2).1
  have V2 := V1.setI W2
  have N2 := Fr.snoc X2 N0 gb1
  refine own_st (T' := T2) (g' := (mkF m 8 #[.val (.int p0), .val (.int p1), .unset, .unset, .unset] [(.ref b1)])) ?_ fun _ k => st2 _ k
  obtain ⟨f2, U2⟩ : ∃ f : Nat → Int32, own_A Z h2 b1 .int 16 (fun i => .int (f i)) := ⟨_, V2⟩
  refine own_st (T' := T2) (g' := (mkF m 9 #[.val (.int p0), .val (.int p1), .unset, .unset, .unset] [(.ref b1), (.ref b1)])) ?_ fun _ k => XS.dup X2.here hx rfl (hb hby at_8) rfl rfl k
  refine own_st (T' := T2) (g' := (mkF m 10 #[.val (.int p0), .val (.int p1), .unset, .unset, .unset] [(.int (1 : Int32)), (.ref b1), (.ref b1)])) ?_ fun _ k => XS.iconst X2.here hx rfl (hb hby at_9) k
  refine own_st (T' := T2) (g' := (mkF m 12 #[.val (.int p0), .val (.int p1), .unset, .unset, .unset] [(.int (9 : Int32)), (.int (1 : Int32)), (.ref b1), (.ref b1)])) ?_ fun _ k => XS.bipush X2.here hx rfl (hb hby at_10) k
  obtain ⟨T3, h3, X3, e3, W3, st3⟩ := own_iastore X2 hx hZ e2 U2 (j := (1 : Int32)) (x := (9 : Int32)) (by decide) (by decide) (Ls := #[.val (.int p0), .val (.int p1), .unset, .unset, .unset]) (rest := [(.ref b1)]) (hb hby at_12)
  have ZH3 : n0 ≤ h3.size := Nat.le_trans ZH2 (Keep.of_wr W3).1
  have V3 := U2.setI W3
  have N3 := Fr.snoc X3 N2 gb1
  refine own_st (T' := T3) (g' := (mkF m 13 #[.val (.int p0), .val (.int p1), .unset, .unset, .unset] [(.ref b1)])) ?_ fun _ k => st3 _ k
  obtain ⟨f3, U3⟩ : ∃ f : Nat → Int32, own_A Z h3 b1 .int 16 (fun i => .int (f i)) := ⟨_, V3⟩
  refine own_st (T' := T3) (g' := (mkF m 14 #[.val (.int p0), .val (.int p1), .unset, .unset, .unset] [(.ref b1), (.ref b1)])) ?_ fun _ k => XS.dup X3.here hx rfl (hb hby at_13) rfl rfl k
  refine own_st (T' := T3) (g' := (mkF m 15 #[.val (.int p0), .val (.int p1), .unset, .unset, .unset] [(.int (2 : Int32)), (.ref b1), (.ref b1)])) ?_ fun _ k => XS.iconst X3.here hx rfl (hb hby at_14) k
  refine own_st (T' := T3) (g' := (mkF m 17 #[.val (.int p0), .val (.int p1), .unset, .unset, .unset] [(.int (10 : Int32)), (.int (2 : Int32)), (.ref b1), (.ref b1)])) ?_ fun _ k => XS.bipush X3.here hx rfl (hb hby at_15) k
  obtain ⟨T4, h4, X4, e4, W4, st4⟩ := own_iastore X3 hx hZ e3 U3 (j := (2 : Int32)) (x := (10 : Int32)) (by decide) (by decide) (Ls := #[.val (.int p0), .val (.int p1), .unset, .unset, .unset]) (rest := [(.ref b1)]) (hb hby at_17)
  have ZH4 : n0 ≤ h4.size := Nat.le_trans ZH3 (Keep.of_wr W4).1
  have V4 := U3.setI W4
  have N4 := Fr.snoc X4 N3 gb1
  refine own_st (T' := T4) (g' := (mkF m 18 #[.val (.int p0), .val (.int p1), .unset, .unset, .unset] [(.ref b1)])) ?_ fun _ k => st4 _ k
  obtain ⟨f4, U4⟩ : ∃ f : Nat → Int32, own_A Z h4 b1 .int 16 (fun i => .int (f i)) := ⟨_, V4⟩
  refine own_st (T' := T4) (g' := (mkF m 19 #[.val (.int p0), .val (.int p1), .unset, .unset, .unset] [(.ref b1), (.ref b1)])) ?_ fun _ k => XS.dup X4.here hx rfl (hb hby at_18) rfl rfl k
  refine own_st (T' := T4) (g' := (mkF m 20 #[.val (.int p0), .val (.int p1), .unset, .unset, .unset] [(.int (3 : Int32)), (.ref b1), (.ref b1)])) ?_ fun _ k => XS.iconst X4.here hx rfl (hb hby at_19) k
  refine own_st (T' := T4) (g' := (mkF m 22 #[.val (.int p0), .val (.int p1), .unset, .unset, .unset] [(.int (13 : Int32)), (.int (3 : Int32)), (.ref b1), (.ref b1)])) ?_ fun _ k => XS.bipush X4.here hx rfl (hb hby at_20) k
  obtain ⟨T5, h5, X5, e5, W5, st5⟩ := own_iastore X4 hx hZ e4 U4 (j := (3 : Int32)) (x := (13 : Int32)) (by decide) (by decide) (Ls := #[.val (.int p0), .val (.int p1), .unset, .unset, .unset]) (rest := [(.ref b1)]) (hb hby at_22)
  have ZH5 : n0 ≤ h5.size := Nat.le_trans ZH4 (Keep.of_wr W5).1
  have V5 := U4.setI W5
  have N5 := Fr.snoc X5 N4 gb1
  refine own_st (T' := T5) (g' := (mkF m 23 #[.val (.int p0), .val (.int p1), .unset, .unset, .unset] [(.ref b1)])) ?_ fun _ k => st5 _ k
  obtain ⟨f5, U5⟩ : ∃ f : Nat → Int32, own_A Z h5 b1 .int 16 (fun i => .int (f i)) := ⟨_, V5⟩
  refine own_st (T' := T5) (g' := (mkF m 24 #[.val (.int p0), .val (.int p1), .unset, .unset, .unset] [(.ref b1), (.ref b1)])) ?_ fun _ k => XS.dup X5.here hx rfl (hb hby at_23) rfl rfl k
  refine own_st (T' := T5) (g' := (mkF m 25 #[.val (.int p0), .val (.int p1), .unset, .unset, .unset] [(.int (4 : Int32)), (.ref b1), (.ref b1)])) ?_ fun _ k => XS.iconst X5.here hx rfl (hb hby at_24) k
  refine own_st (T' := T5) (g' := (mkF m 27 #[.val (.int p0), .val (.int p1), .unset, .unset, .unset] [(.int (31 : Int32)), (.int (4 : Int32)), (.ref b1), (.ref b1)])) ?_ fun _ k => XS.bipush X5.here hx rfl (hb hby at_25) k
  obtain ⟨T6, h6, X6, e6, W6, st6⟩ := own_iastore X5 hx hZ e5 U5 (j := (4 : Int32)) (x := (31 : Int32)) (by decide) (by decide) (Ls := #[.val (.int p0), .val (.int p1), .unset, .unset, .unset]) (rest := [(.ref b1)]) (hb hby at_27)
  have ZH6 : n0 ≤ h6.size := Nat.le_trans ZH5 (Keep.of_wr W6).1
  have V6 := U5.setI W6
  have N6 := Fr.snoc X6 N5 gb1
  refine own_st (T' := T6) (g' := (mkF m 28 #[.val (.int p0), .val (.int p1), .unset, .unset, .unset] [(.ref b1)])) ?_ fun _ k => st6 _ k
  obtain ⟨f6, U6⟩ : ∃ f : Nat → Int32, own_A Z h6 b1 .int 16 (fun i => .int (f i)) := ⟨_, V6⟩
  refine own_st (T' := T6) (g' := (mkF m 29 #[.val (.int p0), .val (.int p1), .unset, .unset, .unset] [(.ref b1), (.ref b1)])) ?_ fun _ k => XS.dup X6.here hx rfl (hb hby at_28) rfl rfl k
  refine own_st (T' := T6) (g' := (mkF m 30 #[.val (.int p0), .val (.int p1), .unset, .unset, .unset] [(.int (5 : Int32)), (.ref b1), (.ref b1)])) ?_ fun _ k => XS.iconst X6.here hx rfl (hb hby at_29) k
  refine own_st (T' := T6) (g' := (mkF m 32 #[.val (.int p0), .val (.int p1), .unset, .unset, .unset] [(.int (32 : Int32)), (.int (5 : Int32)), (.ref b1), (.ref b1)])) ?_ fun _ k => XS.bipush X6.here hx rfl (hb hby at_30) k
  obtain ⟨T7, h7, X7, e7, W7, st7⟩ := own_iastore X6 hx hZ e6 U6 (j := (5 : Int32)) (x := (32 : Int32)) (by decide) (by decide) (Ls := #[.val (.int p0), .val (.int p1), .unset, .unset, .unset]) (rest := [(.ref b1)]) (hb hby at_32)
  have ZH7 : n0 ≤ h7.size := Nat.le_trans ZH6 (Keep.of_wr W7).1
  have V7 := U6.setI W7
  have N7 := Fr.snoc X7 N6 gb1
  refine own_st (T' := T7) (g' := (mkF m 33 #[.val (.int p0), .val (.int p1), .unset, .unset, .unset] [(.ref b1)])) ?_ fun _ k => st7 _ k
  obtain ⟨f7, U7⟩ : ∃ f : Nat → Int32, own_A Z h7 b1 .int 16 (fun i => .int (f i)) := ⟨_, V7⟩
  refine own_st (T' := T7) (g' := (mkF m 34 #[.val (.int p0), .val (.int p1), .unset, .unset, .unset] [(.ref b1), (.ref b1)])) ?_ fun _ k => XS.dup X7.here hx rfl (hb hby at_33) rfl rfl k
  refine own_st (T' := T7) (g' := (mkF m 36 #[.val (.int p0), .val (.int p1), .unset, .unset, .unset] [(.int (6 : Int32)), (.ref b1), (.ref b1)])) ?_ fun _ k => XS.bipush X7.here hx rfl (hb hby at_34) k
  refine own_st (T' := T7) (g' := (mkF m 38 #[.val (.int p0), .val (.int p1), .unset, .unset, .unset] [(.int (55295 : Int32)), (.int (6 : Int32)), (.ref b1), (.ref b1)])) ?_ fun _ k => X7.ldcInt hx hown (mvT hZ (hw _ (List.mem_of_getElem? (i := 1) rfl))) (g := (mkF m 36 #[.val (.int p0), .val (.int p1), .unset, .unset, .unset] [(.int (6 : Int32)), (.ref b1), (.ref b1)])) rfl (hb hby at_36) _ k
  obtain ⟨T8, h8, X8, e8, W8, st8⟩ := own_iastore X7 hx hZ e7 U7 (j := (6 : Int32)) (x := (55295 : Int32)) (by decide) (by decide) (Ls := #[.val (.int p0), .val (.int p1), .unset, .unset, .unset]) (rest := [(.ref b1)]) (hb hby at_38)
  have ZH8 : n0 ≤ h8.size := Nat.le_trans ZH7 (Keep.of_wr W8).1
  have V8 := U7.setI W8
  have N8 := Fr.snoc X8 N7 gb1
  refine own_st (T' := T8) (g' := (mkF m 39 #[.val (.int p0), .val (.int p1), .unset, .unset, .unset] [(.ref b1)])) ?_ fun _ k => st8 _ k
  obtain ⟨f8, U8⟩ : ∃ f : Nat → Int32, own_A Z h8 b1 .int 16 (fun i => .int (f i)) := ⟨_, V8⟩
  refine own_st (T' := T8) (g' := (mkF m 40 #[.val (.int p0), .val (.int p1), .unset, .unset, .unset] [(.ref b1), (.ref b1)])) ?_ fun _ k => XS.dup X8.here hx rfl (hb hby at_39) rfl rfl k
  refine own_st (T' := T8) (g' := (mkF m 42 #[.val (.int p0), .val (.int p1), .unset, .unset, .unset] [(.int (7 : Int32)), (.ref b1), (.ref b1)])) ?_ fun _ k => XS.bipush X8.here hx rfl (hb hby at_40) k
  refine own_st (T' := T8) (g' := (mkF m 44 #[.val (.int p0), .val (.int p1), .unset, .unset, .unset] [(.int (57343 : Int32)), (.int (7 : Int32)), (.ref b1), (.ref b1)])) ?_ fun _ k => X8.ldcInt hx hown (mvT hZ (hw _ (List.mem_of_getElem? (i := 2) rfl))) (g := (mkF m 42 #[.val (.int p0), .val (.int p1), .unset, .unset, .unset] [(.int (7 : Int32)), (.ref b1), (.ref b1)])) rfl (hb hby at_42) _ k
  obtain ⟨T9, h9, X9, e9, W9, st9⟩ := own_iastore X8 hx hZ e8 U8 (j := (7 : Int32)) (x := (57343 : Int32)) (by decide) (by decide) (Ls := #[.val (.int p0), .val (.int p1), .unset, .unset, .unset]) (rest := [(.ref b1)]) (hb hby at_44)
  have ZH9 : n0 ≤ h9.size := Nat.le_trans ZH8 (Keep.of_wr W9).1
  have V9 := U8.setI W9
  have N9 := Fr.snoc X9 N8 gb1
  refine own_st (T' := T9) (g' := (mkF m 45 #[.val (.int p0), .val (.int p1), .unset, .unset, .unset] [(.ref b1)])) ?_ fun _ k => st9 _ k
  obtain ⟨f9, U9⟩ : ∃ f : Nat → Int32, own_A Z h9 b1 .int 16 (fun i => .int (f i)) := ⟨_, V9⟩
  refine own_st (T' := T9) (g' := (mkF m 46 #[.val (.int p0), .val (.int p1), .unset, .unset, .unset] [(.ref b1), (.ref b1)])) ?_ fun _ k => XS.dup X9.here hx rfl (hb hby at_45) rfl rfl k
  refine own_st (T' := T9) (g' := (mkF m 48 #[.val (.int p0), .val (.int p1), .unset, .unset, .unset] [(.int (8 : Int32)), (.ref b1), (.ref b1)])) ?_ fun _ k => XS.bipush X9.here hx rfl (hb hby at_46) k
  refine own_st (T' := T9) (g' := (mkF m 50 #[.val (.int p0), .val (.int p1), .unset, .unset, .unset] [(.int (57344 : Int32)), (.int (8 : Int32)), (.ref b1), (.ref b1)])) ?_ fun _ k => X9.ldcInt hx hown (mvT hZ (hw _ (List.mem_of_getElem? (i := 3) rfl))) (g := (mkF m 48 #[.val (.int p0), .val (.int p1), .unset, .unset, .unset] [(.int (8 : Int32)), (.ref b1), (.ref b1)])) rfl (hb hby at_48) _ k
  obtain ⟨T10, h10, X10, e10, W10, st10⟩ := own_iastore X9 hx hZ e9 U9 (j := (8 : Int32)) (x := (57344 : Int32)) (by decide) (by decide) (Ls := #[.val (.int p0), .val (.int p1), .unset, .unset, .unset]) (rest := [(.ref b1)]) (hb hby at_50)
  have ZH10 : n0 ≤ h10.size := Nat.le_trans ZH9 (Keep.of_wr W10).1
  have V10 := U9.setI W10
  have N10 := Fr.snoc X10 N9 gb1
  refine own_st (T' := T10) (g' := (mkF m 51 #[.val (.int p0), .val (.int p1), .unset, .unset, .unset] [(.ref b1)])) ?_ fun _ k => st10 _ k
  obtain ⟨f10, U10⟩ : ∃ f : Nat → Int32, own_A Z h10 b1 .int 16 (fun i => .int (f i)) := ⟨_, V10⟩
  refine own_st (T' := T10) (g' := (mkF m 52 #[.val (.int p0), .val (.int p1), .unset, .unset, .unset] [(.ref b1), (.ref b1)])) ?_ fun _ k => XS.dup X10.here hx rfl (hb hby at_51) rfl rfl k
  refine own_st (T' := T10) (g' := (mkF m 54 #[.val (.int p0), .val (.int p1), .unset, .unset, .unset] [(.int (9 : Int32)), (.ref b1), (.ref b1)])) ?_ fun _ k => XS.bipush X10.here hx rfl (hb hby at_52) k
  refine own_st (T' := T10) (g' := (mkF m 56 #[.val (.int p0), .val (.int p1), .unset, .unset, .unset] [(.int (65533 : Int32)), (.int (9 : Int32)), (.ref b1), (.ref b1)])) ?_ fun _ k => X10.ldcInt hx hown (mvT hZ (hw _ (List.mem_of_getElem? (i := 4) rfl))) (g := (mkF m 54 #[.val (.int p0), .val (.int p1), .unset, .unset, .unset] [(.int (9 : Int32)), (.ref b1), (.ref b1)])) rfl (hb hby at_54) _ k
  obtain ⟨T11, h11, X11, e11, W11, st11⟩ := own_iastore X10 hx hZ e10 U10 (j := (9 : Int32)) (x := (65533 : Int32)) (by decide) (by decide) (Ls := #[.val (.int p0), .val (.int p1), .unset, .unset, .unset]) (rest := [(.ref b1)]) (hb hby at_56)
  have ZH11 : n0 ≤ h11.size := Nat.le_trans ZH10 (Keep.of_wr W11).1
  have V11 := U10.setI W11
  have N11 := Fr.snoc X11 N10 gb1
  refine own_st (T' := T11) (g' := (mkF m 57 #[.val (.int p0), .val (.int p1), .unset, .unset, .unset] [(.ref b1)])) ?_ fun _ k => st11 _ k
  obtain ⟨f11, U11⟩ : ∃ f : Nat → Int32, own_A Z h11 b1 .int 16 (fun i => .int (f i)) := ⟨_, V11⟩
  refine own_st (T' := T11) (g' := (mkF m 58 #[.val (.int p0), .val (.int p1), .unset, .unset, .unset] [(.ref b1), (.ref b1)])) ?_ fun _ k => XS.dup X11.here hx rfl (hb hby at_57) rfl rfl k
  refine own_st (T' := T11) (g' := (mkF m 60 #[.val (.int p0), .val (.int p1), .unset, .unset, .unset] [(.int (10 : Int32)), (.ref b1), (.ref b1)])) ?_ fun _ k => XS.bipush X11.here hx rfl (hb hby at_58) k
  refine own_st (T' := T11) (g' := (mkF m 62 #[.val (.int p0), .val (.int p1), .unset, .unset, .unset] [(.int (65535 : Int32)), (.int (10 : Int32)), (.ref b1), (.ref b1)])) ?_ fun _ k => X11.ldcInt hx hown (mvT hZ (hw _ (List.mem_of_getElem? (i := 5) rfl))) (g := (mkF m 60 #[.val (.int p0), .val (.int p1), .unset, .unset, .unset] [(.int (10 : Int32)), (.ref b1), (.ref b1)])) rfl (hb hby at_60) _ k
  obtain ⟨T12, h12, X12, e12, W12, st12⟩ := own_iastore X11 hx hZ e11 U11 (j := (10 : Int32)) (x := (65535 : Int32)) (by decide) (by decide) (Ls := #[.val (.int p0), .val (.int p1), .unset, .unset, .unset]) (rest := [(.ref b1)]) (hb hby at_62)
  have ZH12 : n0 ≤ h12.size := Nat.le_trans ZH11 (Keep.of_wr W12).1
  have V12 := U11.setI W12
  have N12 := Fr.snoc X12 N11 gb1
  refine own_st (T' := T12) (g' := (mkF m 63 #[.val (.int p0), .val (.int p1), .unset, .unset, .unset] [(.ref b1)])) ?_ fun _ k => st12 _ k
  obtain ⟨f12, U12⟩ : ∃ f : Nat → Int32, own_A Z h12 b1 .int 16 (fun i => .int (f i)) := ⟨_, V12⟩
  refine own_st (T' := T12) (g' := (mkF m 64 #[.val (.int p0), .val (.int p1), .unset, .unset, .unset] [(.ref b1), (.ref b1)])) ?_ fun _ k => XS.dup X12.here hx rfl (hb hby at_63) rfl rfl k
  refine own_st (T' := T12) (g' := (mkF m 66 #[.val (.int p0), .val (.int p1), .unset, .unset, .unset] [(.int (11 : Int32)), (.ref b1), (.ref b1)])) ?_ fun _ k => XS.bipush X12.here hx rfl (hb hby at_64) k
  refine own_st (T' := T12) (g' := (mkF m 68 #[.val (.int p0), .val (.int p1), .unset, .unset, .unset] [(.int (65536 : Int32)), (.int (11 : Int32)), (.ref b1), (.ref b1)])) ?_ fun _ k => X12.ldcInt hx hown (mvT hZ (hw _ (List.mem_of_getElem? (i := 6) rfl))) (g := (mkF m 66 #[.val (.int p0), .val (.int p1), .unset, .unset, .unset] [(.int (11 : Int32)), (.ref b1), (.ref b1)])) rfl (hb hby at_66) _ k
  obtain ⟨T13, h13, X13, e13, W13, st13⟩ := own_iastore X12 hx hZ e12 U12 (j := (11 : Int32)) (x := (65536 : Int32)) (by decide) (by decide) (Ls := #[.val (.int p0), .val (.int p1), .unset, .unset, .unset]) (rest := [(.ref b1)]) (hb hby at_68)
  have ZH13 : n0 ≤ h13.size := Nat.le_trans ZH12 (Keep.of_wr W13).1
  have V13 := U12.setI W13
  have N13 := Fr.snoc X13 N12 gb1
  refine own_st (T' := T13) (g' := (mkF m 69 #[.val (.int p0), .val (.int p1), .unset, .unset, .unset] [(.ref b1)])) ?_ fun _ k => st13 _ k
  obtain ⟨f13, U13⟩ : ∃ f : Nat → Int32, own_A Z h13 b1 .int 16 (fun i => .int (f i)) := ⟨_, V13⟩
  refine own_st (T' := T13) (g' := (mkF m 70 #[.val (.int p0), .val (.int p1), .unset, .unset, .unset] [(.ref b1), (.ref b1)])) ?_ fun _ k => XS.dup X13.here hx rfl (hb hby at_69) rfl rfl k
  refine own_st (T' := T13) (g' := (mkF m 72 #[.val (.int p0), .val (.int p1), .unset, .unset, .unset] [(.int (12 : Int32)), (.ref b1), (.ref b1)])) ?_ fun _ k => XS.bipush X13.here hx rfl (hb hby at_70) k
  refine own_st (T' := T13) (g' := (mkF m 74 #[.val (.int p0), .val (.int p1), .unset, .unset, .unset] [(.int (1114111 : Int32)), (.int (12 : Int32)), (.ref b1), (.ref b1)])) ?_ fun _ k => X13.ldcInt hx hown (mvT hZ (hw _ (List.mem_of_getElem? (i := 7) rfl))) (g := (mkF m 72 #[.val (.int p0), .val (.int p1), .unset, .unset, .unset] [(.int (12 : Int32)), (.ref b1), (.ref b1)])) rfl (hb hby at_72) _ k
  obtain ⟨T14, h14, X14, e14, W14, st14⟩ := own_iastore X13 hx hZ e13 U13 (j := (12 : Int32)) (x := (1114111 : Int32)) (by decide) (by decide) (Ls := #[.val (.int p0), .val (.int p1), .unset, .unset, .unset]) (rest := [(.ref b1)]) (hb hby at_74)
  have ZH14 : n0 ≤ h14.size := Nat.le_trans ZH13 (Keep.of_wr W14).1
  have V14 := U13.setI W14
  have N14 := Fr.snoc X14 N13 gb1
  refine own_st (T' := T14) (g' := (mkF m 75 #[.val (.int p0), .val (.int p1), .unset, .unset, .unset] [(.ref b1)])) ?_ fun _ k => st14 _ k
  obtain ⟨f14, U14⟩ : ∃ f : Nat → Int32, own_A Z h14 b1 .int 16 (fun i => .int (f i)) := ⟨_, V14⟩
  refine own_st (T' := T14) (g' := (mkF m 76 #[.val (.int p0), .val (.int p1), .unset, .unset, .unset] [(.ref b1), (.ref b1)])) ?_ fun _ k => XS.dup X14.here hx rfl (hb hby at_75) rfl rfl k
  refine own_st (T' := T14) (g' := (mkF m 78 #[.val (.int p0), .val (.int p1), .unset, .unset, .unset] [(.int (13 : Int32)), (.ref b1), (.ref b1)])) ?_ fun _ k => XS.bipush X14.here hx rfl (hb hby at_76) k
  refine own_st (T' := T14) (g' := (mkF m 80 #[.val (.int p0), .val (.int p1), .unset, .unset, .unset] [(.int (-2147483648 : Int32)), (.int (13 : Int32)), (.ref b1), (.ref b1)])) ?_ fun _ k => X14.ldcInt hx hown (mvT hZ (hw _ (List.mem_of_getElem? (i := 8) rfl))) (g := (mkF m 78 #[.val (.int p0), .val (.int p1), .unset, .unset, .unset] [(.int (13 : Int32)), (.ref b1), (.ref b1)])) rfl (hb hby at_78) _ k
  obtain ⟨T15, h15, X15, e15, W15, st15⟩ := own_iastore X14 hx hZ e14 U14 (j := (13 : Int32)) (x := (-2147483648 : Int32)) (by decide) (by decide) (Ls := #[.val (.int p0), .val (.int p1), .unset, .unset, .unset]) (rest := [(.ref b1)]) (hb hby at_80)
  have ZH15 : n0 ≤ h15.size := Nat.le_trans ZH14 (Keep.of_wr W15).1
  have V15 := U14.setI W15
  have N15 := Fr.snoc X15 N14 gb1
  refine own_st (T' := T15) (g' := (mkF m 81 #[.val (.int p0), .val (.int p1), .unset, .unset, .unset] [(.ref b1)])) ?_ fun _ k => st15 _ k
  obtain ⟨f15, U15⟩ : ∃ f : Nat → Int32, own_A Z h15 b1 .int 16 (fun i => .int (f i)) := ⟨_, V15⟩
  refine own_st (T' := T15) (g' := (mkF m 82 #[.val (.int p0), .val (.int p1), .unset, .unset, .unset] [(.ref b1), (.ref b1)])) ?_ fun _ k => XS.dup X15.here hx rfl (hb hby at_81) rfl rfl k
  refine own_st (T' := T15) (g' := (mkF m 84 #[.val (.int p0), .val (.int p1), .unset, .unset, .unset] [(.int (14 : Int32)), (.ref b1), (.ref b1)])) ?_ fun _ k => XS.bipush X15.here hx rfl (hb hby at_82) k
  refine own_st (T' := T15) (g' := (mkF m 86 #[.val (.int p0), .val (.int p1), .unset, .unset, .unset] [(.int (2147483647 : Int32)), (.int (14 : Int32)), (.ref b1), (.ref b1)])) ?_ fun _ k => X15.ldcInt hx hown (mvT hZ (hw _ (List.mem_of_getElem? (i := 9) rfl))) (g := (mkF m 84 #[.val (.int p0), .val (.int p1), .unset, .unset, .unset] [(.int (14 : Int32)), (.ref b1), (.ref b1)])) rfl (hb hby at_84) _ k
  obtain ⟨T16, h16, X16, e16, W16, st16⟩ := own_iastore X15 hx hZ e15 U15 (j := (14 : Int32)) (x := (2147483647 : Int32)) (by decide) (by decide) (Ls := #[.val (.int p0), .val (.int p1), .unset, .unset, .unset]) (rest := [(.ref b1)]) (hb hby at_86)
  have ZH16 : n0 ≤ h16.size := Nat.le_trans ZH15 (Keep.of_wr W16).1
  have V16 := U15.setI W16
  have N16 := Fr.snoc X16 N15 gb1
  refine own_st (T' := T16) (g' := (mkF m 87 #[.val (.int p0), .val (.int p1), .unset, .unset, .unset] [(.ref b1)])) ?_ fun _ k => st16 _ k
  obtain ⟨f16, U16⟩ : ∃ f : Nat → Int32, own_A Z h16 b1 .int 16 (fun i => .int (f i)) := ⟨_, V16⟩
  refine own_st (T' := T16) (g' := (mkF m 88 #[.val (.int p0), .val (.int p1), .unset, .unset, .unset] [(.ref b1), (.ref b1)])) ?_ fun _ k => XS.dup X16.here hx rfl (hb hby at_87) rfl rfl k
  refine own_st (T' := T16) (g' := (mkF m 90 #[.val (.int p0), .val (.int p1), .unset, .unset, .unset] [(.int (15 : Int32)), (.ref b1), (.ref b1)])) ?_ fun _ k => XS.bipush X16.here hx rfl (hb hby at_88) k
  refine own_st (T' := T16) (g' := (mkF m 92 #[.val (.int p0), .val (.int p1), .unset, .unset, .unset] [(.int (11 : Int32)), (.int (15 : Int32)), (.ref b1), (.ref b1)])) ?_ fun _ k => XS.bipush X16.here hx rfl (hb hby at_90) k
  obtain ⟨T17, h17, X17, e17, W17, st17⟩ := own_iastore X16 hx hZ e16 U16 (j := (15 : Int32)) (x := (11 : Int32)) (by decide) (by decide) (Ls := #[.val (.int p0), .val (.int p1), .unset, .unset, .unset]) (rest := [(.ref b1)]) (hb hby at_92)
  have ZH17 : n0 ≤ h17.size := Nat.le_trans ZH16 (Keep.of_wr W17).1
  have V17 := U16.setI W17
  have N17 := Fr.snoc X17 N16 gb1
  refine own_st (T' := T17) (g' := (mkF m 93 #[.val (.int p0), .val (.int p1), .unset, .unset, .unset] [(.ref b1)])) ?_ fun _ k => st17 _ k
  obtain ⟨f17, U17⟩ : ∃ f : Nat → Int32, own_A Z h17 b1 .int 16 (fun i => .int (f i)) := ⟨_, V17⟩
  refine own_st (T' := T17) (g' := (mkF m 94 #[.val (.int p0), .val (.int p1), .val (.ref b1), .unset, .unset] [])) ?_ fun _ k => XS.astoreN X17.here hx rfl (hb hby at_93) rfl rfl (l' := #[.val (.int p0), .val (.int p1), .val (.ref b1), .unset, .unset]) rfl k
  have k127a : ∀ (z127 : Int32), own_Go p.tables e below T17 (mkF m 127 #[.val (.int p0), .val (.int p1), .val (.ref b1), .val (.int z127), .unset] []) (own_End s (Q0 Z p0 p1 h0 n0) 1 16) := by
    intro z127
    refine own_st (T' := T17) (g' := (mkF m 128 #[.val (.int p0), .val (.int p1), .val (.ref b1), .val (.int z127), .unset] [(.int z127)])) ?_ fun _ k => XS.iloadN X17.here hx rfl (hb hby at_127) rfl k
    obtain ⟨_, _, ⟨T18, L18, k18, n18⟩, -, X18, ⟨Lc18, hQ18, l18, y18, z18⟩, st18⟩ := Jvm.LawKit.callS X17 hx (y := (⟨"com/example/markup_into_tree/markupintotree/model/XmlChars", "isChar", "(I)Z"⟩ : MethodName)) hown (mvT hZ (hw _ (List.mem_of_getElem? (i := 10) rfl))) (mvT hZ (hw _ (List.mem_of_getElem? (i := 11) rfl))) (mvT hZ (hw _ (List.mem_of_getElem? (i := 12) rfl))) (mvT hZ (hw _ (List.mem_of_getElem? (i := 13) rfl))) (by decide) (backOf (W := 0) (rm1 l Z a0 hw [] z127 h17 n0 ZH17 ) hZ (hw _ (List.mem_of_getElem? (i := 13) rfl)) (hw _ (List.mem_of_getElem? (i := 12) rfl)) (by decide) (by decide)) (g := (mkF m 128 #[.val (.int p0), .val (.int p1), .val (.ref b1), .val (.int z127), .unset] [(.int z127)])) rfl (by rw [hml]; rfl) (argsL := [(.int z127)]) (rest := []) (lenOf pd0_0 rfl) rfl (by show 2 * 0 + _ ≤ _; exact Nat.le_of_eq rfl) (hb hby at_128) (fun _ _ => ⟨rfl, e17, (by decide : 1 + 0 ≤ _), (by decide : 16 + 0 ≤ _)⟩)
    dsimp only [Pt.U, Pt.locs, Pt.cells, Pt.slots] at X18 l18 y18 z18 st18 hQ18
    subst l18 y18 z18
    obtain ⟨rfl, Nq18, e18⟩ := hQ18
    have N18 := Fr.app N17 Nq18
    refine own_st (T' := T18) (g' := (mkF m 131 #[.val (.int p0), .val (.int p1), .val (.ref b1), .val (.int z127), .unset] [(.int (own_b (decide (z127.toInt = 9 ∨ z127.toInt = 10 ∨ z127.toInt = 13 ∨ (32 ≤ z127.toInt ∧ z127.toInt ≤ 55295) ∨ (57344 ≤ z127.toInt ∧ z127.toInt ≤ 65533) ∨ (65536 ≤ z127.toInt ∧ z127.toInt ≤ 1114111)))))])) ?_ fun _ k => st18 _ k
    refine own_st (T' := T18) (g' := (mkF m 132 #[.val (.int p0), .val (.int p1), .val (.ref b1), .val (.int z127), .unset] [(.int z127), (.int (own_b (decide (z127.toInt = 9 ∨ z127.toInt = 10 ∨ z127.toInt = 13 ∨ (32 ≤ z127.toInt ∧ z127.toInt ≤ 55295) ∨ (57344 ≤ z127.toInt ∧ z127.toInt ≤ 65533) ∨ (65536 ≤ z127.toInt ∧ z127.toInt ≤ 1114111)))))])) ?_ fun _ k => XS.iloadN X18.here hx rfl (hb hby at_131) rfl k
    obtain ⟨_, _, ⟨T19, L19, k19, n19⟩, -, X19, ⟨Lc19, hQ19, l19, y19, z19⟩, st19⟩ := Jvm.LawKit.callS X18 hx (y := (⟨"com/example/markup_into_tree/markupintotree/model/XmlCharsIsCharPinLaw", "expected", "(I)Z"⟩ : MethodName)) hown (mvT hZ (hw _ (List.mem_of_getElem? (i := 16) rfl))) (mvT hZ (hw _ (List.mem_of_getElem? (i := 17) rfl))) (mvT hZ (hw _ (List.mem_of_getElem? (i := 18) rfl))) (mvT hZ (hw _ (List.mem_of_getElem? (i := 19) rfl))) (by decide) (backOf (W := 1) (rm2 l Z a0 hw [] z127 h17 n0 ZH17 ) hZ (hw _ (List.mem_of_getElem? (i := 19) rfl)) (hw _ (List.mem_of_getElem? (i := 18) rfl)) (by decide) (by decide)) (g := (mkF m 132 #[.val (.int p0), .val (.int p1), .val (.ref b1), .val (.int z127), .unset] [(.int z127), (.int (own_b (decide (z127.toInt = 9 ∨ z127.toInt = 10 ∨ z127.toInt = 13 ∨ (32 ≤ z127.toInt ∧ z127.toInt ≤ 55295) ∨ (57344 ≤ z127.toInt ∧ z127.toInt ≤ 65533) ∨ (65536 ≤ z127.toInt ∧ z127.toInt ≤ 1114111)))))])) rfl (by rw [hml]; rfl) (argsL := [(.int z127)]) (rest := [(.int (own_b (decide (z127.toInt = 9 ∨ z127.toInt = 10 ∨ z127.toInt = 13 ∨ (32 ≤ z127.toInt ∧ z127.toInt ≤ 55295) ∨ (57344 ≤ z127.toInt ∧ z127.toInt ≤ 65533) ∨ (65536 ≤ z127.toInt ∧ z127.toInt ≤ 1114111)))))]) (lenOf pd0_0 rfl) rfl (by show 2 * 0 + _ ≤ _; exact Nat.le_of_eq rfl) (hb hby at_132) (fun _ _ => ⟨rfl, e18, (by decide : 1 + 0 ≤ _), (by decide : 16 + 0 ≤ _)⟩)
    dsimp only [Pt.U, Pt.locs, Pt.cells, Pt.slots] at X19 l19 y19 z19 st19 hQ19
    subst l19 y19 z19
    obtain ⟨rfl, Nq19, e19⟩ := hQ19
    have N19 := Fr.app N18 Nq19
    refine own_st (T' := T19) (g' := (mkF m 135 #[.val (.int p0), .val (.int p1), .val (.ref b1), .val (.int z127), .unset] [(.int (own_b (decide (z127.toInt = 9 ∨ z127.toInt = 10 ∨ z127.toInt = 13 ∨ (32 ≤ z127.toInt ∧ z127.toInt ≤ 55295) ∨ (57344 ≤ z127.toInt ∧ z127.toInt ≤ 65533) ∨ (65536 ≤ z127.toInt ∧ z127.toInt ≤ 1114111))))), (.int (own_b (decide (z127.toInt = 9 ∨ z127.toInt = 10 ∨ z127.toInt = 13 ∨ (32 ≤ z127.toInt ∧ z127.toInt ≤ 55295) ∨ (57344 ≤ z127.toInt ∧ z127.toInt ≤ 65533) ∨ (65536 ≤ z127.toInt ∧ z127.toInt ≤ 1114111)))))])) ?_ fun _ k => st19 _ k
    refine own_st (T' := T19) (g' := (mkF m 138 #[.val (.int p0), .val (.int p1), .val (.ref b1), .val (.int z127), .unset] [])) ?_ fun _ k => XS.icmpNo X19.here hx rfl (hb hby at_135) rfl ((teq rfl).2) k
    refine own_st (T' := T19) (g' := (mkF m 139 #[.val (.int p0), .val (.int p1), .val (.ref b1), .val (.int z127), .unset] [(.int (1 : Int32))])) ?_ fun _ k => XS.iconst X19.here hx rfl (hb hby at_138) k
    refine own_st (T' := T19) (g' := (mkF m 143 #[.val (.int p0), .val (.int p1), .val (.ref b1), .val (.int z127), .unset] [(.int (1 : Int32))])) ?_ fun _ k => XS.goto X19.here hx rfl (pc0 := 139) (pc' := 143) rfl (hb hby at_139) (by decide) (by decide) k
    refine own_retZ X19 hx hlk Bd.returns (hb hby at_143) (Q := (Q0 Z p0 p1 h0 n0)) (by decide) (by decide) (by decide) ?_
    exact ⟨rfl, N19⟩
  have k127b : ∀ (z127 : Int32) (z4 : Int32), own_Go p.tables e below T17 (mkF m 127 #[.val (.int p0), .val (.int p1), .val (.ref b1), .val (.int z127), .val (.int z4)] []) (own_End s (Q0 Z p0 p1 h0 n0) 1 16) := by
    intro z127 z4
    refine own_st (T' := T17) (g' := (mkF m 128 #[.val (.int p0), .val (.int p1), .val (.ref b1), .val (.int z127), .val (.int z4)] [(.int z127)])) ?_ fun _ k => XS.iloadN X17.here hx rfl (hb hby at_127) rfl k
    obtain ⟨_, _, ⟨T20, L20, k20, n20⟩, -, X20, ⟨Lc20, hQ20, l20, y20, z20⟩, st20⟩ := Jvm.LawKit.callS X17 hx (y := (⟨"com/example/markup_into_tree/markupintotree/model/XmlChars", "isChar", "(I)Z"⟩ : MethodName)) hown (mvT hZ (hw _ (List.mem_of_getElem? (i := 10) rfl))) (mvT hZ (hw _ (List.mem_of_getElem? (i := 11) rfl))) (mvT hZ (hw _ (List.mem_of_getElem? (i := 12) rfl))) (mvT hZ (hw _ (List.mem_of_getElem? (i := 13) rfl))) (by decide) (backOf (W := 0) (rm1 l Z a0 hw [] z127 h17 n0 ZH17 ) hZ (hw _ (List.mem_of_getElem? (i := 13) rfl)) (hw _ (List.mem_of_getElem? (i := 12) rfl)) (by decide) (by decide)) (g := (mkF m 128 #[.val (.int p0), .val (.int p1), .val (.ref b1), .val (.int z127), .val (.int z4)] [(.int z127)])) rfl (by rw [hml]; rfl) (argsL := [(.int z127)]) (rest := []) (lenOf pd0_0 rfl) rfl (by show 2 * 0 + _ ≤ _; exact Nat.le_of_eq rfl) (hb hby at_128) (fun _ _ => ⟨rfl, e17, (by decide : 1 + 0 ≤ _), (by decide : 16 + 0 ≤ _)⟩)
    dsimp only [Pt.U, Pt.locs, Pt.cells, Pt.slots] at X20 l20 y20 z20 st20 hQ20
    subst l20 y20 z20
    obtain ⟨rfl, Nq20, e20⟩ := hQ20
    have N20 := Fr.app N17 Nq20
    refine own_st (T' := T20) (g' := (mkF m 131 #[.val (.int p0), .val (.int p1), .val (.ref b1), .val (.int z127), .val (.int z4)] [(.int (own_b (decide (z127.toInt = 9 ∨ z127.toInt = 10 ∨ z127.toInt = 13 ∨ (32 ≤ z127.toInt ∧ z127.toInt ≤ 55295) ∨ (57344 ≤ z127.toInt ∧ z127.toInt ≤ 65533) ∨ (65536 ≤ z127.toInt ∧ z127.toInt ≤ 1114111)))))])) ?_ fun _ k => st20 _ k
    refine own_st (T' := T20) (g' := (mkF m 132 #[.val (.int p0), .val (.int p1), .val (.ref b1), .val (.int z127), .val (.int z4)] [(.int z127), (.int (own_b (decide (z127.toInt = 9 ∨ z127.toInt = 10 ∨ z127.toInt = 13 ∨ (32 ≤ z127.toInt ∧ z127.toInt ≤ 55295) ∨ (57344 ≤ z127.toInt ∧ z127.toInt ≤ 65533) ∨ (65536 ≤ z127.toInt ∧ z127.toInt ≤ 1114111)))))])) ?_ fun _ k => XS.iloadN X20.here hx rfl (hb hby at_131) rfl k
    obtain ⟨_, _, ⟨T21, L21, k21, n21⟩, -, X21, ⟨Lc21, hQ21, l21, y21, z21⟩, st21⟩ := Jvm.LawKit.callS X20 hx (y := (⟨"com/example/markup_into_tree/markupintotree/model/XmlCharsIsCharPinLaw", "expected", "(I)Z"⟩ : MethodName)) hown (mvT hZ (hw _ (List.mem_of_getElem? (i := 16) rfl))) (mvT hZ (hw _ (List.mem_of_getElem? (i := 17) rfl))) (mvT hZ (hw _ (List.mem_of_getElem? (i := 18) rfl))) (mvT hZ (hw _ (List.mem_of_getElem? (i := 19) rfl))) (by decide) (backOf (W := 1) (rm2 l Z a0 hw [] z127 h17 n0 ZH17 ) hZ (hw _ (List.mem_of_getElem? (i := 19) rfl)) (hw _ (List.mem_of_getElem? (i := 18) rfl)) (by decide) (by decide)) (g := (mkF m 132 #[.val (.int p0), .val (.int p1), .val (.ref b1), .val (.int z127), .val (.int z4)] [(.int z127), (.int (own_b (decide (z127.toInt = 9 ∨ z127.toInt = 10 ∨ z127.toInt = 13 ∨ (32 ≤ z127.toInt ∧ z127.toInt ≤ 55295) ∨ (57344 ≤ z127.toInt ∧ z127.toInt ≤ 65533) ∨ (65536 ≤ z127.toInt ∧ z127.toInt ≤ 1114111)))))])) rfl (by rw [hml]; rfl) (argsL := [(.int z127)]) (rest := [(.int (own_b (decide (z127.toInt = 9 ∨ z127.toInt = 10 ∨ z127.toInt = 13 ∨ (32 ≤ z127.toInt ∧ z127.toInt ≤ 55295) ∨ (57344 ≤ z127.toInt ∧ z127.toInt ≤ 65533) ∨ (65536 ≤ z127.toInt ∧ z127.toInt ≤ 1114111)))))]) (lenOf pd0_0 rfl) rfl (by show 2 * 0 + _ ≤ _; exact Nat.le_of_eq rfl) (hb hby at_132) (fun _ _ => ⟨rfl, e20, (by decide : 1 + 0 ≤ _), (by decide : 16 + 0 ≤ _)⟩)
    dsimp only [Pt.U, Pt.locs, Pt.cells, Pt.slots] at X21 l21 y21 z21 st21 hQ21
    subst l21 y21 z21
    obtain ⟨rfl, Nq21, e21⟩ := hQ21
    have N21 := Fr.app N20 Nq21
    refine own_st (T' := T21) (g' := (mkF m 135 #[.val (.int p0), .val (.int p1), .val (.ref b1), .val (.int z127), .val (.int z4)] [(.int (own_b (decide (z127.toInt = 9 ∨ z127.toInt = 10 ∨ z127.toInt = 13 ∨ (32 ≤ z127.toInt ∧ z127.toInt ≤ 55295) ∨ (57344 ≤ z127.toInt ∧ z127.toInt ≤ 65533) ∨ (65536 ≤ z127.toInt ∧ z127.toInt ≤ 1114111))))), (.int (own_b (decide (z127.toInt = 9 ∨ z127.toInt = 10 ∨ z127.toInt = 13 ∨ (32 ≤ z127.toInt ∧ z127.toInt ≤ 55295) ∨ (57344 ≤ z127.toInt ∧ z127.toInt ≤ 65533) ∨ (65536 ≤ z127.toInt ∧ z127.toInt ≤ 1114111)))))])) ?_ fun _ k => st21 _ k
    refine own_st (T' := T21) (g' := (mkF m 138 #[.val (.int p0), .val (.int p1), .val (.ref b1), .val (.int z127), .val (.int z4)] [])) ?_ fun _ k => XS.icmpNo X21.here hx rfl (hb hby at_135) rfl ((teq rfl).2) k
    refine own_st (T' := T21) (g' := (mkF m 139 #[.val (.int p0), .val (.int p1), .val (.ref b1), .val (.int z127), .val (.int z4)] [(.int (1 : Int32))])) ?_ fun _ k => XS.iconst X21.here hx rfl (hb hby at_138) k
    refine own_st (T' := T21) (g' := (mkF m 143 #[.val (.int p0), .val (.int p1), .val (.ref b1), .val (.int z127), .val (.int z4)] [(.int (1 : Int32))])) ?_ fun _ k => XS.goto X21.here hx rfl (pc0 := 139) (pc' := 143) rfl (hb hby at_139) (by decide) (by decide) k
    refine own_retZ X21 hx hlk Bd.returns (hb hby at_143) (Q := (Q0 Z p0 p1 h0 n0)) (by decide) (by decide) (by decide) ?_
    exact ⟨rfl, N21⟩
  refine own_st (T' := T17) (g' := (mkF m 95 #[.val (.int p0), .val (.int p1), .val (.ref b1), .unset, .unset] [(.int p1)])) ?_ fun _ k => XS.iloadN X17.here hx rfl (hb hby at_94) rfl k
  refine own_st (T' := T17) (g' := (mkF m 97 #[.val (.int p0), .val (.int p1), .val (.ref b1), .unset, .unset] [(.int (6 : Int32)), (.int p1)])) ?_ fun _ k => XS.bipush X17.here hx rfl (hb hby at_95) k
  refine own_st (T' := T17) (g' := (mkF m 98 #[.val (.int p0), .val (.int p1), .val (.ref b1), .unset, .unset] [(.int ((p1.toUInt32 >>> ((6 : Int32) &&& 31).toUInt32).toInt32))])) ?_ fun _ k => XS.iushr X17.here hx rfl (hb hby at_97) rfl k
  refine own_st (T' := T17) (g' := (mkF m 99 #[.val (.int p0), .val (.int p1), .val (.ref b1), .unset, .unset] [(.int (1 : Int32)), (.int ((p1.toUInt32 >>> ((6 : Int32) &&& 31).toUInt32).toInt32))])) ?_ fun _ k => XS.iconst X17.here hx rfl (hb hby at_98) k
  refine own_st (T' := T17) (g' := (mkF m 100 #[.val (.int p0), .val (.int p1), .val (.ref b1), .unset, .unset] [(.int (((p1.toUInt32 >>> ((6 : Int32) &&& 31).toUInt32).toInt32) &&& (1 : Int32)))])) ?_ fun _ k => XS.iand X17.here hx rfl (hb hby at_99) rfl k
  by_cases hc22 : (((p1.toUInt32 >>> ((6 : Int32) &&& 31).toUInt32).toInt32) &&& (1 : Int32)) = (0 : Int32)
  · refine own_st (T' := T17) (g' := (mkF m 103 #[.val (.int p0), .val (.int p1), .val (.ref b1), .unset, .unset] [])) ?_ fun _ k => XS.ifNo X17.here hx rfl (hb hby at_100) rfl ((if0 _ _).trans (teq hc22).2) k
    refine own_st (T' := T17) (g' := (mkF m 104 #[.val (.int p0), .val (.int p1), .val (.ref b1), .unset, .unset] [(.int p0)])) ?_ fun _ k => XS.iloadN X17.here hx rfl (hb hby at_103) rfl k
    refine own_st (T' := T17) (g' := (mkF m 105 #[.val (.int p0), .val (.int p1), .val (.ref b1), .val (.int p0), .unset] [])) ?_ fun _ k => XS.istoreN X17.here hx rfl (hb hby at_104) rfl (l' := #[.val (.int p0), .val (.int p1), .val (.ref b1), .val (.int p0), .unset]) rfl k
    refine own_st (T' := T17) (g' := (mkF m 127 #[.val (.int p0), .val (.int p1), .val (.ref b1), .val (.int p0), .unset] [])) ?_ fun _ k => XS.goto X17.here hx rfl (pc0 := 105) (pc' := 127) rfl (hb hby at_105) (by decide) (by decide) k
    exact k127a _
  · refine own_st (T' := T17) (g' := (mkF m 108 #[.val (.int p0), .val (.int p1), .val (.ref b1), .unset, .unset] [])) ?_ fun _ k => XS.ifYes X17.here hx rfl (pc0 := 100) (pc' := 108) rfl (hb hby at_100) rfl ((if0 _ _).trans (feq hc22).2) (by decide) (by decide) k
    refine own_st (T' := T17) (g' := (mkF m 109 #[.val (.int p0), .val (.int p1), .val (.ref b1), .unset, .unset] [(.int p1)])) ?_ fun _ k => XS.iloadN X17.here hx rfl (hb hby at_108) rfl k
    refine own_st (T' := T17) (g' := (mkF m 110 #[.val (.int p0), .val (.int p1), .val (.ref b1), .unset, .unset] [(.int (4 : Int32)), (.int p1)])) ?_ fun _ k => XS.iconst X17.here hx rfl (hb hby at_109) k
    refine own_st (T' := T17) (g' := (mkF m 111 #[.val (.int p0), .val (.int p1), .val (.ref b1), .unset, .unset] [(.int ((p1.toUInt32 >>> ((4 : Int32) &&& 31).toUInt32).toInt32))])) ?_ fun _ k => XS.iushr X17.here hx rfl (hb hby at_110) rfl k
    refine own_st (T' := T17) (g' := (mkF m 112 #[.val (.int p0), .val (.int p1), .val (.ref b1), .unset, .unset] [(.int (3 : Int32)), (.int ((p1.toUInt32 >>> ((4 : Int32) &&& 31).toUInt32).toInt32))])) ?_ fun _ k => XS.iconst X17.here hx rfl (hb hby at_111) k
    refine own_st (T' := T17) (g' := (mkF m 113 #[.val (.int p0), .val (.int p1), .val (.ref b1), .unset, .unset] [(.int (((p1.toUInt32 >>> ((4 : Int32) &&& 31).toUInt32).toInt32) &&& (3 : Int32)))])) ?_ fun _ k => XS.iand X17.here hx rfl (hb hby at_112) rfl k
    refine own_st (T' := T17) (g' := (mkF m 114 #[.val (.int p0), .val (.int p1), .val (.ref b1), .unset, .unset] [(.int (1 : Int32)), (.int (((p1.toUInt32 >>> ((4 : Int32) &&& 31).toUInt32).toInt32) &&& (3 : Int32)))])) ?_ fun _ k => XS.iconst X17.here hx rfl (hb hby at_113) k
    refine own_st (T' := T17) (g' := (mkF m 115 #[.val (.int p0), .val (.int p1), .val (.ref b1), .unset, .unset] [(.int ((((p1.toUInt32 >>> ((4 : Int32) &&& 31).toUInt32).toInt32) &&& (3 : Int32)) - (1 : Int32)))])) ?_ fun _ k => XS.isub X17.here hx rfl (hb hby at_114) rfl k
    refine own_st (T' := T17) (g' := (mkF m 117 #[.val (.int p0), .val (.int p1), .val (.ref b1), .unset, .val (.int ((((p1.toUInt32 >>> ((4 : Int32) &&& 31).toUInt32).toInt32) &&& (3 : Int32)) - (1 : Int32)))] [])) ?_ fun _ k => XS.istore X17.here hx rfl (hb hby at_115) rfl (l' := #[.val (.int p0), .val (.int p1), .val (.ref b1), .unset, .val (.int ((((p1.toUInt32 >>> ((4 : Int32) &&& 31).toUInt32).toInt32) &&& (3 : Int32)) - (1 : Int32)))]) rfl k
    refine own_st (T' := T17) (g' := (mkF m 118 #[.val (.int p0), .val (.int p1), .val (.ref b1), .unset, .val (.int ((((p1.toUInt32 >>> ((4 : Int32) &&& 31).toUInt32).toInt32) &&& (3 : Int32)) - (1 : Int32)))] [(.ref b1)])) ?_ fun _ k => XS.aloadN X17.here hx rfl (hb hby at_117) rfl rfl k
    refine own_st (T' := T17) (g' := (mkF m 119 #[.val (.int p0), .val (.int p1), .val (.ref b1), .unset, .val (.int ((((p1.toUInt32 >>> ((4 : Int32) &&& 31).toUInt32).toInt32) &&& (3 : Int32)) - (1 : Int32)))] [(.int p1), (.ref b1)])) ?_ fun _ k => XS.iloadN X17.here hx rfl (hb hby at_118) rfl k
    refine own_st (T' := T17) (g' := (mkF m 121 #[.val (.int p0), .val (.int p1), .val (.ref b1), .unset, .val (.int ((((p1.toUInt32 >>> ((4 : Int32) &&& 31).toUInt32).toInt32) &&& (3 : Int32)) - (1 : Int32)))] [(.int (15 : Int32)), (.int p1), (.ref b1)])) ?_ fun _ k => XS.bipush X17.here hx rfl (hb hby at_119) k
    refine own_st (T' := T17) (g' := (mkF m 122 #[.val (.int p0), .val (.int p1), .val (.ref b1), .unset, .val (.int ((((p1.toUInt32 >>> ((4 : Int32) &&& 31).toUInt32).toInt32) &&& (3 : Int32)) - (1 : Int32)))] [(.int (p1 &&& (15 : Int32))), (.ref b1)])) ?_ fun _ k => XS.iand X17.here hx rfl (hb hby at_121) rfl k
    refine own_st (T' := T17) (g' := (mkF m 123 #[.val (.int p0), .val (.int p1), .val (.ref b1), .unset, .val (.int ((((p1.toUInt32 >>> ((4 : Int32) &&& 31).toUInt32).toInt32) &&& (3 : Int32)) - (1 : Int32)))] [(.int (f17 (p1 &&& (15 : Int32)).toInt.toNat))])) ?_ fun _ k => own_iaload X17 hx hZ e17 U17 (j := (p1 &&& (15 : Int32))) (own_m15 p1).1 (own_m15 p1).2 rfl (hb hby at_122) _ k
    refine own_st (T' := T17) (g' := (mkF m 125 #[.val (.int p0), .val (.int p1), .val (.ref b1), .unset, .val (.int ((((p1.toUInt32 >>> ((4 : Int32) &&& 31).toUInt32).toInt32) &&& (3 : Int32)) - (1 : Int32)))] [(.int ((((p1.toUInt32 >>> ((4 : Int32) &&& 31).toUInt32).toInt32) &&& (3 : Int32)) - (1 : Int32))), (.int (f17 (p1 &&& (15 : Int32)).toInt.toNat))])) ?_ fun _ k => XS.iload X17.here hx rfl (hb hby at_123) rfl k
    refine own_st (T' := T17) (g' := (mkF m 126 #[.val (.int p0), .val (.int p1), .val (.ref b1), .unset, .val (.int ((((p1.toUInt32 >>> ((4 : Int32) &&& 31).toUInt32).toInt32) &&& (3 : Int32)) - (1 : Int32)))] [(.int ((f17 (p1 &&& (15 : Int32)).toInt.toNat) + ((((p1.toUInt32 >>> ((4 : Int32) &&& 31).toUInt32).toInt32) &&& (3 : Int32)) - (1 : Int32))))])) ?_ fun _ k => XS.iadd X17.here hx rfl (hb hby at_125) rfl k
    refine own_st (T' := T17) (g' := (mkF m 127 #[.val (.int p0), .val (.int p1), .val (.ref b1), .val (.int ((f17 (p1 &&& (15 : Int32)).toInt.toNat) + ((((p1.toUInt32 >>> ((4 : Int32) &&& 31).toUInt32).toInt32) &&& (3 : Int32)) - (1 : Int32)))), .val (.int ((((p1.toUInt32 >>> ((4 : Int32) &&& 31).toUInt32).toInt32) &&& (3 : Int32)) - (1 : Int32)))] [])) ?_ fun _ k => XS.istoreN X17.here hx rfl (hb hby at_126) rfl (l' := #[.val (.int p0), .val (.int p1), .val (.ref b1), .val (.int ((f17 (p1 &&& (15 : Int32)).toInt.toNat) + ((((p1.toUInt32 >>> ((4 : Int32) &&& 31).toUInt32).toInt32) &&& (3 : Int32)) - (1 : Int32)))), .val (.int ((((p1.toUInt32 >>> ((4 : Int32) &&& 31).toUInt32).toInt32) &&& (3 : Int32)) - (1 : Int32)))]) rfl k
    exact k127b _ _
set_option maxRecDepth 65536 in
set_option maxHeartbeats 40000000 in
theorem comes_1 {Post : Tables → Env → Array Value → State → Outcome → State → Prop} (hpost : ∀ tb e args s v u, (limb_1_1.after args s (.returned v) u = true ∧ limb_1_2.after args s (.returned v) u = true ∧ True) → FrameEnd s (.returned v) u (Jvm.fieldLocs frame_1_writes args s ++ Jvm.arrayLocs frame_1_arrays args s ++ Jvm.staticLocs frame_1_statics s) 16 128 → Post tb e args s (.returned v) u) :
    ArmFor flags0 classFile x code maxLocals ret World_1 tables_1 room_1 Calls_1 rest_1 Pre_1 Post := by
  intro l hfl _ _ p e ha hc hk s m args below hf hA hF happ hP
  obtain ⟨hcalls, hrest, hpre⟩ := hP
  obtain ⟨-, -, -, hnamed, -, -, -, hat⟩ := (Spec.applies_iff hf).mp happ
  obtain ⟨hg, hn⟩ := and_e (Cond.before_iff.mp (show (Jvm.Cond.and given_1 narrow_1).before args s = true from hpre))
  obtain ⟨g1, g2⟩ := and_e hg
  obtain ⟨g3, g4⟩ := and_e g2
  obtain ⟨w0, w1, rfl⟩ : ∃ w0 w1 : Value, args = #[w0, w1] := by
    have hs : args.size = 2 := by simpa [Cond.value, given_1] using g1
    obtain ⟨L⟩ := args
    match L, hs with
    | [w0, w1], _ => exact ⟨w0, w1, rfl⟩
  have hw := fun d (hd : d ∈ tables_1) => atoms_spec (ws := Jvm.Cond.code x code maxLocals ret :: tables_1) hat d (List.mem_cons_of_mem _ hd)
  obtain ⟨i0, ei0⟩ := is_v g3
  obtain rfl : w0 = (.int i0) := Option.some.inj ei0
  obtain ⟨i1, ei1⟩ := is_v g4
  obtain rfl : w1 = (.int i1) := Option.some.inj ei1
  obtain ⟨n, o, h1, h2, h3, _, L, rfl, ⟨rfl, N⟩, hq⟩ := rm0 l s _ hw tables_1 i0 i1 s.heap s.heap.size (Nat.le_refl _) p e ha hc hk s m _ below hf ((Spec.applies_iff_loose hf).mp happ).1 ⟨rfl, State.Warmed39.refl s, rfl⟩ trivial
  refine ⟨n, _, h1, h2, h3, hpost _ _ _ _ _ _ ⟨Cond.after_iff.mpr rfl, Cond.after_iff.mpr (eq_i res_at (Term.int_eval (1)) rfl), trivial⟩ ⟨hq.1, hq.2.1, (hq.2.2.sift fun y hy => Or.inr (N y hy)).mono (by decide) (by decide)⟩⟩
theorem main_1_1 : Claimed_1_1 := comes_1 fun _ _ _ _ _ _ h hF => ⟨h.1, hF⟩
theorem main_1_2 : Claimed_1_2 := comes_1 fun _ _ _ _ _ _ h hF => ⟨h.2.1, hF⟩
end Jvm.Pilot.@@N@@
namespace Jvm.Pilot.@@N@@
open Jvm Jvm.ClassFile Sem Op Lib Jvm.Free Jvm.Stand Jvm.Pilot.@@N@@.Jvm.D
/-! MADE BY PROGRAM (witnessworld.py) out of the Statement's table words and the real class files: 9 classes; the members and pool entries that the words name. The judged class is class 1, her method 2. -/
namespace start1
open Jvm.ClassFile
def u (s : String) : CpInfo := .utf8 (stringToUtf16 s)
/-- a pool by its gaps: so many unusable entries, then the entry; so many at the end -/
def gap : Nat → List CpInfo → List CpInfo
  | 0, r => r
  | n + 1, r => .unusable :: gap n r
def poolList (es : List (Nat × CpInfo)) (last : Nat) : List CpInfo := es.foldr (fun e r => gap e.1 (e.2 :: r)) (gap last [])
def pool (es : List (Nat × CpInfo)) (last : Nat) : Array CpInfo := ⟨poolList es last⟩
def fileOf (pool : Array CpInfo) (this : Nat) (attrs : Array Attribute := #[]) (ms : Array MethodInfo := #[]) (fl : Nat := 33) (sup : Nat := 0) (ifs : Array Nat := #[]) (fds : Array FieldInfo := #[]) : ClassFile where
  minorVersion := 0
  majorVersion := 65
  constantPool := pool
  accessFlags := fl
  thisClass := this
  superClass := sup
  interfaces := ifs
  fields := fds
  methods := ms
  attributes := attrs
def plain (name : String) (sup : Option ClassId) : Class where
  name := name
  kind := .ordinary
  loader := none
  accessFlags := 33
  super := sup
  interfaces := #[]
  cf := none
  fields := #[]
  methods := #[]
  instanceTypes := #[]
  staticTypes := #[]
  resolved := #[]
  callSites := []
  init := .initialized
  statics := none
  mirror := none

def pool0 : Array CpInfo := pool [(5, u "<init>"), (0, u "()V"), (1, .class_ 10), (1, u "java/lang/Object")] 113

def k0m0 : Method := { name := "<init>", desc := "()V", sig := { parameters := [], returnType := none }, accessFlags := 1, code := none }
/-- java/lang/Object -/
def k0 : Class := { plain "java/lang/Object" none with
  accessFlags := 33
  interfaces := #[]
  cf := some (fileOf pool0 8 #[] #[{ accessFlags := 1, nameIndex := 5, descriptorIndex := 6, attributes := #[] }] 33 0 #[] #[])
  fields := #[]
  methods := #[k0m0]
  instanceTypes := #[]
  staticTypes := #[]
  resolved := Array.replicate 124 none
  statics := none }

def pool1 : Array CpInfo := pool [(2, .class_ 4), (1, u "java/lang/Object"), (0, u "<init>"), (0, u "()V"), (0, .integer 1114111), (0, .integer 55296), (0, .integer 57343), (0, .integer 65534), (0, .integer 65535), (0, .integer 55295), (0, .integer 57344), (0, .integer 65533), (0, .integer 65536), (2, .integer 2147483648), (0, .integer 2147483647), (0, .methodref 21 22), (0, .class_ 23), (0, .nameAndType 24 25), (0, u "com/example/markup_into_tree/markupintotree/model/XmlChars"), (0, u "isChar"), (0, u "(I)Z"), (0, .methodref 27 28), (0, .class_ 29), (0, .nameAndType 30 25), (0, u "com/example/markup_into_tree/markupintotree/model/XmlCharsIsCharPinLaw"), (0, u "expected"), (3, u "law"), (0, u "(II)Z")] 4

def k1m0 : Method := { name := "<init>", desc := "()V", sig := { parameters := [], returnType := none }, accessFlags := 2, code := none }
def k1c1 : Code := { maxStack := 2, maxLocals := 1, code := method_2_code, exceptionTable := #[], attributes := #[] }
def k1m1 : Method := { name := "expected", desc := "(I)Z", sig := { parameters := [.int], returnType := some .boolean }, accessFlags := 10, code := some k1c1 }
def k1c2 : Code := { maxStack := 4, maxLocals := 5, code := code, exceptionTable := #[], attributes := #[] }
def k1m2 : Method := { name := "law", desc := "(II)Z", sig := { parameters := [.int, .int], returnType := some .boolean }, accessFlags := 9, code := some k1c2 }
/-- com/example/markup_into_tree/markupintotree/model/XmlCharsIsCharPinLaw -/
def k1 : Class := { plain "com/example/markup_into_tree/markupintotree/model/XmlCharsIsCharPinLaw" (some 0) with
  accessFlags := 49
  interfaces := #[]
  cf := some (fileOf pool1 27 #[] #[{ accessFlags := 2, nameIndex := 5, descriptorIndex := 6, attributes := #[] }, { accessFlags := 10, nameIndex := 30, descriptorIndex := 25, attributes := #[] }, { accessFlags := 9, nameIndex := 34, descriptorIndex := 35, attributes := #[] }] 49 2 #[] #[])
  fields := #[]
  methods := #[k1m0, k1m1, k1m2]
  instanceTypes := #[]
  staticTypes := #[]
  resolved := Array.replicate 40 none
  statics := none }

def pool2 : Array CpInfo := pool [(2, .class_ 4), (1, u "java/lang/Object"), (0, u "<init>"), (0, u "()V"), (0, .integer 55295), (0, .integer 57344), (0, .integer 65533), (0, .integer 65536), (0, .integer 1114111), (1, .class_ 15), (1, u "com/example/markup_into_tree/markupintotree/model/XmlChars"), (1, u "(I)Z"), (2, u "ASCII_NAME_START"), (0, u "[Z"), (2, u "NAME_START_RANGES"), (0, u "[[I"), (6, u "ASCII_NAME"), (2, u "NAME_ONLY_RANGES"), (38, u "PUBID_PUNCTUATION"), (0, u "Ljava/lang/String;"), (1, u "ASCII"), (0, u "I"), (3, u "isChar")] 28

def k2m0 : Method := { name := "<init>", desc := "()V", sig := { parameters := [], returnType := none }, accessFlags := 2, code := none }
def k2c1 : Code := { maxStack := 2, maxLocals := 1, code := prog_38_method_2_code, exceptionTable := #[], attributes := #[] }
def k2m1 : Method := { name := "isChar", desc := "(I)Z", sig := { parameters := [.int], returnType := some .boolean }, accessFlags := 9, code := some k2c1 }
/-- com/example/markup_into_tree/markupintotree/model/XmlChars -/
def k2 : Class := { plain "com/example/markup_into_tree/markupintotree/model/XmlChars" (some 0) with
  accessFlags := 33
  interfaces := #[]
  cf := some (fileOf pool2 13 #[] #[{ accessFlags := 2, nameIndex := 5, descriptorIndex := 6, attributes := #[] }, { accessFlags := 9, nameIndex := 82, descriptorIndex := 17, attributes := #[] }] 33 2 #[] #[{ accessFlags := 26, nameIndex := 24, descriptorIndex := 25, attributes := #[] }, { accessFlags := 26, nameIndex := 35, descriptorIndex := 25, attributes := #[] }, { accessFlags := 26, nameIndex := 74, descriptorIndex := 75, attributes := #[] }, { accessFlags := 26, nameIndex := 77, descriptorIndex := 78, attributes := #[] }, { accessFlags := 26, nameIndex := 20, descriptorIndex := 21, attributes := #[] }, { accessFlags := 26, nameIndex := 32, descriptorIndex := 21, attributes := #[] }])
  fields := #[{ name := "NAME_START_RANGES", type := (.array (.array .int)), accessFlags := 26, slot := 0, constantValue := 0 }, { name := "NAME_ONLY_RANGES", type := (.array (.array .int)), accessFlags := 26, slot := 1, constantValue := 0 }, { name := "PUBID_PUNCTUATION", type := (.object "java/lang/String"), accessFlags := 26, slot := 2, constantValue := 0 }, { name := "ASCII", type := .int, accessFlags := 26, slot := 3, constantValue := 0 }, { name := "ASCII_NAME_START", type := (.array .boolean), accessFlags := 26, slot := 4, constantValue := 0 }, { name := "ASCII_NAME", type := (.array .boolean), accessFlags := 26, slot := 5, constantValue := 0 }]
  methods := #[k2m0, k2m1]
  instanceTypes := #[]
  staticTypes := #[(.array (.array .int)), (.array (.array .int)), (.object "java/lang/String"), .int, (.array .boolean), (.array .boolean)]
  resolved := Array.replicate 111 none
  statics := none }

def pool3 : Array CpInfo := pool [(1, u "java/lang/Cloneable"), (0, .class_ 1), (0, u "java/lang/Object"), (0, .class_ 3)] 3

/-- java/lang/Cloneable -/
def k3 : Class := { plain "java/lang/Cloneable" (some 0) with
  accessFlags := 1537
  interfaces := #[]
  cf := some (fileOf pool3 2 #[] #[] 1537 4 #[] #[])
  fields := #[]
  methods := #[]
  instanceTypes := #[]
  staticTypes := #[]
  resolved := Array.replicate 8 none
  statics := none }

def pool4 : Array CpInfo := pool [(1, u "java/io/Serializable"), (0, .class_ 1), (0, u "java/lang/Object"), (0, .class_ 3)] 3

/-- java/io/Serializable -/
def k4 : Class := { plain "java/io/Serializable" (some 0) with
  accessFlags := 1537
  interfaces := #[]
  cf := some (fileOf pool4 2 #[] #[] 1537 4 #[] #[])
  fields := #[]
  methods := #[]
  instanceTypes := #[]
  staticTypes := #[]
  resolved := Array.replicate 8 none
  statics := none }

/-- the primitive byte -/
def k5 : Class := { plain "byte" none with kind := .primitive 'B', accessFlags := 0x411 }
/-- [B -/
def k6 : Class := { plain "[B" (some 0) with kind := .array 5 .byte, interfaces := #[3, 4], accessFlags := 1041 }

/-- the primitive int -/
def k7 : Class := { plain "int" none with kind := .primitive 'I', accessFlags := 0x411 }
/-- [I -/
def k8 : Class := { plain "[I" (some 0) with kind := .array 7 .int, interfaces := #[3, 4], accessFlags := 1041 }

def heap : Heap := #[]
def classes : Array Class := #[k0, k1, k2, k3, k4, k5, k6, k7, k8]
def interned : List (Array UInt16 × Addr) := []
def slotsUsed : Nat := 0
def theMethod : MethodId := ⟨1, 2⟩
def args0 : Array Value := #[.int 5, .int 9]
def aboutOver (below : List Frame) : State where
  vm := { classes := classes, interned := interned.toArray }
  heap := heap
  slotsUsed := slotsUsed
  threads := #[{ frames := .invoking theMethod args0 :: below }]
def below0 : List Frame := [.native { method := ⟨0, 0⟩, args := #[] }]
def about1 : State := aboutOver below0
def p0 : Program := .bare "" "" ""
def e0 : Env := launch0.env 0 0 0
theorem w_frames : about1.frames = Frame.invoking theMethod args0 :: below0 := rfl
set_option maxRecDepth 65536 in
theorem w_args : argsFit about1.vm theMethod args0 = true := by decide +kernel
set_option maxRecDepth 65536 in
theorem w_heap : heapFits about1 = true := by decide +kernel
set_option maxRecDepth 65536 in
theorem w_runnable : about1.curStatus? = some .runnable := by decide +kernel
set_option maxRecDepth 65536 in
theorem w_alone : about1.alone = true := by decide +kernel
set_option maxRecDepth 65536 in
theorem w_named : about1.methodNamed? x = some theMethod := by decide +kernel
set_option maxRecDepth 65536 in
theorem w_hears : about1.hears theMethod below0 = true := by decide +kernel
set_option maxRecDepth 65536 in
theorem w_ripe : about1.ripe theMethod args0 below0 = true := by decide +kernel
theorem w_running : about1.status = .running := rfl
set_option maxRecDepth 65536 in
theorem w_room : about1.hasRoom e0.platform room_1 = true :=
  launch0.hasRoom_least _ room_1 (by decide +kernel) (by decide +kernel) (by decide +kernel) (by decide +kernel) (by decide +kernel) (by decide +kernel)
theorem allAtoms_all (ts : List Jvm.Cond) (a : Array Jvm.Value) (st : Jvm.State) : (allAtoms ts).before a st = ts.all (fun c => c.before a st) := by
  induction ts with
  | nil => rfl
  | cons c t ih =>
    show (Jvm.Cond.and c (allAtoms t)).before a st = _
    rw [Jvm.Cond.before_and, ih, List.all_cons]
def words1 : List Jvm.Cond := Jvm.Cond.code x code maxLocals ret :: tables_1
/-- a 'code' word, met by the world's own term for the bytes: nothing is compared byte by byte -/
theorem code_word {y : MethodName} {bytes : ByteArray} {mx : Nat} {rt : Option FieldType} {a : Array Value} {s : State} {m : MethodId} {meth : Method} {c : Code} (h1 : s.methodNamed? y = some m) (h2 : s.vm.method? m = some meth) (h3 : meth.code = some c) (h4 : c.code = bytes)
    (h5 : (c.maxLocals == mx && c.exceptionTable.isEmpty && decide (c.maxStack ≤ mostOperands) && decide (meth.sig.returnType = rt) && !meth.locks && decide (parseMethodDescriptor y.desc = some meth.sig)) = true) : (Jvm.Cond.code y bytes mx rt).before a s = true := by
  simp only [Bool.and_eq_true, beq_iff_eq, Bool.not_eq_true', decide_eq_true_eq] at h5
  obtain ⟨⟨⟨⟨⟨g1, g2⟩, g3⟩, g4⟩, g5⟩, g6⟩ := h5
  simp [Cond.before, Cond.holds, Cond.value, h1, h2, h3, h4, g1, g2, g3, g4, g5, g6]
def isCode : Jvm.Cond → Bool
  | .code _ _ _ _ => true
  | _ => false
theorem all_split {L : List Jvm.Cond} {P : Jvm.Cond → Bool} (h1 : L.all (fun c => isCode c || P c) = true) (h2 : ∀ c ∈ L.filter isCode, P c = true) : L.all P = true := by
  refine List.all_eq_true.mpr fun c hc => ?_
  have h := List.all_eq_true.mp h1 c hc
  rcases Bool.eq_false_or_eq_true (isCode c) with hi | hi
  · exact h2 c (List.mem_filter.mpr ⟨hc, hi⟩)
  · simpa [hi] using h
set_option maxRecDepth 65536 in
theorem w_c0 : (Jvm.Cond.code x code maxLocals ret).before args0 about1 = true := code_word (m := ⟨1, 2⟩) (meth := k1m2) (c := k1c2) (by decide +kernel) rfl rfl rfl (by decide +kernel)
set_option maxRecDepth 65536 in
theorem w_c1 : (Jvm.Cond.code ({ cls := "com/example/markup_into_tree/markupintotree/model/XmlChars", name := "isChar", desc := "(I)Z" } : Jvm.MethodName) prog_38_method_2_code (1 : Nat) (Option.some Jvm.ClassFile.FieldType.boolean)).before args0 about1 = true := code_word (m := ⟨2, 1⟩) (meth := k2m1) (c := k2c1) (by decide +kernel) rfl rfl rfl (by decide +kernel)
set_option maxRecDepth 65536 in
theorem w_c2 : (Jvm.Cond.code ({ cls := "com/example/markup_into_tree/markupintotree/model/XmlCharsIsCharPinLaw", name := "expected", desc := "(I)Z" } : Jvm.MethodName) method_2_code (1 : Nat) (Option.some Jvm.ClassFile.FieldType.boolean)).before args0 about1 = true := code_word (m := ⟨1, 1⟩) (meth := k1m1) (c := k1c1) (by decide +kernel) rfl rfl rfl (by decide +kernel)
def codes1 : List Jvm.Cond := [Jvm.Cond.code x code maxLocals ret, Jvm.Cond.code ({ cls := "com/example/markup_into_tree/markupintotree/model/XmlChars", name := "isChar", desc := "(I)Z" } : Jvm.MethodName) prog_38_method_2_code (1 : Nat) (Option.some Jvm.ClassFile.FieldType.boolean), Jvm.Cond.code ({ cls := "com/example/markup_into_tree/markupintotree/model/XmlCharsIsCharPinLaw", name := "expected", desc := "(I)Z" } : Jvm.MethodName) method_2_code (1 : Nat) (Option.some Jvm.ClassFile.FieldType.boolean)]
set_option maxRecDepth 65536 in
theorem codes_eq : words1.filter isCode = codes1 := rfl
theorem w_codes : ∀ c ∈ words1.filter isCode, c.before args0 about1 = true := by
  rw [codes_eq]
  intro c hc
  simp only [codes1, List.mem_cons, List.not_mem_nil, or_false] at hc
  rcases hc with rfl | rfl | rfl
  · exact w_c0
  · exact w_c1
  · exact w_c2
set_option maxRecDepth 65536 in
theorem w_t1 : (words1.take 24).all (fun c => isCode c || c.before args0 about1) = true := by decide +kernel
set_option maxRecDepth 65536 in
theorem w_t2 : (words1.drop 24).all (fun c => isCode c || c.before args0 about1) = true := by decide +kernel
theorem w_tables : (allAtoms (Jvm.Cond.code x code maxLocals ret :: tables_1)).before args0 about1 = true := by
  rw [allAtoms_all]
  show words1.all (fun c => c.before args0 about1) = true
  refine all_split ?_ w_codes
  rw [← List.take_append_drop 24 words1, List.all_append, w_t1, w_t2]
  rfl
set_option maxRecDepth 65536 in
theorem w_case : (Jvm.Cond.and given_1 narrow_1).before args0 about1 = true := by decide +kernel
theorem w_applies : (headSpec (Jvm.Cond.code x code maxLocals ret :: tables_1) room_1).applies x e0.platform about1 = true :=
  (Spec.applies_iff w_frames).mpr ⟨w_running, w_runnable, w_alone, w_named, w_hears, w_ripe, w_room, w_tables⟩
theorem atStart : AtStart classFile x code maxLocals ret World_1 tables_1 room_1 Calls_1 rest_1 Pre_1 launch0 p0 e0 about1 theMethod args0 below0 :=
  ⟨lists_1, trivial, launch0.admits_env _ _ _, launch0.least_env, fairChoices_fair.cas, fairChoices_fair.clock, w_frames, w_args, w_heap, w_applies, trivial, trivial, w_case⟩
end start1
theorem witness_1 : WitnessClaimed_1 := ⟨start1.p0, start1.e0, start1.about1, start1.theMethod, start1.args0, start1.below0, start1.atStart⟩
end Jvm.Pilot.@@N@@
