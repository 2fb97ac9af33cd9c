import JvmDerived
import JvmDerived.Pilot.@@N@@Statement
import JvmDerived.Pilot.@@N@@Code
set_option linter.unusedVariables false
set_option linter.unusedSimpArgs false
namespace Jvm.Pilot.@@N@@
open Jvm Jvm.ClassFile Sem Op Lib Jvm.Free Jvm.Stand Jvm.LawKit Jvm.RoadKit Bundle Jvm.Pilot.@@N@@.Jvm.D
section Own
variable {p : Program} {l : Launch} {e : Env} {R : Room} {s : State} {m : MethodId} {args : Array Value} {below : List Frame} {meth : Method} {c : Code} {T : State} {locs : List Loc} {cells slots : Nat}
/-- from this frame on the run comes to an end of which Φ holds -/
def own_Go (tb : Tables) (e : Env) (below : List Frame) (T : State) (g : JFrame) (Φ : State → Outcome → Prop) : Prop :=
  ∃ s₂ o, Steps tb e below (T.setTop g) s₂ ∧ s₂.status = .running ∧ Ended s₂ below o ∧ Φ s₂ o
def own_End (s : State) (Q : Option Value → Heap → List Loc → Prop) (k n : Nat) (t : State) (o : Outcome) : Prop := ∃ v L, o = .returned v ∧ Q v t.heap L ∧ FrameEnd s o t L k n
theorem own_st {tb : Tables} {T' : State} {g g' : JFrame} {Φ : State → Outcome → Prop} (h : own_Go tb e below T' g' Φ) (k : ∀ t, Steps tb e below (T'.setTop g') t → Steps tb e below (T.setTop g) t) : own_Go tb e below T g Φ := by
  obtain ⟨s₂, o, h1, h2⟩ := h
  exact ⟨s₂, o, k _ h1, h2⟩
theorem own_in {tb : Tables} {g g' : JFrame} {Q : Option Value → Heap → List Loc → Prop} {k n : Nat} (q : g = g') (h : own_Go tb e below T g' (own_End s Q k n)) : ∃ s₂ o, Steps tb e below (T.setTop g) s₂ ∧ s₂.status = .running ∧ Ended s₂ below o ∧ ∃ v L, o = .returned v ∧ Q v s₂.heap L ∧ FrameEnd s o s₂ L k n := by
  subst q
  exact h
theorem own_ret (X : Stand p l e R s m args below meth c T locs cells slots) (hlocks : meth.locks = false) {g : JFrame} {v : Option Value} (hv : meth.sig.returnType = none → v = none) {Q : Option Value → Heap → List Loc → Prop} {k n : Nat} (hk : cells ≤ k) (hn : slots ≤ n) (hQ : Q v T.heap locs)
    (hst : ∀ fs, (∀ (f : JFrame) (acts : List Action), f.method = m → f.locked = none → f.entered = [] → (doReturn e (T.setTop f) acts v).1 = T.setFrames fs) → Steps p.tables e below (T.setTop g) (T.setFrames fs)) : own_Go p.tables e below T g (own_End s Q k n) := by
  obtain ⟨fs, hr, hrun, hended, hW, hsame⟩ := X.leave (v := v) hv hlocks
  exact ⟨_, _, hst fs hr, hrun, hended, _, _, rfl, hQ, ⟨_, rfl⟩, hW, hsame.mono hk hn⟩
theorem own_retZ (X : Stand p l e R s m args below meth c T locs cells slots) (hx : p.tables.exec = Jvm.exec) (hlocks : meth.locks = false) {pc : Nat} {Ls : Array Slot} {z : Int32} {rest : List Value} (hret : meth.sig.returnType = some .boolean) (hd : decode c.code pc = .ok (.ireturn, 1)) {Q : Option Value → Heap → List Loc → Prop} {k n : Nat} (hk : cells ≤ k) (hn : slots ≤ n) (hz : z &&& 1 = z) (hQ : Q (some (.int z)) T.heap locs) :
    own_Go p.tables e below T (mkF m pc Ls (.int z :: rest)) (own_End s Q k n) :=
  own_ret X hlocks (fun h => by rw [hret] at h; cases h) hk hn hQ fun fs hr => retOut X hx hret (by show Value.int (z &&& 1) = _; rw [hz]) (Or.inl ⟨rfl, Or.inr (Or.inl rfl), _, rfl⟩) hd hr
theorem own_retI (X : Stand p l e R s m args below meth c T locs cells slots) (hx : p.tables.exec = Jvm.exec) (hlocks : meth.locks = false) {pc : Nat} {Ls : Array Slot} {z : Int32} {rest : List Value} (hret : meth.sig.returnType = some .int) (hd : decode c.code pc = .ok (.ireturn, 1)) {Q : Option Value → Heap → List Loc → Prop} {k n : Nat} (hk : cells ≤ k) (hn : slots ≤ n) (hQ : Q (some (.int z)) T.heap locs) :
    own_Go p.tables e below T (mkF m pc Ls (.int z :: rest)) (own_End s Q k n) :=
  own_ret X hlocks (fun h => by rw [hret] at h; cases h) hk hn hQ fun fs hr => retOut X hx hret rfl (Or.inl ⟨rfl, Or.inl rfl, _, rfl⟩) hd hr
theorem own_retJ (X : Stand p l e R s m args below meth c T locs cells slots) (hx : p.tables.exec = Jvm.exec) (hlocks : meth.locks = false) {pc : Nat} {Ls : Array Slot} {z : Int64} {rest : List Value} (hret : meth.sig.returnType = some .long) (hd : decode c.code pc = .ok (.lreturn, 1)) {Q : Option Value → Heap → List Loc → Prop} {k n : Nat} (hk : cells ≤ k) (hn : slots ≤ n) (hQ : Q (some (.long z)) T.heap locs) :
    own_Go p.tables e below T (mkF m pc Ls (.long z :: rest)) (own_End s Q k n) :=
  own_ret X hlocks (fun h => by rw [hret] at h; cases h) hk hn hQ fun fs hr => retOut X hx hret rfl (Or.inr (Or.inl ⟨rfl, rfl, _, rfl⟩)) hd hr
theorem own_retA (X : Stand p l e R s m args below meth c T locs cells slots) (hx : p.tables.exec = Jvm.exec) (hlocks : meth.locks = false) {pc : Nat} {Ls : Array Slot} {z : Addr} {rest : List Value} {C : String} (hret : meth.sig.returnType = some (.object C)) (hd : decode c.code pc = .ok (.areturn, 1)) {Q : Option Value → Heap → List Loc → Prop} {k n : Nat} (hk : cells ≤ k) (hn : slots ≤ n) (hQ : Q (some (.ref z)) T.heap locs) :
    own_Go p.tables e below T (mkF m pc Ls (.ref z :: rest)) (own_End s Q k n) :=
  own_ret X hlocks (fun h => by rw [hret] at h; cases h) hk hn hQ fun fs hr => retOut X hx hret rfl (Or.inr (Or.inr (Or.inr (Or.inr ⟨rfl, rfl, rfl⟩)))) hd hr
theorem own_retV (X : Stand p l e R s m args below meth c T locs cells slots) (hx : p.tables.exec = Jvm.exec) (hlocks : meth.locks = false) {pc : Nat} {Ls : Array Slot} (hret : meth.sig.returnType = none) (hd : decode c.code pc = .ok (.return_, 1)) {Q : Option Value → Heap → List Loc → Prop} {k n : Nat} (hk : cells ≤ k) (hn : slots ≤ n) (hQ : Q none T.heap locs) :
    own_Go p.tables e below T (mkF m pc Ls []) (own_End s Q k n) :=
  own_ret X hlocks (fun _ => rfl) hk hn hQ fun fs hr => X.returnOut hx hret hd hr
/-- a truth as Java's int -/
def own_b (b : Bool) : Int32 := if b then 1 else 0
theorem own_bt {b : Bool} (h : b = true) : own_b b = 1 := by rw [h]; rfl
theorem own_bf {b : Bool} (h : b = false) : own_b b = 0 := by rw [h]; rfl
theorem own_bz {a : Bool} : own_b a = 0 ↔ a = false := by cases a <;> decide
theorem own_bo {a : Bool} : own_b a = 1 ↔ a = true := by cases a <;> decide
theorem own_zb {a : Bool} : 0 = own_b a ↔ a = false := by cases a <;> decide
theorem own_ob {a : Bool} : 1 = own_b a ↔ a = true := by cases a <;> decide
theorem own_binj {a b : Bool} : own_b a = own_b b ↔ a = b := by cases a <;> cases b <;> decide
theorem own_b1 (a : Bool) : own_b a &&& 1 = own_b a := by cases a <;> decide
end Own
section OwnA
variable {p : Program} {l : Launch} {e : Env} {R : Room} {s : State} {m : MethodId} {args : Array Value} {below : List Frame} {meth : Method} {c : Code} {T : State} {locs : List Loc} {cells slots : Nat} {Z : State} {h h' : Heap} {a b : Addr} {ty : FieldType} {n : Nat} {f g : Nat → Value} {v : Value} {sl : Nat} {ws : List Addr}
/-- an array of n places; f says what lies in each -/
def own_A (Z : State) (h : Heap) (a : Addr) (ty : FieldType) (n : Nat) (f : Nat → Value) : Prop := ∃ c : Cell, Arr Z h a c ty ∧ c.slots.size = n ∧ ∀ i, i < n → c.slots[i]? = some (f i)
theorem own_A.lt (F : own_A Z h a ty n f) : a < h.size := by obtain ⟨c, A, -⟩ := F; exact A.lt
theorem own_A.ext (F : own_A Z h a ty n f) (E : Ext h h') : own_A Z h' a ty n f := by obtain ⟨c, A, r⟩ := F; exact ⟨c, A.ext E, r⟩
theorem own_A.other (F : own_A Z h b ty n f) (W : Wr h h' a sl v) (q : b ≠ a) : own_A Z h' b ty n f := by obtain ⟨c, A, r⟩ := F; exact ⟨c, A.other W q, r⟩
theorem own_A.keep (F : own_A Z h a ty n f) (K : Keep h h' ws) (q : a ∉ ws) : own_A Z h' a ty n f := by obtain ⟨c, A, r⟩ := F; exact ⟨c, ⟨K.2.1 a c A.1 q, A.2⟩, r⟩
theorem own_A.congr (F : own_A Z h a ty n f) (q : ∀ i, i < n → f i = g i) : own_A Z h a ty n g := by obtain ⟨c, A, s, H⟩ := F; exact ⟨c, A, s, fun i hi => by rw [← q i hi]; exact H i hi⟩
theorem own_A.new {k : ClassId} {z : Int32} (A : Arr Z h a (newA k ty z) ty) (hn : z.toInt.toNat = n) : own_A Z h a ty n (fun _ => defaultValue ty) := by
  subst hn
  refine ⟨_, A, sz_new _ _ _, fun i hi => ?_⟩
  have hi' : i < z.toNatClampNeg := hi
  simp [newA, hi']
theorem own_A.set {j : Nat} (F : own_A Z h a ty n f) (W : Wr h h' a j v) : own_A Z h' a ty n (fun i => if i = j then v else f i) := by
  obtain ⟨c, A, q, H⟩ := F
  refine ⟨c.setSlot j v, A.same W, by rw [sz_set]; exact q, fun i hi => ?_⟩
  show (c.slots.setIfInBounds j v)[i]? = _
  rw [Array.getElem?_setIfInBounds]
  by_cases e : j = i
  · subst e
    have : j < c.slots.size := by omega
    simp [this]
  · have e' : ¬ i = j := fun q => e q.symm
    simp [e, e', H i hi]
theorem own_A.setI {j : Nat} {x : Int32} {f : Nat → Int32} (F : own_A Z h a ty n (fun i => .int (f i))) (W : Wr h h' a j (.int x)) : own_A Z h' a ty n (fun i => .int (if i = j then x else f i)) := (F.set W).congr fun i _ => by split <;> rfl
theorem own_A.setJ {j : Nat} {x : Int64} {f : Nat → Int64} (F : own_A Z h a ty n (fun i => .long (f i))) (W : Wr h h' a j (.long x)) : own_A Z h' a ty n (fun i => .long (if i = j then x else f i)) := (F.set W).congr fun i _ => by split <;> rfl
theorem own_ix {j : Int32} (hj : 0 ≤ j.toInt) (hn : j.toInt < n) {cl : Cell} (q : cl.slots.size = n) : ¬ (j < 0 ∨ cl.slots.size ≤ j.toNatClampNeg) := by
  have e0 : (0 : Int32).toInt = 0 := by decide
  have e1 : j.toNatClampNeg = j.toInt.toNat := rfl
  rw [Int32.lt_iff_toInt_lt, e0, e1]
  omega
theorem own_A.at {j : Int32} (F : own_A Z h a ty n f) (hj : 0 ≤ j.toInt) (hn : j.toInt < n) : ∃ cl : Cell, Arr Z h a cl ty ∧ ¬ (j < 0 ∨ cl.slots.size ≤ j.toNatClampNeg) ∧ cl.slots[j.toNatClampNeg]? = some (f j.toInt.toNat) := by
  obtain ⟨c, A, q, H⟩ := F
  exact ⟨c, A, own_ix hj hn q, H _ (by have e1 : j.toNatClampNeg = j.toInt.toNat := rfl; omega)⟩
theorem own_iaload (X : Stand p l e R s m args below meth c T locs cells slots) (hx : p.tables.exec = Jvm.exec) (hZ : Z.Warmed39 s.vm) (eT : T.heap = h) (A : own_A Z h a .int n f) {j : Int32} (hj : 0 ≤ j.toInt) (hn : j.toInt < n) (hv : f j.toInt.toNat = v) {pc : Nat} {Ls : Array Slot} {rest : List Value} (hd : decode c.code pc = .ok (.iaload, 1)) (target : State)
    (k : Steps p.tables e below (T.setTop (mkF m (pc + 1) Ls (v :: rest))) target) : Steps p.tables e below (T.setTop (mkF m pc Ls (.int j :: .ref a :: rest))) target := by
  obtain ⟨cl, Ar, hin, hat⟩ := A.at hj hn
  exact X.iaload hx (j := j) (v := v) (by rw [eT]; exact Ar.1) (State.isArrayOf_alike hZ.alike Ar.2.1) Ar.2.2 hin (by rw [hat, hv]) (g := mkF m pc Ls (.int j :: .ref a :: rest)) rfl rfl hd target k
theorem own_laload (X : Stand p l e R s m args below meth c T locs cells slots) (hx : p.tables.exec = Jvm.exec) (hZ : Z.Warmed39 s.vm) (eT : T.heap = h) (A : own_A Z h a .long n f) {j : Int32} (hj : 0 ≤ j.toInt) (hn : j.toInt < n) (hv : f j.toInt.toNat = v) {pc : Nat} {Ls : Array Slot} {rest : List Value} (hd : decode c.code pc = .ok (.laload, 1)) (target : State)
    (k : Steps p.tables e below (T.setTop (mkF m (pc + 1) Ls (v :: rest))) target) : Steps p.tables e below (T.setTop (mkF m pc Ls (.int j :: .ref a :: rest))) target := by
  obtain ⟨cl, Ar, hin, hat⟩ := A.at hj hn
  exact X.laload hx (j := j) (v := v) (by rw [eT]; exact Ar.1) (State.isArrayOf_alike hZ.alike Ar.2.1) Ar.2.2 hin (by rw [hat, hv]) (g := mkF m pc Ls (.int j :: .ref a :: rest)) rfl rfl hd target k
theorem own_baload (X : Stand p l e R s m args below meth c T locs cells slots) (hx : p.tables.exec = Jvm.exec) (hZ : Z.Warmed39 s.vm) (eT : T.heap = h) (A : own_A Z h a .byte n f) {j : Int32} (hj : 0 ≤ j.toInt) (hn : j.toInt < n) (hv : f j.toInt.toNat = v) {pc : Nat} {Ls : Array Slot} {rest : List Value} (hd : decode c.code pc = .ok (.baload, 1)) (target : State)
    (k : Steps p.tables e below (T.setTop (mkF m (pc + 1) Ls (v :: rest))) target) : Steps p.tables e below (T.setTop (mkF m pc Ls (.int j :: .ref a :: rest))) target := by
  obtain ⟨cl, Ar, hin, hat⟩ := A.at hj hn
  exact X.baloadBytes hx (j := j) (v := v) (by rw [eT]; exact Ar.1) (State.isArrayOf_alike hZ.alike Ar.2.1) Ar.2.2 hin (by rw [hat, hv]) (g := mkF m pc Ls (.int j :: .ref a :: rest)) rfl rfl hd target k
theorem own_len (X : Stand p l e R s m args below meth c T locs cells slots) (hx : p.tables.exec = Jvm.exec) (hZ : Z.Warmed39 s.vm) (eT : T.heap = h) (A : own_A Z h a ty n f) {z : Int32} (hz : n.toInt32 = z) {pc : Nat} {Ls : Array Slot} {rest : List Value} (hd : decode c.code pc = .ok (.arraylength, 1)) (target : State)
    (k : Steps p.tables e below (T.setTop (mkF m (pc + 1) Ls (.int z :: rest))) target) : Steps p.tables e below (T.setTop (mkF m pc Ls (.ref a :: rest))) target := by
  obtain ⟨cl, Ar, q, -⟩ := A
  refine X.arraylength hx (by rw [eT]; exact Ar.1) (State.isArrayOf_alike hZ.alike Ar.2.1) (g := mkF m pc Ls (.ref a :: rest)) rfl rfl hd target ?_
  rw [q, hz]
  exact k
theorem own_iastore (X : Stand p l e R s m args below meth c T locs cells slots) (hx : p.tables.exec = Jvm.exec) (hZ : Z.Warmed39 s.vm) (eT : T.heap = h) (A : own_A Z h a .int n f) {j x : Int32} (hj : 0 ≤ j.toInt) (hn : j.toInt < n) {pc : Nat} {Ls : Array Slot} {rest : List Value} (hd : decode c.code pc = .ok (.iastore, 1)) :
    ∃ T' h', Stand p l e R s m args below meth c T' (locs ++ [⟨a, j.toInt.toNat⟩]) cells slots ∧ T'.heap = h' ∧ Wr h h' a j.toInt.toNat (.int x) ∧ ∀ target, Steps p.tables e below (T'.setTop (mkF m (pc + 1) Ls rest)) target → Steps p.tables e below (T.setTop (mkF m pc Ls (.int x :: .int j :: .ref a :: rest))) target := by
  obtain ⟨cl, Ar, hin, -⟩ := A.at hj hn
  exact stI X hx hZ eT Ar hin (g := mkF m pc Ls (.int x :: .int j :: .ref a :: rest)) rfl rfl hd
theorem own_lastore (X : Stand p l e R s m args below meth c T locs cells slots) (hx : p.tables.exec = Jvm.exec) (hZ : Z.Warmed39 s.vm) (eT : T.heap = h) (A : own_A Z h a .long n f) {j : Int32} {x : Int64} (hj : 0 ≤ j.toInt) (hn : j.toInt < n) {pc : Nat} {Ls : Array Slot} {rest : List Value} (hd : decode c.code pc = .ok (.lastore, 1)) :
    ∃ T' h', Stand p l e R s m args below meth c T' (locs ++ [⟨a, j.toInt.toNat⟩]) cells slots ∧ T'.heap = h' ∧ Wr h h' a j.toInt.toNat (.long x) ∧ ∀ target, Steps p.tables e below (T'.setTop (mkF m (pc + 1) Ls rest)) target → Steps p.tables e below (T.setTop (mkF m pc Ls (.long x :: .int j :: .ref a :: rest))) target := by
  obtain ⟨cl, Ar, hin, -⟩ := A.at hj hn
  exact stJ X hx hZ eT Ar hin (g := mkF m pc Ls (.long x :: .int j :: .ref a :: rest)) rfl rfl hd
theorem own_bastore (X : Stand p l e R s m args below meth c T locs cells slots) (hx : p.tables.exec = Jvm.exec) (hZ : Z.Warmed39 s.vm) (eT : T.heap = h) (A : own_A Z h a .byte n f) {j x : Int32} (hj : 0 ≤ j.toInt) (hn : j.toInt < n) {pc : Nat} {Ls : Array Slot} {rest : List Value} (hd : decode c.code pc = .ok (.bastore, 1)) :
    ∃ T' h', Stand p l e R s m args below meth c T' (locs ++ [⟨a, j.toInt.toNat⟩]) cells slots ∧ T'.heap = h' ∧ Wr h h' a j.toInt.toNat (.int x.toInt8.toInt32) ∧ ∀ target, Steps p.tables e below (T'.setTop (mkF m (pc + 1) Ls rest)) target → Steps p.tables e below (T.setTop (mkF m pc Ls (.int x :: .int j :: .ref a :: rest))) target := by
  obtain ⟨cl, Ar, hin, -⟩ := A.at hj hn
  exact stB X hx hZ eT Ar hin (g := mkF m pc Ls (.int x :: .int j :: .ref a :: rest)) rfl rfl hd
end OwnA
theorem own_J0 : (0 : Int64).toInt = 0 := by decide +kernel
theorem own_I1 : (1 : Int32).toInt = 1 := by decide +kernel
theorem own_I15 : (15 : Int32).toInt = 15 := by decide +kernel
theorem own_I16 : (16 : Int32).toInt = 16 := by decide +kernel
theorem own_I2147483647 : (2147483647 : Int32).toInt = 2147483647 := by decide +kernel
theorem own_selp {s : State} {args : Array Value} {x y : MethodName} (hw : (Cond.selects x.cls x x).before args s = true) (ec : y.cls = x.cls) (hp : s.PrivateAt y) (hi : (Cond.instanceMethod y).before args s = true) (hy : y.cls ≠ "java/lang/invoke/MethodHandle" ∧ y.cls ≠ "java/lang/invoke/VarHandle") : (Cond.selects y.cls y y).before args s = true := by
  obtain ⟨c, r, m, h1, h2, h3, h4, k, hk, hni⟩ := Cond.selects_spec hw
  exact selects_self_of_private (c := m.cls) (k := k) (by rw [ec]; exact findClass_of_methodNamed h3) hk hni hp hi hy

/-! the plain law -/
def own_up (n : Nat) : Nat → Nat → List Nat
  | 0, _ => []
  | k + 1, i => if i < n then i :: own_up n k (i ||| (i + 1)) else []
def own_down : Nat → Nat → List Nat
  | 0, _ => []
  | _ + 1, 0 => []
  | k + 1, j + 1 => j :: own_down k (j &&& (j + 1))
def own_add (n : Nat) (d : Int64) : Nat → Nat → (Nat → Int64) → Nat → Int64
  | 0, _, f => f
  | k + 1, i, f => if i < n then own_add n d k (i ||| (i + 1)) (fun q => if q = i then f q + d else f q) else f
def own_sum (f : Nat → Int64) : Nat → Nat → Int64 → Int64
  | 0, _, s => s
  | _ + 1, 0, s => s
  | k + 1, j + 1, s => own_sum f k (j &&& (j + 1)) (s + f j)
theorem own_lt_or (i : Nat) : i < i ||| (i + 1) := Nat.lt_of_lt_of_le (Nat.lt_succ_self i) Nat.right_le_or
theorem own_up_ge (n : Nat) : ∀ k i q, q ∈ own_up n k i → i ≤ q
  | 0, i, q, h => by simp [own_up] at h
  | k + 1, i, q, h => by
    unfold own_up at h
    split at h
    · rcases List.mem_cons.mp h with rfl | h
      · exact Nat.le_refl _
      · exact Nat.le_trans (Nat.le_of_lt (own_lt_or i)) (own_up_ge n k _ q h)
    · cases h
theorem own_add_eq (n : Nat) (d : Int64) : ∀ k i (f : Nat → Int64) q, own_add n d k i f q = if q ∈ own_up n k i then f q + d else f q
  | 0, i, f, q => by simp [own_up, own_add]
  | k + 1, i, f, q => by
    unfold own_add own_up
    split
    · rw [own_add_eq n d k]
      by_cases e : q = i
      · subst e
        have h : ¬ q ∈ own_up n k (q ||| (q + 1)) := fun h => absurd (own_up_ge n k _ q h) (Nat.not_le.mpr (own_lt_or q))
        simp [h]
      · simp [e]
    · simp
theorem own_sum_eq (f : Nat → Int64) : ∀ k j s, own_sum f k j s = (own_down k j).foldl (fun a q => a + f q) s
  | 0, _, _ => rfl
  | _ + 1, 0, _ => rfl
  | k + 1, j + 1, s => by
    unfold own_sum own_down
    rw [own_sum_eq f k]
    rfl
def own_mul (d : Int64) : Nat → Int64
  | 0 => 0
  | k + 1 => own_mul d k + d
theorem own_fold (f : Nat → Int64) (d : Int64) (U : List Nat) : ∀ (l : List Nat) (s : Int64), l.foldl (fun a q => a + (if q ∈ U then f q + d else f q)) s = l.foldl (fun a q => a + f q) s + own_mul d (l.countP (fun q => decide (q ∈ U)))
  | [], s => by simp [own_mul]
  | q :: l, s => by
    have hs : ∀ (l : List Nat) (s t : Int64), l.foldl (fun a q => a + f q) (s + t) = l.foldl (fun a q => a + f q) s + t := by
      intro l
      induction l with
      | nil => intro s t; rfl
      | cons x l ih => intro s t; simp only [List.foldl_cons]; rw [← ih, Int64.add_assoc, Int64.add_comm t, ← Int64.add_assoc]
    simp only [List.foldl_cons]
    rw [own_fold f d U l]
    by_cases e : q ∈ U
    · simp only [e, if_true, decide_true, List.countP_cons, own_mul]
      rw [← Int64.add_assoc s, hs, Int64.add_assoc, Int64.add_comm d]
    · simp only [e, if_false, decide_false, List.countP_cons, Bool.false_eq_true, Nat.add_zero]
theorem own_one : ∀ n, n < 16 → ∀ i, i < n → (own_down 16 n).countP (fun q => decide (q ∈ own_up n 16 i)) = 1 := by decide +kernel
theorem own_tally {n i : Nat} (hn : n ≤ 15) (hi : i < n) (f : Nat → Int64) (d : Int64) : own_sum (own_add n d 16 i f) 16 n 0 = own_sum f 16 n 0 + d := by
  rw [own_sum_eq, own_sum_eq, show own_add n d 16 i f = fun q => if q ∈ own_up n 16 i then f q + d else f q from funext (own_add_eq n d 16 i f), own_fold, own_one n (by omega) i hi]
  simp [own_mul]
theorem own_zero : ∀ n, n < 16 → own_sum (fun _ => 0) 16 n 0 = 0 := by decide +kernel
/-! ints -/
theorem own_upi : ∀ i : Nat, i < 16 → i.toInt32 ||| (i.toInt32 + (1 : Int32)) = (i ||| (i + 1)).toInt32 := by decide +kernel
theorem own_dni : ∀ j : Nat, j < 16 → (((j + 1).toInt32 - (1 : Int32)) &&& (((j + 1).toInt32 - (1 : Int32)) + (1 : Int32))) - (1 : Int32) = (j &&& (j + 1)).toInt32 - (1 : Int32) := by decide +kernel
theorem own_dnt : ∀ j : Nat, j < 16 → ((j + 1).toInt32 - (1 : Int32)).toInt = j ∧ ¬ ((j + 1).toInt32 - (1 : Int32)) < 0 := by decide +kernel
theorem own_tI {i : Nat} (h : i < 16) : i.toInt32.toInt = i := len_toInt (by omega)
theorem own_ltI {i n : Nat} (hi : i < 16) (hn : n < 16) : i.toInt32 < n.toInt32 ↔ i < n := by rw [Int32.lt_iff_toInt_lt, own_tI hi, own_tI hn]; omega
theorem own_os4 {z0 z1 z2 : Value} {s3 s4 : Slot} {v : Int32} (h : One s4) : storeLocals #[.val z0, .val z1, .val z2, .second, s4] 4 (.int v) = some #[.val z0, .val z1, .val z2, .second, .val (.int v)] := by
  rcases h with rfl | ⟨w, rfl, hw⟩
  · rfl
  · cases w <;> first | rfl | (simp [Value.category] at hw)
theorem d1_0 : decode prog_34_method_1_code 0 = .ok (.aload_n 0, 1) := by decide +kernel
theorem d1_1 : decode prog_34_method_1_code 1 = .ok (.invokespecial 1, 3) := by decide +kernel
theorem d1_4 : decode prog_34_method_1_code 4 = .ok (.iload_n 1, 1) := by decide +kernel
theorem d1_5 : decode prog_34_method_1_code 5 = .ok (.ifCond .ge 17, 3) := by decide +kernel
theorem d1_22 : decode prog_34_method_1_code 22 = .ok (.aload_n 0, 1) := by decide +kernel
theorem d1_23 : decode prog_34_method_1_code 23 = .ok (.iload_n 1, 1) := by decide +kernel
theorem d1_24 : decode prog_34_method_1_code 24 = .ok (.newarray .long, 2) := by decide +kernel
theorem d1_26 : decode prog_34_method_1_code 26 = .ok (.putfield 16, 3) := by decide +kernel
theorem d1_29 : decode prog_34_method_1_code 29 = .ok (.return_, 1) := by decide +kernel
theorem pn_1 : plainName "tallytrie/tally/Tally" = true := by first | (simp [plainName, overriddenIn]; done) | decide +kernel
theorem ef_1 (m : MethodId) (a1 : Addr) (p1 : Int32) : entryFrame m #[(.ref a1), (.int p1)] 2 = mkF m 0 #[.val (.ref a1), .val (.int p1)] [] := by first | (simp [entryFrame, mkF, argsToLocals, Value.category]; done) | rfl
def Q1 (Z : State) (a1 : Addr) (p1 : Int32) (n : Nat) (h0 : Heap) (n0 : Nat) (v : Option Value) (h : Heap) (L : List Loc) : Prop := v = none ∧ Fr n0 L ∧ Keep h0 h [a1] ∧ Exa Z h a1 "tallytrie/tally/Tally" ∧ Fld Z h a1 "tallytrie/tally/Tally" "tree" "[J" (.ref h0.size) ∧ own_A Z h h0.size .long n (fun i => .long ((fun _ => 0 : Nat → Int64) i))
set_option maxRecDepth 65536 in
set_option maxHeartbeats 40000000 in
theorem rm1 (l : Launch) (Z : State) (a0 : Array Value) (hw : ∀ d ∈ tables_1, d.before a0 Z = true) (ws : List Jvm.Cond) (a1 : Addr) (p1 : Int32) (n : Nat) (h0 : Heap) (n0 : Nat) (Z0 : n0 ≤ h0.size) (F_t : Fld Z h0 a1 "tallytrie/tally/Tally" "tree" "[J" .null) (E7 : Exa Z h0 a1 "tallytrie/tally/Tally") (g9 : n0 ≤ a1) (hp : ¬ p1 < 0) (hpn : p1.toInt.toNat = n) (hn15 : n ≤ 15) :
    MetFree l (⟨"tallytrie/tally/Tally", "<init>", "(I)V"⟩ : MethodName) (head1 (Jvm.Cond.code (⟨"tallytrie/tally/Tally", "<init>", "(I)V"⟩ : MethodName) prog_34_method_1_code 2 none :: ws) ({ frames := 1, cells := 1, slots := 15, locals := 12 } : Room)) (fun a U => a = #[(.ref a1), (.int p1)] ∧ Z.Warmed39 U.vm ∧ U.heap = h0) (fun _ _ _ _ _ => True) (fun _ U o U' => ∃ v L, o = .returned v ∧ Q1 Z a1 p1 n h0 n0 v U'.heap L ∧ FrameEnd U o U' L ({ frames := 1, cells := 1, slots := 15, locals := 12 } : Room).cells ({ frames := 1, cells := 1, slots := 15, locals := 12 } : Room).slots) := by
  refine MetFree.of_bodySF (plainFor_of_name pn_1) hisR ?_
  intro p e s m args below meth c s₁ Bd hml0 hP hK
  obtain ⟨rfl, hZ, hh⟩ := hP
  have hx := Bd.exec
  have hby := Bd.bytes
  have hml : c.maxLocals = 2 := hml0
  have hown : s.vm.findClass "tallytrie/tally/Tally" = some m.cls := findClass_of_methodNamed Bd.named
  have hnm := (name_of_methodNamed Bd.named Bd.method).1
  have X0 : Stand p l e ({ frames := 1, cells := 1, slots := 15, locals := 12 } : Room) s m #[(.ref a1), (.int p1)] below meth c s₁ [] 0 0 := Stand.of_body Bd
  have e0 : s₁.heap = h0 := by rw [← hh, Bd.state]; rfl
  have N0 := Fr.nil n0
  have hlk := Bd.notSynchronized
  refine own_in (Q := Q1 Z a1 p1 n h0 n0) (ef_1 m a1 p1) ?_
  refine own_st (T' := s₁) (g' := (mkF m 1 #[.val (.ref a1), .val (.int p1)] [(.ref a1)])) ?_ fun _ k => XS.aloadN X0.here hx rfl (hb hby d1_0) rfl rfl k
  obtain ⟨T1, X1, e1, st1⟩ := initO X0 hx hZ hown (hw _ (List.mem_of_getElem? (i := 6) rfl)) (hw _ (List.mem_of_getElem? (i := 7) rfl)) (hw _ (List.mem_of_getElem? (i := 8) rfl)) e0 (g := (mkF m 1 #[.val (.ref a1), .val (.int p1)] [(.ref a1)])) rfl (by rw [hml]; rfl) rfl (hb hby d1_1) (by decide) (W := 0) (by show 2 * 0 + _ ≤ _; exact Nat.le_of_eq rfl) (by decide)
  refine own_st (T' := T1) (g' := (mkF m 4 #[.val (.ref a1), .val (.int p1)] [])) ?_ fun _ k => st1 _ k
  refine own_st (T' := T1) (g' := (mkF m 5 #[.val (.ref a1), .val (.int p1)] [(.int p1)])) ?_ fun _ k => XS.iloadN X1.here hx rfl (hb hby d1_4) rfl k
  refine own_st (T' := T1) (g' := (mkF m 22 #[.val (.ref a1), .val (.int p1)] [])) ?_ fun _ k => XS.ifYes X1.here hx rfl (pc0 := 5) (pc' := 22) rfl (hb hby d1_5) rfl ((if0 _ _).trans (flt hp).2.1) (by decide) (by decide) k
  refine own_st (T' := T1) (g' := (mkF m 23 #[.val (.ref a1), .val (.int p1)] [(.ref a1)])) ?_ fun _ k => XS.aloadN X1.here hx rfl (hb hby d1_22) rfl rfl k
  refine own_st (T' := T1) (g' := (mkF m 24 #[.val (.ref a1), .val (.int p1)] [(.int p1), (.ref a1)])) ?_ fun _ k => XS.iloadN X1.here hx rfl (hb hby d1_23) rfl k
  obtain ⟨T2, h2, k2, X2, e2, E2, A2, st2⟩ := newP X1 hx hZ (hw _ (List.mem_of_getElem? (i := 9) rfl)) e1 (g := (mkF m 24 #[.val (.ref a1), .val (.int p1)] [(.int p1), (.ref a1)])) rfl (hb hby d1_24) rfl hp (cap := 15) (by show p1.toInt.toNat ≤ 15; omega) (by decide) (by decide) (by decide)
  obtain ⟨b2, g2⟩ : ∃ z, z = h0.size := ⟨_, rfl⟩
  rw [← g2] at A2 st2
  have V2 : own_A Z h2 b2 .long n (fun i => .long ((fun _ => 0 : Nat → Int64) i)) := own_A.new A2 hpn
  have gb2 : n0 ≤ b2 := Nat.le_trans Z0 (Nat.le_of_eq g2.symm)
  have c3_ := E7.ext E2
  have ne_a1_b2 : a1 ≠ b2 := Nat.ne_of_lt (Nat.lt_of_lt_of_le E7.lt (Nat.le_of_eq g2.symm))
  have c4_ := F_t.ext E2
  refine own_st (T' := T2) (g' := (mkF m 26 #[.val (.ref a1), .val (.int p1)] [(.ref b2), (.ref a1)])) ?_ fun _ k => st2 _ k
  obtain ⟨T5, h5, X5, e5, W5, st5⟩ := putF X2 hx hZ hown (host := "") (Or.inl (hw _ (List.mem_of_getElem? (i := 10) rfl))) Via.refl e2 c4_ c3_ (Or.inr ⟨(hw _ (List.mem_of_getElem? (i := 11) rfl)), rfl, hnm⟩) (hw _ (List.mem_of_getElem? (i := 1) rfl)) (ty := (.array .long)) (by decide) rfl rfl (g := (mkF m 26 #[.val (.ref a1), .val (.int p1)] [(.ref b2), (.ref a1)])) rfl rfl (hb hby d1_26)
  have c6_ := c3_.wr W5
  have c7_ := V2.other W5 (Ne.symm ne_a1_b2)
  have ZH5 : n0 ≤ h5.size := Nat.le_trans (Nat.le_trans Z0 E2.1) (Keep.of_wr W5).1
  have F5_tree := c4_.same W5
  have N5 := Fr.snoc X5 N0 g9
  refine own_st (T' := T5) (g' := (mkF m 29 #[.val (.ref a1), .val (.int p1)] [])) ?_ fun _ k => st5 _ k
  refine own_retV X5 hx hlk Bd.returns (hb hby d1_29) (Q := (Q1 Z a1 p1 n h0 n0)) (by decide) (by decide) ?_
  subst g2
  show Q1 Z a1 p1 n h0 n0 _ T5.heap _
  rw [e5]
  exact ⟨rfl, N5, ((Keep.refl h0 [a1]).ext E2).wr W5 (Or.inl (List.mem_of_getElem? (i := 0) rfl)), c6_, F5_tree, c7_⟩
theorem d2_0 : decode prog_34_method_13_code 0 = .ok (.iload_n 1, 1) := by decide +kernel
theorem d2_1 : decode prog_34_method_13_code 1 = .ok (.ifCond .lt 12, 3) := by decide +kernel
theorem d2_4 : decode prog_34_method_13_code 4 = .ok (.iload_n 1, 1) := by decide +kernel
theorem d2_5 : decode prog_34_method_13_code 5 = .ok (.aload_n 0, 1) := by decide +kernel
theorem d2_6 : decode prog_34_method_13_code 6 = .ok (.getfield 16, 3) := by decide +kernel
theorem d2_9 : decode prog_34_method_13_code 9 = .ok (.arraylength, 1) := by decide +kernel
theorem d2_10 : decode prog_34_method_13_code 10 = .ok (.if_icmp .lt 22, 3) := by decide +kernel
theorem d2_32 : decode prog_34_method_13_code 32 = .ok (.return_, 1) := by decide +kernel
theorem pn_2 : plainName "tallytrie/tally/Tally" = true := by first | (simp [plainName, overriddenIn]; done) | decide +kernel
theorem ef_2 (m : MethodId) (a1 : Addr) (p1 : Int32) : entryFrame m #[(.ref a1), (.int p1)] 2 = mkF m 0 #[.val (.ref a1), .val (.int p1)] [] := by first | (simp [entryFrame, mkF, argsToLocals, Value.category]; done) | rfl
def Q2 (Z : State) (a1 : Addr) (p1 : Int32) (b : Addr) (n : Nat) (f : Nat → Int64) (h0 : Heap) (n0 : Nat) (v : Option Value) (h : Heap) (L : List Loc) : Prop := v = none ∧ Fr n0 L ∧ h = h0
set_option maxRecDepth 65536 in
set_option maxHeartbeats 40000000 in
theorem rm2 (l : Launch) (Z : State) (a0 : Array Value) (hw : ∀ d ∈ tables_1, d.before a0 Z = true) (ws : List Jvm.Cond) (a1 : Addr) (p1 : Int32) (b : Addr) (n : Nat) (f : Nat → Int64) (h0 : Heap) (n0 : Nat) (Z0 : n0 ≤ h0.size) (FT : Fld Z h0 a1 "tallytrie/tally/Tally" "tree" "[J" (.ref b)) (E7 : Exa Z h0 a1 "tallytrie/tally/Tally") (V0 : own_A Z h0 b .long n (fun i => .long (f i))) (hn15 : n ≤ 15) (hab : a1 ≠ b) (hp0 : ¬ p1 < 0) (hp1 : p1 < n.toInt32) :
    MetFree l (⟨"tallytrie/tally/Tally", "checkPosition", "(I)V"⟩ : MethodName) (head1 (Jvm.Cond.code (⟨"tallytrie/tally/Tally", "checkPosition", "(I)V"⟩ : MethodName) prog_34_method_13_code 2 none :: ws) ({ frames := 0, cells := 0, slots := 0, locals := 0 } : Room)) (fun a U => a = #[(.ref a1), (.int p1)] ∧ Z.Warmed39 U.vm ∧ U.heap = h0) (fun _ _ _ _ _ => True) (fun _ U o U' => ∃ v L, o = .returned v ∧ Q2 Z a1 p1 b n f h0 n0 v U'.heap L ∧ FrameEnd U o U' L ({ frames := 0, cells := 0, slots := 0, locals := 0 } : Room).cells ({ frames := 0, cells := 0, slots := 0, locals := 0 } : Room).slots) := by
  refine MetFree.of_bodySF (plainFor_of_name pn_2) hisR ?_
  intro p e s m args below meth c s₁ Bd hml0 hP hK
  obtain ⟨rfl, hZ, hh⟩ := hP
  have hx := Bd.exec
  have hby := Bd.bytes
  have hml : c.maxLocals = 2 := hml0
  have hown : s.vm.findClass "tallytrie/tally/Tally" = some m.cls := findClass_of_methodNamed Bd.named
  have hnm := (name_of_methodNamed Bd.named Bd.method).1
  have X0 : Stand p l e ({ frames := 0, cells := 0, slots := 0, locals := 0 } : Room) s m #[(.ref a1), (.int p1)] below meth c s₁ [] 0 0 := Stand.of_body Bd
  have e0 : s₁.heap = h0 := by rw [← hh, Bd.state]; rfl
  have N0 := Fr.nil n0
  have hlk := Bd.notSynchronized
  refine own_in (Q := Q2 Z a1 p1 b n f h0 n0) (ef_2 m a1 p1) ?_
  refine own_st (T' := s₁) (g' := (mkF m 1 #[.val (.ref a1), .val (.int p1)] [(.int p1)])) ?_ fun _ k => XS.iloadN X0.here hx rfl (hb hby d2_0) rfl k
  refine own_st (T' := s₁) (g' := (mkF m 4 #[.val (.ref a1), .val (.int p1)] [])) ?_ fun _ k => XS.ifNo X0.here hx rfl (hb hby d2_1) rfl ((if0 _ _).trans (flt hp0).1) k
  refine own_st (T' := s₁) (g' := (mkF m 5 #[.val (.ref a1), .val (.int p1)] [(.int p1)])) ?_ fun _ k => XS.iloadN X0.here hx rfl (hb hby d2_4) rfl k
  refine own_st (T' := s₁) (g' := (mkF m 6 #[.val (.ref a1), .val (.int p1)] [(.ref a1), (.int p1)])) ?_ fun _ k => XS.aloadN X0.here hx rfl (hb hby d2_5) rfl rfl k
  obtain ⟨T1, X1, e1, st1⟩ := getF X0 hx hZ hown (host := "") (Or.inl (hw _ (List.mem_of_getElem? (i := 10) rfl))) Via.refl e0 FT (g := (mkF m 6 #[.val (.ref a1), .val (.int p1)] [(.ref a1), (.int p1)])) rfl rfl (hb hby d2_6)
  refine own_st (T' := T1) (g' := (mkF m 9 #[.val (.ref a1), .val (.int p1)] [(.ref b), (.int p1)])) ?_ fun _ k => st1 _ k
  refine own_st (T' := T1) (g' := (mkF m 10 #[.val (.ref a1), .val (.int p1)] [(.int n.toInt32), (.int p1)])) ?_ fun _ k => own_len X1 hx hZ e1 V0 rfl (hb hby d2_9) _ k
  refine own_st (T' := T1) (g' := (mkF m 32 #[.val (.ref a1), .val (.int p1)] [])) ?_ fun _ k => XS.icmpYes X1.here hx rfl (pc0 := 10) (pc' := 32) rfl (hb hby d2_10) rfl ((tlt hp1).1) (by decide) (by decide) k
  refine own_retV X1 hx hlk Bd.returns (hb hby d2_32) (Q := (Q2 Z a1 p1 b n f h0 n0)) (by decide) (by decide) ?_
  exact ⟨rfl, N0, e1⟩
theorem d3_0 : decode prog_34_method_6_code 0 = .ok (.aload_n 0, 1) := by decide +kernel
theorem d3_1 : decode prog_34_method_6_code 1 = .ok (.iload_n 1, 1) := by decide +kernel
theorem d3_2 : decode prog_34_method_6_code 2 = .ok (.invokevirtual 30, 3) := by decide +kernel
theorem d3_5 : decode prog_34_method_6_code 5 = .ok (.iload_n 1, 1) := by decide +kernel
theorem d3_6 : decode prog_34_method_6_code 6 = .ok (.istore 4, 2) := by decide +kernel
theorem d3_8 : decode prog_34_method_6_code 8 = .ok (.iload 4, 2) := by decide +kernel
theorem d3_10 : decode prog_34_method_6_code 10 = .ok (.aload_n 0, 1) := by decide +kernel
theorem d3_11 : decode prog_34_method_6_code 11 = .ok (.getfield 16, 3) := by decide +kernel
theorem d3_14 : decode prog_34_method_6_code 14 = .ok (.arraylength, 1) := by decide +kernel
theorem d3_15 : decode prog_34_method_6_code 15 = .ok (.if_icmp .ge 26, 3) := by decide +kernel
theorem d3_18 : decode prog_34_method_6_code 18 = .ok (.aload_n 0, 1) := by decide +kernel
theorem d3_19 : decode prog_34_method_6_code 19 = .ok (.getfield 16, 3) := by decide +kernel
theorem d3_22 : decode prog_34_method_6_code 22 = .ok (.iload 4, 2) := by decide +kernel
theorem d3_24 : decode prog_34_method_6_code 24 = .ok (.dup2, 1) := by decide +kernel
theorem d3_25 : decode prog_34_method_6_code 25 = .ok (.laload, 1) := by decide +kernel
theorem d3_26 : decode prog_34_method_6_code 26 = .ok (.lload_n 2, 1) := by decide +kernel
theorem d3_27 : decode prog_34_method_6_code 27 = .ok (.ladd, 1) := by decide +kernel
theorem d3_28 : decode prog_34_method_6_code 28 = .ok (.lastore, 1) := by decide +kernel
theorem d3_29 : decode prog_34_method_6_code 29 = .ok (.iload 4, 2) := by decide +kernel
theorem d3_31 : decode prog_34_method_6_code 31 = .ok (.iload 4, 2) := by decide +kernel
theorem d3_33 : decode prog_34_method_6_code 33 = .ok (.iconst 1, 1) := by decide +kernel
theorem d3_34 : decode prog_34_method_6_code 34 = .ok (.iadd, 1) := by decide +kernel
theorem d3_35 : decode prog_34_method_6_code 35 = .ok (.ior, 1) := by decide +kernel
theorem d3_36 : decode prog_34_method_6_code 36 = .ok (.istore 4, 2) := by decide +kernel
theorem d3_38 : decode prog_34_method_6_code 38 = .ok (.goto (-30), 3) := by decide +kernel
theorem d3_41 : decode prog_34_method_6_code 41 = .ok (.return_, 1) := by decide +kernel
theorem pd3_0 : parseMethodDescriptor "(I)V" = some ⟨[.int], none⟩ := by decide +kernel
theorem pn_3 : plainName "tallytrie/tally/Tally" = true := by first | (simp [plainName, overriddenIn]; done) | decide +kernel
theorem ef_3 (m : MethodId) (a1 : Addr) (p1 : Int32) (p2 : Int64) : entryFrame m #[(.ref a1), (.int p1), (.long p2)] 5 = mkF m 0 #[.val (.ref a1), .val (.int p1), .val (.long p2), .second, .unset] [] := by first | (simp [entryFrame, mkF, argsToLocals, Value.category]; done) | rfl
def Q3 (Z : State) (a1 : Addr) (p1 : Int32) (p2 : Int64) (b : Addr) (n : Nat) (f : Nat → Int64) (i : Nat) (h0 : Heap) (n0 : Nat) (v : Option Value) (h : Heap) (L : List Loc) : Prop := v = none ∧ Fr n0 L ∧ Keep h0 h [b] ∧ own_A Z h b .long n (fun q => .long (own_add n p2 16 i f q))
set_option maxRecDepth 65536 in
set_option maxHeartbeats 40000000 in
theorem rm3 (l : Launch) (Z : State) (a0 : Array Value) (hw : ∀ d ∈ tables_1, d.before a0 Z = true) (ws : List Jvm.Cond) (a1 : Addr) (p1 : Int32) (p2 : Int64) (b : Addr) (n : Nat) (f : Nat → Int64) (i : Nat) (h0 : Heap) (n0 : Nat) (Z0 : n0 ≤ h0.size) (FT : Fld Z h0 a1 "tallytrie/tally/Tally" "tree" "[J" (.ref b)) (E7 : Exa Z h0 a1 "tallytrie/tally/Tally") (V0 : own_A Z h0 b .long n (fun i => .long (f i))) (hn15 : n ≤ 15) (hab : a1 ≠ b) (gb : n0 ≤ b) (hi : i < n) (hpi : p1 = i.toInt32) :
    MetFree l (⟨"tallytrie/tally/Tally", "add", "(IJ)V"⟩ : MethodName) (head1 (Jvm.Cond.code (⟨"tallytrie/tally/Tally", "add", "(IJ)V"⟩ : MethodName) prog_34_method_6_code 5 none :: ws) ({ frames := 1, cells := 0, slots := 0, locals := 13 } : Room)) (fun a U => a = #[(.ref a1), (.int p1), (.long p2)] ∧ Z.Warmed39 U.vm ∧ U.heap = h0) (fun _ _ _ _ _ => True) (fun _ U o U' => ∃ v L, o = .returned v ∧ Q3 Z a1 p1 p2 b n f i h0 n0 v U'.heap L ∧ FrameEnd U o U' L ({ frames := 1, cells := 0, slots := 0, locals := 13 } : Room).cells ({ frames := 1, cells := 0, slots := 0, locals := 13 } : Room).slots) := by
  refine MetFree.of_bodySF (plainFor_of_name pn_3) hisR ?_
  intro p e s m args below meth c s₁ Bd hml0 hP hK
  obtain ⟨rfl, hZ, hh⟩ := hP
  have hx := Bd.exec
  have hby := Bd.bytes
  have hml : c.maxLocals = 5 := hml0
  have hown : s.vm.findClass "tallytrie/tally/Tally" = some m.cls := findClass_of_methodNamed Bd.named
  have hnm := (name_of_methodNamed Bd.named Bd.method).1
  have X0 : Stand p l e ({ frames := 1, cells := 0, slots := 0, locals := 13 } : Room) s m #[(.ref a1), (.int p1), (.long p2)] below meth c s₁ [] 0 0 := Stand.of_body Bd
  have e0 : s₁.heap = h0 := by rw [← hh, Bd.state]; rfl
  have N0 := Fr.nil n0
  have hlk := Bd.notSynchronized
  refine own_in (Q := Q3 Z a1 p1 p2 b n f i h0 n0) (ef_3 m a1 p1 p2) ?_
  refine own_st (T' := s₁) (g' := (mkF m 1 #[.val (.ref a1), .val (.int p1), .val (.long p2), .second, .unset] [(.ref a1)])) ?_ fun _ k => XS.aloadN X0.here hx rfl (hb hby d3_0) rfl rfl k
  refine own_st (T' := s₁) (g' := (mkF m 2 #[.val (.ref a1), .val (.int p1), .val (.long p2), .second, .unset] [(.int p1), (.ref a1)])) ?_ fun _ k => XS.iloadN X0.here hx rfl (hb hby d3_1) rfl k
  obtain ⟨cq1, q1, r1⟩ := E7.cell
  obtain ⟨_, _, ⟨T1, L1, k1, n1⟩, -, X1, ⟨Lc1, hQ1, l1, y1, z1⟩, st1⟩ := X0.privateBack hx (y := (⟨"tallytrie/tally/Tally", "checkPosition", "(I)V"⟩ : MethodName)) hown (mvT hZ (hw _ (List.mem_of_getElem? (i := 27) rfl))) (mvT hZ (hw _ (List.mem_of_getElem? (i := 28) rfl))) (own_selp (x := (⟨"tallytrie/tally/Tally", "total", "()J"⟩ : MethodName)) (mvT hZ (hw _ (List.mem_of_getElem? (i := 15) rfl))) rfl (Cond.privateMethod_at (mvP hZ (hw _ (List.mem_of_getElem? (i := 29) rfl)) (args := #[]))) (mvT hZ (hw _ (List.mem_of_getElem? (i := 28) rfl))) (by decide)) (Cond.privateMethod_at (mvP hZ (hw _ (List.mem_of_getElem? (i := 29) rfl)) (args := #[]))) (mvT hZ (hw _ (List.mem_of_getElem? (i := 30) rfl))) (by decide) (backOf (W := 0) (rm2 l Z a0 hw [] a1 p1 b n f h0 n0 Z0 FT E7 V0 hn15 hab (by rw [hpi, Int32.lt_iff_toInt_lt, own_tI (by omega)]; exact Int.not_lt.mpr (Int.natCast_nonneg _)) (by rw [hpi]; exact (own_ltI (by omega) (by omega)).mpr hi)) hZ (hw _ (List.mem_of_getElem? (i := 30) rfl)) (hw _ (List.mem_of_getElem? (i := 2) rfl)) (by decide) (by decide)) (g := (mkF m 2 #[.val (.ref a1), .val (.int p1), .val (.long p2), .second, .unset] [(.int p1), (.ref a1)])) rfl (by rw [hml]; rfl) (Steps.refl _) (a := a1) (by rw [e0]; exact q1) r1 (argsL := [(.int p1)]) (rest := []) (lenOf pd3_0 rfl) rfl (by show 2 * 0 + _ ≤ _; exact Nat.le_of_eq rfl) (hb hby d3_2) (fun _ _ => ⟨rfl, e0, (by decide : 0 + 0 ≤ _), (by decide : 0 + 0 ≤ _)⟩)
  dsimp only [Pt.U, Pt.locs, Pt.cells, Pt.slots] at X1 l1 y1 z1 st1 hQ1
  subst l1 y1 z1
  obtain ⟨rfl, Nq1, e1⟩ := hQ1
  have N1 := Fr.app N0 Nq1
  refine own_st (T' := T1) (g' := (mkF m 5 #[.val (.ref a1), .val (.int p1), .val (.long p2), .second, .unset] [])) ?_ fun _ k => st1.trans k
  refine own_st (T' := T1) (g' := (mkF m 6 #[.val (.ref a1), .val (.int p1), .val (.long p2), .second, .unset] [(.int p1)])) ?_ fun _ k => XS.iloadN X1.here hx rfl (hb hby d3_5) rfl k
  refine own_st (T' := T1) (g' := (mkF m 8 #[.val (.ref a1), .val (.int p1), .val (.long p2), .second, .val (.int p1)] [])) ?_ fun _ k => XS.istore X1.here hx rfl (hb hby d3_6) rfl (l' := #[.val (.ref a1), .val (.int p1), .val (.long p2), .second, .val (.int p1)]) rfl k
  have hst : ∀ q, own_add n p2 16 i f q = own_add n p2 16 i f q := fun _ => rfl
  have loop : ∀ (k r : Nat) (g : Nat → Int64) (T : State) (h : Heap) (locs : List Loc) (X : Stand p l e ({ frames := 1, cells := 0, slots := 0, locals := 13 } : Room) s m #[(.ref a1), (.int p1), (.long p2)] below meth c T locs 0 0) (eT : T.heap = h) (N : Fr n0 locs) (K : Keep h0 h [b]) (V : own_A Z h b .long n (fun i => .long (g i))) (hr : r < 16) (hk : n ≤ r + k) (hG : ∀ q, own_add n p2 k r g q = own_add n p2 16 i f q), own_Go p.tables e below T (mkF m 8 #[.val (.ref a1), .val (.int p1), .val (.long p2), .second, .val (.int r.toInt32)] []) (own_End s (Q3 Z a1 p1 p2 b n f i h0 n0) ({ frames := 1, cells := 0, slots := 0, locals := 13 } : Room).cells ({ frames := 1, cells := 0, slots := 0, locals := 13 } : Room).slots) := by
    intro k
    induction k with
    | zero =>
      intro r g T h locs X eT N K V hr hk hG
      have FTh := FT.keep K (ninS hab nin0)
      refine own_st (T' := T) (g' := (mkF m 10 #[.val (.ref a1), .val (.int p1), .val (.long p2), .second, .val (.int r.toInt32)] [(.int r.toInt32)])) ?_ fun _ k => XS.iload X.here hx rfl (hb hby d3_8) rfl k
      refine own_st (T' := T) (g' := (mkF m 11 #[.val (.ref a1), .val (.int p1), .val (.long p2), .second, .val (.int r.toInt32)] [(.ref a1), (.int r.toInt32)])) ?_ fun _ k => XS.aloadN X.here hx rfl (hb hby d3_10) rfl rfl k
      obtain ⟨T2, X2, e2, st2⟩ := getF X hx hZ hown (host := "") (Or.inl (hw _ (List.mem_of_getElem? (i := 10) rfl))) Via.refl eT FTh (g := (mkF m 11 #[.val (.ref a1), .val (.int p1), .val (.long p2), .second, .val (.int r.toInt32)] [(.ref a1), (.int r.toInt32)])) rfl rfl (hb hby d3_11)
      refine own_st (T' := T2) (g' := (mkF m 14 #[.val (.ref a1), .val (.int p1), .val (.long p2), .second, .val (.int r.toInt32)] [(.ref b), (.int r.toInt32)])) ?_ fun _ k => st2 _ k
      refine own_st (T' := T2) (g' := (mkF m 15 #[.val (.ref a1), .val (.int p1), .val (.long p2), .second, .val (.int r.toInt32)] [(.int n.toInt32), (.int r.toInt32)])) ?_ fun _ k => own_len X2 hx hZ e2 V rfl (hb hby d3_14) _ k
      refine own_st (T' := T2) (g' := (mkF m 41 #[.val (.ref a1), .val (.int p1), .val (.long p2), .second, .val (.int r.toInt32)] [])) ?_ fun _ k => XS.icmpYes X2.here hx rfl (pc0 := 15) (pc' := 41) rfl (hb hby d3_15) rfl ((flt (fun q => absurd ((own_ltI hr (by omega)).mp q) (by omega))).2.1) (by decide) (by decide) k
      refine own_retV X2 hx hlk Bd.returns (hb hby d3_41) (Q := (Q3 Z a1 p1 p2 b n f i h0 n0)) (by decide) (by decide) ?_
      show Q3 Z a1 p1 p2 b n f i h0 n0 _ T2.heap _
      rw [e2]
      exact ⟨rfl, N, K, V.congr fun q _ => by rw [← hG q]; first | rfl | (unfold own_add; rw [if_neg hrn])⟩
    | succ k ih =>
      intro r g T h locs X eT N K V hr hk hG
      have FTh := FT.keep K (ninS hab nin0)
      by_cases hrn : r < n
      · refine own_st (T' := T) (g' := (mkF m 10 #[.val (.ref a1), .val (.int p1), .val (.long p2), .second, .val (.int r.toInt32)] [(.int r.toInt32)])) ?_ fun _ k => XS.iload X.here hx rfl (hb hby d3_8) rfl k
        refine own_st (T' := T) (g' := (mkF m 11 #[.val (.ref a1), .val (.int p1), .val (.long p2), .second, .val (.int r.toInt32)] [(.ref a1), (.int r.toInt32)])) ?_ fun _ k => XS.aloadN X.here hx rfl (hb hby d3_10) rfl rfl k
        obtain ⟨T3, X3, e3, st3⟩ := getF X hx hZ hown (host := "") (Or.inl (hw _ (List.mem_of_getElem? (i := 10) rfl))) Via.refl eT FTh (g := (mkF m 11 #[.val (.ref a1), .val (.int p1), .val (.long p2), .second, .val (.int r.toInt32)] [(.ref a1), (.int r.toInt32)])) rfl rfl (hb hby d3_11)
        refine own_st (T' := T3) (g' := (mkF m 14 #[.val (.ref a1), .val (.int p1), .val (.long p2), .second, .val (.int r.toInt32)] [(.ref b), (.int r.toInt32)])) ?_ fun _ k => st3 _ k
        refine own_st (T' := T3) (g' := (mkF m 15 #[.val (.ref a1), .val (.int p1), .val (.long p2), .second, .val (.int r.toInt32)] [(.int n.toInt32), (.int r.toInt32)])) ?_ fun _ k => own_len X3 hx hZ e3 V rfl (hb hby d3_14) _ k
        refine own_st (T' := T3) (g' := (mkF m 18 #[.val (.ref a1), .val (.int p1), .val (.long p2), .second, .val (.int r.toInt32)] [])) ?_ fun _ k => XS.icmpNo X3.here hx rfl (hb hby d3_15) rfl ((tlt ((own_ltI hr (by omega)).mpr hrn)).2.1) k
        refine own_st (T' := T3) (g' := (mkF m 19 #[.val (.ref a1), .val (.int p1), .val (.long p2), .second, .val (.int r.toInt32)] [(.ref a1)])) ?_ fun _ k => XS.aloadN X3.here hx rfl (hb hby d3_18) rfl rfl k
        obtain ⟨T4, X4, e4, st4⟩ := getF X3 hx hZ hown (host := "") (Or.inl (hw _ (List.mem_of_getElem? (i := 10) rfl))) Via.refl e3 FTh (g := (mkF m 19 #[.val (.ref a1), .val (.int p1), .val (.long p2), .second, .val (.int r.toInt32)] [(.ref a1)])) rfl rfl (hb hby d3_19)
        refine own_st (T' := T4) (g' := (mkF m 22 #[.val (.ref a1), .val (.int p1), .val (.long p2), .second, .val (.int r.toInt32)] [(.ref b)])) ?_ fun _ k => st4 _ k
        refine own_st (T' := T4) (g' := (mkF m 24 #[.val (.ref a1), .val (.int p1), .val (.long p2), .second, .val (.int r.toInt32)] [(.int r.toInt32), (.ref b)])) ?_ fun _ k => XS.iload X4.here hx rfl (hb hby d3_22) rfl k
        refine own_st (T' := T4) (g' := (mkF m 25 #[.val (.ref a1), .val (.int p1), .val (.long p2), .second, .val (.int r.toInt32)] [(.int r.toInt32), (.ref b), (.int r.toInt32), (.ref b)])) ?_ fun _ k => XT.dup2 X4.here hx rfl (hb hby d3_24) rfl rfl rfl k
        refine own_st (T' := T4) (g' := (mkF m 26 #[.val (.ref a1), .val (.int p1), .val (.long p2), .second, .val (.int r.toInt32)] [(.long (g r)), (.int r.toInt32), (.ref b)])) ?_ fun _ k => own_laload X4 hx hZ e4 V (j := r.toInt32) (by rw [own_tI hr]; omega) (by rw [own_tI hr]; omega) (by rw [own_tI hr]; rfl) (hb hby d3_25) _ k
        refine own_st (T' := T4) (g' := (mkF m 27 #[.val (.ref a1), .val (.int p1), .val (.long p2), .second, .val (.int r.toInt32)] [(.long p2), (.long (g r)), (.int r.toInt32), (.ref b)])) ?_ fun _ k => XS.lloadN X4.here hx rfl (hb hby d3_26) rfl k
        refine own_st (T' := T4) (g' := (mkF m 28 #[.val (.ref a1), .val (.int p1), .val (.long p2), .second, .val (.int r.toInt32)] [(.long ((g r) + p2)), (.int r.toInt32), (.ref b)])) ?_ fun _ k => XS.ladd X4.here hx rfl (hb hby d3_27) rfl k
        obtain ⟨T5, h5, X5, e5, W5, st5⟩ := own_lastore X4 hx hZ e4 V (j := r.toInt32) (x := ((g r) + p2)) (by rw [own_tI hr]; omega) (by rw [own_tI hr]; omega) (Ls := #[.val (.ref a1), .val (.int p1), .val (.long p2), .second, .val (.int r.toInt32)]) (rest := []) (hb hby d3_28)
        have c6_ := FTh.other W5 (Or.inl hab)
        have ZH5 : n0 ≤ h5.size := Nat.le_trans (Nat.le_trans Z0 K.1) (Keep.of_wr W5).1
        have V5 := V.setJ W5
        have N5 := Fr.snoc X5 N gb
        have K5 : Keep h0 h5 [b] := K.wr W5 (Or.inl (List.mem_of_getElem? (i := 0) rfl))
        refine own_st (T' := T5) (g' := (mkF m 29 #[.val (.ref a1), .val (.int p1), .val (.long p2), .second, .val (.int r.toInt32)] [])) ?_ fun _ k => st5 _ k
        refine own_st (T' := T5) (g' := (mkF m 31 #[.val (.ref a1), .val (.int p1), .val (.long p2), .second, .val (.int r.toInt32)] [(.int r.toInt32)])) ?_ fun _ k => XS.iload X5.here hx rfl (hb hby d3_29) rfl k
        refine own_st (T' := T5) (g' := (mkF m 33 #[.val (.ref a1), .val (.int p1), .val (.long p2), .second, .val (.int r.toInt32)] [(.int r.toInt32), (.int r.toInt32)])) ?_ fun _ k => XS.iload X5.here hx rfl (hb hby d3_31) rfl k
        refine own_st (T' := T5) (g' := (mkF m 34 #[.val (.ref a1), .val (.int p1), .val (.long p2), .second, .val (.int r.toInt32)] [(.int (1 : Int32)), (.int r.toInt32), (.int r.toInt32)])) ?_ fun _ k => XS.iconst X5.here hx rfl (hb hby d3_33) k
        refine own_st (T' := T5) (g' := (mkF m 35 #[.val (.ref a1), .val (.int p1), .val (.long p2), .second, .val (.int r.toInt32)] [(.int (r.toInt32 + (1 : Int32))), (.int r.toInt32)])) ?_ fun _ k => XS.iadd X5.here hx rfl (hb hby d3_34) rfl k
        refine own_st (T' := T5) (g' := (mkF m 36 #[.val (.ref a1), .val (.int p1), .val (.long p2), .second, .val (.int r.toInt32)] [(.int (r.toInt32 ||| (r.toInt32 + (1 : Int32))))])) ?_ fun _ k => XS.ior X5.here hx rfl (hb hby d3_35) rfl k
        refine own_st (T' := T5) (g' := (mkF m 38 #[.val (.ref a1), .val (.int p1), .val (.long p2), .second, .val (.int (r.toInt32 ||| (r.toInt32 + (1 : Int32))))] [])) ?_ fun _ k => XS.istore X5.here hx rfl (hb hby d3_36) rfl (l' := #[.val (.ref a1), .val (.int p1), .val (.long p2), .second, .val (.int (r.toInt32 ||| (r.toInt32 + (1 : Int32))))]) rfl k
        refine own_st (T' := T5) (g' := (mkF m 8 #[.val (.ref a1), .val (.int p1), .val (.long p2), .second, .val (.int (r.toInt32 ||| (r.toInt32 + (1 : Int32))))] [])) ?_ fun _ k => XS.goto X5.here hx rfl (pc0 := 38) (pc' := 8) rfl (hb hby d3_38) (by decide) (by decide) k
        rw [own_upi r hr]
        refine ih (r ||| (r + 1)) (fun q => if q = r then g q + p2 else g q) _ _ _ X5 e5 N5 K5 ?_ ?_ ?_ ?_
        · refine V5.congr fun q hq => ?_
          rw [own_tI hr]
          show Value.long (if q = r then g r + p2 else g q) = _
          by_cases hq : q = r <;> simp [hq]
        · exact Nat.or_lt_two_pow (n := 4) hr (by omega)
        · have := own_lt_or r; omega
        · intro q
          rw [← hG q]
          show _ = own_add n p2 (k + 1) r g q
          conv => rhs; unfold own_add
          rw [if_pos hrn]
      · refine own_st (T' := T) (g' := (mkF m 10 #[.val (.ref a1), .val (.int p1), .val (.long p2), .second, .val (.int r.toInt32)] [(.int r.toInt32)])) ?_ fun _ k => XS.iload X.here hx rfl (hb hby d3_8) rfl k
        refine own_st (T' := T) (g' := (mkF m 11 #[.val (.ref a1), .val (.int p1), .val (.long p2), .second, .val (.int r.toInt32)] [(.ref a1), (.int r.toInt32)])) ?_ fun _ k => XS.aloadN X.here hx rfl (hb hby d3_10) rfl rfl k
        obtain ⟨T7, X7, e7, st7⟩ := getF X hx hZ hown (host := "") (Or.inl (hw _ (List.mem_of_getElem? (i := 10) rfl))) Via.refl eT FTh (g := (mkF m 11 #[.val (.ref a1), .val (.int p1), .val (.long p2), .second, .val (.int r.toInt32)] [(.ref a1), (.int r.toInt32)])) rfl rfl (hb hby d3_11)
        refine own_st (T' := T7) (g' := (mkF m 14 #[.val (.ref a1), .val (.int p1), .val (.long p2), .second, .val (.int r.toInt32)] [(.ref b), (.int r.toInt32)])) ?_ fun _ k => st7 _ k
        refine own_st (T' := T7) (g' := (mkF m 15 #[.val (.ref a1), .val (.int p1), .val (.long p2), .second, .val (.int r.toInt32)] [(.int n.toInt32), (.int r.toInt32)])) ?_ fun _ k => own_len X7 hx hZ e7 V rfl (hb hby d3_14) _ k
        refine own_st (T' := T7) (g' := (mkF m 41 #[.val (.ref a1), .val (.int p1), .val (.long p2), .second, .val (.int r.toInt32)] [])) ?_ fun _ k => XS.icmpYes X7.here hx rfl (pc0 := 15) (pc' := 41) rfl (hb hby d3_15) rfl ((flt (fun q => hrn ((own_ltI hr (by omega)).mp q))).2.1) (by decide) (by decide) k
        refine own_retV X7 hx hlk Bd.returns (hb hby d3_41) (Q := (Q3 Z a1 p1 p2 b n f i h0 n0)) (by decide) (by decide) ?_
        show Q3 Z a1 p1 p2 b n f i h0 n0 _ T7.heap _
        rw [e7]
        exact ⟨rfl, N, K, V.congr fun q _ => by rw [← hG q]; first | rfl | (unfold own_add; rw [if_neg hrn])⟩
  have hl := loop 16 i f T1 _ _ X1 e1 N1 (Keep.refl h0 [b]) V0 (by omega) (by omega) (fun _ => rfl)
  rw [← hpi] at hl
  exact hl
theorem d4_0 : decode prog_34_method_12_code 0 = .ok (.lconst 0, 1) := by decide +kernel
theorem d4_1 : decode prog_34_method_12_code 1 = .ok (.lstore_n 2, 1) := by decide +kernel
theorem d4_2 : decode prog_34_method_12_code 2 = .ok (.iload_n 1, 1) := by decide +kernel
theorem d4_3 : decode prog_34_method_12_code 3 = .ok (.istore 4, 2) := by decide +kernel
theorem d4_5 : decode prog_34_method_12_code 5 = .ok (.iload 4, 2) := by decide +kernel
theorem d4_7 : decode prog_34_method_12_code 7 = .ok (.ifCond .lt 27, 3) := by decide +kernel
theorem d4_10 : decode prog_34_method_12_code 10 = .ok (.lload_n 2, 1) := by decide +kernel
theorem d4_11 : decode prog_34_method_12_code 11 = .ok (.aload_n 0, 1) := by decide +kernel
theorem d4_12 : decode prog_34_method_12_code 12 = .ok (.getfield 16, 3) := by decide +kernel
theorem d4_15 : decode prog_34_method_12_code 15 = .ok (.iload 4, 2) := by decide +kernel
theorem d4_17 : decode prog_34_method_12_code 17 = .ok (.laload, 1) := by decide +kernel
theorem d4_18 : decode prog_34_method_12_code 18 = .ok (.ladd, 1) := by decide +kernel
theorem d4_19 : decode prog_34_method_12_code 19 = .ok (.lstore_n 2, 1) := by decide +kernel
theorem d4_20 : decode prog_34_method_12_code 20 = .ok (.iload 4, 2) := by decide +kernel
theorem d4_22 : decode prog_34_method_12_code 22 = .ok (.iload 4, 2) := by decide +kernel
theorem d4_24 : decode prog_34_method_12_code 24 = .ok (.iconst 1, 1) := by decide +kernel
theorem d4_25 : decode prog_34_method_12_code 25 = .ok (.iadd, 1) := by decide +kernel
theorem d4_26 : decode prog_34_method_12_code 26 = .ok (.iand, 1) := by decide +kernel
theorem d4_27 : decode prog_34_method_12_code 27 = .ok (.iconst 1, 1) := by decide +kernel
theorem d4_28 : decode prog_34_method_12_code 28 = .ok (.isub, 1) := by decide +kernel
theorem d4_29 : decode prog_34_method_12_code 29 = .ok (.istore 4, 2) := by decide +kernel
theorem d4_31 : decode prog_34_method_12_code 31 = .ok (.goto (-26), 3) := by decide +kernel
theorem d4_34 : decode prog_34_method_12_code 34 = .ok (.lload_n 2, 1) := by decide +kernel
theorem d4_35 : decode prog_34_method_12_code 35 = .ok (.lreturn, 1) := by decide +kernel
theorem pn_4 : plainName "tallytrie/tally/Tally" = true := by first | (simp [plainName, overriddenIn]; done) | decide +kernel
theorem ef_4 (m : MethodId) (a1 : Addr) (p1 : Int32) : entryFrame m #[(.ref a1), (.int p1)] 5 = mkF m 0 #[.val (.ref a1), .val (.int p1), .unset, .unset, .unset] [] := by first | (simp [entryFrame, mkF, argsToLocals, Value.category]; done) | rfl
def Q4 (Z : State) (a1 : Addr) (p1 : Int32) (b : Addr) (n : Nat) (f : Nat → Int64) (h0 : Heap) (n0 : Nat) (v : Option Value) (h : Heap) (L : List Loc) : Prop := v = some (.long (own_sum f 16 n 0)) ∧ Fr n0 L ∧ h = h0
set_option maxRecDepth 65536 in
set_option maxHeartbeats 40000000 in
theorem rm4 (l : Launch) (Z : State) (a0 : Array Value) (hw : ∀ d ∈ tables_1, d.before a0 Z = true) (ws : List Jvm.Cond) (a1 : Addr) (p1 : Int32) (b : Addr) (n : Nat) (f : Nat → Int64) (h0 : Heap) (n0 : Nat) (Z0 : n0 ≤ h0.size) (FT : Fld Z h0 a1 "tallytrie/tally/Tally" "tree" "[J" (.ref b)) (E7 : Exa Z h0 a1 "tallytrie/tally/Tally") (V0 : own_A Z h0 b .long n (fun i => .long (f i))) (hn15 : n ≤ 15) (hab : a1 ≠ b) (hpn : p1 = n.toInt32 - (1 : Int32)) :
    MetFree l (⟨"tallytrie/tally/Tally", "sumThrough", "(I)J"⟩ : MethodName) (head1 (Jvm.Cond.code (⟨"tallytrie/tally/Tally", "sumThrough", "(I)J"⟩ : MethodName) prog_34_method_12_code 5 (some .long) :: ws) ({ frames := 0, cells := 0, slots := 0, locals := 0 } : Room)) (fun a U => a = #[(.ref a1), (.int p1)] ∧ Z.Warmed39 U.vm ∧ U.heap = h0) (fun _ _ _ _ _ => True) (fun _ U o U' => ∃ v L, o = .returned v ∧ Q4 Z a1 p1 b n f h0 n0 v U'.heap L ∧ FrameEnd U o U' L ({ frames := 0, cells := 0, slots := 0, locals := 0 } : Room).cells ({ frames := 0, cells := 0, slots := 0, locals := 0 } : Room).slots) := by
  refine MetFree.of_bodySF (plainFor_of_name pn_4) hisR ?_
  intro p e s m args below meth c s₁ Bd hml0 hP hK
  obtain ⟨rfl, hZ, hh⟩ := hP
  have hx := Bd.exec
  have hby := Bd.bytes
  have hml : c.maxLocals = 5 := hml0
  have hown : s.vm.findClass "tallytrie/tally/Tally" = some m.cls := findClass_of_methodNamed Bd.named
  have hnm := (name_of_methodNamed Bd.named Bd.method).1
  have X0 : Stand p l e ({ frames := 0, cells := 0, slots := 0, locals := 0 } : Room) s m #[(.ref a1), (.int p1)] below meth c s₁ [] 0 0 := Stand.of_body Bd
  have e0 : s₁.heap = h0 := by rw [← hh, Bd.state]; rfl
  have N0 := Fr.nil n0
  have hlk := Bd.notSynchronized
  refine own_in (Q := Q4 Z a1 p1 b n f h0 n0) (ef_4 m a1 p1) ?_
  refine own_st (T' := s₁) (g' := (mkF m 1 #[.val (.ref a1), .val (.int p1), .unset, .unset, .unset] [(.long (0 : Int64))])) ?_ fun _ k => XS.lconst X0.here hx rfl (hb hby d4_0) k
  refine own_st (T' := s₁) (g' := (mkF m 2 #[.val (.ref a1), .val (.int p1), .val (.long (0 : Int64)), .second, .unset] [])) ?_ fun _ k => XS.lstoreN X0.here hx rfl (hb hby d4_1) rfl (l' := #[.val (.ref a1), .val (.int p1), .val (.long (0 : Int64)), .second, .unset]) rfl k
  refine own_st (T' := s₁) (g' := (mkF m 3 #[.val (.ref a1), .val (.int p1), .val (.long (0 : Int64)), .second, .unset] [(.int p1)])) ?_ fun _ k => XS.iloadN X0.here hx rfl (hb hby d4_2) rfl k
  refine own_st (T' := s₁) (g' := (mkF m 5 #[.val (.ref a1), .val (.int p1), .val (.long (0 : Int64)), .second, .val (.int p1)] [])) ?_ fun _ k => XS.istore X0.here hx rfl (hb hby d4_3) rfl (l' := #[.val (.ref a1), .val (.int p1), .val (.long (0 : Int64)), .second, .val (.int p1)]) rfl k
  have loop : ∀ (k r : Nat) (t : Int64) (T : State) (locs : List Loc) (X : Stand p l e ({ frames := 0, cells := 0, slots := 0, locals := 0 } : Room) s m #[(.ref a1), (.int p1)] below meth c T locs 0 0) (eT : T.heap = h0) (N : Fr n0 locs) (hr : r ≤ n) (hk : r ≤ k) (hG : own_sum f k r t = own_sum f 16 n 0), own_Go p.tables e below T (mkF m 5 #[.val (.ref a1), .val (.int p1), .val (.long t), .second, .val (.int (r.toInt32 - (1 : Int32)))] []) (own_End s (Q4 Z a1 p1 b n f h0 n0) ({ frames := 0, cells := 0, slots := 0, locals := 0 } : Room).cells ({ frames := 0, cells := 0, slots := 0, locals := 0 } : Room).slots) := by
    intro k
    induction k with
    | zero =>
      intro r t T locs X eT N hr hk hG
      obtain rfl : r = 0 := by omega
      refine own_st (T' := T) (g' := (mkF m 7 #[.val (.ref a1), .val (.int p1), .val (.long t), .second, .val (.int ((0 : Nat).toInt32 - (1 : Int32)))] [(.int ((0 : Nat).toInt32 - (1 : Int32)))])) ?_ fun _ k => XS.iload X.here hx rfl (hb hby d4_5) rfl k
      refine own_st (T' := T) (g' := (mkF m 34 #[.val (.ref a1), .val (.int p1), .val (.long t), .second, .val (.int ((0 : Nat).toInt32 - (1 : Int32)))] [])) ?_ fun _ k => XS.ifYes X.here hx rfl (pc0 := 7) (pc' := 34) rfl (hb hby d4_7) rfl ((if0 _ _).trans (tlt (by decide)).1) (by decide) (by decide) k
      refine own_st (T' := T) (g' := (mkF m 35 #[.val (.ref a1), .val (.int p1), .val (.long t), .second, .val (.int ((0 : Nat).toInt32 - (1 : Int32)))] [(.long t)])) ?_ fun _ k => XS.lloadN X.here hx rfl (hb hby d4_34) rfl k
      refine own_retJ X hx hlk Bd.returns (hb hby d4_35) (Q := (Q4 Z a1 p1 b n f h0 n0)) (by decide) (by decide) ?_
      exact ⟨by rw [← hG]; rfl, N, eT⟩
    | succ k ih =>
      intro r t T locs X eT N hr hk hG
      cases r with
      | zero =>
        refine own_st (T' := T) (g' := (mkF m 7 #[.val (.ref a1), .val (.int p1), .val (.long t), .second, .val (.int ((0 : Nat).toInt32 - (1 : Int32)))] [(.int ((0 : Nat).toInt32 - (1 : Int32)))])) ?_ fun _ k => XS.iload X.here hx rfl (hb hby d4_5) rfl k
        refine own_st (T' := T) (g' := (mkF m 34 #[.val (.ref a1), .val (.int p1), .val (.long t), .second, .val (.int ((0 : Nat).toInt32 - (1 : Int32)))] [])) ?_ fun _ k => XS.ifYes X.here hx rfl (pc0 := 7) (pc' := 34) rfl (hb hby d4_7) rfl ((if0 _ _).trans (tlt (by decide)).1) (by decide) (by decide) k
        refine own_st (T' := T) (g' := (mkF m 35 #[.val (.ref a1), .val (.int p1), .val (.long t), .second, .val (.int ((0 : Nat).toInt32 - (1 : Int32)))] [(.long t)])) ?_ fun _ k => XS.lloadN X.here hx rfl (hb hby d4_34) rfl k
        refine own_retJ X hx hlk Bd.returns (hb hby d4_35) (Q := (Q4 Z a1 p1 b n f h0 n0)) (by decide) (by decide) ?_
        exact ⟨by rw [← hG]; rfl, N, eT⟩
      | succ r =>
        refine own_st (T' := T) (g' := (mkF m 7 #[.val (.ref a1), .val (.int p1), .val (.long t), .second, .val (.int ((r + 1).toInt32 - (1 : Int32)))] [(.int ((r + 1).toInt32 - (1 : Int32)))])) ?_ fun _ k => XS.iload X.here hx rfl (hb hby d4_5) rfl k
        refine own_st (T' := T) (g' := (mkF m 10 #[.val (.ref a1), .val (.int p1), .val (.long t), .second, .val (.int ((r + 1).toInt32 - (1 : Int32)))] [])) ?_ fun _ k => XS.ifNo X.here hx rfl (hb hby d4_7) rfl ((if0 _ _).trans (flt (own_dnt r (by omega)).2).1) k
        refine own_st (T' := T) (g' := (mkF m 11 #[.val (.ref a1), .val (.int p1), .val (.long t), .second, .val (.int ((r + 1).toInt32 - (1 : Int32)))] [(.long t)])) ?_ fun _ k => XS.lloadN X.here hx rfl (hb hby d4_10) rfl k
        refine own_st (T' := T) (g' := (mkF m 12 #[.val (.ref a1), .val (.int p1), .val (.long t), .second, .val (.int ((r + 1).toInt32 - (1 : Int32)))] [(.ref a1), (.long t)])) ?_ fun _ k => XS.aloadN X.here hx rfl (hb hby d4_11) rfl rfl k
        obtain ⟨T1, X1, e1, st1⟩ := getF X hx hZ hown (host := "") (Or.inl (hw _ (List.mem_of_getElem? (i := 10) rfl))) Via.refl eT FT (g := (mkF m 12 #[.val (.ref a1), .val (.int p1), .val (.long t), .second, .val (.int ((r + 1).toInt32 - (1 : Int32)))] [(.ref a1), (.long t)])) rfl rfl (hb hby d4_12)
        refine own_st (T' := T1) (g' := (mkF m 15 #[.val (.ref a1), .val (.int p1), .val (.long t), .second, .val (.int ((r + 1).toInt32 - (1 : Int32)))] [(.ref b), (.long t)])) ?_ fun _ k => st1 _ k
        refine own_st (T' := T1) (g' := (mkF m 17 #[.val (.ref a1), .val (.int p1), .val (.long t), .second, .val (.int ((r + 1).toInt32 - (1 : Int32)))] [(.int ((r + 1).toInt32 - (1 : Int32))), (.ref b), (.long t)])) ?_ fun _ k => XS.iload X1.here hx rfl (hb hby d4_15) rfl k
        refine own_st (T' := T1) (g' := (mkF m 18 #[.val (.ref a1), .val (.int p1), .val (.long t), .second, .val (.int ((r + 1).toInt32 - (1 : Int32)))] [(.long (f r)), (.long t)])) ?_ fun _ k => own_laload X1 hx hZ e1 V0 (j := ((r + 1).toInt32 - (1 : Int32))) (by rw [(own_dnt r (by omega)).1]; omega) (by rw [(own_dnt r (by omega)).1]; omega) (by rw [(own_dnt r (by omega)).1]; rfl) (hb hby d4_17) _ k
        refine own_st (T' := T1) (g' := (mkF m 19 #[.val (.ref a1), .val (.int p1), .val (.long t), .second, .val (.int ((r + 1).toInt32 - (1 : Int32)))] [(.long (t + (f r)))])) ?_ fun _ k => XS.ladd X1.here hx rfl (hb hby d4_18) rfl k
        refine own_st (T' := T1) (g' := (mkF m 20 #[.val (.ref a1), .val (.int p1), .val (.long (t + (f r))), .second, .val (.int ((r + 1).toInt32 - (1 : Int32)))] [])) ?_ fun _ k => XS.lstoreN X1.here hx rfl (hb hby d4_19) rfl (l' := #[.val (.ref a1), .val (.int p1), .val (.long (t + (f r))), .second, .val (.int ((r + 1).toInt32 - (1 : Int32)))]) rfl k
        refine own_st (T' := T1) (g' := (mkF m 22 #[.val (.ref a1), .val (.int p1), .val (.long (t + (f r))), .second, .val (.int ((r + 1).toInt32 - (1 : Int32)))] [(.int ((r + 1).toInt32 - (1 : Int32)))])) ?_ fun _ k => XS.iload X1.here hx rfl (hb hby d4_20) rfl k
        refine own_st (T' := T1) (g' := (mkF m 24 #[.val (.ref a1), .val (.int p1), .val (.long (t + (f r))), .second, .val (.int ((r + 1).toInt32 - (1 : Int32)))] [(.int ((r + 1).toInt32 - (1 : Int32))), (.int ((r + 1).toInt32 - (1 : Int32)))])) ?_ fun _ k => XS.iload X1.here hx rfl (hb hby d4_22) rfl k
        refine own_st (T' := T1) (g' := (mkF m 25 #[.val (.ref a1), .val (.int p1), .val (.long (t + (f r))), .second, .val (.int ((r + 1).toInt32 - (1 : Int32)))] [(.int (1 : Int32)), (.int ((r + 1).toInt32 - (1 : Int32))), (.int ((r + 1).toInt32 - (1 : Int32)))])) ?_ fun _ k => XS.iconst X1.here hx rfl (hb hby d4_24) k
        refine own_st (T' := T1) (g' := (mkF m 26 #[.val (.ref a1), .val (.int p1), .val (.long (t + (f r))), .second, .val (.int ((r + 1).toInt32 - (1 : Int32)))] [(.int (((r + 1).toInt32 - (1 : Int32)) + (1 : Int32))), (.int ((r + 1).toInt32 - (1 : Int32)))])) ?_ fun _ k => XS.iadd X1.here hx rfl (hb hby d4_25) rfl k
        refine own_st (T' := T1) (g' := (mkF m 27 #[.val (.ref a1), .val (.int p1), .val (.long (t + (f r))), .second, .val (.int ((r + 1).toInt32 - (1 : Int32)))] [(.int (((r + 1).toInt32 - (1 : Int32)) &&& (((r + 1).toInt32 - (1 : Int32)) + (1 : Int32))))])) ?_ fun _ k => XS.iand X1.here hx rfl (hb hby d4_26) rfl k
        refine own_st (T' := T1) (g' := (mkF m 28 #[.val (.ref a1), .val (.int p1), .val (.long (t + (f r))), .second, .val (.int ((r + 1).toInt32 - (1 : Int32)))] [(.int (1 : Int32)), (.int (((r + 1).toInt32 - (1 : Int32)) &&& (((r + 1).toInt32 - (1 : Int32)) + (1 : Int32))))])) ?_ fun _ k => XS.iconst X1.here hx rfl (hb hby d4_27) k
        refine own_st (T' := T1) (g' := (mkF m 29 #[.val (.ref a1), .val (.int p1), .val (.long (t + (f r))), .second, .val (.int ((r + 1).toInt32 - (1 : Int32)))] [(.int ((((r + 1).toInt32 - (1 : Int32)) &&& (((r + 1).toInt32 - (1 : Int32)) + (1 : Int32))) - (1 : Int32)))])) ?_ fun _ k => XS.isub X1.here hx rfl (hb hby d4_28) rfl k
        refine own_st (T' := T1) (g' := (mkF m 31 #[.val (.ref a1), .val (.int p1), .val (.long (t + (f r))), .second, .val (.int ((((r + 1).toInt32 - (1 : Int32)) &&& (((r + 1).toInt32 - (1 : Int32)) + (1 : Int32))) - (1 : Int32)))] [])) ?_ fun _ k => XS.istore X1.here hx rfl (hb hby d4_29) rfl (l' := #[.val (.ref a1), .val (.int p1), .val (.long (t + (f r))), .second, .val (.int ((((r + 1).toInt32 - (1 : Int32)) &&& (((r + 1).toInt32 - (1 : Int32)) + (1 : Int32))) - (1 : Int32)))]) rfl k
        refine own_st (T' := T1) (g' := (mkF m 5 #[.val (.ref a1), .val (.int p1), .val (.long (t + (f r))), .second, .val (.int ((((r + 1).toInt32 - (1 : Int32)) &&& (((r + 1).toInt32 - (1 : Int32)) + (1 : Int32))) - (1 : Int32)))] [])) ?_ fun _ k => XS.goto X1.here hx rfl (pc0 := 31) (pc' := 5) rfl (hb hby d4_31) (by decide) (by decide) k
        rw [own_dni r (by omega)]
        exact ih (r &&& (r + 1)) (t + f r) _ _ X1 e1 N (Nat.le_trans Nat.and_le_left (by omega)) (Nat.le_trans Nat.and_le_left (by omega)) hG
  have hl := loop 16 n 0 s₁ _ X0 e0 N0 (Nat.le_refl _) (by omega) rfl
  rw [← hpn] at hl
  exact hl
theorem d5_0 : decode prog_34_method_10_code 0 = .ok (.aload_n 0, 1) := by decide +kernel
theorem d5_1 : decode prog_34_method_10_code 1 = .ok (.aload_n 0, 1) := by decide +kernel
theorem d5_2 : decode prog_34_method_10_code 2 = .ok (.getfield 16, 3) := by decide +kernel
theorem d5_5 : decode prog_34_method_10_code 5 = .ok (.arraylength, 1) := by decide +kernel
theorem d5_6 : decode prog_34_method_10_code 6 = .ok (.iconst 1, 1) := by decide +kernel
theorem d5_7 : decode prog_34_method_10_code 7 = .ok (.isub, 1) := by decide +kernel
theorem d5_8 : decode prog_34_method_10_code 8 = .ok (.invokevirtual 42, 3) := by decide +kernel
theorem d5_11 : decode prog_34_method_10_code 11 = .ok (.lreturn, 1) := by decide +kernel
theorem pd5_0 : parseMethodDescriptor "(I)J" = some ⟨[.int], some .long⟩ := by decide +kernel
theorem pn_5 : plainName "tallytrie/tally/Tally" = true := by first | (simp [plainName, overriddenIn]; done) | decide +kernel
theorem ef_5 (m : MethodId) (a1 : Addr) : entryFrame m #[(.ref a1)] 1 = mkF m 0 #[.val (.ref a1)] [] := by first | (simp [entryFrame, mkF, argsToLocals, Value.category]; done) | rfl
def Q5 (Z : State) (a1 : Addr) (b : Addr) (n : Nat) (f : Nat → Int64) (h0 : Heap) (n0 : Nat) (v : Option Value) (h : Heap) (L : List Loc) : Prop := v = some (.long (own_sum f 16 n 0)) ∧ Fr n0 L ∧ h = h0
set_option maxRecDepth 65536 in
set_option maxHeartbeats 40000000 in
theorem rm5 (l : Launch) (Z : State) (a0 : Array Value) (hw : ∀ d ∈ tables_1, d.before a0 Z = true) (ws : List Jvm.Cond) (a1 : Addr) (b : Addr) (n : Nat) (f : Nat → Int64) (h0 : Heap) (n0 : Nat) (Z0 : n0 ≤ h0.size) (FT : Fld Z h0 a1 "tallytrie/tally/Tally" "tree" "[J" (.ref b)) (E7 : Exa Z h0 a1 "tallytrie/tally/Tally") (V0 : own_A Z h0 b .long n (fun i => .long (f i))) (hn15 : n ≤ 15) (hab : a1 ≠ b) :
    MetFree l (⟨"tallytrie/tally/Tally", "total", "()J"⟩ : MethodName) (head1 (Jvm.Cond.code (⟨"tallytrie/tally/Tally", "total", "()J"⟩ : MethodName) prog_34_method_10_code 1 (some .long) :: ws) ({ frames := 1, cells := 0, slots := 0, locals := 16 } : Room)) (fun a U => a = #[(.ref a1)] ∧ Z.Warmed39 U.vm ∧ U.heap = h0) (fun _ _ _ _ _ => True) (fun _ U o U' => ∃ v L, o = .returned v ∧ Q5 Z a1 b n f h0 n0 v U'.heap L ∧ FrameEnd U o U' L ({ frames := 1, cells := 0, slots := 0, locals := 16 } : Room).cells ({ frames := 1, cells := 0, slots := 0, locals := 16 } : Room).slots) := by
  refine MetFree.of_bodySF (plainFor_of_name pn_5) hisR ?_
  intro p e s m args below meth c s₁ Bd hml0 hP hK
  obtain ⟨rfl, hZ, hh⟩ := hP
  have hx := Bd.exec
  have hby := Bd.bytes
  have hml : c.maxLocals = 1 := hml0
  have hown : s.vm.findClass "tallytrie/tally/Tally" = some m.cls := findClass_of_methodNamed Bd.named
  have hnm := (name_of_methodNamed Bd.named Bd.method).1
  have X0 : Stand p l e ({ frames := 1, cells := 0, slots := 0, locals := 16 } : Room) s m #[(.ref a1)] below meth c s₁ [] 0 0 := Stand.of_body Bd
  have e0 : s₁.heap = h0 := by rw [← hh, Bd.state]; rfl
  have N0 := Fr.nil n0
  have hlk := Bd.notSynchronized
  refine own_in (Q := Q5 Z a1 b n f h0 n0) (ef_5 m a1) ?_
  refine own_st (T' := s₁) (g' := (mkF m 1 #[.val (.ref a1)] [(.ref a1)])) ?_ fun _ k => XS.aloadN X0.here hx rfl (hb hby d5_0) rfl rfl k
  refine own_st (T' := s₁) (g' := (mkF m 2 #[.val (.ref a1)] [(.ref a1), (.ref a1)])) ?_ fun _ k => XS.aloadN X0.here hx rfl (hb hby d5_1) rfl rfl k
  obtain ⟨T1, X1, e1, st1⟩ := getF X0 hx hZ hown (host := "") (Or.inl (hw _ (List.mem_of_getElem? (i := 10) rfl))) Via.refl e0 FT (g := (mkF m 2 #[.val (.ref a1)] [(.ref a1), (.ref a1)])) rfl rfl (hb hby d5_2)
  refine own_st (T' := T1) (g' := (mkF m 5 #[.val (.ref a1)] [(.ref b), (.ref a1)])) ?_ fun _ k => st1 _ k
  refine own_st (T' := T1) (g' := (mkF m 6 #[.val (.ref a1)] [(.int n.toInt32), (.ref a1)])) ?_ fun _ k => own_len X1 hx hZ e1 V0 rfl (hb hby d5_5) _ k
  refine own_st (T' := T1) (g' := (mkF m 7 #[.val (.ref a1)] [(.int (1 : Int32)), (.int n.toInt32), (.ref a1)])) ?_ fun _ k => XS.iconst X1.here hx rfl (hb hby d5_6) k
  refine own_st (T' := T1) (g' := (mkF m 8 #[.val (.ref a1)] [(.int (n.toInt32 - (1 : Int32))), (.ref a1)])) ?_ fun _ k => XS.isub X1.here hx rfl (hb hby d5_7) rfl k
  obtain ⟨cq2, q2, r2⟩ := E7.cell
  obtain ⟨_, _, ⟨T2, L2, k2, n2⟩, -, X2, ⟨Lc2, hQ2, l2, y2, z2⟩, st2⟩ := X1.privateBack hx (y := (⟨"tallytrie/tally/Tally", "sumThrough", "(I)J"⟩ : MethodName)) hown (mvT hZ (hw _ (List.mem_of_getElem? (i := 17) rfl))) (mvT hZ (hw _ (List.mem_of_getElem? (i := 18) rfl))) (own_selp (x := (⟨"tallytrie/tally/Tally", "total", "()J"⟩ : MethodName)) (mvT hZ (hw _ (List.mem_of_getElem? (i := 15) rfl))) rfl (Cond.privateMethod_at (mvP hZ (hw _ (List.mem_of_getElem? (i := 19) rfl)) (args := #[]))) (mvT hZ (hw _ (List.mem_of_getElem? (i := 18) rfl))) (by decide)) (Cond.privateMethod_at (mvP hZ (hw _ (List.mem_of_getElem? (i := 19) rfl)) (args := #[]))) (mvT hZ (hw _ (List.mem_of_getElem? (i := 20) rfl))) (by decide) (backOf (W := 0) (rm4 l Z a0 hw [] a1 (n.toInt32 - (1 : Int32)) b n f h0 n0 Z0 FT E7 V0 hn15 hab rfl) hZ (hw _ (List.mem_of_getElem? (i := 20) rfl)) (hw _ (List.mem_of_getElem? (i := 2) rfl)) (by decide) (by decide)) (g := (mkF m 8 #[.val (.ref a1)] [(.int (n.toInt32 - (1 : Int32))), (.ref a1)])) rfl (by rw [hml]; rfl) (Steps.refl _) (a := a1) (by rw [e1]; exact q2) r2 (argsL := [(.int (n.toInt32 - (1 : Int32)))]) (rest := []) (lenOf pd5_0 rfl) rfl (by show 2 * 0 + _ ≤ _; exact Nat.le_of_eq rfl) (hb hby d5_8) (fun _ _ => ⟨rfl, e1, (by decide : 0 + 0 ≤ _), (by decide : 0 + 0 ≤ _)⟩)
  dsimp only [Pt.U, Pt.locs, Pt.cells, Pt.slots] at X2 l2 y2 z2 st2 hQ2
  subst l2 y2 z2
  obtain ⟨rfl, Nq2, e2⟩ := hQ2
  have N2 := Fr.app N0 Nq2
  refine own_st (T' := T2) (g' := (mkF m 11 #[.val (.ref a1)] [(.long (own_sum f 16 n 0))])) ?_ fun _ k => st2.trans k
  refine own_retJ X2 hx hlk Bd.returns (hb hby d5_11) (Q := (Q5 Z a1 b n f h0 n0)) (by decide) (by decide) ?_
  exact ⟨rfl, N2, e2⟩
theorem own_n15 (x : Int32) : ¬ (x &&& (15 : Int32)) < 0 ∧ (x &&& (15 : Int32)).toInt.toNat ≤ 15 ∧ (x &&& (15 : Int32)) = (x &&& (15 : Int32)).toInt.toNat.toInt32 := by
  have h := c_mask x 15 4 (by decide) (by decide +kernel)
  have e0 : (0 : Int32).toInt = 0 := by decide
  refine ⟨by rw [Int32.lt_iff_toInt_lt, e0]; omega, by omega, ?_⟩
  exact Int32.toInt_inj.mp (by rw [len_toInt (by omega)]; omega)
theorem own_rem {x z : Int32} (hx : 0 ≤ x.toInt) (hz0 : 0 < z.toInt) : (x % z).toInt.toNat < z.toInt.toNat ∧ (x % z) = (x % z).toInt.toNat.toInt32 := by
  have h := (c_iremV x z).1 hx hz0
  have r := rng32 z
  refine ⟨by omega, ?_⟩
  exact Int32.toInt_inj.mp (by rw [len_toInt (by omega)]; omega)
theorem own_p0 {z : Int32} (h : (0 : Int32) < z) : 0 < z.toInt := by
  have e0 : (0 : Int32).toInt = 0 := by decide
  rw [Int32.lt_iff_toInt_lt, e0] at h
  exact h
theorem own_and31 (x : Int32) : 0 ≤ (x &&& (2147483647 : Int32)).toInt := (c_and x (2147483647 : Int32) (by decide)).1
theorem own_ush (x : Int32) : 0 ≤ ((x.toUInt32 >>> ((16 : Int32) &&& 31).toUInt32).toInt32).toInt := by
  rw [c_iushr x 16 16 (by decide) (by decide)]
  omega
theorem own_fin {n i j k : Nat} (hn : n ≤ 15) (hi : i < n) (hj : j < n) (hk : k < n) (a b c : Int64) : own_sum (own_add n c 16 k (own_add n b 16 j (own_add n a 16 i (fun _ => 0)))) 16 n 0 = a + b + c := by
  rw [own_tally hn hk, own_tally hn hj, own_tally hn hi, own_zero n (by omega)]
  simp
theorem pd0_0 : parseMethodDescriptor "(I)V" = some ⟨[.int], none⟩ := by decide +kernel
theorem pd0_1 : parseMethodDescriptor "(IJ)V" = some ⟨[.int, .long], none⟩ := by decide +kernel
theorem pd0_2 : parseMethodDescriptor "()J" = some ⟨[], some .long⟩ := by decide +kernel
theorem pn_0 : plainName "tallytrie/tally/TallyTotalPinLaw" = true := by first | (simp [plainName, overriddenIn]; done) | decide +kernel
theorem ef_0 (m : MethodId) (p0 : Int32) (p1 : Int32) (p2 : Int32) (p3 : Int64) (p4 : Int64) (p5 : Int64) : entryFrame m #[(.int p0), (.int p1), (.int p2), (.long p3), (.long p4), (.long p5)] maxLocals = mkF m 0 #[.val (.int p0), .val (.int p1), .val (.int p2), .val (.long p3), .second, .val (.long p4), .second, .val (.long p5), .second, .unset, .unset, .unset, .unset, .unset, .unset, .unset] [] := by first | (simp [entryFrame, mkF, argsToLocals, Value.category, maxLocals]; done) | rfl
def Q0 (Z : State) (p0 : Int32) (p1 : Int32) (p2 : Int32) (p3 : Int64) (p4 : Int64) (p5 : Int64) (h0 : Heap) (n0 : Nat) (v : Option Value) (h : Heap) (L : List Loc) : Prop := v = some (.int 1) ∧ Fr n0 L
set_option maxRecDepth 65536 in
set_option maxHeartbeats 40000000 in
theorem rm0 (l : Launch) (Z : State) (a0 : Array Value) (hw : ∀ d ∈ tables_1, d.before a0 Z = true) (ws : List Jvm.Cond) (p0 : Int32) (p1 : Int32) (p2 : Int32) (p3 : Int64) (p4 : Int64) (p5 : Int64) (h0 : Heap) (n0 : Nat) (Z0 : n0 ≤ h0.size)  :
    MetFree l x (head1 (Jvm.Cond.code x code maxLocals ret :: ws) room_1) (fun a U => a = #[(.int p0), (.int p1), (.int p2), (.long p3), (.long p4), (.long p5)] ∧ Z.Warmed39 U.vm ∧ U.heap = h0) (fun _ _ _ _ _ => True) (fun _ U o U' => ∃ v L, o = .returned v ∧ Q0 Z p0 p1 p2 p3 p4 p5 h0 n0 v U'.heap L ∧ FrameEnd U o U' L 2 16) := by
  refine MetFree.of_bodySF (plainFor_of_name pn_0) hisR ?_
  intro p e s m args below meth c s₁ Bd hml0 hP hK
  obtain ⟨rfl, hZ, hh⟩ := hP
  have hx := Bd.exec
  have hby := Bd.bytes
  have hml : c.maxLocals = 16 := hml0
  have hown : s.vm.findClass "tallytrie/tally/TallyTotalPinLaw" = some m.cls := findClass_of_methodNamed Bd.named
  have hnm := (name_of_methodNamed Bd.named Bd.method).1
  have X0 : Stand p l e room_1 s m #[(.int p0), (.int p1), (.int p2), (.long p3), (.long p4), (.long p5)] below meth c s₁ [] 0 0 := Stand.of_body Bd
  have e0 : s₁.heap = h0 := by rw [← hh, Bd.state]; rfl
  have N0 := Fr.nil n0
  have hlk := Bd.notSynchronized
  refine own_in (Q := Q0 Z p0 p1 p2 p3 p4 p5 h0 n0) (ef_0 m p0 p1 p2 p3 p4 p5) ?_
  refine own_st (T' := s₁) (g' := (mkF m 1 #[.val (.int p0), .val (.int p1), .val (.int p2), .val (.long p3), .second, .val (.long p4), .second, .val (.long p5), .second, .unset, .unset, .unset, .unset, .unset, .unset, .unset] [(.int p0)])) ?_ fun _ k => XS.iloadN X0.here hx rfl (hb hby at_0) rfl k
  refine own_st (T' := s₁) (g' := (mkF m 3 #[.val (.int p0), .val (.int p1), .val (.int p2), .val (.long p3), .second, .val (.long p4), .second, .val (.long p5), .second, .unset, .unset, .unset, .unset, .unset, .unset, .unset] [(.int (15 : Int32)), (.int p0)])) ?_ fun _ k => XS.bipush X0.here hx rfl (hb hby at_1) k
  refine own_st (T' := s₁) (g' := (mkF m 4 #[.val (.int p0), .val (.int p1), .val (.int p2), .val (.long p3), .second, .val (.long p4), .second, .val (.long p5), .second, .unset, .unset, .unset, .unset, .unset, .unset, .unset] [(.int (p0 &&& (15 : Int32)))])) ?_ fun _ k => XS.iand X0.here hx rfl (hb hby at_3) rfl k
  obtain ⟨hz0, hz1, hz2⟩ := own_n15 p0
  generalize (p0 &&& (15 : Int32)) = z at *
  obtain ⟨n, hn⟩ : ∃ n, n = z.toInt.toNat := ⟨_, rfl⟩
  rw [← hn] at hz1 hz2
  refine own_st (T' := s₁) (g' := (mkF m 6 #[.val (.int p0), .val (.int p1), .val (.int p2), .val (.long p3), .second, .val (.long p4), .second, .val (.long p5), .second, .val (.int z), .unset, .unset, .unset, .unset, .unset, .unset] [])) ?_ fun _ k => XS.istore X0.here hx rfl (hb hby at_4) rfl (l' := #[.val (.int p0), .val (.int p1), .val (.int p2), .val (.long p3), .second, .val (.long p4), .second, .val (.long p5), .second, .val (.int z), .unset, .unset, .unset, .unset, .unset, .unset]) rfl k
  obtain ⟨T1, h1, X1, e1, E1, A1, D1, -, st1⟩ := newO X0 hx hZ hown (hw _ (List.mem_of_getElem? (i := 0) rfl)) (hw _ (List.mem_of_getElem? (i := 1) rfl)) (hw _ (List.mem_of_getElem? (i := 2) rfl)) e0 (g := (mkF m 6 #[.val (.int p0), .val (.int p1), .val (.int p2), .val (.long p3), .second, .val (.long p4), .second, .val (.long p5), .second, .val (.int z), .unset, .unset, .unset, .unset, .unset, .unset] [])) rfl (hb hby at_6) (by decide) (by decide)
  obtain ⟨b1, g1⟩ : ∃ z, z = h0.size := ⟨_, rfl⟩
  rw [← g1] at A1 D1 st1
  have gb1 : n0 ≤ b1 := Nat.le_trans Z0 (Nat.le_of_eq g1.symm)
  have F1_tree : Fld Z h1 b1 "tallytrie/tally/Tally" "tree" "[J" .null := D1 (Or.inr (hw _ (List.mem_of_getElem? (i := 11) rfl))) (ty := (.array .long)) (by decide)
  refine own_st (T' := T1) (g' := (mkF m 9 #[.val (.int p0), .val (.int p1), .val (.int p2), .val (.long p3), .second, .val (.long p4), .second, .val (.long p5), .second, .val (.int z), .unset, .unset, .unset, .unset, .unset, .unset] [(.ref b1)])) ?_ fun _ k => st1 _ k
  refine own_st (T' := T1) (g' := (mkF m 10 #[.val (.int p0), .val (.int p1), .val (.int p2), .val (.long p3), .second, .val (.long p4), .second, .val (.long p5), .second, .val (.int z), .unset, .unset, .unset, .unset, .unset, .unset] [(.ref b1), (.ref b1)])) ?_ fun _ k => XS.dup X1.here hx rfl (hb hby at_9) rfl rfl k
  refine own_st (T' := T1) (g' := (mkF m 12 #[.val (.int p0), .val (.int p1), .val (.int p2), .val (.long p3), .second, .val (.long p4), .second, .val (.long p5), .second, .val (.int z), .unset, .unset, .unset, .unset, .unset, .unset] [(.int z), (.ref b1), (.ref b1)])) ?_ fun _ k => XS.iload X1.here hx rfl (hb hby at_10) rfl k
  obtain ⟨_, _, ⟨T2, L2, k2, n2⟩, -, X2, ⟨Lc2, hQ2, l2, y2, z2⟩, st2⟩ := X1.specialBack hx (y := (⟨"tallytrie/tally/Tally", "<init>", "(I)V"⟩ : MethodName)) rfl hown (mvT hZ (hw _ (List.mem_of_getElem? (i := 3) rfl))) (mvT hZ (hw _ (List.mem_of_getElem? (i := 4) rfl))) (mvT hZ (hw _ (List.mem_of_getElem? (i := 5) rfl))) (by decide) (backOf (W := 1) (rm1 l Z a0 hw [] b1 z n h1 n0 (Nat.le_trans Z0 E1.1) F1_tree A1 gb1 hz0 hn.symm hz1) hZ (hw _ (List.mem_of_getElem? (i := 5) rfl)) (hw _ (List.mem_of_getElem? (i := 2) rfl)) (by decide) (by decide)) (g := (mkF m 12 #[.val (.int p0), .val (.int p1), .val (.int p2), .val (.long p3), .second, .val (.long p4), .second, .val (.long p5), .second, .val (.int z), .unset, .unset, .unset, .unset, .unset, .unset] [(.int z), (.ref b1), (.ref b1)])) rfl (by rw [hml]; rfl) (Steps.refl _) (a := b1) (argsL := [(.int z)]) (rest := [(.ref b1)]) (lenOf pd0_0 rfl) rfl (by show 2 * 0 + _ ≤ _; exact Nat.le_of_eq rfl) (hb hby at_12) (fun _ _ => ⟨rfl, e1, (by decide : 1 + 1 ≤ _), (by decide : 1 + 15 ≤ _)⟩)
  dsimp only [Pt.U, Pt.locs, Pt.cells, Pt.slots] at X2 l2 y2 z2 st2 hQ2
  subst l2 y2 z2
  obtain ⟨rfl, Nq2, K2, E2, F2, V2⟩ := hQ2
  have N2 := Fr.app N0 Nq2
  have ZH2 : n0 ≤ T2.heap.size := Nat.le_trans (Nat.le_trans Z0 E1.1) K2.1
  have c3_ := A1.keep K2
  obtain ⟨ar2, ga2⟩ : ∃ q, q = h1.size := ⟨_, rfl⟩
  rw [← ga2] at F2 V2
  have hab : b1 ≠ ar2 := Nat.ne_of_lt (Nat.lt_of_lt_of_le A1.lt (Nat.le_of_eq ga2.symm))
  have gar : n0 ≤ ar2 := Nat.le_trans (Nat.le_trans Z0 E1.1) (Nat.le_of_eq ga2.symm)
  refine own_st (T' := T2) (g' := (mkF m 15 #[.val (.int p0), .val (.int p1), .val (.int p2), .val (.long p3), .second, .val (.long p4), .second, .val (.long p5), .second, .val (.int z), .unset, .unset, .unset, .unset, .unset, .unset] [(.ref b1)])) ?_ fun _ k => st2.trans k
  refine own_st (T' := T2) (g' := (mkF m 17 #[.val (.int p0), .val (.int p1), .val (.int p2), .val (.long p3), .second, .val (.long p4), .second, .val (.long p5), .second, .val (.int z), .val (.ref b1), .unset, .unset, .unset, .unset, .unset] [])) ?_ fun _ k => XS.astore X2.here hx rfl (hb hby at_15) rfl rfl (l' := #[.val (.int p0), .val (.int p1), .val (.int p2), .val (.long p3), .second, .val (.long p4), .second, .val (.long p5), .second, .val (.int z), .val (.ref b1), .unset, .unset, .unset, .unset, .unset]) rfl k
  refine own_st (T' := T2) (g' := (mkF m 18 #[.val (.int p0), .val (.int p1), .val (.int p2), .val (.long p3), .second, .val (.long p4), .second, .val (.long p5), .second, .val (.int z), .val (.ref b1), .unset, .unset, .unset, .unset, .unset] [(.long (0 : Int64))])) ?_ fun _ k => XS.lconst X2.here hx rfl (hb hby at_17) k
  refine own_st (T' := T2) (g' := (mkF m 20 #[.val (.int p0), .val (.int p1), .val (.int p2), .val (.long p3), .second, .val (.long p4), .second, .val (.long p5), .second, .val (.int z), .val (.ref b1), .val (.long (0 : Int64)), .second, .unset, .unset, .unset] [])) ?_ fun _ k => XS.lstore X2.here hx rfl (hb hby at_18) rfl (l' := #[.val (.int p0), .val (.int p1), .val (.int p2), .val (.long p3), .second, .val (.long p4), .second, .val (.long p5), .second, .val (.int z), .val (.ref b1), .val (.long (0 : Int64)), .second, .unset, .unset, .unset]) rfl k
  refine own_st (T' := T2) (g' := (mkF m 22 #[.val (.int p0), .val (.int p1), .val (.int p2), .val (.long p3), .second, .val (.long p4), .second, .val (.long p5), .second, .val (.int z), .val (.ref b1), .val (.long (0 : Int64)), .second, .unset, .unset, .unset] [(.int z)])) ?_ fun _ k => XS.iload X2.here hx rfl (hb hby at_20) rfl k
  by_cases hpos : (0 : Int32) < z
  · have hzp := own_p0 hpos
    have hnz : z ≠ 0 := fun q => by rw [q] at hpos; exact absurd hpos (by decide)
    have r1 := own_rem (own_and31 p1) hzp
    have r2 := own_rem (own_and31 p2) hzp
    have r3 := own_rem (own_ush p1) hzp
    rw [← hn] at r1 r2 r3
    refine own_st (T' := T2) (g' := (mkF m 25 #[.val (.int p0), .val (.int p1), .val (.int p2), .val (.long p3), .second, .val (.long p4), .second, .val (.long p5), .second, .val (.int z), .val (.ref b1), .val (.long (0 : Int64)), .second, .unset, .unset, .unset] [])) ?_ fun _ k => XS.ifNo X2.here hx rfl (hb hby at_22) rfl ((if0 _ _).trans (tlt hpos).2.2.2) k
    refine own_st (T' := T2) (g' := (mkF m 26 #[.val (.int p0), .val (.int p1), .val (.int p2), .val (.long p3), .second, .val (.long p4), .second, .val (.long p5), .second, .val (.int z), .val (.ref b1), .val (.long (0 : Int64)), .second, .unset, .unset, .unset] [(.int p1)])) ?_ fun _ k => XS.iloadN X2.here hx rfl (hb hby at_25) rfl k
    refine own_st (T' := T2) (g' := (mkF m 28 #[.val (.int p0), .val (.int p1), .val (.int p2), .val (.long p3), .second, .val (.long p4), .second, .val (.long p5), .second, .val (.int z), .val (.ref b1), .val (.long (0 : Int64)), .second, .unset, .unset, .unset] [(.int (2147483647 : Int32)), (.int p1)])) ?_ fun _ k => X2.ldcInt hx hown (mvT hZ (hw _ (List.mem_of_getElem? (i := 21) rfl))) (g := (mkF m 26 #[.val (.int p0), .val (.int p1), .val (.int p2), .val (.long p3), .second, .val (.long p4), .second, .val (.long p5), .second, .val (.int z), .val (.ref b1), .val (.long (0 : Int64)), .second, .unset, .unset, .unset] [(.int p1)])) rfl (hb hby at_26) _ k
    refine own_st (T' := T2) (g' := (mkF m 29 #[.val (.int p0), .val (.int p1), .val (.int p2), .val (.long p3), .second, .val (.long p4), .second, .val (.long p5), .second, .val (.int z), .val (.ref b1), .val (.long (0 : Int64)), .second, .unset, .unset, .unset] [(.int (p1 &&& (2147483647 : Int32)))])) ?_ fun _ k => XS.iand X2.here hx rfl (hb hby at_28) rfl k
    refine own_st (T' := T2) (g' := (mkF m 31 #[.val (.int p0), .val (.int p1), .val (.int p2), .val (.long p3), .second, .val (.long p4), .second, .val (.long p5), .second, .val (.int z), .val (.ref b1), .val (.long (0 : Int64)), .second, .unset, .unset, .unset] [(.int z), (.int (p1 &&& (2147483647 : Int32)))])) ?_ fun _ k => XS.iload X2.here hx rfl (hb hby at_29) rfl k
    refine own_st (T' := T2) (g' := (mkF m 32 #[.val (.int p0), .val (.int p1), .val (.int p2), .val (.long p3), .second, .val (.long p4), .second, .val (.long p5), .second, .val (.int z), .val (.ref b1), .val (.long (0 : Int64)), .second, .unset, .unset, .unset] [(.int ((p1 &&& (2147483647 : Int32)) % z))])) ?_ fun _ k => iremM X2 hx rfl (hb hby at_31) rfl hnz k
    generalize ((p1 &&& (2147483647 : Int32)) % z) = pi at r1 ⊢
    obtain ⟨i, hqi⟩ : ∃ q, q = pi.toInt.toNat := ⟨_, rfl⟩
    rw [← hqi] at r1
    obtain ⟨hi, ei⟩ := r1
    refine own_st (T' := T2) (g' := (mkF m 34 #[.val (.int p0), .val (.int p1), .val (.int p2), .val (.long p3), .second, .val (.long p4), .second, .val (.long p5), .second, .val (.int z), .val (.ref b1), .val (.long (0 : Int64)), .second, .val (.int pi), .unset, .unset] [])) ?_ fun _ k => XS.istore X2.here hx rfl (hb hby at_32) rfl (l' := #[.val (.int p0), .val (.int p1), .val (.int p2), .val (.long p3), .second, .val (.long p4), .second, .val (.long p5), .second, .val (.int z), .val (.ref b1), .val (.long (0 : Int64)), .second, .val (.int pi), .unset, .unset]) rfl k
    refine own_st (T' := T2) (g' := (mkF m 35 #[.val (.int p0), .val (.int p1), .val (.int p2), .val (.long p3), .second, .val (.long p4), .second, .val (.long p5), .second, .val (.int z), .val (.ref b1), .val (.long (0 : Int64)), .second, .val (.int pi), .unset, .unset] [(.int p2)])) ?_ fun _ k => XS.iloadN X2.here hx rfl (hb hby at_34) rfl k
    refine own_st (T' := T2) (g' := (mkF m 37 #[.val (.int p0), .val (.int p1), .val (.int p2), .val (.long p3), .second, .val (.long p4), .second, .val (.long p5), .second, .val (.int z), .val (.ref b1), .val (.long (0 : Int64)), .second, .val (.int pi), .unset, .unset] [(.int (2147483647 : Int32)), (.int p2)])) ?_ fun _ k => X2.ldcInt hx hown (mvT hZ (hw _ (List.mem_of_getElem? (i := 21) rfl))) (g := (mkF m 35 #[.val (.int p0), .val (.int p1), .val (.int p2), .val (.long p3), .second, .val (.long p4), .second, .val (.long p5), .second, .val (.int z), .val (.ref b1), .val (.long (0 : Int64)), .second, .val (.int pi), .unset, .unset] [(.int p2)])) rfl (hb hby at_35) _ k
    refine own_st (T' := T2) (g' := (mkF m 38 #[.val (.int p0), .val (.int p1), .val (.int p2), .val (.long p3), .second, .val (.long p4), .second, .val (.long p5), .second, .val (.int z), .val (.ref b1), .val (.long (0 : Int64)), .second, .val (.int pi), .unset, .unset] [(.int (p2 &&& (2147483647 : Int32)))])) ?_ fun _ k => XS.iand X2.here hx rfl (hb hby at_37) rfl k
    refine own_st (T' := T2) (g' := (mkF m 40 #[.val (.int p0), .val (.int p1), .val (.int p2), .val (.long p3), .second, .val (.long p4), .second, .val (.long p5), .second, .val (.int z), .val (.ref b1), .val (.long (0 : Int64)), .second, .val (.int pi), .unset, .unset] [(.int z), (.int (p2 &&& (2147483647 : Int32)))])) ?_ fun _ k => XS.iload X2.here hx rfl (hb hby at_38) rfl k
    refine own_st (T' := T2) (g' := (mkF m 41 #[.val (.int p0), .val (.int p1), .val (.int p2), .val (.long p3), .second, .val (.long p4), .second, .val (.long p5), .second, .val (.int z), .val (.ref b1), .val (.long (0 : Int64)), .second, .val (.int pi), .unset, .unset] [(.int ((p2 &&& (2147483647 : Int32)) % z))])) ?_ fun _ k => iremM X2 hx rfl (hb hby at_40) rfl hnz k
    generalize ((p2 &&& (2147483647 : Int32)) % z) = pj at r2 ⊢
    obtain ⟨j, hqj⟩ : ∃ q, q = pj.toInt.toNat := ⟨_, rfl⟩
    rw [← hqj] at r2
    obtain ⟨hj, ej⟩ := r2
    refine own_st (T' := T2) (g' := (mkF m 43 #[.val (.int p0), .val (.int p1), .val (.int p2), .val (.long p3), .second, .val (.long p4), .second, .val (.long p5), .second, .val (.int z), .val (.ref b1), .val (.long (0 : Int64)), .second, .val (.int pi), .val (.int pj), .unset] [])) ?_ fun _ k => XS.istore X2.here hx rfl (hb hby at_41) rfl (l' := #[.val (.int p0), .val (.int p1), .val (.int p2), .val (.long p3), .second, .val (.long p4), .second, .val (.long p5), .second, .val (.int z), .val (.ref b1), .val (.long (0 : Int64)), .second, .val (.int pi), .val (.int pj), .unset]) rfl k
    refine own_st (T' := T2) (g' := (mkF m 44 #[.val (.int p0), .val (.int p1), .val (.int p2), .val (.long p3), .second, .val (.long p4), .second, .val (.long p5), .second, .val (.int z), .val (.ref b1), .val (.long (0 : Int64)), .second, .val (.int pi), .val (.int pj), .unset] [(.int p1)])) ?_ fun _ k => XS.iloadN X2.here hx rfl (hb hby at_43) rfl k
    refine own_st (T' := T2) (g' := (mkF m 46 #[.val (.int p0), .val (.int p1), .val (.int p2), .val (.long p3), .second, .val (.long p4), .second, .val (.long p5), .second, .val (.int z), .val (.ref b1), .val (.long (0 : Int64)), .second, .val (.int pi), .val (.int pj), .unset] [(.int (16 : Int32)), (.int p1)])) ?_ fun _ k => XS.bipush X2.here hx rfl (hb hby at_44) k
    refine own_st (T' := T2) (g' := (mkF m 47 #[.val (.int p0), .val (.int p1), .val (.int p2), .val (.long p3), .second, .val (.long p4), .second, .val (.long p5), .second, .val (.int z), .val (.ref b1), .val (.long (0 : Int64)), .second, .val (.int pi), .val (.int pj), .unset] [(.int ((p1.toUInt32 >>> ((16 : Int32) &&& 31).toUInt32).toInt32))])) ?_ fun _ k => XS.iushr X2.here hx rfl (hb hby at_46) rfl k
    refine own_st (T' := T2) (g' := (mkF m 49 #[.val (.int p0), .val (.int p1), .val (.int p2), .val (.long p3), .second, .val (.long p4), .second, .val (.long p5), .second, .val (.int z), .val (.ref b1), .val (.long (0 : Int64)), .second, .val (.int pi), .val (.int pj), .unset] [(.int z), (.int ((p1.toUInt32 >>> ((16 : Int32) &&& 31).toUInt32).toInt32))])) ?_ fun _ k => XS.iload X2.here hx rfl (hb hby at_47) rfl k
    refine own_st (T' := T2) (g' := (mkF m 50 #[.val (.int p0), .val (.int p1), .val (.int p2), .val (.long p3), .second, .val (.long p4), .second, .val (.long p5), .second, .val (.int z), .val (.ref b1), .val (.long (0 : Int64)), .second, .val (.int pi), .val (.int pj), .unset] [(.int (((p1.toUInt32 >>> ((16 : Int32) &&& 31).toUInt32).toInt32) % z))])) ?_ fun _ k => iremM X2 hx rfl (hb hby at_49) rfl hnz k
    generalize (((p1.toUInt32 >>> ((16 : Int32) &&& 31).toUInt32).toInt32) % z) = pk at r3 ⊢
    obtain ⟨k, hqk⟩ : ∃ q, q = pk.toInt.toNat := ⟨_, rfl⟩
    rw [← hqk] at r3
    obtain ⟨hk, ek⟩ := r3
    refine own_st (T' := T2) (g' := (mkF m 52 #[.val (.int p0), .val (.int p1), .val (.int p2), .val (.long p3), .second, .val (.long p4), .second, .val (.long p5), .second, .val (.int z), .val (.ref b1), .val (.long (0 : Int64)), .second, .val (.int pi), .val (.int pj), .val (.int pk)] [])) ?_ fun _ k => XS.istore X2.here hx rfl (hb hby at_50) rfl (l' := #[.val (.int p0), .val (.int p1), .val (.int p2), .val (.long p3), .second, .val (.long p4), .second, .val (.long p5), .second, .val (.int z), .val (.ref b1), .val (.long (0 : Int64)), .second, .val (.int pi), .val (.int pj), .val (.int pk)]) rfl k
    refine own_st (T' := T2) (g' := (mkF m 54 #[.val (.int p0), .val (.int p1), .val (.int p2), .val (.long p3), .second, .val (.long p4), .second, .val (.long p5), .second, .val (.int z), .val (.ref b1), .val (.long (0 : Int64)), .second, .val (.int pi), .val (.int pj), .val (.int pk)] [(.ref b1)])) ?_ fun _ k => XS.aload X2.here hx rfl (hb hby at_52) rfl rfl k
    refine own_st (T' := T2) (g' := (mkF m 56 #[.val (.int p0), .val (.int p1), .val (.int p2), .val (.long p3), .second, .val (.long p4), .second, .val (.long p5), .second, .val (.int z), .val (.ref b1), .val (.long (0 : Int64)), .second, .val (.int pi), .val (.int pj), .val (.int pk)] [(.int pi), (.ref b1)])) ?_ fun _ k => XS.iload X2.here hx rfl (hb hby at_54) rfl k
    refine own_st (T' := T2) (g' := (mkF m 57 #[.val (.int p0), .val (.int p1), .val (.int p2), .val (.long p3), .second, .val (.long p4), .second, .val (.long p5), .second, .val (.int z), .val (.ref b1), .val (.long (0 : Int64)), .second, .val (.int pi), .val (.int pj), .val (.int pk)] [(.long p3), (.int pi), (.ref b1)])) ?_ fun _ k => XS.lloadN X2.here hx rfl (hb hby at_56) rfl k
    obtain ⟨cq4, kq4, q4a, q4b, q4c⟩ := isOf hZ rfl c3_
    obtain ⟨_, _, ⟨T4, L4, k4, n4⟩, -, X4, ⟨Lc4, hQ4, l4, y4, z4⟩, st4⟩ := X2.virtualBack hx (y := (⟨"tallytrie/tally/Tally", "add", "(IJ)V"⟩ : MethodName)) (z := (⟨"tallytrie/tally/Tally", "add", "(IJ)V"⟩ : MethodName)) hown (mvT hZ (hw _ (List.mem_of_getElem? (i := 22) rfl))) (mvT hZ (hw _ (List.mem_of_getElem? (i := 23) rfl))) (notFace_of_selects (args := #[]) (mvT hZ (hw _ (List.mem_of_getElem? (i := 25) rfl)))) (mvT hZ (hw _ (List.mem_of_getElem? (i := 25) rfl))) (mvT hZ (hw _ (List.mem_of_getElem? (i := 24) rfl))) (by decide) (backOf (W := 0) (rm3 l Z a0 hw [] b1 pi p3 ar2 n (fun _ => 0 : Nat → Int64) i T2.heap n0 ZH2 F2 c3_ V2 hz1 hab gar hi ei) hZ (hw _ (List.mem_of_getElem? (i := 26) rfl)) (hw _ (List.mem_of_getElem? (i := 2) rfl)) (by decide) (by decide)) q4a q4c (g := (mkF m 57 #[.val (.int p0), .val (.int p1), .val (.int p2), .val (.long p3), .second, .val (.long p4), .second, .val (.long p5), .second, .val (.int z), .val (.ref b1), .val (.long (0 : Int64)), .second, .val (.int pi), .val (.int pj), .val (.int pk)] [(.long p3), (.int pi), (.ref b1)])) rfl (by rw [hml]; rfl) (Steps.refl _) (argsL := [(.int pi), (.long p3)]) (rest := []) (lenOf pd0_1 rfl) rfl (by show 2 * 0 + _ ≤ _; exact Nat.le_of_eq rfl) (hb hby at_57) (fun _ _ => ⟨rfl, rfl, (by decide : 2 + 0 ≤ _), (by decide : 16 + 0 ≤ _)⟩)
    dsimp only [Pt.U, Pt.locs, Pt.cells, Pt.slots] at X4 l4 y4 z4 st4 hQ4
    subst l4 y4 z4
    obtain ⟨rfl, Nq4, K4, V4⟩ := hQ4
    have N4 := Fr.app N2 Nq4
    have ZH4 : n0 ≤ T4.heap.size := Nat.le_trans ZH2 K4.1
    have c5_ := c3_.keep K4
    have c6_ := F2.keep K4 (ninS hab nin0)
    refine own_st (T' := T4) (g' := (mkF m 60 #[.val (.int p0), .val (.int p1), .val (.int p2), .val (.long p3), .second, .val (.long p4), .second, .val (.long p5), .second, .val (.int z), .val (.ref b1), .val (.long (0 : Int64)), .second, .val (.int pi), .val (.int pj), .val (.int pk)] [])) ?_ fun _ k => st4.trans k
    refine own_st (T' := T4) (g' := (mkF m 62 #[.val (.int p0), .val (.int p1), .val (.int p2), .val (.long p3), .second, .val (.long p4), .second, .val (.long p5), .second, .val (.int z), .val (.ref b1), .val (.long (0 : Int64)), .second, .val (.int pi), .val (.int pj), .val (.int pk)] [(.ref b1)])) ?_ fun _ k => XS.aload X4.here hx rfl (hb hby at_60) rfl rfl k
    refine own_st (T' := T4) (g' := (mkF m 64 #[.val (.int p0), .val (.int p1), .val (.int p2), .val (.long p3), .second, .val (.long p4), .second, .val (.long p5), .second, .val (.int z), .val (.ref b1), .val (.long (0 : Int64)), .second, .val (.int pi), .val (.int pj), .val (.int pk)] [(.int pj), (.ref b1)])) ?_ fun _ k => XS.iload X4.here hx rfl (hb hby at_62) rfl k
    refine own_st (T' := T4) (g' := (mkF m 66 #[.val (.int p0), .val (.int p1), .val (.int p2), .val (.long p3), .second, .val (.long p4), .second, .val (.long p5), .second, .val (.int z), .val (.ref b1), .val (.long (0 : Int64)), .second, .val (.int pi), .val (.int pj), .val (.int pk)] [(.long p4), (.int pj), (.ref b1)])) ?_ fun _ k => XS.lload X4.here hx rfl (hb hby at_64) rfl k
    obtain ⟨cq7, kq7, q7a, q7b, q7c⟩ := isOf hZ rfl c5_
    obtain ⟨_, _, ⟨T7, L7, k7, n7⟩, -, X7, ⟨Lc7, hQ7, l7, y7, z7⟩, st7⟩ := X4.virtualBack hx (y := (⟨"tallytrie/tally/Tally", "add", "(IJ)V"⟩ : MethodName)) (z := (⟨"tallytrie/tally/Tally", "add", "(IJ)V"⟩ : MethodName)) hown (mvT hZ (hw _ (List.mem_of_getElem? (i := 22) rfl))) (mvT hZ (hw _ (List.mem_of_getElem? (i := 23) rfl))) (notFace_of_selects (args := #[]) (mvT hZ (hw _ (List.mem_of_getElem? (i := 25) rfl)))) (mvT hZ (hw _ (List.mem_of_getElem? (i := 25) rfl))) (mvT hZ (hw _ (List.mem_of_getElem? (i := 24) rfl))) (by decide) (backOf (W := 0) (rm3 l Z a0 hw [] b1 pj p4 ar2 n (own_add n p3 16 i (fun _ => 0 : Nat → Int64)) j T4.heap n0 ZH4 c6_ c5_ V4 hz1 hab gar hj ej) hZ (hw _ (List.mem_of_getElem? (i := 26) rfl)) (hw _ (List.mem_of_getElem? (i := 2) rfl)) (by decide) (by decide)) q7a q7c (g := (mkF m 66 #[.val (.int p0), .val (.int p1), .val (.int p2), .val (.long p3), .second, .val (.long p4), .second, .val (.long p5), .second, .val (.int z), .val (.ref b1), .val (.long (0 : Int64)), .second, .val (.int pi), .val (.int pj), .val (.int pk)] [(.long p4), (.int pj), (.ref b1)])) rfl (by rw [hml]; rfl) (Steps.refl _) (argsL := [(.int pj), (.long p4)]) (rest := []) (lenOf pd0_1 rfl) rfl (by show 2 * 0 + _ ≤ _; exact Nat.le_of_eq rfl) (hb hby at_66) (fun _ _ => ⟨rfl, rfl, (by decide : 2 + 0 ≤ _), (by decide : 16 + 0 ≤ _)⟩)
    dsimp only [Pt.U, Pt.locs, Pt.cells, Pt.slots] at X7 l7 y7 z7 st7 hQ7
    subst l7 y7 z7
    obtain ⟨rfl, Nq7, K7, V7⟩ := hQ7
    have N7 := Fr.app N4 Nq7
    have ZH7 : n0 ≤ T7.heap.size := Nat.le_trans ZH4 K7.1
    have c8_ := c5_.keep K7
    have c9_ := c6_.keep K7 (ninS hab nin0)
    refine own_st (T' := T7) (g' := (mkF m 69 #[.val (.int p0), .val (.int p1), .val (.int p2), .val (.long p3), .second, .val (.long p4), .second, .val (.long p5), .second, .val (.int z), .val (.ref b1), .val (.long (0 : Int64)), .second, .val (.int pi), .val (.int pj), .val (.int pk)] [])) ?_ fun _ k => st7.trans k
    refine own_st (T' := T7) (g' := (mkF m 71 #[.val (.int p0), .val (.int p1), .val (.int p2), .val (.long p3), .second, .val (.long p4), .second, .val (.long p5), .second, .val (.int z), .val (.ref b1), .val (.long (0 : Int64)), .second, .val (.int pi), .val (.int pj), .val (.int pk)] [(.ref b1)])) ?_ fun _ k => XS.aload X7.here hx rfl (hb hby at_69) rfl rfl k
    refine own_st (T' := T7) (g' := (mkF m 73 #[.val (.int p0), .val (.int p1), .val (.int p2), .val (.long p3), .second, .val (.long p4), .second, .val (.long p5), .second, .val (.int z), .val (.ref b1), .val (.long (0 : Int64)), .second, .val (.int pi), .val (.int pj), .val (.int pk)] [(.int pk), (.ref b1)])) ?_ fun _ k => XS.iload X7.here hx rfl (hb hby at_71) rfl k
    refine own_st (T' := T7) (g' := (mkF m 75 #[.val (.int p0), .val (.int p1), .val (.int p2), .val (.long p3), .second, .val (.long p4), .second, .val (.long p5), .second, .val (.int z), .val (.ref b1), .val (.long (0 : Int64)), .second, .val (.int pi), .val (.int pj), .val (.int pk)] [(.long p5), (.int pk), (.ref b1)])) ?_ fun _ k => XS.lload X7.here hx rfl (hb hby at_73) rfl k
    obtain ⟨cq10, kq10, q10a, q10b, q10c⟩ := isOf hZ rfl c8_
    obtain ⟨_, _, ⟨T10, L10, k10, n10⟩, -, X10, ⟨Lc10, hQ10, l10, y10, z10⟩, st10⟩ := X7.virtualBack hx (y := (⟨"tallytrie/tally/Tally", "add", "(IJ)V"⟩ : MethodName)) (z := (⟨"tallytrie/tally/Tally", "add", "(IJ)V"⟩ : MethodName)) hown (mvT hZ (hw _ (List.mem_of_getElem? (i := 22) rfl))) (mvT hZ (hw _ (List.mem_of_getElem? (i := 23) rfl))) (notFace_of_selects (args := #[]) (mvT hZ (hw _ (List.mem_of_getElem? (i := 25) rfl)))) (mvT hZ (hw _ (List.mem_of_getElem? (i := 25) rfl))) (mvT hZ (hw _ (List.mem_of_getElem? (i := 24) rfl))) (by decide) (backOf (W := 0) (rm3 l Z a0 hw [] b1 pk p5 ar2 n (own_add n p4 16 j (own_add n p3 16 i (fun _ => 0 : Nat → Int64))) k T7.heap n0 ZH7 c9_ c8_ V7 hz1 hab gar hk ek) hZ (hw _ (List.mem_of_getElem? (i := 26) rfl)) (hw _ (List.mem_of_getElem? (i := 2) rfl)) (by decide) (by decide)) q10a q10c (g := (mkF m 75 #[.val (.int p0), .val (.int p1), .val (.int p2), .val (.long p3), .second, .val (.long p4), .second, .val (.long p5), .second, .val (.int z), .val (.ref b1), .val (.long (0 : Int64)), .second, .val (.int pi), .val (.int pj), .val (.int pk)] [(.long p5), (.int pk), (.ref b1)])) rfl (by rw [hml]; rfl) (Steps.refl _) (argsL := [(.int pk), (.long p5)]) (rest := []) (lenOf pd0_1 rfl) rfl (by show 2 * 0 + _ ≤ _; exact Nat.le_of_eq rfl) (hb hby at_75) (fun _ _ => ⟨rfl, rfl, (by decide : 2 + 0 ≤ _), (by decide : 16 + 0 ≤ _)⟩)
    dsimp only [Pt.U, Pt.locs, Pt.cells, Pt.slots] at X10 l10 y10 z10 st10 hQ10
    subst l10 y10 z10
    obtain ⟨rfl, Nq10, K10, V10⟩ := hQ10
    have N10 := Fr.app N7 Nq10
    have ZH10 : n0 ≤ T10.heap.size := Nat.le_trans ZH7 K10.1
    have c11_ := c8_.keep K10
    have c12_ := c9_.keep K10 (ninS hab nin0)
    refine own_st (T' := T10) (g' := (mkF m 78 #[.val (.int p0), .val (.int p1), .val (.int p2), .val (.long p3), .second, .val (.long p4), .second, .val (.long p5), .second, .val (.int z), .val (.ref b1), .val (.long (0 : Int64)), .second, .val (.int pi), .val (.int pj), .val (.int pk)] [])) ?_ fun _ k => st10.trans k
    refine own_st (T' := T10) (g' := (mkF m 79 #[.val (.int p0), .val (.int p1), .val (.int p2), .val (.long p3), .second, .val (.long p4), .second, .val (.long p5), .second, .val (.int z), .val (.ref b1), .val (.long (0 : Int64)), .second, .val (.int pi), .val (.int pj), .val (.int pk)] [(.long p3)])) ?_ fun _ k => XS.lloadN X10.here hx rfl (hb hby at_78) rfl k
    refine own_st (T' := T10) (g' := (mkF m 81 #[.val (.int p0), .val (.int p1), .val (.int p2), .val (.long p3), .second, .val (.long p4), .second, .val (.long p5), .second, .val (.int z), .val (.ref b1), .val (.long (0 : Int64)), .second, .val (.int pi), .val (.int pj), .val (.int pk)] [(.long p4), (.long p3)])) ?_ fun _ k => XS.lload X10.here hx rfl (hb hby at_79) rfl k
    refine own_st (T' := T10) (g' := (mkF m 82 #[.val (.int p0), .val (.int p1), .val (.int p2), .val (.long p3), .second, .val (.long p4), .second, .val (.long p5), .second, .val (.int z), .val (.ref b1), .val (.long (0 : Int64)), .second, .val (.int pi), .val (.int pj), .val (.int pk)] [(.long (p3 + p4))])) ?_ fun _ k => XS.ladd X10.here hx rfl (hb hby at_81) rfl k
    refine own_st (T' := T10) (g' := (mkF m 84 #[.val (.int p0), .val (.int p1), .val (.int p2), .val (.long p3), .second, .val (.long p4), .second, .val (.long p5), .second, .val (.int z), .val (.ref b1), .val (.long (0 : Int64)), .second, .val (.int pi), .val (.int pj), .val (.int pk)] [(.long p5), (.long (p3 + p4))])) ?_ fun _ k => XS.lload X10.here hx rfl (hb hby at_82) rfl k
    refine own_st (T' := T10) (g' := (mkF m 85 #[.val (.int p0), .val (.int p1), .val (.int p2), .val (.long p3), .second, .val (.long p4), .second, .val (.long p5), .second, .val (.int z), .val (.ref b1), .val (.long (0 : Int64)), .second, .val (.int pi), .val (.int pj), .val (.int pk)] [(.long ((p3 + p4) + p5))])) ?_ fun _ k => XS.ladd X10.here hx rfl (hb hby at_84) rfl k
    refine own_st (T' := T10) (g' := (mkF m 87 #[.val (.int p0), .val (.int p1), .val (.int p2), .val (.long p3), .second, .val (.long p4), .second, .val (.long p5), .second, .val (.int z), .val (.ref b1), .val (.long ((p3 + p4) + p5)), .second, .val (.int pi), .val (.int pj), .val (.int pk)] [])) ?_ fun _ k => XS.lstore X10.here hx rfl (hb hby at_85) rfl (l' := #[.val (.int p0), .val (.int p1), .val (.int p2), .val (.long p3), .second, .val (.long p4), .second, .val (.long p5), .second, .val (.int z), .val (.ref b1), .val (.long ((p3 + p4) + p5)), .second, .val (.int pi), .val (.int pj), .val (.int pk)]) rfl k
    refine own_st (T' := T10) (g' := (mkF m 89 #[.val (.int p0), .val (.int p1), .val (.int p2), .val (.long p3), .second, .val (.long p4), .second, .val (.long p5), .second, .val (.int z), .val (.ref b1), .val (.long ((p3 + p4) + p5)), .second, .val (.int pi), .val (.int pj), .val (.int pk)] [(.ref b1)])) ?_ fun _ k => XS.aload X10.here hx rfl (hb hby at_87) rfl rfl k
    obtain ⟨cq13, kq13, q13a, q13b, q13c⟩ := isOf hZ rfl c11_
    obtain ⟨_, _, ⟨T13, L13, k13, n13⟩, -, X13, ⟨Lc13, hQ13, l13, y13, z13⟩, st13⟩ := X10.virtualBack hx (y := (⟨"tallytrie/tally/Tally", "total", "()J"⟩ : MethodName)) (z := (⟨"tallytrie/tally/Tally", "total", "()J"⟩ : MethodName)) hown (mvT hZ (hw _ (List.mem_of_getElem? (i := 12) rfl))) (mvT hZ (hw _ (List.mem_of_getElem? (i := 13) rfl))) (notFace_of_selects (args := #[]) (mvT hZ (hw _ (List.mem_of_getElem? (i := 15) rfl)))) (mvT hZ (hw _ (List.mem_of_getElem? (i := 15) rfl))) (mvT hZ (hw _ (List.mem_of_getElem? (i := 14) rfl))) (by decide) (backOf (W := 0) (rm5 l Z a0 hw [] b1 ar2 n (own_add n p5 16 k (own_add n p4 16 j (own_add n p3 16 i (fun _ => 0 : Nat → Int64)))) T10.heap n0 ZH10 c12_ c11_ V10 hz1 hab) hZ (hw _ (List.mem_of_getElem? (i := 16) rfl)) (hw _ (List.mem_of_getElem? (i := 2) rfl)) (by decide) (by decide)) q13a q13c (g := (mkF m 89 #[.val (.int p0), .val (.int p1), .val (.int p2), .val (.long p3), .second, .val (.long p4), .second, .val (.long p5), .second, .val (.int z), .val (.ref b1), .val (.long ((p3 + p4) + p5)), .second, .val (.int pi), .val (.int pj), .val (.int pk)] [(.ref b1)])) rfl (by rw [hml]; rfl) (Steps.refl _) (argsL := []) (rest := []) (lenOf pd0_2 rfl) rfl (by show 2 * 0 + _ ≤ _; exact Nat.le_of_eq rfl) (hb hby at_89) (fun _ _ => ⟨rfl, rfl, (by decide : 2 + 0 ≤ _), (by decide : 16 + 0 ≤ _)⟩)
    dsimp only [Pt.U, Pt.locs, Pt.cells, Pt.slots] at X13 l13 y13 z13 st13 hQ13
    subst l13 y13 z13
    obtain ⟨rfl, Nq13, e13⟩ := hQ13
    have N13 := Fr.app N10 Nq13
    refine own_st (T' := T13) (g' := (mkF m 92 #[.val (.int p0), .val (.int p1), .val (.int p2), .val (.long p3), .second, .val (.long p4), .second, .val (.long p5), .second, .val (.int z), .val (.ref b1), .val (.long ((p3 + p4) + p5)), .second, .val (.int pi), .val (.int pj), .val (.int pk)] [(.long (own_sum (own_add n p5 16 k (own_add n p4 16 j (own_add n p3 16 i (fun _ => 0 : Nat → Int64)))) 16 n 0))])) ?_ fun _ k => st13.trans k
    refine own_st (T' := T13) (g' := (mkF m 94 #[.val (.int p0), .val (.int p1), .val (.int p2), .val (.long p3), .second, .val (.long p4), .second, .val (.long p5), .second, .val (.int z), .val (.ref b1), .val (.long ((p3 + p4) + p5)), .second, .val (.int pi), .val (.int pj), .val (.int pk)] [(.long ((p3 + p4) + p5)), (.long (own_sum (own_add n p5 16 k (own_add n p4 16 j (own_add n p3 16 i (fun _ => 0 : Nat → Int64)))) 16 n 0))])) ?_ fun _ k => XS.lload X13.here hx rfl (hb hby at_92) rfl k
    refine own_st (T' := T13) (g' := (mkF m 95 #[.val (.int p0), .val (.int p1), .val (.int p2), .val (.long p3), .second, .val (.long p4), .second, .val (.long p5), .second, .val (.int z), .val (.ref b1), .val (.long ((p3 + p4) + p5)), .second, .val (.int pi), .val (.int pj), .val (.int pk)] [(.int (lcmpW (own_sum (own_add n p5 16 k (own_add n p4 16 j (own_add n p3 16 i (fun _ => 0 : Nat → Int64)))) 16 n 0) ((p3 + p4) + p5)))])) ?_ fun _ k => XS.lcmp X13.here hx rfl (hb hby at_94) rfl k
    refine own_st (T' := T13) (g' := (mkF m 98 #[.val (.int p0), .val (.int p1), .val (.int p2), .val (.long p3), .second, .val (.long p4), .second, .val (.long p5), .second, .val (.int z), .val (.ref b1), .val (.long ((p3 + p4) + p5)), .second, .val (.int pi), .val (.int pj), .val (.int pk)] [])) ?_ fun _ k => XS.ifNo X13.here hx rfl (hb hby at_95) rfl ((if0 _ _).trans (teq (by rw [own_fin hz1 hi hj hk]; exact (lw_eq _ _).mpr rfl)).2) k
    refine own_st (T' := T13) (g' := (mkF m 99 #[.val (.int p0), .val (.int p1), .val (.int p2), .val (.long p3), .second, .val (.long p4), .second, .val (.long p5), .second, .val (.int z), .val (.ref b1), .val (.long ((p3 + p4) + p5)), .second, .val (.int pi), .val (.int pj), .val (.int pk)] [(.int (1 : Int32))])) ?_ fun _ k => XS.iconst X13.here hx rfl (hb hby at_98) k
    refine own_st (T' := T13) (g' := (mkF m 103 #[.val (.int p0), .val (.int p1), .val (.int p2), .val (.long p3), .second, .val (.long p4), .second, .val (.long p5), .second, .val (.int z), .val (.ref b1), .val (.long ((p3 + p4) + p5)), .second, .val (.int pi), .val (.int pj), .val (.int pk)] [(.int (1 : Int32))])) ?_ fun _ k => XS.goto X13.here hx rfl (pc0 := 99) (pc' := 103) rfl (hb hby at_99) (by decide) (by decide) k
    refine own_retZ X13 hx hlk Bd.returns (hb hby at_103) (Q := (Q0 Z p0 p1 p2 p3 p4 p5 h0 n0)) (by decide) (by decide) (by decide) ?_
    exact ⟨rfl, N13⟩
  · refine own_st (T' := T2) (g' := (mkF m 87 #[.val (.int p0), .val (.int p1), .val (.int p2), .val (.long p3), .second, .val (.long p4), .second, .val (.long p5), .second, .val (.int z), .val (.ref b1), .val (.long (0 : Int64)), .second, .unset, .unset, .unset] [])) ?_ fun _ k => XS.ifYes X2.here hx rfl (pc0 := 22) (pc' := 87) rfl (hb hby at_22) rfl ((if0 _ _).trans (flt hpos).2.2.2) (by decide) (by decide) k
    refine own_st (T' := T2) (g' := (mkF m 89 #[.val (.int p0), .val (.int p1), .val (.int p2), .val (.long p3), .second, .val (.long p4), .second, .val (.long p5), .second, .val (.int z), .val (.ref b1), .val (.long (0 : Int64)), .second, .unset, .unset, .unset] [(.ref b1)])) ?_ fun _ k => XS.aload X2.here hx rfl (hb hby at_87) rfl rfl k
    obtain ⟨cq14, kq14, q14a, q14b, q14c⟩ := isOf hZ rfl c3_
    obtain ⟨_, _, ⟨T14, L14, k14, n14⟩, -, X14, ⟨Lc14, hQ14, l14, y14, z14⟩, st14⟩ := X2.virtualBack hx (y := (⟨"tallytrie/tally/Tally", "total", "()J"⟩ : MethodName)) (z := (⟨"tallytrie/tally/Tally", "total", "()J"⟩ : MethodName)) hown (mvT hZ (hw _ (List.mem_of_getElem? (i := 12) rfl))) (mvT hZ (hw _ (List.mem_of_getElem? (i := 13) rfl))) (notFace_of_selects (args := #[]) (mvT hZ (hw _ (List.mem_of_getElem? (i := 15) rfl)))) (mvT hZ (hw _ (List.mem_of_getElem? (i := 15) rfl))) (mvT hZ (hw _ (List.mem_of_getElem? (i := 14) rfl))) (by decide) (backOf (W := 0) (rm5 l Z a0 hw [] b1 ar2 n (fun _ => 0 : Nat → Int64) T2.heap n0 ZH2 F2 c3_ V2 hz1 hab) hZ (hw _ (List.mem_of_getElem? (i := 16) rfl)) (hw _ (List.mem_of_getElem? (i := 2) rfl)) (by decide) (by decide)) q14a q14c (g := (mkF m 89 #[.val (.int p0), .val (.int p1), .val (.int p2), .val (.long p3), .second, .val (.long p4), .second, .val (.long p5), .second, .val (.int z), .val (.ref b1), .val (.long (0 : Int64)), .second, .unset, .unset, .unset] [(.ref b1)])) rfl (by rw [hml]; rfl) (Steps.refl _) (argsL := []) (rest := []) (lenOf pd0_2 rfl) rfl (by show 2 * 0 + _ ≤ _; exact Nat.le_of_eq rfl) (hb hby at_89) (fun _ _ => ⟨rfl, rfl, (by decide : 2 + 0 ≤ _), (by decide : 16 + 0 ≤ _)⟩)
    dsimp only [Pt.U, Pt.locs, Pt.cells, Pt.slots] at X14 l14 y14 z14 st14 hQ14
    subst l14 y14 z14
    obtain ⟨rfl, Nq14, e14⟩ := hQ14
    have N14 := Fr.app N2 Nq14
    refine own_st (T' := T14) (g' := (mkF m 92 #[.val (.int p0), .val (.int p1), .val (.int p2), .val (.long p3), .second, .val (.long p4), .second, .val (.long p5), .second, .val (.int z), .val (.ref b1), .val (.long (0 : Int64)), .second, .unset, .unset, .unset] [(.long (own_sum (fun _ => 0 : Nat → Int64) 16 n 0))])) ?_ fun _ k => st14.trans k
    refine own_st (T' := T14) (g' := (mkF m 94 #[.val (.int p0), .val (.int p1), .val (.int p2), .val (.long p3), .second, .val (.long p4), .second, .val (.long p5), .second, .val (.int z), .val (.ref b1), .val (.long (0 : Int64)), .second, .unset, .unset, .unset] [(.long (0 : Int64)), (.long (own_sum (fun _ => 0 : Nat → Int64) 16 n 0))])) ?_ fun _ k => XS.lload X14.here hx rfl (hb hby at_92) rfl k
    refine own_st (T' := T14) (g' := (mkF m 95 #[.val (.int p0), .val (.int p1), .val (.int p2), .val (.long p3), .second, .val (.long p4), .second, .val (.long p5), .second, .val (.int z), .val (.ref b1), .val (.long (0 : Int64)), .second, .unset, .unset, .unset] [(.int (lcmpW (own_sum (fun _ => 0 : Nat → Int64) 16 n 0) (0 : Int64)))])) ?_ fun _ k => XS.lcmp X14.here hx rfl (hb hby at_94) rfl k
    refine own_st (T' := T14) (g' := (mkF m 98 #[.val (.int p0), .val (.int p1), .val (.int p2), .val (.long p3), .second, .val (.long p4), .second, .val (.long p5), .second, .val (.int z), .val (.ref b1), .val (.long (0 : Int64)), .second, .unset, .unset, .unset] [])) ?_ fun _ k => XS.ifNo X14.here hx rfl (hb hby at_95) rfl ((if0 _ _).trans (teq (by rw [own_zero n (by omega)]; exact (lw_eq _ _).mpr rfl)).2) k
    refine own_st (T' := T14) (g' := (mkF m 99 #[.val (.int p0), .val (.int p1), .val (.int p2), .val (.long p3), .second, .val (.long p4), .second, .val (.long p5), .second, .val (.int z), .val (.ref b1), .val (.long (0 : Int64)), .second, .unset, .unset, .unset] [(.int (1 : Int32))])) ?_ fun _ k => XS.iconst X14.here hx rfl (hb hby at_98) k
    refine own_st (T' := T14) (g' := (mkF m 103 #[.val (.int p0), .val (.int p1), .val (.int p2), .val (.long p3), .second, .val (.long p4), .second, .val (.long p5), .second, .val (.int z), .val (.ref b1), .val (.long (0 : Int64)), .second, .unset, .unset, .unset] [(.int (1 : Int32))])) ?_ fun _ k => XS.goto X14.here hx rfl (pc0 := 99) (pc' := 103) rfl (hb hby at_99) (by decide) (by decide) k
    refine own_retZ X14 hx hlk Bd.returns (hb hby at_103) (Q := (Q0 Z p0 p1 p2 p3 p4 p5 h0 n0)) (by decide) (by decide) (by decide) ?_
    exact ⟨rfl, N14⟩
set_option maxRecDepth 65536 in
set_option maxHeartbeats 40000000 in
theorem comes_1 {Post : Tables → Env → Array Value → State → Outcome → State → Prop} (hpost : ∀ tb e args s v u, (limb_1_1.after args s (.returned v) u = true ∧ limb_1_2.after args s (.returned v) u = true ∧ True) → FrameEnd s (.returned v) u (Jvm.fieldLocs frame_1_writes args s ++ Jvm.arrayLocs frame_1_arrays args s ++ Jvm.staticLocs frame_1_statics s) 16 128 → Post tb e args s (.returned v) u) :
    ArmFor flags0 classFile x code maxLocals ret World_1 tables_1 room_1 Calls_1 rest_1 Pre_1 Post := by
  intro l hfl _ _ p e ha hc hk s m args below hf hA hF happ hP
  obtain ⟨hcalls, hrest, hpre⟩ := hP
  obtain ⟨-, -, -, hnamed, -, -, -, hat⟩ := (Spec.applies_iff hf).mp happ
  obtain ⟨hg, hn⟩ := and_e (Cond.before_iff.mp (show (Jvm.Cond.and given_1 narrow_1).before args s = true from hpre))
  obtain ⟨g1, g2⟩ := and_e hg
  obtain ⟨g3, g4⟩ := and_e g2
  obtain ⟨g5, g6⟩ := and_e g4
  obtain ⟨g7, g8⟩ := and_e g6
  obtain ⟨g9, g10⟩ := and_e g8
  obtain ⟨g11, g12⟩ := and_e g10
  obtain ⟨w0, w1, w2, w3, w4, w5, rfl⟩ : ∃ w0 w1 w2 w3 w4 w5 : Value, args = #[w0, w1, w2, w3, w4, w5] := by
    have hs : args.size = 6 := by simpa [Cond.value, given_1] using g1
    obtain ⟨L⟩ := args
    match L, hs with
    | [w0, w1, w2, w3, w4, w5], _ => exact ⟨w0, w1, w2, w3, w4, w5, rfl⟩
  have hw := fun d (hd : d ∈ tables_1) => atoms_spec (ws := Jvm.Cond.code x code maxLocals ret :: tables_1) hat d (List.mem_cons_of_mem _ hd)
  obtain ⟨i0, ei0⟩ := is_v g3
  obtain rfl : w0 = (.int i0) := Option.some.inj ei0
  obtain ⟨i1, ei1⟩ := is_v g5
  obtain rfl : w1 = (.int i1) := Option.some.inj ei1
  obtain ⟨i2, ei2⟩ := is_v g7
  obtain rfl : w2 = (.int i2) := Option.some.inj ei2
  obtain ⟨i3, ei3⟩ := isL_v g9
  obtain rfl : w3 = (.long i3) := Option.some.inj ei3
  obtain ⟨i4, ei4⟩ := isL_v g11
  obtain rfl : w4 = (.long i4) := Option.some.inj ei4
  obtain ⟨i5, ei5⟩ := isL_v g12
  obtain rfl : w5 = (.long i5) := Option.some.inj ei5
  obtain ⟨n, o, h1, h2, h3, _, L, rfl, ⟨rfl, N⟩, hq⟩ := rm0 l s _ hw tables_1 i0 i1 i2 i3 i4 i5 s.heap s.heap.size (Nat.le_refl _) p e ha hc hk s m _ below hf ((Spec.applies_iff_loose hf).mp happ).1 ⟨rfl, State.Warmed39.refl s, rfl⟩ trivial
  refine ⟨n, _, h1, h2, h3, hpost _ _ _ _ _ _ ⟨Cond.after_iff.mpr rfl, Cond.after_iff.mpr (eq_i res_at (Term.int_eval (1)) rfl), trivial⟩ ⟨hq.1, hq.2.1, (hq.2.2.sift fun y hy => Or.inr (N y hy)).mono (by decide) (by decide)⟩⟩
theorem main_1_1 : Claimed_1_1 := comes_1 fun _ _ _ _ _ _ h hF => ⟨h.1, hF⟩
theorem main_1_2 : Claimed_1_2 := comes_1 fun _ _ _ _ _ _ h hF => ⟨h.2.1, hF⟩
end Jvm.Pilot.@@N@@
namespace Jvm.Pilot.@@N@@
open Jvm Jvm.ClassFile Sem Op Lib Jvm.Free Jvm.Stand Jvm.Pilot.@@N@@.Jvm.D
/-! MADE BY PROGRAM (witnessworld.py) out of the Statement's table words and the real class files: 11 classes; the members and pool entries that the words name. The judged class is class 1, her method 1. -/
namespace start1
open Jvm.ClassFile
def u (s : String) : CpInfo := .utf8 (stringToUtf16 s)
/-- a pool by its gaps: so many unusable entries, then the entry; so many at the end -/
def gap : Nat → List CpInfo → List CpInfo
  | 0, r => r
  | n + 1, r => .unusable :: gap n r
def poolList (es : List (Nat × CpInfo)) (last : Nat) : List CpInfo := es.foldr (fun e r => gap e.1 (e.2 :: r)) (gap last [])
def pool (es : List (Nat × CpInfo)) (last : Nat) : Array CpInfo := ⟨poolList es last⟩
def fileOf (pool : Array CpInfo) (this : Nat) (attrs : Array Attribute := #[]) (ms : Array MethodInfo := #[]) (fl : Nat := 33) (sup : Nat := 0) (ifs : Array Nat := #[]) (fds : Array FieldInfo := #[]) : ClassFile where
  minorVersion := 0
  majorVersion := 65
  constantPool := pool
  accessFlags := fl
  thisClass := this
  superClass := sup
  interfaces := ifs
  fields := fds
  methods := ms
  attributes := attrs
def plain (name : String) (sup : Option ClassId) : Class where
  name := name
  kind := .ordinary
  loader := none
  accessFlags := 33
  super := sup
  interfaces := #[]
  cf := none
  fields := #[]
  methods := #[]
  instanceTypes := #[]
  staticTypes := #[]
  resolved := #[]
  callSites := []
  init := .initialized
  statics := none
  mirror := none

def pool0 : Array CpInfo := pool [(5, u "<init>"), (0, u "()V"), (1, .class_ 10), (1, u "java/lang/Object")] 113

def k0c0 : Code := { maxStack := 0, maxLocals := 1, code := object_method_1_code, exceptionTable := #[], attributes := #[] }
def k0m0 : Method := { name := "<init>", desc := "()V", sig := { parameters := [], returnType := none }, accessFlags := 1, code := some k0c0 }
/-- java/lang/Object -/
def k0 : Class := { plain "java/lang/Object" none with
  accessFlags := 33
  interfaces := #[]
  cf := some (fileOf pool0 8 #[] #[{ accessFlags := 1, nameIndex := 5, descriptorIndex := 6, attributes := #[] }] 33 0 #[] #[])
  fields := #[]
  methods := #[k0m0]
  instanceTypes := #[]
  staticTypes := #[]
  resolved := Array.replicate 124 none
  statics := none }

def pool1 : Array CpInfo := pool [(2, .class_ 4), (1, u "java/lang/Object"), (0, u "<init>"), (0, u "()V"), (0, .class_ 8), (0, u "tallytrie/tally/Tally"), (0, .methodref 7 10), (0, .nameAndType 5 11), (0, u "(I)V"), (0, .integer 2147483647), (0, .methodref 7 14), (0, .nameAndType 15 16), (0, u "add"), (0, u "(IJ)V"), (0, .methodref 7 18), (0, .nameAndType 19 20), (0, u "total"), (0, u "()J"), (0, .class_ 22), (0, u "tallytrie/tally/TallyTotalPinLaw"), (2, u "law"), (0, u "(IIIJJJ)Z")] 3

def k1m0 : Method := { name := "<init>", desc := "()V", sig := { parameters := [], returnType := none }, accessFlags := 1, code := none }
def k1c1 : Code := { maxStack := 4, maxLocals := 16, code := code, exceptionTable := #[], attributes := #[] }
def k1m1 : Method := { name := "law", desc := "(IIIJJJ)Z", sig := { parameters := [.int, .int, .int, .long, .long, .long], returnType := some .boolean }, accessFlags := 9, code := some k1c1 }
/-- tallytrie/tally/TallyTotalPinLaw -/
def k1 : Class := { plain "tallytrie/tally/TallyTotalPinLaw" (some 0) with
  accessFlags := 49
  interfaces := #[]
  cf := some (fileOf pool1 21 #[] #[{ accessFlags := 1, nameIndex := 5, descriptorIndex := 6, attributes := #[] }, { accessFlags := 9, nameIndex := 25, descriptorIndex := 26, attributes := #[] }] 49 2 #[] #[])
  fields := #[]
  methods := #[k1m0, k1m1]
  instanceTypes := #[]
  staticTypes := #[]
  resolved := Array.replicate 30 none
  statics := none }

def pool2 : Array CpInfo := pool [(1, .methodref 2 3), (0, .class_ 4), (0, .nameAndType 5 6), (0, u "java/lang/Object"), (0, u "<init>"), (0, u "()V"), (9, .fieldref 17 18), (0, .class_ 19), (0, .nameAndType 20 21), (0, u "tallytrie/tally/Tally"), (0, u "tree"), (0, u "[J"), (8, .methodref 17 31), (0, .nameAndType 32 33), (0, u "checkPosition"), (0, u "(I)V"), (3, u "(I)J"), (2, u "add"), (0, u "(IJ)V"), (0, .methodref 17 43), (0, .nameAndType 44 37), (0, u "sumThrough"), (24, u "total"), (0, u "()J")] 23

def k2c0 : Code := { maxStack := 3, maxLocals := 2, code := prog_34_method_1_code, exceptionTable := #[], attributes := #[] }
def k2m0 : Method := { name := "<init>", desc := "(I)V", sig := { parameters := [.int], returnType := none }, accessFlags := 1, code := some k2c0 }
def k2c1 : Code := { maxStack := 6, maxLocals := 5, code := prog_34_method_6_code, exceptionTable := #[], attributes := #[] }
def k2m1 : Method := { name := "add", desc := "(IJ)V", sig := { parameters := [.int, .long], returnType := none }, accessFlags := 1, code := some k2c1 }
def k2c2 : Code := { maxStack := 3, maxLocals := 1, code := prog_34_method_10_code, exceptionTable := #[], attributes := #[] }
def k2m2 : Method := { name := "total", desc := "()J", sig := { parameters := [], returnType := some .long }, accessFlags := 1, code := some k2c2 }
def k2c3 : Code := { maxStack := 4, maxLocals := 5, code := prog_34_method_12_code, exceptionTable := #[], attributes := #[] }
def k2m3 : Method := { name := "sumThrough", desc := "(I)J", sig := { parameters := [.int], returnType := some .long }, accessFlags := 2, code := some k2c3 }
def k2c4 : Code := { maxStack := 4, maxLocals := 2, code := prog_34_method_13_code, exceptionTable := #[], attributes := #[] }
def k2m4 : Method := { name := "checkPosition", desc := "(I)V", sig := { parameters := [.int], returnType := none }, accessFlags := 2, code := some k2c4 }
/-- tallytrie/tally/Tally -/
def k2 : Class := { plain "tallytrie/tally/Tally" (some 0) with
  accessFlags := 49
  interfaces := #[]
  cf := some (fileOf pool2 17 #[] #[{ accessFlags := 1, nameIndex := 5, descriptorIndex := 33, attributes := #[] }, { accessFlags := 1, nameIndex := 40, descriptorIndex := 41, attributes := #[] }, { accessFlags := 1, nameIndex := 69, descriptorIndex := 70, attributes := #[] }, { accessFlags := 2, nameIndex := 44, descriptorIndex := 37, attributes := #[] }, { accessFlags := 2, nameIndex := 32, descriptorIndex := 33, attributes := #[] }] 49 2 #[] #[{ accessFlags := 18, nameIndex := 20, descriptorIndex := 21, attributes := #[] }])
  fields := #[{ name := "tree", type := (.array .long), accessFlags := 18, slot := 0, constantValue := 0 }]
  methods := #[k2m0, k2m1, k2m2, k2m3, k2m4]
  instanceTypes := #[(.array .long)]
  staticTypes := #[]
  resolved := Array.replicate 94 none
  statics := none }

def pool3 : Array CpInfo := pool [(1, u "java/lang/Cloneable"), (0, .class_ 1), (0, u "java/lang/Object"), (0, .class_ 3)] 3

/-- java/lang/Cloneable -/
def k3 : Class := { plain "java/lang/Cloneable" (some 0) with
  accessFlags := 1537
  interfaces := #[]
  cf := some (fileOf pool3 2 #[] #[] 1537 4 #[] #[])
  fields := #[]
  methods := #[]
  instanceTypes := #[]
  staticTypes := #[]
  resolved := Array.replicate 8 none
  statics := none }

def pool4 : Array CpInfo := pool [(1, u "java/io/Serializable"), (0, .class_ 1), (0, u "java/lang/Object"), (0, .class_ 3)] 3

/-- java/io/Serializable -/
def k4 : Class := { plain "java/io/Serializable" (some 0) with
  accessFlags := 1537
  interfaces := #[]
  cf := some (fileOf pool4 2 #[] #[] 1537 4 #[] #[])
  fields := #[]
  methods := #[]
  instanceTypes := #[]
  staticTypes := #[]
  resolved := Array.replicate 8 none
  statics := none }

/-- the primitive byte -/
def k5 : Class := { plain "byte" none with kind := .primitive 'B', accessFlags := 0x411 }
/-- [B -/
def k6 : Class := { plain "[B" (some 0) with kind := .array 5 .byte, interfaces := #[3, 4], accessFlags := 1041 }

/-- the primitive int -/
def k7 : Class := { plain "int" none with kind := .primitive 'I', accessFlags := 0x411 }
/-- [I -/
def k8 : Class := { plain "[I" (some 0) with kind := .array 7 .int, interfaces := #[3, 4], accessFlags := 1041 }

/-- the primitive long -/
def k9 : Class := { plain "long" none with kind := .primitive 'J', accessFlags := 0x411 }
/-- [J -/
def k10 : Class := { plain "[J" (some 0) with kind := .array 9 .long, interfaces := #[3, 4], accessFlags := 1041 }

def heap : Heap := #[]
def classes : Array Class := #[k0, k1, k2, k3, k4, k5, k6, k7, k8, k9, k10]
def interned : List (Array UInt16 × Addr) := []
def slotsUsed : Nat := 0
def theMethod : MethodId := ⟨1, 1⟩
def args0 : Array Value := #[.int 5, .int 9, .int 9, .long 9, .long 9, .long 3]
def aboutOver (below : List Frame) : State where
  vm := { classes := classes, interned := interned.toArray }
  heap := heap
  slotsUsed := slotsUsed
  threads := #[{ frames := .invoking theMethod args0 :: below }]
def below0 : List Frame := [.native { method := ⟨0, 0⟩, args := #[] }]
def about1 : State := aboutOver below0
def p0 : Program := .bare "" "" ""
def e0 : Env := launch0.env 0 0 0
theorem w_frames : about1.frames = Frame.invoking theMethod args0 :: below0 := rfl
set_option maxRecDepth 65536 in
theorem w_args : argsFit about1.vm theMethod args0 = true := by decide +kernel
set_option maxRecDepth 65536 in
theorem w_heap : heapFits about1 = true := by decide +kernel
set_option maxRecDepth 65536 in
theorem w_runnable : about1.curStatus? = some .runnable := by decide +kernel
set_option maxRecDepth 65536 in
theorem w_alone : about1.alone = true := by decide +kernel
set_option maxRecDepth 65536 in
theorem w_named : about1.methodNamed? x = some theMethod := by decide +kernel
set_option maxRecDepth 65536 in
theorem w_hears : about1.hears theMethod below0 = true := by decide +kernel
set_option maxRecDepth 65536 in
theorem w_ripe : about1.ripe theMethod args0 below0 = true := by decide +kernel
theorem w_running : about1.status = .running := rfl
set_option maxRecDepth 65536 in
theorem w_room : about1.hasRoom e0.platform room_1 = true :=
  launch0.hasRoom_least _ room_1 (by decide +kernel) (by decide +kernel) (by decide +kernel) (by decide +kernel) (by decide +kernel) (by decide +kernel)
theorem allAtoms_all (ts : List Jvm.Cond) (a : Array Jvm.Value) (st : Jvm.State) : (allAtoms ts).before a st = ts.all (fun c => c.before a st) := by
  induction ts with
  | nil => rfl
  | cons c t ih =>
    show (Jvm.Cond.and c (allAtoms t)).before a st = _
    rw [Jvm.Cond.before_and, ih, List.all_cons]
def words1 : List Jvm.Cond := Jvm.Cond.code x code maxLocals ret :: tables_1
/-- a 'code' word, met by the world's own term for the bytes: nothing is compared byte by byte -/
theorem code_word {y : MethodName} {bytes : ByteArray} {mx : Nat} {rt : Option FieldType} {a : Array Value} {s : State} {m : MethodId} {meth : Method} {c : Code} (h1 : s.methodNamed? y = some m) (h2 : s.vm.method? m = some meth) (h3 : meth.code = some c) (h4 : c.code = bytes)
    (h5 : (c.maxLocals == mx && c.exceptionTable.isEmpty && decide (c.maxStack ≤ mostOperands) && decide (meth.sig.returnType = rt) && !meth.locks && decide (parseMethodDescriptor y.desc = some meth.sig)) = true) : (Jvm.Cond.code y bytes mx rt).before a s = true := by
  simp only [Bool.and_eq_true, beq_iff_eq, Bool.not_eq_true', decide_eq_true_eq] at h5
  obtain ⟨⟨⟨⟨⟨g1, g2⟩, g3⟩, g4⟩, g5⟩, g6⟩ := h5
  simp [Cond.before, Cond.holds, Cond.value, h1, h2, h3, h4, g1, g2, g3, g4, g5, g6]
def isCode : Jvm.Cond → Bool
  | .code _ _ _ _ => true
  | _ => false
theorem all_split {L : List Jvm.Cond} {P : Jvm.Cond → Bool} (h1 : L.all (fun c => isCode c || P c) = true) (h2 : ∀ c ∈ L.filter isCode, P c = true) : L.all P = true := by
  refine List.all_eq_true.mpr fun c hc => ?_
  have h := List.all_eq_true.mp h1 c hc
  rcases Bool.eq_false_or_eq_true (isCode c) with hi | hi
  · exact h2 c (List.mem_filter.mpr ⟨hc, hi⟩)
  · simpa [hi] using h
set_option maxRecDepth 65536 in
theorem w_c0 : (Jvm.Cond.code x code maxLocals ret).before args0 about1 = true := code_word (m := ⟨1, 1⟩) (meth := k1m1) (c := k1c1) (by decide +kernel) rfl rfl rfl (by decide +kernel)
set_option maxRecDepth 65536 in
theorem w_c1 : (Jvm.Cond.code ({ cls := "tallytrie/tally/Tally", name := "<init>", desc := "(I)V" } : Jvm.MethodName) prog_34_method_1_code (2 : Nat) (Option.none : Option Jvm.ClassFile.FieldType)).before args0 about1 = true := code_word (m := ⟨2, 0⟩) (meth := k2m0) (c := k2c0) (by decide +kernel) rfl rfl rfl (by decide +kernel)
set_option maxRecDepth 65536 in
theorem w_c2 : (Jvm.Cond.code ({ cls := "java/lang/Object", name := "<init>", desc := "()V" } : Jvm.MethodName) object_method_1_code (1 : Nat) (Option.none : Option Jvm.ClassFile.FieldType)).before args0 about1 = true := code_word (m := ⟨0, 0⟩) (meth := k0m0) (c := k0c0) (by decide +kernel) rfl rfl rfl (by decide +kernel)
set_option maxRecDepth 65536 in
theorem w_c3 : (Jvm.Cond.code ({ cls := "tallytrie/tally/Tally", name := "total", desc := "()J" } : Jvm.MethodName) prog_34_method_10_code (1 : Nat) (Option.some Jvm.ClassFile.FieldType.long)).before args0 about1 = true := code_word (m := ⟨2, 2⟩) (meth := k2m2) (c := k2c2) (by decide +kernel) rfl rfl rfl (by decide +kernel)
set_option maxRecDepth 65536 in
theorem w_c4 : (Jvm.Cond.code ({ cls := "tallytrie/tally/Tally", name := "sumThrough", desc := "(I)J" } : Jvm.MethodName) prog_34_method_12_code (5 : Nat) (Option.some Jvm.ClassFile.FieldType.long)).before args0 about1 = true := code_word (m := ⟨2, 3⟩) (meth := k2m3) (c := k2c3) (by decide +kernel) rfl rfl rfl (by decide +kernel)
set_option maxRecDepth 65536 in
theorem w_c5 : (Jvm.Cond.code ({ cls := "tallytrie/tally/Tally", name := "add", desc := "(IJ)V" } : Jvm.MethodName) prog_34_method_6_code (5 : Nat) (Option.none : Option Jvm.ClassFile.FieldType)).before args0 about1 = true := code_word (m := ⟨2, 1⟩) (meth := k2m1) (c := k2c1) (by decide +kernel) rfl rfl rfl (by decide +kernel)
set_option maxRecDepth 65536 in
theorem w_c6 : (Jvm.Cond.code ({ cls := "tallytrie/tally/Tally", name := "checkPosition", desc := "(I)V" } : Jvm.MethodName) prog_34_method_13_code (2 : Nat) (Option.none : Option Jvm.ClassFile.FieldType)).before args0 about1 = true := code_word (m := ⟨2, 4⟩) (meth := k2m4) (c := k2c4) (by decide +kernel) rfl rfl rfl (by decide +kernel)
def codes1 : List Jvm.Cond := [Jvm.Cond.code x code maxLocals ret, Jvm.Cond.code ({ cls := "tallytrie/tally/Tally", name := "<init>", desc := "(I)V" } : Jvm.MethodName) prog_34_method_1_code (2 : Nat) (Option.none : Option Jvm.ClassFile.FieldType), Jvm.Cond.code ({ cls := "java/lang/Object", name := "<init>", desc := "()V" } : Jvm.MethodName) object_method_1_code (1 : Nat) (Option.none : Option Jvm.ClassFile.FieldType), Jvm.Cond.code ({ cls := "tallytrie/tally/Tally", name := "total", desc := "()J" } : Jvm.MethodName) prog_34_method_10_code (1 : Nat) (Option.some Jvm.ClassFile.FieldType.long), Jvm.Cond.code ({ cls := "tallytrie/tally/Tally", name := "sumThrough", desc := "(I)J" } : Jvm.MethodName) prog_34_method_12_code (5 : Nat) (Option.some Jvm.ClassFile.FieldType.long), Jvm.Cond.code ({ cls := "tallytrie/tally/Tally", name := "add", desc := "(IJ)V" } : Jvm.MethodName) prog_34_method_6_code (5 : Nat) (Option.none : Option Jvm.ClassFile.FieldType), Jvm.Cond.code ({ cls := "tallytrie/tally/Tally", name := "checkPosition", desc := "(I)V" } : Jvm.MethodName) prog_34_method_13_code (2 : Nat) (Option.none : Option Jvm.ClassFile.FieldType)]
set_option maxRecDepth 65536 in
theorem codes_eq : words1.filter isCode = codes1 := rfl
theorem w_codes : ∀ c ∈ words1.filter isCode, c.before args0 about1 = true := by
  rw [codes_eq]
  intro c hc
  simp only [codes1, List.mem_cons, List.not_mem_nil, or_false] at hc
  rcases hc with rfl | rfl | rfl | rfl | rfl | rfl | rfl
  · exact w_c0
  · exact w_c1
  · exact w_c2
  · exact w_c3
  · exact w_c4
  · exact w_c5
  · exact w_c6
set_option maxRecDepth 65536 in
theorem w_t1 : (words1.take 24).all (fun c => isCode c || c.before args0 about1) = true := by decide +kernel
set_option maxRecDepth 65536 in
theorem w_t2 : (words1.drop 24).all (fun c => isCode c || c.before args0 about1) = true := by decide +kernel
theorem w_tables : (allAtoms (Jvm.Cond.code x code maxLocals ret :: tables_1)).before args0 about1 = true := by
  rw [allAtoms_all]
  show words1.all (fun c => c.before args0 about1) = true
  refine all_split ?_ w_codes
  rw [← List.take_append_drop 24 words1, List.all_append, w_t1, w_t2]
  rfl
set_option maxRecDepth 65536 in
theorem w_case : (Jvm.Cond.and given_1 narrow_1).before args0 about1 = true := by decide +kernel
theorem w_applies : (headSpec (Jvm.Cond.code x code maxLocals ret :: tables_1) room_1).applies x e0.platform about1 = true :=
  (Spec.applies_iff w_frames).mpr ⟨w_running, w_runnable, w_alone, w_named, w_hears, w_ripe, w_room, w_tables⟩
theorem atStart : AtStart classFile x code maxLocals ret World_1 tables_1 room_1 Calls_1 rest_1 Pre_1 launch0 p0 e0 about1 theMethod args0 below0 :=
  ⟨lists_1, trivial, launch0.admits_env _ _ _, launch0.least_env, fairChoices_fair.cas, fairChoices_fair.clock, w_frames, w_args, w_heap, w_applies, trivial, trivial, w_case⟩
end start1
theorem witness_1 : WitnessClaimed_1 := ⟨start1.p0, start1.e0, start1.about1, start1.theMethod, start1.args0, start1.below0, start1.atStart⟩
end Jvm.Pilot.@@N@@
