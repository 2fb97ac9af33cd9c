import JvmDerived
import JvmDerived.Pilot.@@N@@Statement
import JvmDerived.Pilot.@@N@@Code
set_option linter.unusedVariables false
set_option linter.unusedSimpArgs false
namespace Jvm.Pilot.@@N@@
open Jvm Jvm.ClassFile Sem Op Lib Jvm.Free Jvm.Stand Jvm.LawKit Jvm.RoadKit Bundle Jvm.Pilot.@@N@@.Jvm.D
section Own
variable {p : Program} {l : Launch} {e : Env} {R : Room} {s : State} {m : MethodId} {args : Array Value} {below : List Frame} {meth : Method} {c : Code} {T : State} {locs : List Loc} {cells slots : Nat}
/-- from this frame on the run comes to an end of which Φ holds -/
def own_Go (tb : Tables) (e : Env) (below : List Frame) (T : State) (g : JFrame) (Φ : State → Outcome → Prop) : Prop :=
  ∃ s₂ o, Steps tb e below (T.setTop g) s₂ ∧ s₂.status = .running ∧ Ended s₂ below o ∧ Φ s₂ o
def own_End (s : State) (Q : Option Value → Heap → List Loc → Prop) (k n : Nat) (t : State) (o : Outcome) : Prop := ∃ v L, o = .returned v ∧ Q v t.heap L ∧ FrameEnd s o t L k n
theorem own_st {tb : Tables} {T' : State} {g g' : JFrame} {Φ : State → Outcome → Prop} (h : own_Go tb e below T' g' Φ) (k : ∀ t, Steps tb e below (T'.setTop g') t → Steps tb e below (T.setTop g) t) : own_Go tb e below T g Φ := by
  obtain ⟨s₂, o, h1, h2⟩ := h
  exact ⟨s₂, o, k _ h1, h2⟩
theorem own_in {tb : Tables} {g g' : JFrame} {Q : Option Value → Heap → List Loc → Prop} {k n : Nat} (q : g = g') (h : own_Go tb e below T g' (own_End s Q k n)) : ∃ s₂ o, Steps tb e below (T.setTop g) s₂ ∧ s₂.status = .running ∧ Ended s₂ below o ∧ ∃ v L, o = .returned v ∧ Q v s₂.heap L ∧ FrameEnd s o s₂ L k n := by
  subst q
  exact h
theorem own_ret (X : Stand p l e R s m args below meth c T locs cells slots) (hlocks : meth.locks = false) {g : JFrame} {v : Option Value} (hv : meth.sig.returnType = none → v = none) {Q : Option Value → Heap → List Loc → Prop} {k n : Nat} (hk : cells ≤ k) (hn : slots ≤ n) (hQ : Q v T.heap locs)
    (hst : ∀ fs, (∀ (f : JFrame) (acts : List Action), f.method = m → f.locked = none → f.entered = [] → (doReturn e (T.setTop f) acts v).1 = T.setFrames fs) → Steps p.tables e below (T.setTop g) (T.setFrames fs)) : own_Go p.tables e below T g (own_End s Q k n) := by
  obtain ⟨fs, hr, hrun, hended, hW, hsame⟩ := X.leave (v := v) hv hlocks
  exact ⟨_, _, hst fs hr, hrun, hended, _, _, rfl, hQ, ⟨_, rfl⟩, hW, hsame.mono hk hn⟩
theorem own_retZ (X : Stand p l e R s m args below meth c T locs cells slots) (hx : p.tables.exec = Jvm.exec) (hlocks : meth.locks = false) {pc : Nat} {Ls : Array Slot} {z : Int32} {rest : List Value} (hret : meth.sig.returnType = some .boolean) (hd : decode c.code pc = .ok (.ireturn, 1)) {Q : Option Value → Heap → List Loc → Prop} {k n : Nat} (hk : cells ≤ k) (hn : slots ≤ n) (hz : z &&& 1 = z) (hQ : Q (some (.int z)) T.heap locs) :
    own_Go p.tables e below T (mkF m pc Ls (.int z :: rest)) (own_End s Q k n) :=
  own_ret X hlocks (fun h => by rw [hret] at h; cases h) hk hn hQ fun fs hr => retOut X hx hret (by show Value.int (z &&& 1) = _; rw [hz]) (Or.inl ⟨rfl, Or.inr (Or.inl rfl), _, rfl⟩) hd hr
theorem own_retI (X : Stand p l e R s m args below meth c T locs cells slots) (hx : p.tables.exec = Jvm.exec) (hlocks : meth.locks = false) {pc : Nat} {Ls : Array Slot} {z : Int32} {rest : List Value} (hret : meth.sig.returnType = some .int) (hd : decode c.code pc = .ok (.ireturn, 1)) {Q : Option Value → Heap → List Loc → Prop} {k n : Nat} (hk : cells ≤ k) (hn : slots ≤ n) (hQ : Q (some (.int z)) T.heap locs) :
    own_Go p.tables e below T (mkF m pc Ls (.int z :: rest)) (own_End s Q k n) :=
  own_ret X hlocks (fun h => by rw [hret] at h; cases h) hk hn hQ fun fs hr => retOut X hx hret rfl (Or.inl ⟨rfl, Or.inl rfl, _, rfl⟩) hd hr
theorem own_retJ (X : Stand p l e R s m args below meth c T locs cells slots) (hx : p.tables.exec = Jvm.exec) (hlocks : meth.locks = false) {pc : Nat} {Ls : Array Slot} {z : Int64} {rest : List Value} (hret : meth.sig.returnType = some .long) (hd : decode c.code pc = .ok (.lreturn, 1)) {Q : Option Value → Heap → List Loc → Prop} {k n : Nat} (hk : cells ≤ k) (hn : slots ≤ n) (hQ : Q (some (.long z)) T.heap locs) :
    own_Go p.tables e below T (mkF m pc Ls (.long z :: rest)) (own_End s Q k n) :=
  own_ret X hlocks (fun h => by rw [hret] at h; cases h) hk hn hQ fun fs hr => retOut X hx hret rfl (Or.inr (Or.inl ⟨rfl, rfl, _, rfl⟩)) hd hr
theorem own_retA (X : Stand p l e R s m args below meth c T locs cells slots) (hx : p.tables.exec = Jvm.exec) (hlocks : meth.locks = false) {pc : Nat} {Ls : Array Slot} {z : Addr} {rest : List Value} {C : String} (hret : meth.sig.returnType = some (.object C)) (hd : decode c.code pc = .ok (.areturn, 1)) {Q : Option Value → Heap → List Loc → Prop} {k n : Nat} (hk : cells ≤ k) (hn : slots ≤ n) (hQ : Q (some (.ref z)) T.heap locs) :
    own_Go p.tables e below T (mkF m pc Ls (.ref z :: rest)) (own_End s Q k n) :=
  own_ret X hlocks (fun h => by rw [hret] at h; cases h) hk hn hQ fun fs hr => retOut X hx hret rfl (Or.inr (Or.inr (Or.inr (Or.inr ⟨rfl, rfl, rfl⟩)))) hd hr
theorem own_retV (X : Stand p l e R s m args below meth c T locs cells slots) (hx : p.tables.exec = Jvm.exec) (hlocks : meth.locks = false) {pc : Nat} {Ls : Array Slot} (hret : meth.sig.returnType = none) (hd : decode c.code pc = .ok (.return_, 1)) {Q : Option Value → Heap → List Loc → Prop} {k n : Nat} (hk : cells ≤ k) (hn : slots ≤ n) (hQ : Q none T.heap locs) :
    own_Go p.tables e below T (mkF m pc Ls []) (own_End s Q k n) :=
  own_ret X hlocks (fun _ => rfl) hk hn hQ fun fs hr => X.returnOut hx hret hd hr
/-- a truth as Java's int -/
def own_b (b : Bool) : Int32 := if b then 1 else 0
theorem own_bt {b : Bool} (h : b = true) : own_b b = 1 := by rw [h]; rfl
theorem own_bf {b : Bool} (h : b = false) : own_b b = 0 := by rw [h]; rfl
theorem own_bz {a : Bool} : own_b a = 0 ↔ a = false := by cases a <;> decide
theorem own_bo {a : Bool} : own_b a = 1 ↔ a = true := by cases a <;> decide
theorem own_zb {a : Bool} : 0 = own_b a ↔ a = false := by cases a <;> decide
theorem own_ob {a : Bool} : 1 = own_b a ↔ a = true := by cases a <;> decide
theorem own_binj {a b : Bool} : own_b a = own_b b ↔ a = b := by cases a <;> cases b <;> decide
theorem own_b1 (a : Bool) : own_b a &&& 1 = own_b a := by cases a <;> decide
end Own
theorem own_I0 : (0 : Int32).toInt = 0 := by decide +kernel
theorem own_J0 : (0 : Int64).toInt = 0 := by decide +kernel
theorem own_I1 : (1 : Int32).toInt = 1 := by decide +kernel
theorem own_J1 : (1 : Int64).toInt = 1 := by decide +kernel
theorem own_J9223372036854775807 : (9223372036854775807 : Int64).toInt = 9223372036854775807 := by decide +kernel
theorem d1_0 : decode jdk_30_method_1_code 0 = .ok (.aload_n 0, 1) := by decide +kernel
theorem d1_1 : decode jdk_30_method_1_code 1 = .ok (.invokespecial 1, 3) := by decide +kernel
theorem d1_4 : decode jdk_30_method_1_code 4 = .ok (.return_, 1) := by decide +kernel
theorem pn_1 : plainName "java/lang/Record" = true := by first | (simp [plainName, overriddenIn]; done) | decide +kernel
theorem ef_1 (m : MethodId) (a1 : Addr) : entryFrame m #[(.ref a1)] 1 = mkF m 0 #[.val (.ref a1)] [] := by first | (simp [entryFrame, mkF, argsToLocals, Value.category]; done) | rfl
def Q1 (Z : State) (a1 : Addr) (h0 : Heap) (n0 : Nat) (v : Option Value) (h : Heap) (L : List Loc) : Prop := v = none ∧ Fr n0 L ∧ h = h0
set_option maxRecDepth 65536 in
set_option maxHeartbeats 40000000 in
theorem rm1 (l : Launch) (Z : State) (a0 : Array Value) (hw : ∀ d ∈ tables_1, d.before a0 Z = true) (ws : List Jvm.Cond) (a1 : Addr) (h0 : Heap) (n0 : Nat) (Z0 : n0 ≤ h0.size)  :
    MetFree l (⟨"java/lang/Record", "<init>", "()V"⟩ : MethodName) (head1 (Jvm.Cond.code (⟨"java/lang/Record", "<init>", "()V"⟩ : MethodName) jdk_30_method_1_code 1 none :: ws) ({ frames := 1, cells := 0, slots := 0, locals := 12 } : Room)) (fun a U => a = #[(.ref a1)] ∧ Z.Warmed39 U.vm ∧ U.heap = h0) (fun _ _ _ _ _ => True) (fun _ U o U' => ∃ v L, o = .returned v ∧ Q1 Z a1 h0 n0 v U'.heap L ∧ FrameEnd U o U' L ({ frames := 1, cells := 0, slots := 0, locals := 12 } : Room).cells ({ frames := 1, cells := 0, slots := 0, locals := 12 } : Room).slots) := by
  refine MetFree.of_bodySF (plainFor_of_name pn_1) hisR ?_
  intro p e s m args below meth c s₁ Bd hml0 hP hK
  obtain ⟨rfl, hZ, hh⟩ := hP
  have hx := Bd.exec
  have hby := Bd.bytes
  have hml : c.maxLocals = 1 := hml0
  have hown : s.vm.findClass "java/lang/Record" = some m.cls := findClass_of_methodNamed Bd.named
  have hnm := (name_of_methodNamed Bd.named Bd.method).1
  have X0 : Stand p l e ({ frames := 1, cells := 0, slots := 0, locals := 12 } : Room) s m #[(.ref a1)] below meth c s₁ [] 0 0 := Stand.of_body Bd
  have e0 : s₁.heap = h0 := by rw [← hh, Bd.state]; rfl
  have N0 := Fr.nil n0
  have hlk := Bd.notSynchronized
  refine own_in (Q := Q1 Z a1 h0 n0) (ef_1 m a1) ?_
  refine own_st (T' := s₁) (g' := (mkF m 1 #[.val (.ref a1)] [(.ref a1)])) ?_ fun _ k => XS.aloadN X0.here hx rfl (hb hby d1_0) rfl rfl k
  obtain ⟨T1, X1, e1, st1⟩ := initO X0 hx hZ hown (hw _ (List.mem_of_getElem? (i := 11) rfl)) (hw _ (List.mem_of_getElem? (i := 12) rfl)) (hw _ (List.mem_of_getElem? (i := 13) rfl)) e0 (g := (mkF m 1 #[.val (.ref a1)] [(.ref a1)])) rfl (by rw [hml]; rfl) rfl (hb hby d1_1) (by decide) (W := 0) (by show 2 * 0 + _ ≤ _; exact Nat.le_of_eq rfl) (by decide)
  refine own_st (T' := T1) (g' := (mkF m 4 #[.val (.ref a1)] [])) ?_ fun _ k => st1 _ k
  refine own_retV X1 hx hlk Bd.returns (hb hby d1_4) (Q := (Q1 Z a1 h0 n0)) (by decide) (by decide) ?_
  exact ⟨rfl, N0, e1⟩
theorem d2_0 : decode prog_13_method_1_code 0 = .ok (.aload_n 0, 1) := by decide +kernel
theorem d2_1 : decode prog_13_method_1_code 1 = .ok (.invokespecial 1, 3) := by decide +kernel
theorem d2_4 : decode prog_13_method_1_code 4 = .ok (.aload_n 0, 1) := by decide +kernel
theorem d2_5 : decode prog_13_method_1_code 5 = .ok (.lload_n 1, 1) := by decide +kernel
theorem d2_6 : decode prog_13_method_1_code 6 = .ok (.putfield 7, 3) := by decide +kernel
theorem d2_9 : decode prog_13_method_1_code 9 = .ok (.aload_n 0, 1) := by decide +kernel
theorem d2_10 : decode prog_13_method_1_code 10 = .ok (.lload_n 3, 1) := by decide +kernel
theorem d2_11 : decode prog_13_method_1_code 11 = .ok (.putfield 13, 3) := by decide +kernel
theorem d2_14 : decode prog_13_method_1_code 14 = .ok (.aload_n 0, 1) := by decide +kernel
theorem d2_15 : decode prog_13_method_1_code 15 = .ok (.lload 5, 2) := by decide +kernel
theorem d2_17 : decode prog_13_method_1_code 17 = .ok (.putfield 16, 3) := by decide +kernel
theorem d2_20 : decode prog_13_method_1_code 20 = .ok (.return_, 1) := by decide +kernel
theorem pd2_0 : parseMethodDescriptor "()V" = some ⟨[], none⟩ := by decide +kernel
theorem pn_2 : plainName "com/example/rigor_lock/rigorlock/LockStore$Take" = true := by first | (simp [plainName, overriddenIn]; done) | decide +kernel
theorem ef_2 (m : MethodId) (a1 : Addr) (p0 : Int64) (p1 : Int64) (p2 : Int64) : entryFrame m #[(.ref a1), (.long p0), (.long p1), (.long p2)] 7 = mkF m 0 #[.val (.ref a1), .val (.long p0), .second, .val (.long p1), .second, .val (.long p2), .second] [] := by first | (simp [entryFrame, mkF, argsToLocals, Value.category]; done) | rfl
def Q2 (Z : State) (a1 : Addr) (p0 : Int64) (p1 : Int64) (p2 : Int64) (h0 : Heap) (n0 : Nat) (v : Option Value) (h : Heap) (L : List Loc) : Prop := v = none ∧ Fr n0 L ∧ Keep h0 h [a1] ∧ Exa Z h a1 "com/example/rigor_lock/rigorlock/LockStore$Take" ∧ Fld Z h a1 "com/example/rigor_lock/rigorlock/LockStore$Take" "holdCount" "J" (.long p0)
set_option maxRecDepth 65536 in
set_option maxHeartbeats 40000000 in
theorem rm2 (l : Launch) (Z : State) (a0 : Array Value) (hw : ∀ d ∈ tables_1, d.before a0 Z = true) (ws : List Jvm.Cond) (a1 : Addr) (p0 : Int64) (p1 : Int64) (p2 : Int64) (h0 : Heap) (n0 : Nat) (Z0 : n0 ≤ h0.size) (F_holdCount : Fld Z h0 a1 "com/example/rigor_lock/rigorlock/LockStore$Take" "holdCount" "J" (.long (0 : Int64))) (F_fencingToken : Fld Z h0 a1 "com/example/rigor_lock/rigorlock/LockStore$Take" "fencingToken" "J" (.long (0 : Int64))) (F_leaseLeftMillis : Fld Z h0 a1 "com/example/rigor_lock/rigorlock/LockStore$Take" "leaseLeftMillis" "J" (.long (0 : Int64))) (E7 : Exa Z h0 a1 "com/example/rigor_lock/rigorlock/LockStore$Take") (g9 : n0 ≤ a1) :
    MetFree l (⟨"com/example/rigor_lock/rigorlock/LockStore$Take", "<init>", "(JJJ)V"⟩ : MethodName) (head1 (Jvm.Cond.code (⟨"com/example/rigor_lock/rigorlock/LockStore$Take", "<init>", "(JJJ)V"⟩ : MethodName) prog_13_method_1_code 7 none :: ws) ({ frames := 2, cells := 0, slots := 0, locals := 24 } : Room)) (fun a U => a = #[(.ref a1), (.long p0), (.long p1), (.long p2)] ∧ Z.Warmed39 U.vm ∧ U.heap = h0) (fun _ _ _ _ _ => True) (fun _ U o U' => ∃ v L, o = .returned v ∧ Q2 Z a1 p0 p1 p2 h0 n0 v U'.heap L ∧ FrameEnd U o U' L ({ frames := 2, cells := 0, slots := 0, locals := 24 } : Room).cells ({ frames := 2, cells := 0, slots := 0, locals := 24 } : Room).slots) := by
  refine MetFree.of_bodySF (plainFor_of_name pn_2) hisR ?_
  intro p e s m args below meth c s₁ Bd hml0 hP hK
  obtain ⟨rfl, hZ, hh⟩ := hP
  have hx := Bd.exec
  have hby := Bd.bytes
  have hml : c.maxLocals = 7 := hml0
  have hown : s.vm.findClass "com/example/rigor_lock/rigorlock/LockStore$Take" = some m.cls := findClass_of_methodNamed Bd.named
  have hnm := (name_of_methodNamed Bd.named Bd.method).1
  have X0 : Stand p l e ({ frames := 2, cells := 0, slots := 0, locals := 24 } : Room) s m #[(.ref a1), (.long p0), (.long p1), (.long p2)] below meth c s₁ [] 0 0 := Stand.of_body Bd
  have e0 : s₁.heap = h0 := by rw [← hh, Bd.state]; rfl
  have N0 := Fr.nil n0
  have hlk := Bd.notSynchronized
  refine own_in (Q := Q2 Z a1 p0 p1 p2 h0 n0) (ef_2 m a1 p0 p1 p2) ?_
  refine own_st (T' := s₁) (g' := (mkF m 1 #[.val (.ref a1), .val (.long p0), .second, .val (.long p1), .second, .val (.long p2), .second] [(.ref a1)])) ?_ fun _ k => XS.aloadN X0.here hx rfl (hb hby d2_0) rfl rfl k
  obtain ⟨_, _, ⟨T1, L1, k1, n1⟩, -, X1, ⟨Lc1, hQ1, l1, y1, z1⟩, st1⟩ := X0.specialBack hx (y := (⟨"java/lang/Record", "<init>", "()V"⟩ : MethodName)) rfl hown (mvT hZ (hw _ (List.mem_of_getElem? (i := 6) rfl))) (mvT hZ (hw _ (List.mem_of_getElem? (i := 7) rfl))) (mvT hZ (hw _ (List.mem_of_getElem? (i := 10) rfl))) (by decide) (backOf (W := 0) (rm1 l Z a0 hw [] a1 h0 n0 Z0 ) hZ (hw _ (List.mem_of_getElem? (i := 10) rfl)) (hw _ (List.mem_of_getElem? (i := 9) rfl)) (by decide) (by decide)) (g := (mkF m 1 #[.val (.ref a1), .val (.long p0), .second, .val (.long p1), .second, .val (.long p2), .second] [(.ref a1)])) rfl (by rw [hml]; rfl) (Steps.refl _) (a := a1) (argsL := []) (rest := []) (lenOf pd2_0 rfl) rfl (by show 2 * 0 + _ ≤ _; exact Nat.le_of_eq rfl) (hb hby d2_1) (fun _ _ => ⟨rfl, e0, (by decide : 0 + 0 ≤ _), (by decide : 0 + 0 ≤ _)⟩)
  dsimp only [Pt.U, Pt.locs, Pt.cells, Pt.slots] at X1 l1 y1 z1 st1 hQ1
  subst l1 y1 z1
  obtain ⟨rfl, Nq1, e1⟩ := hQ1
  have N1 := Fr.app N0 Nq1
  refine own_st (T' := T1) (g' := (mkF m 4 #[.val (.ref a1), .val (.long p0), .second, .val (.long p1), .second, .val (.long p2), .second] [])) ?_ fun _ k => st1.trans k
  refine own_st (T' := T1) (g' := (mkF m 5 #[.val (.ref a1), .val (.long p0), .second, .val (.long p1), .second, .val (.long p2), .second] [(.ref a1)])) ?_ fun _ k => XS.aloadN X1.here hx rfl (hb hby d2_4) rfl rfl k
  refine own_st (T' := T1) (g' := (mkF m 6 #[.val (.ref a1), .val (.long p0), .second, .val (.long p1), .second, .val (.long p2), .second] [(.long p0), (.ref a1)])) ?_ fun _ k => XS.lloadN X1.here hx rfl (hb hby d2_5) rfl k
  obtain ⟨T2, h2, X2, e2, W2, st2⟩ := putF X1 hx hZ hown (host := "") (Or.inl (hw _ (List.mem_of_getElem? (i := 14) rfl))) Via.refl e1 F_holdCount E7 (Or.inr ⟨(hw _ (List.mem_of_getElem? (i := 15) rfl)), rfl, hnm⟩) (hw _ (List.mem_of_getElem? (i := 1) rfl)) (ty := .long) (by decide) rfl rfl (g := (mkF m 6 #[.val (.ref a1), .val (.long p0), .second, .val (.long p1), .second, .val (.long p2), .second] [(.long p0), (.ref a1)])) rfl rfl (hb hby d2_6)
  have c3_ := E7.wr W2
  have c4_ := F_fencingToken.other W2 (Or.inr (slot_ne (Or.inr (hw _ (List.mem_of_getElem? (i := 17) rfl))) (Or.inr (hw _ (List.mem_of_getElem? (i := 15) rfl))) (by decide) (t := .long) (t' := .long) (by decide) (by decide)))
  have c5_ := F_leaseLeftMillis.other W2 (Or.inr (slot_ne (Or.inr (hw _ (List.mem_of_getElem? (i := 19) rfl))) (Or.inr (hw _ (List.mem_of_getElem? (i := 15) rfl))) (by decide) (t := .long) (t' := .long) (by decide) (by decide)))
  have ZH2 : n0 ≤ h2.size := Nat.le_trans Z0 (Keep.of_wr W2).1
  have F2_holdCount := F_holdCount.same W2
  have N2 := Fr.snoc X2 N1 g9
  have K0_2 : Keep h0 h2 [a1] := (Keep.refl h0 [a1]).wr W2 (Or.inl (List.mem_of_getElem? (i := 0) rfl))
  refine own_st (T' := T2) (g' := (mkF m 9 #[.val (.ref a1), .val (.long p0), .second, .val (.long p1), .second, .val (.long p2), .second] [])) ?_ fun _ k => st2 _ k
  refine own_st (T' := T2) (g' := (mkF m 10 #[.val (.ref a1), .val (.long p0), .second, .val (.long p1), .second, .val (.long p2), .second] [(.ref a1)])) ?_ fun _ k => XS.aloadN X2.here hx rfl (hb hby d2_9) rfl rfl k
  refine own_st (T' := T2) (g' := (mkF m 11 #[.val (.ref a1), .val (.long p0), .second, .val (.long p1), .second, .val (.long p2), .second] [(.long p1), (.ref a1)])) ?_ fun _ k => XS.lloadN X2.here hx rfl (hb hby d2_10) rfl k
  obtain ⟨T6, h6, X6, e6, W6, st6⟩ := putF X2 hx hZ hown (host := "") (Or.inl (hw _ (List.mem_of_getElem? (i := 16) rfl))) Via.refl e2 c4_ c3_ (Or.inr ⟨(hw _ (List.mem_of_getElem? (i := 17) rfl)), rfl, hnm⟩) (hw _ (List.mem_of_getElem? (i := 1) rfl)) (ty := .long) (by decide) rfl rfl (g := (mkF m 11 #[.val (.ref a1), .val (.long p0), .second, .val (.long p1), .second, .val (.long p2), .second] [(.long p1), (.ref a1)])) rfl rfl (hb hby d2_11)
  have c7_ := c3_.wr W6
  have c8_ := F2_holdCount.other W6 (Or.inr (slot_ne (Or.inr (hw _ (List.mem_of_getElem? (i := 15) rfl))) (Or.inr (hw _ (List.mem_of_getElem? (i := 17) rfl))) (by decide) (t := .long) (t' := .long) (by decide) (by decide)))
  have c9_ := c5_.other W6 (Or.inr (slot_ne (Or.inr (hw _ (List.mem_of_getElem? (i := 19) rfl))) (Or.inr (hw _ (List.mem_of_getElem? (i := 17) rfl))) (by decide) (t := .long) (t' := .long) (by decide) (by decide)))
  have ZH6 : n0 ≤ h6.size := Nat.le_trans ZH2 (Keep.of_wr W6).1
  have F6_fencingToken := c4_.same W6
  have N6 := Fr.snoc X6 N2 g9
  have K0_6 : Keep h0 h6 [a1] := K0_2.wr W6 (Or.inl (List.mem_of_getElem? (i := 0) rfl))
  refine own_st (T' := T6) (g' := (mkF m 14 #[.val (.ref a1), .val (.long p0), .second, .val (.long p1), .second, .val (.long p2), .second] [])) ?_ fun _ k => st6 _ k
  refine own_st (T' := T6) (g' := (mkF m 15 #[.val (.ref a1), .val (.long p0), .second, .val (.long p1), .second, .val (.long p2), .second] [(.ref a1)])) ?_ fun _ k => XS.aloadN X6.here hx rfl (hb hby d2_14) rfl rfl k
  refine own_st (T' := T6) (g' := (mkF m 17 #[.val (.ref a1), .val (.long p0), .second, .val (.long p1), .second, .val (.long p2), .second] [(.long p2), (.ref a1)])) ?_ fun _ k => XS.lload X6.here hx rfl (hb hby d2_15) rfl k
  obtain ⟨T10, h10, X10, e10, W10, st10⟩ := putF X6 hx hZ hown (host := "") (Or.inl (hw _ (List.mem_of_getElem? (i := 18) rfl))) Via.refl e6 c9_ c7_ (Or.inr ⟨(hw _ (List.mem_of_getElem? (i := 19) rfl)), rfl, hnm⟩) (hw _ (List.mem_of_getElem? (i := 1) rfl)) (ty := .long) (by decide) rfl rfl (g := (mkF m 17 #[.val (.ref a1), .val (.long p0), .second, .val (.long p1), .second, .val (.long p2), .second] [(.long p2), (.ref a1)])) rfl rfl (hb hby d2_17)
  have c11_ := c7_.wr W10
  have c12_ := c8_.other W10 (Or.inr (slot_ne (Or.inr (hw _ (List.mem_of_getElem? (i := 15) rfl))) (Or.inr (hw _ (List.mem_of_getElem? (i := 19) rfl))) (by decide) (t := .long) (t' := .long) (by decide) (by decide)))
  have c13_ := F6_fencingToken.other W10 (Or.inr (slot_ne (Or.inr (hw _ (List.mem_of_getElem? (i := 17) rfl))) (Or.inr (hw _ (List.mem_of_getElem? (i := 19) rfl))) (by decide) (t := .long) (t' := .long) (by decide) (by decide)))
  have ZH10 : n0 ≤ h10.size := Nat.le_trans ZH6 (Keep.of_wr W10).1
  have F10_leaseLeftMillis := c9_.same W10
  have N10 := Fr.snoc X10 N6 g9
  have K0_10 : Keep h0 h10 [a1] := K0_6.wr W10 (Or.inl (List.mem_of_getElem? (i := 0) rfl))
  refine own_st (T' := T10) (g' := (mkF m 20 #[.val (.ref a1), .val (.long p0), .second, .val (.long p1), .second, .val (.long p2), .second] [])) ?_ fun _ k => st10 _ k
  refine own_retV X10 hx hlk Bd.returns (hb hby d2_20) (Q := (Q2 Z a1 p0 p1 p2 h0 n0)) (by decide) (by decide) ?_
  show Q2 Z a1 p0 p1 p2 h0 n0 _ T10.heap _
  rw [e10]
  exact ⟨rfl, N10, K0_10, c11_, c12_⟩
theorem d3_0 : decode prog_13_method_3_code 0 = .ok (.new 8, 3) := by decide +kernel
theorem d3_3 : decode prog_13_method_3_code 3 = .ok (.dup, 1) := by decide +kernel
theorem d3_4 : decode prog_13_method_3_code 4 = .ok (.lconst 0, 1) := by decide +kernel
theorem d3_5 : decode prog_13_method_3_code 5 = .ok (.lconst 0, 1) := by decide +kernel
theorem d3_6 : decode prog_13_method_3_code 6 = .ok (.lload_n 0, 1) := by decide +kernel
theorem d3_7 : decode prog_13_method_3_code 7 = .ok (.invokespecial 19, 3) := by decide +kernel
theorem d3_10 : decode prog_13_method_3_code 10 = .ok (.areturn, 1) := by decide +kernel
theorem pd3_0 : parseMethodDescriptor "(JJJ)V" = some ⟨[.long, .long, .long], none⟩ := by decide +kernel
theorem pn_3 : plainName "com/example/rigor_lock/rigorlock/LockStore$Take" = true := by first | (simp [plainName, overriddenIn]; done) | decide +kernel
theorem ef_3 (m : MethodId) (p0 : Int64) : entryFrame m #[(.long p0)] 2 = mkF m 0 #[.val (.long p0), .second] [] := by first | (simp [entryFrame, mkF, argsToLocals, Value.category]; done) | rfl
def Q3 (Z : State) (p0 : Int64) (h0 : Heap) (n0 : Nat) (v : Option Value) (h : Heap) (L : List Loc) : Prop := v = some (.ref h0.size) ∧ Fr n0 L ∧ Keep h0 h [] ∧ Exa Z h h0.size "com/example/rigor_lock/rigorlock/LockStore$Take" ∧ Fld Z h h0.size "com/example/rigor_lock/rigorlock/LockStore$Take" "holdCount" "J" (.long (0 : Int64))
set_option maxRecDepth 65536 in
set_option maxHeartbeats 40000000 in
theorem rm3 (l : Launch) (Z : State) (a0 : Array Value) (hw : ∀ d ∈ tables_1, d.before a0 Z = true) (ws : List Jvm.Cond) (p0 : Int64) (h0 : Heap) (n0 : Nat) (Z0 : n0 ≤ h0.size)  :
    MetFree l (⟨"com/example/rigor_lock/rigorlock/LockStore$Take", "refused", "(J)Lcom/example/rigor_lock/rigorlock/LockStore$Take;"⟩ : MethodName) (head1 (Jvm.Cond.code (⟨"com/example/rigor_lock/rigorlock/LockStore$Take", "refused", "(J)Lcom/example/rigor_lock/rigorlock/LockStore$Take;"⟩ : MethodName) prog_13_method_3_code 2 (some (.object "com/example/rigor_lock/rigorlock/LockStore$Take")) :: ws) ({ frames := 3, cells := 1, slots := 3, locals := 44 } : Room)) (fun a U => a = #[(.long p0)] ∧ Z.Warmed39 U.vm ∧ U.heap = h0) (fun _ _ _ _ _ => True) (fun _ U o U' => ∃ v L, o = .returned v ∧ Q3 Z p0 h0 n0 v U'.heap L ∧ FrameEnd U o U' L ({ frames := 3, cells := 1, slots := 3, locals := 44 } : Room).cells ({ frames := 3, cells := 1, slots := 3, locals := 44 } : Room).slots) := by
  refine MetFree.of_bodySF (plainFor_of_name pn_3) hisR ?_
  intro p e s m args below meth c s₁ Bd hml0 hP hK
  obtain ⟨rfl, hZ, hh⟩ := hP
  have hx := Bd.exec
  have hby := Bd.bytes
  have hml : c.maxLocals = 2 := hml0
  have hown : s.vm.findClass "com/example/rigor_lock/rigorlock/LockStore$Take" = some m.cls := findClass_of_methodNamed Bd.named
  have hnm := (name_of_methodNamed Bd.named Bd.method).1
  have X0 : Stand p l e ({ frames := 3, cells := 1, slots := 3, locals := 44 } : Room) s m #[(.long p0)] below meth c s₁ [] 0 0 := Stand.of_body Bd
  have e0 : s₁.heap = h0 := by rw [← hh, Bd.state]; rfl
  have N0 := Fr.nil n0
  have hlk := Bd.notSynchronized
  refine own_in (Q := Q3 Z p0 h0 n0) (ef_3 m p0) ?_
  obtain ⟨T1, h1, X1, e1, E1, A1, D1, -, st1⟩ := newO X0 hx hZ hown (hw _ (List.mem_of_getElem? (i := 23) rfl)) (hw _ (List.mem_of_getElem? (i := 1) rfl)) (hw _ (List.mem_of_getElem? (i := 2) rfl)) e0 (g := (mkF m 0 #[.val (.long p0), .second] [])) rfl (hb hby d3_0) (by decide) (by decide)
  obtain ⟨b1, g1⟩ : ∃ z, z = h0.size := ⟨_, rfl⟩
  rw [← g1] at A1 D1 st1
  have gb1 : n0 ≤ b1 := Nat.le_trans Z0 (Nat.le_of_eq g1.symm)
  have F1_holdCount : Fld Z h1 b1 "com/example/rigor_lock/rigorlock/LockStore$Take" "holdCount" "J" (.long (0 : Int64)) := D1 (Or.inr (hw _ (List.mem_of_getElem? (i := 15) rfl))) (ty := .long) (by decide)
  have F1_fencingToken : Fld Z h1 b1 "com/example/rigor_lock/rigorlock/LockStore$Take" "fencingToken" "J" (.long (0 : Int64)) := D1 (Or.inr (hw _ (List.mem_of_getElem? (i := 17) rfl))) (ty := .long) (by decide)
  have F1_leaseLeftMillis : Fld Z h1 b1 "com/example/rigor_lock/rigorlock/LockStore$Take" "leaseLeftMillis" "J" (.long (0 : Int64)) := D1 (Or.inr (hw _ (List.mem_of_getElem? (i := 19) rfl))) (ty := .long) (by decide)
  have K0_1 : Keep h0 h1 [] := (Keep.refl h0 []).ext E1
  refine own_st (T' := T1) (g' := (mkF m 3 #[.val (.long p0), .second] [(.ref b1)])) ?_ fun _ k => st1 _ k
  refine own_st (T' := T1) (g' := (mkF m 4 #[.val (.long p0), .second] [(.ref b1), (.ref b1)])) ?_ fun _ k => XS.dup X1.here hx rfl (hb hby d3_3) rfl rfl k
  refine own_st (T' := T1) (g' := (mkF m 5 #[.val (.long p0), .second] [(.long (0 : Int64)), (.ref b1), (.ref b1)])) ?_ fun _ k => XS.lconst X1.here hx rfl (hb hby d3_4) k
  refine own_st (T' := T1) (g' := (mkF m 6 #[.val (.long p0), .second] [(.long (0 : Int64)), (.long (0 : Int64)), (.ref b1), (.ref b1)])) ?_ fun _ k => XS.lconst X1.here hx rfl (hb hby d3_5) k
  refine own_st (T' := T1) (g' := (mkF m 7 #[.val (.long p0), .second] [(.long p0), (.long (0 : Int64)), (.long (0 : Int64)), (.ref b1), (.ref b1)])) ?_ fun _ k => XS.lloadN X1.here hx rfl (hb hby d3_6) rfl k
  obtain ⟨_, _, ⟨T2, L2, k2, n2⟩, -, X2, ⟨Lc2, hQ2, l2, y2, z2⟩, st2⟩ := X1.specialBack hx (y := (⟨"com/example/rigor_lock/rigorlock/LockStore$Take", "<init>", "(JJJ)V"⟩ : MethodName)) rfl hown (mvT hZ (hw _ (List.mem_of_getElem? (i := 24) rfl))) (mvT hZ (hw _ (List.mem_of_getElem? (i := 4) rfl))) (mvT hZ (hw _ (List.mem_of_getElem? (i := 5) rfl))) (by decide) (backOf (W := 1) (rm2 l Z a0 hw [] b1 (0 : Int64) (0 : Int64) p0 h1 n0 (Nat.le_trans Z0 E1.1) F1_holdCount F1_fencingToken F1_leaseLeftMillis A1 gb1) hZ (hw _ (List.mem_of_getElem? (i := 5) rfl)) (hw _ (List.mem_of_getElem? (i := 2) rfl)) (by decide) (by decide)) (g := (mkF m 7 #[.val (.long p0), .second] [(.long p0), (.long (0 : Int64)), (.long (0 : Int64)), (.ref b1), (.ref b1)])) rfl (by rw [hml]; rfl) (Steps.refl _) (a := b1) (argsL := [(.long (0 : Int64)), (.long (0 : Int64)), (.long p0)]) (rest := [(.ref b1)]) (lenOf pd3_0 rfl) rfl (by show 2 * 0 + _ ≤ _; exact Nat.le_of_eq rfl) (hb hby d3_7) (fun _ _ => ⟨rfl, e1, (by decide : 1 + 0 ≤ _), (by decide : 3 + 0 ≤ _)⟩)
  dsimp only [Pt.U, Pt.locs, Pt.cells, Pt.slots] at X2 l2 y2 z2 st2 hQ2
  subst l2 y2 z2
  obtain ⟨rfl, Nq2, K2, E2, F2⟩ := hQ2
  have N2 := Fr.app N0 Nq2
  have ZH2 : n0 ≤ T2.heap.size := Nat.le_trans (Nat.le_trans Z0 E1.1) K2.1
  have c3_ := A1.keep K2
  have K0_2 : Keep h0 T2.heap [] := K0_1.trans K2 (allS (Or.inr (Nat.le_of_eq g1.symm)) all0)
  refine own_st (T' := T2) (g' := (mkF m 10 #[.val (.long p0), .second] [(.ref b1)])) ?_ fun _ k => st2.trans k
  refine own_retA X2 hx hlk Bd.returns (hb hby d3_10) (Q := (Q3 Z p0 h0 n0)) (by decide) (by decide) ?_
  subst g1
  exact ⟨rfl, N2, K0_2, c3_, F2⟩
theorem d4_0 : decode prog_13_method_2_code 0 = .ok (.new 8, 3) := by decide +kernel
theorem d4_3 : decode prog_13_method_2_code 3 = .ok (.dup, 1) := by decide +kernel
theorem d4_4 : decode prog_13_method_2_code 4 = .ok (.lload_n 0, 1) := by decide +kernel
theorem d4_5 : decode prog_13_method_2_code 5 = .ok (.lload_n 2, 1) := by decide +kernel
theorem d4_6 : decode prog_13_method_2_code 6 = .ok (.lconst 0, 1) := by decide +kernel
theorem d4_7 : decode prog_13_method_2_code 7 = .ok (.invokespecial 19, 3) := by decide +kernel
theorem d4_10 : decode prog_13_method_2_code 10 = .ok (.areturn, 1) := by decide +kernel
theorem pd4_0 : parseMethodDescriptor "(JJJ)V" = some ⟨[.long, .long, .long], none⟩ := by decide +kernel
theorem pn_4 : plainName "com/example/rigor_lock/rigorlock/LockStore$Take" = true := by first | (simp [plainName, overriddenIn]; done) | decide +kernel
theorem ef_4 (m : MethodId) (p0 : Int64) (p1 : Int64) : entryFrame m #[(.long p0), (.long p1)] 4 = mkF m 0 #[.val (.long p0), .second, .val (.long p1), .second] [] := by first | (simp [entryFrame, mkF, argsToLocals, Value.category]; done) | rfl
def Q4 (Z : State) (p0 : Int64) (p1 : Int64) (h0 : Heap) (n0 : Nat) (v : Option Value) (h : Heap) (L : List Loc) : Prop := v = some (.ref h0.size) ∧ Fr n0 L ∧ Keep h0 h [] ∧ Exa Z h h0.size "com/example/rigor_lock/rigorlock/LockStore$Take" ∧ Fld Z h h0.size "com/example/rigor_lock/rigorlock/LockStore$Take" "holdCount" "J" (.long p0)
set_option maxRecDepth 65536 in
set_option maxHeartbeats 40000000 in
theorem rm4 (l : Launch) (Z : State) (a0 : Array Value) (hw : ∀ d ∈ tables_1, d.before a0 Z = true) (ws : List Jvm.Cond) (p0 : Int64) (p1 : Int64) (h0 : Heap) (n0 : Nat) (Z0 : n0 ≤ h0.size)  :
    MetFree l (⟨"com/example/rigor_lock/rigorlock/LockStore$Take", "taken", "(JJ)Lcom/example/rigor_lock/rigorlock/LockStore$Take;"⟩ : MethodName) (head1 (Jvm.Cond.code (⟨"com/example/rigor_lock/rigorlock/LockStore$Take", "taken", "(JJ)Lcom/example/rigor_lock/rigorlock/LockStore$Take;"⟩ : MethodName) prog_13_method_2_code 4 (some (.object "com/example/rigor_lock/rigorlock/LockStore$Take")) :: ws) ({ frames := 3, cells := 1, slots := 3, locals := 44 } : Room)) (fun a U => a = #[(.long p0), (.long p1)] ∧ Z.Warmed39 U.vm ∧ U.heap = h0) (fun _ _ _ _ _ => True) (fun _ U o U' => ∃ v L, o = .returned v ∧ Q4 Z p0 p1 h0 n0 v U'.heap L ∧ FrameEnd U o U' L ({ frames := 3, cells := 1, slots := 3, locals := 44 } : Room).cells ({ frames := 3, cells := 1, slots := 3, locals := 44 } : Room).slots) := by
  refine MetFree.of_bodySF (plainFor_of_name pn_4) hisR ?_
  intro p e s m args below meth c s₁ Bd hml0 hP hK
  obtain ⟨rfl, hZ, hh⟩ := hP
  have hx := Bd.exec
  have hby := Bd.bytes
  have hml : c.maxLocals = 4 := hml0
  have hown : s.vm.findClass "com/example/rigor_lock/rigorlock/LockStore$Take" = some m.cls := findClass_of_methodNamed Bd.named
  have hnm := (name_of_methodNamed Bd.named Bd.method).1
  have X0 : Stand p l e ({ frames := 3, cells := 1, slots := 3, locals := 44 } : Room) s m #[(.long p0), (.long p1)] below meth c s₁ [] 0 0 := Stand.of_body Bd
  have e0 : s₁.heap = h0 := by rw [← hh, Bd.state]; rfl
  have N0 := Fr.nil n0
  have hlk := Bd.notSynchronized
  refine own_in (Q := Q4 Z p0 p1 h0 n0) (ef_4 m p0 p1) ?_
  obtain ⟨T1, h1, X1, e1, E1, A1, D1, -, st1⟩ := newO X0 hx hZ hown (hw _ (List.mem_of_getElem? (i := 23) rfl)) (hw _ (List.mem_of_getElem? (i := 1) rfl)) (hw _ (List.mem_of_getElem? (i := 2) rfl)) e0 (g := (mkF m 0 #[.val (.long p0), .second, .val (.long p1), .second] [])) rfl (hb hby d4_0) (by decide) (by decide)
  obtain ⟨b1, g1⟩ : ∃ z, z = h0.size := ⟨_, rfl⟩
  rw [← g1] at A1 D1 st1
  have gb1 : n0 ≤ b1 := Nat.le_trans Z0 (Nat.le_of_eq g1.symm)
  have F1_holdCount : Fld Z h1 b1 "com/example/rigor_lock/rigorlock/LockStore$Take" "holdCount" "J" (.long (0 : Int64)) := D1 (Or.inr (hw _ (List.mem_of_getElem? (i := 15) rfl))) (ty := .long) (by decide)
  have F1_fencingToken : Fld Z h1 b1 "com/example/rigor_lock/rigorlock/LockStore$Take" "fencingToken" "J" (.long (0 : Int64)) := D1 (Or.inr (hw _ (List.mem_of_getElem? (i := 17) rfl))) (ty := .long) (by decide)
  have F1_leaseLeftMillis : Fld Z h1 b1 "com/example/rigor_lock/rigorlock/LockStore$Take" "leaseLeftMillis" "J" (.long (0 : Int64)) := D1 (Or.inr (hw _ (List.mem_of_getElem? (i := 19) rfl))) (ty := .long) (by decide)
  have K0_1 : Keep h0 h1 [] := (Keep.refl h0 []).ext E1
  refine own_st (T' := T1) (g' := (mkF m 3 #[.val (.long p0), .second, .val (.long p1), .second] [(.ref b1)])) ?_ fun _ k => st1 _ k
  refine own_st (T' := T1) (g' := (mkF m 4 #[.val (.long p0), .second, .val (.long p1), .second] [(.ref b1), (.ref b1)])) ?_ fun _ k => XS.dup X1.here hx rfl (hb hby d4_3) rfl rfl k
  refine own_st (T' := T1) (g' := (mkF m 5 #[.val (.long p0), .second, .val (.long p1), .second] [(.long p0), (.ref b1), (.ref b1)])) ?_ fun _ k => XS.lloadN X1.here hx rfl (hb hby d4_4) rfl k
  refine own_st (T' := T1) (g' := (mkF m 6 #[.val (.long p0), .second, .val (.long p1), .second] [(.long p1), (.long p0), (.ref b1), (.ref b1)])) ?_ fun _ k => XS.lloadN X1.here hx rfl (hb hby d4_5) rfl k
  refine own_st (T' := T1) (g' := (mkF m 7 #[.val (.long p0), .second, .val (.long p1), .second] [(.long (0 : Int64)), (.long p1), (.long p0), (.ref b1), (.ref b1)])) ?_ fun _ k => XS.lconst X1.here hx rfl (hb hby d4_6) k
  obtain ⟨_, _, ⟨T2, L2, k2, n2⟩, -, X2, ⟨Lc2, hQ2, l2, y2, z2⟩, st2⟩ := X1.specialBack hx (y := (⟨"com/example/rigor_lock/rigorlock/LockStore$Take", "<init>", "(JJJ)V"⟩ : MethodName)) rfl hown (mvT hZ (hw _ (List.mem_of_getElem? (i := 24) rfl))) (mvT hZ (hw _ (List.mem_of_getElem? (i := 4) rfl))) (mvT hZ (hw _ (List.mem_of_getElem? (i := 5) rfl))) (by decide) (backOf (W := 1) (rm2 l Z a0 hw [] b1 p0 p1 (0 : Int64) h1 n0 (Nat.le_trans Z0 E1.1) F1_holdCount F1_fencingToken F1_leaseLeftMillis A1 gb1) hZ (hw _ (List.mem_of_getElem? (i := 5) rfl)) (hw _ (List.mem_of_getElem? (i := 2) rfl)) (by decide) (by decide)) (g := (mkF m 7 #[.val (.long p0), .second, .val (.long p1), .second] [(.long (0 : Int64)), (.long p1), (.long p0), (.ref b1), (.ref b1)])) rfl (by rw [hml]; rfl) (Steps.refl _) (a := b1) (argsL := [(.long p0), (.long p1), (.long (0 : Int64))]) (rest := [(.ref b1)]) (lenOf pd4_0 rfl) rfl (by show 2 * 0 + _ ≤ _; exact Nat.le_of_eq rfl) (hb hby d4_7) (fun _ _ => ⟨rfl, e1, (by decide : 1 + 0 ≤ _), (by decide : 3 + 0 ≤ _)⟩)
  dsimp only [Pt.U, Pt.locs, Pt.cells, Pt.slots] at X2 l2 y2 z2 st2 hQ2
  subst l2 y2 z2
  obtain ⟨rfl, Nq2, K2, E2, F2⟩ := hQ2
  have N2 := Fr.app N0 Nq2
  have ZH2 : n0 ≤ T2.heap.size := Nat.le_trans (Nat.le_trans Z0 E1.1) K2.1
  have c3_ := A1.keep K2
  have K0_2 : Keep h0 T2.heap [] := K0_1.trans K2 (allS (Or.inr (Nat.le_of_eq g1.symm)) all0)
  refine own_st (T' := T2) (g' := (mkF m 10 #[.val (.long p0), .second, .val (.long p1), .second] [(.ref b1)])) ?_ fun _ k => st2.trans k
  refine own_retA X2 hx hlk Bd.returns (hb hby d4_10) (Q := (Q4 Z p0 p1 h0 n0)) (by decide) (by decide) ?_
  subst g1
  exact ⟨rfl, N2, K0_2, c3_, F2⟩
theorem d5_0 : decode prog_13_method_4_code 0 = .ok (.aload_n 0, 1) := by decide +kernel
theorem d5_1 : decode prog_13_method_4_code 1 = .ok (.getfield 7, 3) := by decide +kernel
theorem d5_4 : decode prog_13_method_4_code 4 = .ok (.lconst 0, 1) := by decide +kernel
theorem d5_5 : decode prog_13_method_4_code 5 = .ok (.lcmp, 1) := by decide +kernel
theorem d5_6 : decode prog_13_method_4_code 6 = .ok (.ifCond .le 7, 3) := by decide +kernel
theorem d5_9 : decode prog_13_method_4_code 9 = .ok (.iconst 1, 1) := by decide +kernel
theorem d5_10 : decode prog_13_method_4_code 10 = .ok (.goto 4, 3) := by decide +kernel
theorem d5_13 : decode prog_13_method_4_code 13 = .ok (.iconst 0, 1) := by decide +kernel
theorem d5_14 : decode prog_13_method_4_code 14 = .ok (.ireturn, 1) := by decide +kernel
theorem pn_5 : plainName "com/example/rigor_lock/rigorlock/LockStore$Take" = true := by first | (simp [plainName, overriddenIn]; done) | decide +kernel
theorem ef_5 (m : MethodId) (a1 : Addr) : entryFrame m #[(.ref a1)] 1 = mkF m 0 #[.val (.ref a1)] [] := by first | (simp [entryFrame, mkF, argsToLocals, Value.category]; done) | rfl
def Q5 (Z : State) (a1 : Addr) (w : Int64) (h0 : Heap) (n0 : Nat) (v : Option Value) (h : Heap) (L : List Loc) : Prop := v = some (.int (own_b (decide ((0 : Int32) < lcmpW w (0 : Int64))))) ∧ Fr n0 L ∧ h = h0
set_option maxRecDepth 65536 in
set_option maxHeartbeats 40000000 in
theorem rm5 (l : Launch) (Z : State) (a0 : Array Value) (hw : ∀ d ∈ tables_1, d.before a0 Z = true) (ws : List Jvm.Cond) (a1 : Addr) (w : Int64) (h0 : Heap) (n0 : Nat) (Z0 : n0 ≤ h0.size) (F_h : Fld Z h0 a1 "com/example/rigor_lock/rigorlock/LockStore$Take" "holdCount" "J" (.long w)) :
    MetFree l (⟨"com/example/rigor_lock/rigorlock/LockStore$Take", "taken", "()Z"⟩ : MethodName) (head1 (Jvm.Cond.code (⟨"com/example/rigor_lock/rigorlock/LockStore$Take", "taken", "()Z"⟩ : MethodName) prog_13_method_4_code 1 (some .boolean) :: ws) ({ frames := 0, cells := 0, slots := 0, locals := 0 } : Room)) (fun a U => a = #[(.ref a1)] ∧ Z.Warmed39 U.vm ∧ U.heap = h0) (fun _ _ _ _ _ => True) (fun _ U o U' => ∃ v L, o = .returned v ∧ Q5 Z a1 w h0 n0 v U'.heap L ∧ FrameEnd U o U' L ({ frames := 0, cells := 0, slots := 0, locals := 0 } : Room).cells ({ frames := 0, cells := 0, slots := 0, locals := 0 } : Room).slots) := by
  refine MetFree.of_bodySF (plainFor_of_name pn_5) hisR ?_
  intro p e s m args below meth c s₁ Bd hml0 hP hK
  obtain ⟨rfl, hZ, hh⟩ := hP
  have hx := Bd.exec
  have hby := Bd.bytes
  have hml : c.maxLocals = 1 := hml0
  have hown : s.vm.findClass "com/example/rigor_lock/rigorlock/LockStore$Take" = some m.cls := findClass_of_methodNamed Bd.named
  have hnm := (name_of_methodNamed Bd.named Bd.method).1
  have X0 : Stand p l e ({ frames := 0, cells := 0, slots := 0, locals := 0 } : Room) s m #[(.ref a1)] below meth c s₁ [] 0 0 := Stand.of_body Bd
  have e0 : s₁.heap = h0 := by rw [← hh, Bd.state]; rfl
  have N0 := Fr.nil n0
  have hlk := Bd.notSynchronized
  refine own_in (Q := Q5 Z a1 w h0 n0) (ef_5 m a1) ?_
  refine own_st (T' := s₁) (g' := (mkF m 1 #[.val (.ref a1)] [(.ref a1)])) ?_ fun _ k => XS.aloadN X0.here hx rfl (hb hby d5_0) rfl rfl k
  obtain ⟨T1, X1, e1, st1⟩ := getF X0 hx hZ hown (host := "") (Or.inl (hw _ (List.mem_of_getElem? (i := 14) rfl))) Via.refl e0 F_h (g := (mkF m 1 #[.val (.ref a1)] [(.ref a1)])) rfl rfl (hb hby d5_1)
  refine own_st (T' := T1) (g' := (mkF m 4 #[.val (.ref a1)] [(.long w)])) ?_ fun _ k => st1 _ k
  refine own_st (T' := T1) (g' := (mkF m 5 #[.val (.ref a1)] [(.long (0 : Int64)), (.long w)])) ?_ fun _ k => XS.lconst X1.here hx rfl (hb hby d5_4) k
  refine own_st (T' := T1) (g' := (mkF m 6 #[.val (.ref a1)] [(.int (lcmpW w (0 : Int64)))])) ?_ fun _ k => XS.lcmp X1.here hx rfl (hb hby d5_5) rfl k
  by_cases hc2 : (0 : Int32) < (lcmpW w (0 : Int64))
  · refine own_st (T' := T1) (g' := (mkF m 9 #[.val (.ref a1)] [])) ?_ fun _ k => XS.ifNo X1.here hx rfl (hb hby d5_6) rfl ((if0 _ _).trans (tlt hc2).2.2.2) k
    refine own_st (T' := T1) (g' := (mkF m 10 #[.val (.ref a1)] [(.int (1 : Int32))])) ?_ fun _ k => XS.iconst X1.here hx rfl (hb hby d5_9) k
    refine own_st (T' := T1) (g' := (mkF m 14 #[.val (.ref a1)] [(.int (1 : Int32))])) ?_ fun _ k => XS.goto X1.here hx rfl (pc0 := 10) (pc' := 14) rfl (hb hby d5_10) (by decide) (by decide) k
    refine own_retZ X1 hx hlk Bd.returns (hb hby d5_14) (Q := (Q5 Z a1 w h0 n0)) (by decide) (by decide) (by decide) ?_
    exact ⟨by simp [own_b, hc2], N0, e1⟩
  · refine own_st (T' := T1) (g' := (mkF m 13 #[.val (.ref a1)] [])) ?_ fun _ k => XS.ifYes X1.here hx rfl (pc0 := 6) (pc' := 13) rfl (hb hby d5_6) rfl ((if0 _ _).trans (flt hc2).2.2.2) (by decide) (by decide) k
    refine own_st (T' := T1) (g' := (mkF m 14 #[.val (.ref a1)] [(.int (0 : Int32))])) ?_ fun _ k => XS.iconst X1.here hx rfl (hb hby d5_13) k
    refine own_retZ X1 hx hlk Bd.returns (hb hby d5_14) (Q := (Q5 Z a1 w h0 n0)) (by decide) (by decide) (by decide) ?_
    exact ⟨by simp [own_b, hc2], N0, e1⟩
theorem own_e1 (x : Int64) {z : Int32} (hz : z = own_b (decide (¬ lcmpW x 1 < 0))) : own_b (decide ((0 : Int32) < lcmpW x (0 : Int64))) = z := by
  rw [hz, own_binj, decide_eq_decide, lw_gt, lw_lt, Int64.lt_iff_toInt_lt, Int64.lt_iff_toInt_lt]
  have e0 : (0 : Int64).toInt = 0 := by decide +kernel
  have e1 : (1 : Int64).toInt = 1 := by decide +kernel
  omega
theorem own_e2 : own_b (decide ((0 : Int32) < lcmpW (0 : Int64) (0 : Int64))) = 0 := by decide +kernel
theorem own_pos (x : Int64) : 0 < ((x &&& (9223372036854775807 : Int64)) ||| (1 : Int64)).toInt := by
  have h1 : ((x &&& (9223372036854775807 : Int64)) ||| (1 : Int64)).toBitVec.toNat = (x.toBitVec.toNat &&& 9223372036854775807) ||| 1 := by
    rw [Int64.toBitVec_or, Int64.toBitVec_and, BitVec.toNat_or, BitVec.toNat_and]
    rfl
  have h2 : (x.toBitVec.toNat &&& 9223372036854775807) < 2 ^ 63 := Nat.lt_of_le_of_lt Nat.and_le_right (by decide)
  have h3 : (x.toBitVec.toNat &&& 9223372036854775807) ||| 1 < 2 ^ 63 := Nat.or_lt_two_pow h2 (by decide)
  have h4 : 1 ≤ (x.toBitVec.toNat &&& 9223372036854775807) ||| 1 := Nat.right_le_or
  show 0 < ((x &&& (9223372036854775807 : Int64)) ||| (1 : Int64)).toBitVec.toInt
  rw [BitVec.toInt_eq_toNat_of_lt (by omega)]
  omega
theorem own_e3 (x : Int64) : ¬ own_b (decide ((0 : Int32) < lcmpW ((x &&& (9223372036854775807 : Int64)) ||| (1 : Int64)) (0 : Int64))) = 0 := by
  rw [own_bz, decide_eq_false_iff_not, lw_gt, Int64.lt_iff_toInt_lt]
  have e0 : (0 : Int64).toInt = 0 := by decide +kernel
  have := own_pos x
  omega
theorem pd0_0 : parseMethodDescriptor "(JJJ)V" = some ⟨[.long, .long, .long], none⟩ := by decide +kernel
theorem pd0_1 : parseMethodDescriptor "(J)Lcom/example/rigor_lock/rigorlock/LockStore$Take;" = some ⟨[.long], some (.object "com/example/rigor_lock/rigorlock/LockStore$Take")⟩ := by decide +kernel
theorem pd0_2 : parseMethodDescriptor "(JJ)Lcom/example/rigor_lock/rigorlock/LockStore$Take;" = some ⟨[.long, .long], some (.object "com/example/rigor_lock/rigorlock/LockStore$Take")⟩ := by decide +kernel
theorem pd0_3 : parseMethodDescriptor "()Z" = some ⟨[], some .boolean⟩ := by decide +kernel
theorem pn_0 : plainName "com/example/rigor_lock/rigorlock/TakeTakenPinLaw" = true := by first | (simp [plainName, overriddenIn]; done) | decide +kernel
theorem ef_0 (m : MethodId) (p0 : Int64) (p1 : Int64) (p2 : Int64) : entryFrame m #[(.long p0), (.long p1), (.long p2)] maxLocals = mkF m 0 #[.val (.long p0), .second, .val (.long p1), .second, .val (.long p2), .second, .unset, .unset, .unset, .unset, .unset, .unset, .unset] [] := by first | (simp [entryFrame, mkF, argsToLocals, Value.category, maxLocals]; done) | rfl
def Q0 (Z : State) (p0 : Int64) (p1 : Int64) (p2 : Int64) (h0 : Heap) (n0 : Nat) (v : Option Value) (h : Heap) (L : List Loc) : Prop := v = some (.int 1) ∧ Fr n0 L
set_option maxRecDepth 65536 in
set_option maxHeartbeats 40000000 in
theorem rm0 (l : Launch) (Z : State) (a0 : Array Value) (hw : ∀ d ∈ tables_1, d.before a0 Z = true) (ws : List Jvm.Cond) (p0 : Int64) (p1 : Int64) (p2 : Int64) (h0 : Heap) (n0 : Nat) (Z0 : n0 ≤ h0.size)  :
    MetFree l x (head1 (Jvm.Cond.code x code maxLocals ret :: ws) room_1) (fun a U => a = #[(.long p0), (.long p1), (.long p2)] ∧ Z.Warmed39 U.vm ∧ U.heap = h0) (fun _ _ _ _ _ => True) (fun _ U o U' => ∃ v L, o = .returned v ∧ Q0 Z p0 p1 p2 h0 n0 v U'.heap L ∧ FrameEnd U o U' L 4 12) := by
  refine MetFree.of_bodySF (plainFor_of_name pn_0) hisR ?_
  intro p e s m args below meth c s₁ Bd hml0 hP hK
  obtain ⟨rfl, hZ, hh⟩ := hP
  have hx := Bd.exec
  have hby := Bd.bytes
  have hml : c.maxLocals = 13 := hml0
  have hown : s.vm.findClass "com/example/rigor_lock/rigorlock/TakeTakenPinLaw" = some m.cls := findClass_of_methodNamed Bd.named
  have hnm := (name_of_methodNamed Bd.named Bd.method).1
  have X0 : Stand p l e room_1 s m #[(.long p0), (.long p1), (.long p2)] below meth c s₁ [] 0 0 := Stand.of_body Bd
  have e0 : s₁.heap = h0 := by rw [← hh, Bd.state]; rfl
  have N0 := Fr.nil n0
  have hlk := Bd.notSynchronized
  refine own_in (Q := Q0 Z p0 p1 p2 h0 n0) (ef_0 m p0 p1 p2) ?_
  have k11 : ∀ (z11 : Int32) (hz11 : z11 = own_b (decide (¬ lcmpW p0 1 < 0))), own_Go p.tables e below s₁ (mkF m 11 #[.val (.long p0), .second, .val (.long p1), .second, .val (.long p2), .second, .unset, .unset, .unset, .unset, .unset, .unset, .unset] [(.int z11)]) (own_End s (Q0 Z p0 p1 p2 h0 n0) 4 12) := by
    intro z11 hz11
    refine own_st (T' := s₁) (g' := (mkF m 13 #[.val (.long p0), .second, .val (.long p1), .second, .val (.long p2), .second, .val (.int z11), .unset, .unset, .unset, .unset, .unset, .unset] [])) ?_ fun _ k => XS.istore X0.here hx rfl (hb hby at_11) rfl (l' := #[.val (.long p0), .second, .val (.long p1), .second, .val (.long p2), .second, .val (.int z11), .unset, .unset, .unset, .unset, .unset, .unset]) rfl k
    obtain ⟨T1, h1, X1, e1, E1, A1, D1, -, st1⟩ := newO X0 hx hZ hown (hw _ (List.mem_of_getElem? (i := 0) rfl)) (hw _ (List.mem_of_getElem? (i := 1) rfl)) (hw _ (List.mem_of_getElem? (i := 2) rfl)) e0 (g := (mkF m 13 #[.val (.long p0), .second, .val (.long p1), .second, .val (.long p2), .second, .val (.int z11), .unset, .unset, .unset, .unset, .unset, .unset] [])) rfl (hb hby at_13) (by decide) (by decide)
    obtain ⟨b1, g1⟩ : ∃ z, z = h0.size := ⟨_, rfl⟩
    rw [← g1] at A1 D1 st1
    have gb1 : n0 ≤ b1 := Nat.le_trans Z0 (Nat.le_of_eq g1.symm)
    have F1_holdCount : Fld Z h1 b1 "com/example/rigor_lock/rigorlock/LockStore$Take" "holdCount" "J" (.long (0 : Int64)) := D1 (Or.inr (hw _ (List.mem_of_getElem? (i := 15) rfl))) (ty := .long) (by decide)
    have F1_fencingToken : Fld Z h1 b1 "com/example/rigor_lock/rigorlock/LockStore$Take" "fencingToken" "J" (.long (0 : Int64)) := D1 (Or.inr (hw _ (List.mem_of_getElem? (i := 17) rfl))) (ty := .long) (by decide)
    have F1_leaseLeftMillis : Fld Z h1 b1 "com/example/rigor_lock/rigorlock/LockStore$Take" "leaseLeftMillis" "J" (.long (0 : Int64)) := D1 (Or.inr (hw _ (List.mem_of_getElem? (i := 19) rfl))) (ty := .long) (by decide)
    refine own_st (T' := T1) (g' := (mkF m 16 #[.val (.long p0), .second, .val (.long p1), .second, .val (.long p2), .second, .val (.int z11), .unset, .unset, .unset, .unset, .unset, .unset] [(.ref b1)])) ?_ fun _ k => st1 _ k
    refine own_st (T' := T1) (g' := (mkF m 17 #[.val (.long p0), .second, .val (.long p1), .second, .val (.long p2), .second, .val (.int z11), .unset, .unset, .unset, .unset, .unset, .unset] [(.ref b1), (.ref b1)])) ?_ fun _ k => XS.dup X1.here hx rfl (hb hby at_16) rfl rfl k
    refine own_st (T' := T1) (g' := (mkF m 18 #[.val (.long p0), .second, .val (.long p1), .second, .val (.long p2), .second, .val (.int z11), .unset, .unset, .unset, .unset, .unset, .unset] [(.long p0), (.ref b1), (.ref b1)])) ?_ fun _ k => XS.lloadN X1.here hx rfl (hb hby at_17) rfl k
    refine own_st (T' := T1) (g' := (mkF m 19 #[.val (.long p0), .second, .val (.long p1), .second, .val (.long p2), .second, .val (.int z11), .unset, .unset, .unset, .unset, .unset, .unset] [(.long p1), (.long p0), (.ref b1), (.ref b1)])) ?_ fun _ k => XS.lloadN X1.here hx rfl (hb hby at_18) rfl k
    refine own_st (T' := T1) (g' := (mkF m 21 #[.val (.long p0), .second, .val (.long p1), .second, .val (.long p2), .second, .val (.int z11), .unset, .unset, .unset, .unset, .unset, .unset] [(.long p2), (.long p1), (.long p0), (.ref b1), (.ref b1)])) ?_ fun _ k => XS.lload X1.here hx rfl (hb hby at_19) rfl k
    obtain ⟨_, _, ⟨T2, L2, k2, n2⟩, -, X2, ⟨Lc2, hQ2, l2, y2, z2⟩, st2⟩ := X1.specialBack hx (y := (⟨"com/example/rigor_lock/rigorlock/LockStore$Take", "<init>", "(JJJ)V"⟩ : MethodName)) rfl hown (mvT hZ (hw _ (List.mem_of_getElem? (i := 3) rfl))) (mvT hZ (hw _ (List.mem_of_getElem? (i := 4) rfl))) (mvT hZ (hw _ (List.mem_of_getElem? (i := 5) rfl))) (by decide) (backOf (W := 1) (rm2 l Z a0 hw [] b1 p0 p1 p2 h1 n0 (Nat.le_trans Z0 E1.1) F1_holdCount F1_fencingToken F1_leaseLeftMillis A1 gb1) hZ (hw _ (List.mem_of_getElem? (i := 5) rfl)) (hw _ (List.mem_of_getElem? (i := 2) rfl)) (by decide) (by decide)) (g := (mkF m 21 #[.val (.long p0), .second, .val (.long p1), .second, .val (.long p2), .second, .val (.int z11), .unset, .unset, .unset, .unset, .unset, .unset] [(.long p2), (.long p1), (.long p0), (.ref b1), (.ref b1)])) rfl (by rw [hml]; rfl) (Steps.refl _) (a := b1) (argsL := [(.long p0), (.long p1), (.long p2)]) (rest := [(.ref b1)]) (lenOf pd0_0 rfl) rfl (by show 2 * 0 + _ ≤ _; exact Nat.le_of_eq rfl) (hb hby at_21) (fun _ _ => ⟨rfl, e1, (by decide : 1 + 0 ≤ _), (by decide : 3 + 0 ≤ _)⟩)
    dsimp only [Pt.U, Pt.locs, Pt.cells, Pt.slots] at X2 l2 y2 z2 st2 hQ2
    subst l2 y2 z2
    obtain ⟨rfl, Nq2, K2, E2, F2⟩ := hQ2
    have N2 := Fr.app N0 Nq2
    have ZH2 : n0 ≤ T2.heap.size := Nat.le_trans (Nat.le_trans Z0 E1.1) K2.1
    have c3_ := A1.keep K2
    refine own_st (T' := T2) (g' := (mkF m 24 #[.val (.long p0), .second, .val (.long p1), .second, .val (.long p2), .second, .val (.int z11), .unset, .unset, .unset, .unset, .unset, .unset] [(.ref b1)])) ?_ fun _ k => st2.trans k
    refine own_st (T' := T2) (g' := (mkF m 26 #[.val (.long p0), .second, .val (.long p1), .second, .val (.long p2), .second, .val (.int z11), .val (.ref b1), .unset, .unset, .unset, .unset, .unset] [])) ?_ fun _ k => XS.astore X2.here hx rfl (hb hby at_24) rfl rfl (l' := #[.val (.long p0), .second, .val (.long p1), .second, .val (.long p2), .second, .val (.int z11), .val (.ref b1), .unset, .unset, .unset, .unset, .unset]) rfl k
    obtain ⟨T4, h4, X4, e4, E4, A4, D4, -, st4⟩ := newO X2 hx hZ hown (hw _ (List.mem_of_getElem? (i := 0) rfl)) (hw _ (List.mem_of_getElem? (i := 1) rfl)) (hw _ (List.mem_of_getElem? (i := 2) rfl)) rfl (g := (mkF m 26 #[.val (.long p0), .second, .val (.long p1), .second, .val (.long p2), .second, .val (.int z11), .val (.ref b1), .unset, .unset, .unset, .unset, .unset] [])) rfl (hb hby at_26) (by decide) (by decide)
    obtain ⟨b4, g4⟩ : ∃ z, z = T2.heap.size := ⟨_, rfl⟩
    rw [← g4] at A4 D4 st4
    have gb4 : n0 ≤ b4 := Nat.le_trans ZH2 (Nat.le_of_eq g4.symm)
    have c5_ := c3_.ext E4
    have ne_b1_b4 : b1 ≠ b4 := Nat.ne_of_lt (Nat.lt_of_lt_of_le c3_.lt (Nat.le_of_eq g4.symm))
    have c6_ := F2.ext E4
    have F4_holdCount : Fld Z h4 b4 "com/example/rigor_lock/rigorlock/LockStore$Take" "holdCount" "J" (.long (0 : Int64)) := D4 (Or.inr (hw _ (List.mem_of_getElem? (i := 15) rfl))) (ty := .long) (by decide)
    have F4_fencingToken : Fld Z h4 b4 "com/example/rigor_lock/rigorlock/LockStore$Take" "fencingToken" "J" (.long (0 : Int64)) := D4 (Or.inr (hw _ (List.mem_of_getElem? (i := 17) rfl))) (ty := .long) (by decide)
    have F4_leaseLeftMillis : Fld Z h4 b4 "com/example/rigor_lock/rigorlock/LockStore$Take" "leaseLeftMillis" "J" (.long (0 : Int64)) := D4 (Or.inr (hw _ (List.mem_of_getElem? (i := 19) rfl))) (ty := .long) (by decide)
    refine own_st (T' := T4) (g' := (mkF m 29 #[.val (.long p0), .second, .val (.long p1), .second, .val (.long p2), .second, .val (.int z11), .val (.ref b1), .unset, .unset, .unset, .unset, .unset] [(.ref b4)])) ?_ fun _ k => st4 _ k
    refine own_st (T' := T4) (g' := (mkF m 30 #[.val (.long p0), .second, .val (.long p1), .second, .val (.long p2), .second, .val (.int z11), .val (.ref b1), .unset, .unset, .unset, .unset, .unset] [(.ref b4), (.ref b4)])) ?_ fun _ k => XS.dup X4.here hx rfl (hb hby at_29) rfl rfl k
    refine own_st (T' := T4) (g' := (mkF m 31 #[.val (.long p0), .second, .val (.long p1), .second, .val (.long p2), .second, .val (.int z11), .val (.ref b1), .unset, .unset, .unset, .unset, .unset] [(.long p0), (.ref b4), (.ref b4)])) ?_ fun _ k => XS.lloadN X4.here hx rfl (hb hby at_30) rfl k
    refine own_st (T' := T4) (g' := (mkF m 33 #[.val (.long p0), .second, .val (.long p1), .second, .val (.long p2), .second, .val (.int z11), .val (.ref b1), .unset, .unset, .unset, .unset, .unset] [(.long p2), (.long p0), (.ref b4), (.ref b4)])) ?_ fun _ k => XS.lload X4.here hx rfl (hb hby at_31) rfl k
    refine own_st (T' := T4) (g' := (mkF m 34 #[.val (.long p0), .second, .val (.long p1), .second, .val (.long p2), .second, .val (.int z11), .val (.ref b1), .unset, .unset, .unset, .unset, .unset] [(.long p1), (.long p2), (.long p0), (.ref b4), (.ref b4)])) ?_ fun _ k => XS.lloadN X4.here hx rfl (hb hby at_33) rfl k
    obtain ⟨_, _, ⟨T7, L7, k7, n7⟩, -, X7, ⟨Lc7, hQ7, l7, y7, z7⟩, st7⟩ := X4.specialBack hx (y := (⟨"com/example/rigor_lock/rigorlock/LockStore$Take", "<init>", "(JJJ)V"⟩ : MethodName)) rfl hown (mvT hZ (hw _ (List.mem_of_getElem? (i := 3) rfl))) (mvT hZ (hw _ (List.mem_of_getElem? (i := 4) rfl))) (mvT hZ (hw _ (List.mem_of_getElem? (i := 5) rfl))) (by decide) (backOf (W := 1) (rm2 l Z a0 hw [] b4 p0 p2 p1 h4 n0 (Nat.le_trans ZH2 E4.1) F4_holdCount F4_fencingToken F4_leaseLeftMillis A4 gb4) hZ (hw _ (List.mem_of_getElem? (i := 5) rfl)) (hw _ (List.mem_of_getElem? (i := 2) rfl)) (by decide) (by decide)) (g := (mkF m 34 #[.val (.long p0), .second, .val (.long p1), .second, .val (.long p2), .second, .val (.int z11), .val (.ref b1), .unset, .unset, .unset, .unset, .unset] [(.long p1), (.long p2), (.long p0), (.ref b4), (.ref b4)])) rfl (by rw [hml]; rfl) (Steps.refl _) (a := b4) (argsL := [(.long p0), (.long p2), (.long p1)]) (rest := [(.ref b4)]) (lenOf pd0_0 rfl) rfl (by show 2 * 0 + _ ≤ _; exact Nat.le_of_eq rfl) (hb hby at_34) (fun _ _ => ⟨rfl, e4, (by decide : 2 + 0 ≤ _), (by decide : 6 + 0 ≤ _)⟩)
    dsimp only [Pt.U, Pt.locs, Pt.cells, Pt.slots] at X7 l7 y7 z7 st7 hQ7
    subst l7 y7 z7
    obtain ⟨rfl, Nq7, K7, E7, F7⟩ := hQ7
    have N7 := Fr.app N2 Nq7
    have ZH7 : n0 ≤ T7.heap.size := Nat.le_trans (Nat.le_trans ZH2 E4.1) K7.1
    have c8_ := c5_.keep K7
    have c9_ := c6_.keep K7 (ninS ne_b1_b4 nin0)
    have c10_ := A4.keep K7
    refine own_st (T' := T7) (g' := (mkF m 37 #[.val (.long p0), .second, .val (.long p1), .second, .val (.long p2), .second, .val (.int z11), .val (.ref b1), .unset, .unset, .unset, .unset, .unset] [(.ref b4)])) ?_ fun _ k => st7.trans k
    refine own_st (T' := T7) (g' := (mkF m 39 #[.val (.long p0), .second, .val (.long p1), .second, .val (.long p2), .second, .val (.int z11), .val (.ref b1), .val (.ref b4), .unset, .unset, .unset, .unset] [])) ?_ fun _ k => XS.astore X7.here hx rfl (hb hby at_37) rfl rfl (l' := #[.val (.long p0), .second, .val (.long p1), .second, .val (.long p2), .second, .val (.int z11), .val (.ref b1), .val (.ref b4), .unset, .unset, .unset, .unset]) rfl k
    refine own_st (T' := T7) (g' := (mkF m 41 #[.val (.long p0), .second, .val (.long p1), .second, .val (.long p2), .second, .val (.int z11), .val (.ref b1), .val (.ref b4), .unset, .unset, .unset, .unset] [(.long p2)])) ?_ fun _ k => XS.lload X7.here hx rfl (hb hby at_39) rfl k
    obtain ⟨_, _, ⟨T11, L11, k11, n11⟩, -, X11, ⟨Lc11, hQ11, l11, y11, z11⟩, st11⟩ := Jvm.LawKit.callS X7 hx (y := (⟨"com/example/rigor_lock/rigorlock/LockStore$Take", "refused", "(J)Lcom/example/rigor_lock/rigorlock/LockStore$Take;"⟩ : MethodName)) hown (mvT hZ (hw _ (List.mem_of_getElem? (i := 20) rfl))) (mvT hZ (hw _ (List.mem_of_getElem? (i := 21) rfl))) (mvT hZ (hw _ (List.mem_of_getElem? (i := 2) rfl))) (mvT hZ (hw _ (List.mem_of_getElem? (i := 22) rfl))) (by decide) (backOf (W := 0) (rm3 l Z a0 hw [] p2 T7.heap n0 ZH7 ) hZ (hw _ (List.mem_of_getElem? (i := 22) rfl)) (hw _ (List.mem_of_getElem? (i := 2) rfl)) (by decide) (by decide)) (g := (mkF m 41 #[.val (.long p0), .second, .val (.long p1), .second, .val (.long p2), .second, .val (.int z11), .val (.ref b1), .val (.ref b4), .unset, .unset, .unset, .unset] [(.long p2)])) rfl (by rw [hml]; rfl) (argsL := [(.long p2)]) (rest := []) (lenOf pd0_1 rfl) rfl (by show 2 * 0 + _ ≤ _; exact Nat.le_of_eq rfl) (hb hby at_41) (fun _ _ => ⟨rfl, rfl, (by decide : 2 + 1 ≤ _), (by decide : 6 + 3 ≤ _)⟩)
    dsimp only [Pt.U, Pt.locs, Pt.cells, Pt.slots] at X11 l11 y11 z11 st11 hQ11
    subst l11 y11 z11
    obtain ⟨rfl, Nq11, K11, E11, F11⟩ := hQ11
    have N11 := Fr.app N7 Nq11
    have ZH11 : n0 ≤ T11.heap.size := Nat.le_trans ZH7 K11.1
    have c12_ := c8_.keep K11
    have c13_ := c9_.keep K11 nin0
    have c14_ := c10_.keep K11
    have c15_ := F7.keep K11 nin0
    obtain ⟨b11, g11⟩ : ∃ z, z = T7.heap.size := ⟨_, rfl⟩
    rw [← g11] at E11 F11 st11
    have ne_b1_b11 : b1 ≠ b11 := Nat.ne_of_lt (Nat.lt_of_lt_of_le c8_.lt (Nat.le_of_eq g11.symm))
    have ne_b4_b11 : b4 ≠ b11 := Nat.ne_of_lt (Nat.lt_of_lt_of_le c10_.lt (Nat.le_of_eq g11.symm))
    refine own_st (T' := T11) (g' := (mkF m 44 #[.val (.long p0), .second, .val (.long p1), .second, .val (.long p2), .second, .val (.int z11), .val (.ref b1), .val (.ref b4), .unset, .unset, .unset, .unset] [(.ref b11)])) ?_ fun _ k => st11 _ k
    refine own_st (T' := T11) (g' := (mkF m 46 #[.val (.long p0), .second, .val (.long p1), .second, .val (.long p2), .second, .val (.int z11), .val (.ref b1), .val (.ref b4), .val (.ref b11), .unset, .unset, .unset] [])) ?_ fun _ k => XS.astore X11.here hx rfl (hb hby at_44) rfl rfl (l' := #[.val (.long p0), .second, .val (.long p1), .second, .val (.long p2), .second, .val (.int z11), .val (.ref b1), .val (.ref b4), .val (.ref b11), .unset, .unset, .unset]) rfl k
    refine own_st (T' := T11) (g' := (mkF m 47 #[.val (.long p0), .second, .val (.long p1), .second, .val (.long p2), .second, .val (.int z11), .val (.ref b1), .val (.ref b4), .val (.ref b11), .unset, .unset, .unset] [(.long p0)])) ?_ fun _ k => XS.lloadN X11.here hx rfl (hb hby at_46) rfl k
    refine own_st (T' := T11) (g' := (mkF m 50 #[.val (.long p0), .second, .val (.long p1), .second, .val (.long p2), .second, .val (.int z11), .val (.ref b1), .val (.ref b4), .val (.ref b11), .unset, .unset, .unset] [(.long (9223372036854775807 : Int64)), (.long p0)])) ?_ fun _ k => X11.ldc2Long hx hown (mvT hZ (hw _ (List.mem_of_getElem? (i := 25) rfl))) (g := (mkF m 47 #[.val (.long p0), .second, .val (.long p1), .second, .val (.long p2), .second, .val (.int z11), .val (.ref b1), .val (.ref b4), .val (.ref b11), .unset, .unset, .unset] [(.long p0)])) rfl (hb hby at_47) _ k
    refine own_st (T' := T11) (g' := (mkF m 51 #[.val (.long p0), .second, .val (.long p1), .second, .val (.long p2), .second, .val (.int z11), .val (.ref b1), .val (.ref b4), .val (.ref b11), .unset, .unset, .unset] [(.long (p0 &&& (9223372036854775807 : Int64)))])) ?_ fun _ k => XS.land X11.here hx rfl (hb hby at_50) rfl k
    refine own_st (T' := T11) (g' := (mkF m 52 #[.val (.long p0), .second, .val (.long p1), .second, .val (.long p2), .second, .val (.int z11), .val (.ref b1), .val (.ref b4), .val (.ref b11), .unset, .unset, .unset] [(.long (1 : Int64)), (.long (p0 &&& (9223372036854775807 : Int64)))])) ?_ fun _ k => XS.lconst X11.here hx rfl (hb hby at_51) k
    refine own_st (T' := T11) (g' := (mkF m 53 #[.val (.long p0), .second, .val (.long p1), .second, .val (.long p2), .second, .val (.int z11), .val (.ref b1), .val (.ref b4), .val (.ref b11), .unset, .unset, .unset] [(.long ((p0 &&& (9223372036854775807 : Int64)) ||| (1 : Int64)))])) ?_ fun _ k => XS.lor X11.here hx rfl (hb hby at_52) rfl k
    refine own_st (T' := T11) (g' := (mkF m 55 #[.val (.long p0), .second, .val (.long p1), .second, .val (.long p2), .second, .val (.int z11), .val (.ref b1), .val (.ref b4), .val (.ref b11), .val (.long ((p0 &&& (9223372036854775807 : Int64)) ||| (1 : Int64))), .second, .unset] [])) ?_ fun _ k => XS.lstore X11.here hx rfl (hb hby at_53) rfl (l' := #[.val (.long p0), .second, .val (.long p1), .second, .val (.long p2), .second, .val (.int z11), .val (.ref b1), .val (.ref b4), .val (.ref b11), .val (.long ((p0 &&& (9223372036854775807 : Int64)) ||| (1 : Int64))), .second, .unset]) rfl k
    refine own_st (T' := T11) (g' := (mkF m 57 #[.val (.long p0), .second, .val (.long p1), .second, .val (.long p2), .second, .val (.int z11), .val (.ref b1), .val (.ref b4), .val (.ref b11), .val (.long ((p0 &&& (9223372036854775807 : Int64)) ||| (1 : Int64))), .second, .unset] [(.long ((p0 &&& (9223372036854775807 : Int64)) ||| (1 : Int64)))])) ?_ fun _ k => XS.lload X11.here hx rfl (hb hby at_55) rfl k
    refine own_st (T' := T11) (g' := (mkF m 58 #[.val (.long p0), .second, .val (.long p1), .second, .val (.long p2), .second, .val (.int z11), .val (.ref b1), .val (.ref b4), .val (.ref b11), .val (.long ((p0 &&& (9223372036854775807 : Int64)) ||| (1 : Int64))), .second, .unset] [(.long p1), (.long ((p0 &&& (9223372036854775807 : Int64)) ||| (1 : Int64)))])) ?_ fun _ k => XS.lloadN X11.here hx rfl (hb hby at_57) rfl k
    obtain ⟨_, _, ⟨T16, L16, k16, n16⟩, -, X16, ⟨Lc16, hQ16, l16, y16, z16⟩, st16⟩ := Jvm.LawKit.callS X11 hx (y := (⟨"com/example/rigor_lock/rigorlock/LockStore$Take", "taken", "(JJ)Lcom/example/rigor_lock/rigorlock/LockStore$Take;"⟩ : MethodName)) hown (mvT hZ (hw _ (List.mem_of_getElem? (i := 26) rfl))) (mvT hZ (hw _ (List.mem_of_getElem? (i := 27) rfl))) (mvT hZ (hw _ (List.mem_of_getElem? (i := 2) rfl))) (mvT hZ (hw _ (List.mem_of_getElem? (i := 28) rfl))) (by decide) (backOf (W := 0) (rm4 l Z a0 hw [] ((p0 &&& (9223372036854775807 : Int64)) ||| (1 : Int64)) p1 T11.heap n0 ZH11 ) hZ (hw _ (List.mem_of_getElem? (i := 28) rfl)) (hw _ (List.mem_of_getElem? (i := 2) rfl)) (by decide) (by decide)) (g := (mkF m 58 #[.val (.long p0), .second, .val (.long p1), .second, .val (.long p2), .second, .val (.int z11), .val (.ref b1), .val (.ref b4), .val (.ref b11), .val (.long ((p0 &&& (9223372036854775807 : Int64)) ||| (1 : Int64))), .second, .unset] [(.long p1), (.long ((p0 &&& (9223372036854775807 : Int64)) ||| (1 : Int64)))])) rfl (by rw [hml]; rfl) (argsL := [(.long ((p0 &&& (9223372036854775807 : Int64)) ||| (1 : Int64))), (.long p1)]) (rest := []) (lenOf pd0_2 rfl) rfl (by show 2 * 0 + _ ≤ _; exact Nat.le_of_eq rfl) (hb hby at_58) (fun _ _ => ⟨rfl, rfl, (by decide : 3 + 1 ≤ _), (by decide : 9 + 3 ≤ _)⟩)
    dsimp only [Pt.U, Pt.locs, Pt.cells, Pt.slots] at X16 l16 y16 z16 st16 hQ16
    subst l16 y16 z16
    obtain ⟨rfl, Nq16, K16, E16, F16⟩ := hQ16
    have N16 := Fr.app N11 Nq16
    have ZH16 : n0 ≤ T16.heap.size := Nat.le_trans ZH11 K16.1
    have c17_ := c12_.keep K16
    have c18_ := c13_.keep K16 nin0
    have c19_ := c14_.keep K16
    have c20_ := c15_.keep K16 nin0
    have c21_ := E11.keep K16
    have c22_ := F11.keep K16 nin0
    obtain ⟨b16, g16⟩ : ∃ z, z = T11.heap.size := ⟨_, rfl⟩
    rw [← g16] at E16 F16 st16
    have ne_b1_b16 : b1 ≠ b16 := Nat.ne_of_lt (Nat.lt_of_lt_of_le c12_.lt (Nat.le_of_eq g16.symm))
    have ne_b11_b16 : b11 ≠ b16 := Nat.ne_of_lt (Nat.lt_of_lt_of_le E11.lt (Nat.le_of_eq g16.symm))
    have ne_b4_b16 : b4 ≠ b16 := Nat.ne_of_lt (Nat.lt_of_lt_of_le c14_.lt (Nat.le_of_eq g16.symm))
    refine own_st (T' := T16) (g' := (mkF m 61 #[.val (.long p0), .second, .val (.long p1), .second, .val (.long p2), .second, .val (.int z11), .val (.ref b1), .val (.ref b4), .val (.ref b11), .val (.long ((p0 &&& (9223372036854775807 : Int64)) ||| (1 : Int64))), .second, .unset] [(.ref b16)])) ?_ fun _ k => st16 _ k
    refine own_st (T' := T16) (g' := (mkF m 63 #[.val (.long p0), .second, .val (.long p1), .second, .val (.long p2), .second, .val (.int z11), .val (.ref b1), .val (.ref b4), .val (.ref b11), .val (.long ((p0 &&& (9223372036854775807 : Int64)) ||| (1 : Int64))), .second, .val (.ref b16)] [])) ?_ fun _ k => XS.astore X16.here hx rfl (hb hby at_61) rfl rfl (l' := #[.val (.long p0), .second, .val (.long p1), .second, .val (.long p2), .second, .val (.int z11), .val (.ref b1), .val (.ref b4), .val (.ref b11), .val (.long ((p0 &&& (9223372036854775807 : Int64)) ||| (1 : Int64))), .second, .val (.ref b16)]) rfl k
    refine own_st (T' := T16) (g' := (mkF m 65 #[.val (.long p0), .second, .val (.long p1), .second, .val (.long p2), .second, .val (.int z11), .val (.ref b1), .val (.ref b4), .val (.ref b11), .val (.long ((p0 &&& (9223372036854775807 : Int64)) ||| (1 : Int64))), .second, .val (.ref b16)] [(.ref b1)])) ?_ fun _ k => XS.aload X16.here hx rfl (hb hby at_63) rfl rfl k
    obtain ⟨cq23, kq23, q23a, q23b, q23c⟩ := isOf hZ rfl c17_
    obtain ⟨_, _, ⟨T23, L23, k23, n23⟩, -, X23, ⟨Lc23, hQ23, l23, y23, z23⟩, st23⟩ := X16.virtualBack hx (y := (⟨"com/example/rigor_lock/rigorlock/LockStore$Take", "taken", "()Z"⟩ : MethodName)) (z := (⟨"com/example/rigor_lock/rigorlock/LockStore$Take", "taken", "()Z"⟩ : MethodName)) hown (mvT hZ (hw _ (List.mem_of_getElem? (i := 29) rfl))) (mvT hZ (hw _ (List.mem_of_getElem? (i := 30) rfl))) (notFace_of_selects (args := #[]) (mvT hZ (hw _ (List.mem_of_getElem? (i := 32) rfl)))) (mvT hZ (hw _ (List.mem_of_getElem? (i := 32) rfl))) (mvT hZ (hw _ (List.mem_of_getElem? (i := 31) rfl))) (by decide) (backOf (W := 0) (rm5 l Z a0 hw [] b1 p0 T16.heap n0 ZH16 c18_) hZ (hw _ (List.mem_of_getElem? (i := 33) rfl)) (hw _ (List.mem_of_getElem? (i := 2) rfl)) (by decide) (by decide)) q23a q23c (g := (mkF m 65 #[.val (.long p0), .second, .val (.long p1), .second, .val (.long p2), .second, .val (.int z11), .val (.ref b1), .val (.ref b4), .val (.ref b11), .val (.long ((p0 &&& (9223372036854775807 : Int64)) ||| (1 : Int64))), .second, .val (.ref b16)] [(.ref b1)])) rfl (by rw [hml]; rfl) (Steps.refl _) (argsL := []) (rest := []) (lenOf pd0_3 rfl) rfl (by show 2 * 0 + _ ≤ _; exact Nat.le_of_eq rfl) (hb hby at_65) (fun _ _ => ⟨rfl, rfl, (by decide : 4 + 0 ≤ _), (by decide : 12 + 0 ≤ _)⟩)
    dsimp only [Pt.U, Pt.locs, Pt.cells, Pt.slots] at X23 l23 y23 z23 st23 hQ23
    subst l23 y23 z23
    obtain ⟨rfl, Nq23, e23⟩ := hQ23
    have N23 := Fr.app N16 Nq23
    refine own_st (T' := T23) (g' := (mkF m 68 #[.val (.long p0), .second, .val (.long p1), .second, .val (.long p2), .second, .val (.int z11), .val (.ref b1), .val (.ref b4), .val (.ref b11), .val (.long ((p0 &&& (9223372036854775807 : Int64)) ||| (1 : Int64))), .second, .val (.ref b16)] [(.int (own_b (decide ((0 : Int32) < lcmpW p0 (0 : Int64)))))])) ?_ fun _ k => st23.trans k
    refine own_st (T' := T23) (g' := (mkF m 70 #[.val (.long p0), .second, .val (.long p1), .second, .val (.long p2), .second, .val (.int z11), .val (.ref b1), .val (.ref b4), .val (.ref b11), .val (.long ((p0 &&& (9223372036854775807 : Int64)) ||| (1 : Int64))), .second, .val (.ref b16)] [(.int z11), (.int (own_b (decide ((0 : Int32) < lcmpW p0 (0 : Int64)))))])) ?_ fun _ k => XS.iload X23.here hx rfl (hb hby at_68) rfl k
    refine own_st (T' := T23) (g' := (mkF m 73 #[.val (.long p0), .second, .val (.long p1), .second, .val (.long p2), .second, .val (.int z11), .val (.ref b1), .val (.ref b4), .val (.ref b11), .val (.long ((p0 &&& (9223372036854775807 : Int64)) ||| (1 : Int64))), .second, .val (.ref b16)] [])) ?_ fun _ k => XS.icmpNo X23.here hx rfl (hb hby at_70) rfl ((teq (own_e1 p0 hz11)).2) k
    refine own_st (T' := T23) (g' := (mkF m 75 #[.val (.long p0), .second, .val (.long p1), .second, .val (.long p2), .second, .val (.int z11), .val (.ref b1), .val (.ref b4), .val (.ref b11), .val (.long ((p0 &&& (9223372036854775807 : Int64)) ||| (1 : Int64))), .second, .val (.ref b16)] [(.ref b4)])) ?_ fun _ k => XS.aload X23.here hx rfl (hb hby at_73) rfl rfl k
    obtain ⟨cq24, kq24, q24a, q24b, q24c⟩ := isOf hZ e23 c19_
    obtain ⟨_, _, ⟨T24, L24, k24, n24⟩, -, X24, ⟨Lc24, hQ24, l24, y24, z24⟩, st24⟩ := X23.virtualBack hx (y := (⟨"com/example/rigor_lock/rigorlock/LockStore$Take", "taken", "()Z"⟩ : MethodName)) (z := (⟨"com/example/rigor_lock/rigorlock/LockStore$Take", "taken", "()Z"⟩ : MethodName)) hown (mvT hZ (hw _ (List.mem_of_getElem? (i := 29) rfl))) (mvT hZ (hw _ (List.mem_of_getElem? (i := 30) rfl))) (notFace_of_selects (args := #[]) (mvT hZ (hw _ (List.mem_of_getElem? (i := 32) rfl)))) (mvT hZ (hw _ (List.mem_of_getElem? (i := 32) rfl))) (mvT hZ (hw _ (List.mem_of_getElem? (i := 31) rfl))) (by decide) (backOf (W := 0) (rm5 l Z a0 hw [] b4 p0 T16.heap n0 ZH16 c20_) hZ (hw _ (List.mem_of_getElem? (i := 33) rfl)) (hw _ (List.mem_of_getElem? (i := 2) rfl)) (by decide) (by decide)) q24a q24c (g := (mkF m 75 #[.val (.long p0), .second, .val (.long p1), .second, .val (.long p2), .second, .val (.int z11), .val (.ref b1), .val (.ref b4), .val (.ref b11), .val (.long ((p0 &&& (9223372036854775807 : Int64)) ||| (1 : Int64))), .second, .val (.ref b16)] [(.ref b4)])) rfl (by rw [hml]; rfl) (Steps.refl _) (argsL := []) (rest := []) (lenOf pd0_3 rfl) rfl (by show 2 * 0 + _ ≤ _; exact Nat.le_of_eq rfl) (hb hby at_75) (fun _ _ => ⟨rfl, e23, (by decide : 4 + 0 ≤ _), (by decide : 12 + 0 ≤ _)⟩)
    dsimp only [Pt.U, Pt.locs, Pt.cells, Pt.slots] at X24 l24 y24 z24 st24 hQ24
    subst l24 y24 z24
    obtain ⟨rfl, Nq24, e24⟩ := hQ24
    have N24 := Fr.app N23 Nq24
    refine own_st (T' := T24) (g' := (mkF m 78 #[.val (.long p0), .second, .val (.long p1), .second, .val (.long p2), .second, .val (.int z11), .val (.ref b1), .val (.ref b4), .val (.ref b11), .val (.long ((p0 &&& (9223372036854775807 : Int64)) ||| (1 : Int64))), .second, .val (.ref b16)] [(.int (own_b (decide ((0 : Int32) < lcmpW p0 (0 : Int64)))))])) ?_ fun _ k => st24.trans k
    refine own_st (T' := T24) (g' := (mkF m 80 #[.val (.long p0), .second, .val (.long p1), .second, .val (.long p2), .second, .val (.int z11), .val (.ref b1), .val (.ref b4), .val (.ref b11), .val (.long ((p0 &&& (9223372036854775807 : Int64)) ||| (1 : Int64))), .second, .val (.ref b16)] [(.int z11), (.int (own_b (decide ((0 : Int32) < lcmpW p0 (0 : Int64)))))])) ?_ fun _ k => XS.iload X24.here hx rfl (hb hby at_78) rfl k
    refine own_st (T' := T24) (g' := (mkF m 83 #[.val (.long p0), .second, .val (.long p1), .second, .val (.long p2), .second, .val (.int z11), .val (.ref b1), .val (.ref b4), .val (.ref b11), .val (.long ((p0 &&& (9223372036854775807 : Int64)) ||| (1 : Int64))), .second, .val (.ref b16)] [])) ?_ fun _ k => XS.icmpNo X24.here hx rfl (hb hby at_80) rfl ((teq (own_e1 p0 hz11)).2) k
    refine own_st (T' := T24) (g' := (mkF m 85 #[.val (.long p0), .second, .val (.long p1), .second, .val (.long p2), .second, .val (.int z11), .val (.ref b1), .val (.ref b4), .val (.ref b11), .val (.long ((p0 &&& (9223372036854775807 : Int64)) ||| (1 : Int64))), .second, .val (.ref b16)] [(.ref b11)])) ?_ fun _ k => XS.aload X24.here hx rfl (hb hby at_83) rfl rfl k
    obtain ⟨cq25, kq25, q25a, q25b, q25c⟩ := isOf hZ e24 c21_
    obtain ⟨_, _, ⟨T25, L25, k25, n25⟩, -, X25, ⟨Lc25, hQ25, l25, y25, z25⟩, st25⟩ := X24.virtualBack hx (y := (⟨"com/example/rigor_lock/rigorlock/LockStore$Take", "taken", "()Z"⟩ : MethodName)) (z := (⟨"com/example/rigor_lock/rigorlock/LockStore$Take", "taken", "()Z"⟩ : MethodName)) hown (mvT hZ (hw _ (List.mem_of_getElem? (i := 29) rfl))) (mvT hZ (hw _ (List.mem_of_getElem? (i := 30) rfl))) (notFace_of_selects (args := #[]) (mvT hZ (hw _ (List.mem_of_getElem? (i := 32) rfl)))) (mvT hZ (hw _ (List.mem_of_getElem? (i := 32) rfl))) (mvT hZ (hw _ (List.mem_of_getElem? (i := 31) rfl))) (by decide) (backOf (W := 0) (rm5 l Z a0 hw [] b11 (0 : Int64) T16.heap n0 ZH16 c22_) hZ (hw _ (List.mem_of_getElem? (i := 33) rfl)) (hw _ (List.mem_of_getElem? (i := 2) rfl)) (by decide) (by decide)) q25a q25c (g := (mkF m 85 #[.val (.long p0), .second, .val (.long p1), .second, .val (.long p2), .second, .val (.int z11), .val (.ref b1), .val (.ref b4), .val (.ref b11), .val (.long ((p0 &&& (9223372036854775807 : Int64)) ||| (1 : Int64))), .second, .val (.ref b16)] [(.ref b11)])) rfl (by rw [hml]; rfl) (Steps.refl _) (argsL := []) (rest := []) (lenOf pd0_3 rfl) rfl (by show 2 * 0 + _ ≤ _; exact Nat.le_of_eq rfl) (hb hby at_85) (fun _ _ => ⟨rfl, e24, (by decide : 4 + 0 ≤ _), (by decide : 12 + 0 ≤ _)⟩)
    dsimp only [Pt.U, Pt.locs, Pt.cells, Pt.slots] at X25 l25 y25 z25 st25 hQ25
    subst l25 y25 z25
    obtain ⟨rfl, Nq25, e25⟩ := hQ25
    have N25 := Fr.app N24 Nq25
    refine own_st (T' := T25) (g' := (mkF m 88 #[.val (.long p0), .second, .val (.long p1), .second, .val (.long p2), .second, .val (.int z11), .val (.ref b1), .val (.ref b4), .val (.ref b11), .val (.long ((p0 &&& (9223372036854775807 : Int64)) ||| (1 : Int64))), .second, .val (.ref b16)] [(.int (own_b (decide ((0 : Int32) < lcmpW (0 : Int64) (0 : Int64)))))])) ?_ fun _ k => st25.trans k
    refine own_st (T' := T25) (g' := (mkF m 91 #[.val (.long p0), .second, .val (.long p1), .second, .val (.long p2), .second, .val (.int z11), .val (.ref b1), .val (.ref b4), .val (.ref b11), .val (.long ((p0 &&& (9223372036854775807 : Int64)) ||| (1 : Int64))), .second, .val (.ref b16)] [])) ?_ fun _ k => XS.ifNo X25.here hx rfl (hb hby at_88) rfl ((if0 _ _).trans (teq own_e2).2) k
    refine own_st (T' := T25) (g' := (mkF m 93 #[.val (.long p0), .second, .val (.long p1), .second, .val (.long p2), .second, .val (.int z11), .val (.ref b1), .val (.ref b4), .val (.ref b11), .val (.long ((p0 &&& (9223372036854775807 : Int64)) ||| (1 : Int64))), .second, .val (.ref b16)] [(.ref b16)])) ?_ fun _ k => XS.aload X25.here hx rfl (hb hby at_91) rfl rfl k
    obtain ⟨cq26, kq26, q26a, q26b, q26c⟩ := isOf hZ e25 E16
    obtain ⟨_, _, ⟨T26, L26, k26, n26⟩, -, X26, ⟨Lc26, hQ26, l26, y26, z26⟩, st26⟩ := X25.virtualBack hx (y := (⟨"com/example/rigor_lock/rigorlock/LockStore$Take", "taken", "()Z"⟩ : MethodName)) (z := (⟨"com/example/rigor_lock/rigorlock/LockStore$Take", "taken", "()Z"⟩ : MethodName)) hown (mvT hZ (hw _ (List.mem_of_getElem? (i := 29) rfl))) (mvT hZ (hw _ (List.mem_of_getElem? (i := 30) rfl))) (notFace_of_selects (args := #[]) (mvT hZ (hw _ (List.mem_of_getElem? (i := 32) rfl)))) (mvT hZ (hw _ (List.mem_of_getElem? (i := 32) rfl))) (mvT hZ (hw _ (List.mem_of_getElem? (i := 31) rfl))) (by decide) (backOf (W := 0) (rm5 l Z a0 hw [] b16 ((p0 &&& (9223372036854775807 : Int64)) ||| (1 : Int64)) T16.heap n0 ZH16 F16) hZ (hw _ (List.mem_of_getElem? (i := 33) rfl)) (hw _ (List.mem_of_getElem? (i := 2) rfl)) (by decide) (by decide)) q26a q26c (g := (mkF m 93 #[.val (.long p0), .second, .val (.long p1), .second, .val (.long p2), .second, .val (.int z11), .val (.ref b1), .val (.ref b4), .val (.ref b11), .val (.long ((p0 &&& (9223372036854775807 : Int64)) ||| (1 : Int64))), .second, .val (.ref b16)] [(.ref b16)])) rfl (by rw [hml]; rfl) (Steps.refl _) (argsL := []) (rest := []) (lenOf pd0_3 rfl) rfl (by show 2 * 0 + _ ≤ _; exact Nat.le_of_eq rfl) (hb hby at_93) (fun _ _ => ⟨rfl, e25, (by decide : 4 + 0 ≤ _), (by decide : 12 + 0 ≤ _)⟩)
    dsimp only [Pt.U, Pt.locs, Pt.cells, Pt.slots] at X26 l26 y26 z26 st26 hQ26
    subst l26 y26 z26
    obtain ⟨rfl, Nq26, e26⟩ := hQ26
    have N26 := Fr.app N25 Nq26
    refine own_st (T' := T26) (g' := (mkF m 96 #[.val (.long p0), .second, .val (.long p1), .second, .val (.long p2), .second, .val (.int z11), .val (.ref b1), .val (.ref b4), .val (.ref b11), .val (.long ((p0 &&& (9223372036854775807 : Int64)) ||| (1 : Int64))), .second, .val (.ref b16)] [(.int (own_b (decide ((0 : Int32) < lcmpW ((p0 &&& (9223372036854775807 : Int64)) ||| (1 : Int64)) (0 : Int64)))))])) ?_ fun _ k => st26.trans k
    refine own_st (T' := T26) (g' := (mkF m 99 #[.val (.long p0), .second, .val (.long p1), .second, .val (.long p2), .second, .val (.int z11), .val (.ref b1), .val (.ref b4), .val (.ref b11), .val (.long ((p0 &&& (9223372036854775807 : Int64)) ||| (1 : Int64))), .second, .val (.ref b16)] [])) ?_ fun _ k => XS.ifNo X26.here hx rfl (hb hby at_96) rfl ((if0 _ _).trans (feq (own_e3 p0)).1) k
    refine own_st (T' := T26) (g' := (mkF m 100 #[.val (.long p0), .second, .val (.long p1), .second, .val (.long p2), .second, .val (.int z11), .val (.ref b1), .val (.ref b4), .val (.ref b11), .val (.long ((p0 &&& (9223372036854775807 : Int64)) ||| (1 : Int64))), .second, .val (.ref b16)] [(.int (1 : Int32))])) ?_ fun _ k => XS.iconst X26.here hx rfl (hb hby at_99) k
    refine own_st (T' := T26) (g' := (mkF m 104 #[.val (.long p0), .second, .val (.long p1), .second, .val (.long p2), .second, .val (.int z11), .val (.ref b1), .val (.ref b4), .val (.ref b11), .val (.long ((p0 &&& (9223372036854775807 : Int64)) ||| (1 : Int64))), .second, .val (.ref b16)] [(.int (1 : Int32))])) ?_ fun _ k => XS.goto X26.here hx rfl (pc0 := 100) (pc' := 104) rfl (hb hby at_100) (by decide) (by decide) k
    refine own_retZ X26 hx hlk Bd.returns (hb hby at_104) (Q := (Q0 Z p0 p1 p2 h0 n0)) (by decide) (by decide) (by decide) ?_
    exact ⟨rfl, N26⟩
  refine own_st (T' := s₁) (g' := (mkF m 1 #[.val (.long p0), .second, .val (.long p1), .second, .val (.long p2), .second, .unset, .unset, .unset, .unset, .unset, .unset, .unset] [(.long p0)])) ?_ fun _ k => XS.lloadN X0.here hx rfl (hb hby at_0) rfl k
  refine own_st (T' := s₁) (g' := (mkF m 2 #[.val (.long p0), .second, .val (.long p1), .second, .val (.long p2), .second, .unset, .unset, .unset, .unset, .unset, .unset, .unset] [(.long (1 : Int64)), (.long p0)])) ?_ fun _ k => XS.lconst X0.here hx rfl (hb hby at_1) k
  refine own_st (T' := s₁) (g' := (mkF m 3 #[.val (.long p0), .second, .val (.long p1), .second, .val (.long p2), .second, .unset, .unset, .unset, .unset, .unset, .unset, .unset] [(.int (lcmpW p0 (1 : Int64)))])) ?_ fun _ k => XS.lcmp X0.here hx rfl (hb hby at_2) rfl k
  by_cases hc27 : (lcmpW p0 (1 : Int64)) < (0 : Int32)
  · refine own_st (T' := s₁) (g' := (mkF m 10 #[.val (.long p0), .second, .val (.long p1), .second, .val (.long p2), .second, .unset, .unset, .unset, .unset, .unset, .unset, .unset] [])) ?_ fun _ k => XS.ifYes X0.here hx rfl (pc0 := 3) (pc' := 10) rfl (hb hby at_3) rfl ((if0 _ _).trans (tlt hc27).1) (by decide) (by decide) k
    refine own_st (T' := s₁) (g' := (mkF m 11 #[.val (.long p0), .second, .val (.long p1), .second, .val (.long p2), .second, .unset, .unset, .unset, .unset, .unset, .unset, .unset] [(.int (0 : Int32))])) ?_ fun _ k => XS.iconst X0.here hx rfl (hb hby at_10) k
    exact k11 _ (by simp [own_b, hc27])
  · refine own_st (T' := s₁) (g' := (mkF m 6 #[.val (.long p0), .second, .val (.long p1), .second, .val (.long p2), .second, .unset, .unset, .unset, .unset, .unset, .unset, .unset] [])) ?_ fun _ k => XS.ifNo X0.here hx rfl (hb hby at_3) rfl ((if0 _ _).trans (flt hc27).1) k
    refine own_st (T' := s₁) (g' := (mkF m 7 #[.val (.long p0), .second, .val (.long p1), .second, .val (.long p2), .second, .unset, .unset, .unset, .unset, .unset, .unset, .unset] [(.int (1 : Int32))])) ?_ fun _ k => XS.iconst X0.here hx rfl (hb hby at_6) k
    refine own_st (T' := s₁) (g' := (mkF m 11 #[.val (.long p0), .second, .val (.long p1), .second, .val (.long p2), .second, .unset, .unset, .unset, .unset, .unset, .unset, .unset] [(.int (1 : Int32))])) ?_ fun _ k => XS.goto X0.here hx rfl (pc0 := 7) (pc' := 11) rfl (hb hby at_7) (by decide) (by decide) k
    exact k11 _ (by simp [own_b, hc27])
set_option maxRecDepth 65536 in
set_option maxHeartbeats 40000000 in
theorem comes_1 {Post : Tables → Env → Array Value → State → Outcome → State → Prop} (hpost : ∀ tb e args s v u, (limb_1_1.after args s (.returned v) u = true ∧ limb_1_2.after args s (.returned v) u = true ∧ True) → FrameEnd s (.returned v) u (Jvm.fieldLocs frame_1_writes args s ++ Jvm.arrayLocs frame_1_arrays args s ++ Jvm.staticLocs frame_1_statics s) 16 128 → Post tb e args s (.returned v) u) :
    ArmFor flags0 classFile x code maxLocals ret World_1 tables_1 room_1 Calls_1 rest_1 Pre_1 Post := by
  intro l hfl _ _ p e ha hc hk s m args below hf hA hF happ hP
  obtain ⟨hcalls, hrest, hpre⟩ := hP
  obtain ⟨-, -, -, hnamed, -, -, -, hat⟩ := (Spec.applies_iff hf).mp happ
  obtain ⟨hg, hn⟩ := and_e (Cond.before_iff.mp (show (Jvm.Cond.and given_1 narrow_1).before args s = true from hpre))
  obtain ⟨g1, g2⟩ := and_e hg
  obtain ⟨g3, g4⟩ := and_e g2
  obtain ⟨g5, g6⟩ := and_e g4
  obtain ⟨w0, w1, w2, rfl⟩ : ∃ w0 w1 w2 : Value, args = #[w0, w1, w2] := by
    have hs : args.size = 3 := by simpa [Cond.value, given_1] using g1
    obtain ⟨L⟩ := args
    match L, hs with
    | [w0, w1, w2], _ => exact ⟨w0, w1, w2, rfl⟩
  have hw := fun d (hd : d ∈ tables_1) => atoms_spec (ws := Jvm.Cond.code x code maxLocals ret :: tables_1) hat d (List.mem_cons_of_mem _ hd)
  obtain ⟨i0, ei0⟩ := isL_v g3
  obtain rfl : w0 = (.long i0) := Option.some.inj ei0
  obtain ⟨i1, ei1⟩ := isL_v g5
  obtain rfl : w1 = (.long i1) := Option.some.inj ei1
  obtain ⟨i2, ei2⟩ := isL_v g6
  obtain rfl : w2 = (.long i2) := Option.some.inj ei2
  obtain ⟨n, o, h1, h2, h3, _, L, rfl, ⟨rfl, N⟩, hq⟩ := rm0 l s _ hw tables_1 i0 i1 i2 s.heap s.heap.size (Nat.le_refl _) p e ha hc hk s m _ below hf ((Spec.applies_iff_loose hf).mp happ).1 ⟨rfl, State.Warmed39.refl s, rfl⟩ trivial
  refine ⟨n, _, h1, h2, h3, hpost _ _ _ _ _ _ ⟨Cond.after_iff.mpr rfl, Cond.after_iff.mpr (eq_i res_at (Term.int_eval (1)) rfl), trivial⟩ ⟨hq.1, hq.2.1, (hq.2.2.sift fun y hy => Or.inr (N y hy)).mono (by decide) (by decide)⟩⟩
theorem main_1_1 : Claimed_1_1 := comes_1 fun _ _ _ _ _ _ h hF => ⟨h.1, hF⟩
theorem main_1_2 : Claimed_1_2 := comes_1 fun _ _ _ _ _ _ h hF => ⟨h.2.1, hF⟩
end Jvm.Pilot.@@N@@
namespace Jvm.Pilot.@@N@@
open Jvm Jvm.ClassFile Sem Op Lib Jvm.Free Jvm.Stand Jvm.Pilot.@@N@@.Jvm.D
/-! MADE BY PROGRAM (witnessworld.py) out of the Statement's table words and the real class files: 10 classes; the members and pool entries that the words name. The judged class is class 1, her method 1. -/
namespace start1
open Jvm.ClassFile
def u (s : String) : CpInfo := .utf8 (stringToUtf16 s)
/-- a pool by its gaps: so many unusable entries, then the entry; so many at the end -/
def gap : Nat → List CpInfo → List CpInfo
  | 0, r => r
  | n + 1, r => .unusable :: gap n r
def poolList (es : List (Nat × CpInfo)) (last : Nat) : List CpInfo := es.foldr (fun e r => gap e.1 (e.2 :: r)) (gap last [])
def pool (es : List (Nat × CpInfo)) (last : Nat) : Array CpInfo := ⟨poolList es last⟩
def fileOf (pool : Array CpInfo) (this : Nat) (attrs : Array Attribute := #[]) (ms : Array MethodInfo := #[]) (fl : Nat := 33) (sup : Nat := 0) (ifs : Array Nat := #[]) (fds : Array FieldInfo := #[]) : ClassFile where
  minorVersion := 0
  majorVersion := 65
  constantPool := pool
  accessFlags := fl
  thisClass := this
  superClass := sup
  interfaces := ifs
  fields := fds
  methods := ms
  attributes := attrs
def plain (name : String) (sup : Option ClassId) : Class where
  name := name
  kind := .ordinary
  loader := none
  accessFlags := 33
  super := sup
  interfaces := #[]
  cf := none
  fields := #[]
  methods := #[]
  instanceTypes := #[]
  staticTypes := #[]
  resolved := #[]
  callSites := []
  init := .initialized
  statics := none
  mirror := none

def pool0 : Array CpInfo := pool [(5, u "<init>"), (0, u "()V"), (1, .class_ 10), (1, u "java/lang/Object")] 113

def k0c0 : Code := { maxStack := 0, maxLocals := 1, code := object_method_1_code, exceptionTable := #[], attributes := #[] }
def k0m0 : Method := { name := "<init>", desc := "()V", sig := { parameters := [], returnType := none }, accessFlags := 1, code := some k0c0 }
/-- java/lang/Object -/
def k0 : Class := { plain "java/lang/Object" none with
  accessFlags := 33
  interfaces := #[]
  cf := some (fileOf pool0 8 #[] #[{ accessFlags := 1, nameIndex := 5, descriptorIndex := 6, attributes := #[] }] 33 0 #[] #[])
  fields := #[]
  methods := #[k0m0]
  instanceTypes := #[]
  staticTypes := #[]
  resolved := Array.replicate 124 none
  statics := none }

def pool1 : Array CpInfo := pool [(2, .class_ 4), (1, u "java/lang/Object"), (0, u "<init>"), (0, u "()V"), (0, .class_ 8), (0, u "com/example/rigor_lock/rigorlock/LockStore$Take"), (0, .methodref 7 10), (0, .nameAndType 5 11), (0, u "(JJJ)V"), (0, .methodref 7 13), (0, .nameAndType 14 15), (0, u "refused"), (0, u "(J)Lcom/example/rigor_lock/rigorlock/LockStore$Take;"), (2, .long 9223372036854775807), (1, .methodref 7 21), (0, .nameAndType 22 23), (0, u "taken"), (0, u "(JJ)Lcom/example/rigor_lock/rigorlock/LockStore$Take;"), (0, .methodref 7 25), (0, .nameAndType 22 26), (0, u "()Z"), (0, .class_ 28), (0, u "com/example/rigor_lock/rigorlock/TakeTakenPinLaw"), (2, u "law"), (0, u "(JJJ)Z")] 7

def k1m0 : Method := { name := "<init>", desc := "()V", sig := { parameters := [], returnType := none }, accessFlags := 1, code := none }
def k1c1 : Code := { maxStack := 8, maxLocals := 13, code := code, exceptionTable := #[], attributes := #[] }
def k1m1 : Method := { name := "law", desc := "(JJJ)Z", sig := { parameters := [.long, .long, .long], returnType := some .boolean }, accessFlags := 9, code := some k1c1 }
/-- com/example/rigor_lock/rigorlock/TakeTakenPinLaw -/
def k1 : Class := { plain "com/example/rigor_lock/rigorlock/TakeTakenPinLaw" (some 0) with
  accessFlags := 49
  interfaces := #[]
  cf := some (fileOf pool1 27 #[] #[{ accessFlags := 1, nameIndex := 5, descriptorIndex := 6, attributes := #[] }, { accessFlags := 9, nameIndex := 31, descriptorIndex := 32, attributes := #[] }] 49 2 #[] #[])
  fields := #[]
  methods := #[k1m0, k1m1]
  instanceTypes := #[]
  staticTypes := #[]
  resolved := Array.replicate 40 none
  statics := none }

def pool2 : Array CpInfo := pool [(1, .methodref 2 3), (0, .class_ 4), (0, .nameAndType 5 6), (0, u "java/lang/Object"), (0, u "<init>"), (0, u "()V"), (0, .class_ 8), (0, u "java/lang/Record")] 13

def k2c0 : Code := { maxStack := 1, maxLocals := 1, code := jdk_30_method_1_code, exceptionTable := #[], attributes := #[] }
def k2m0 : Method := { name := "<init>", desc := "()V", sig := { parameters := [], returnType := none }, accessFlags := 4, code := some k2c0 }
/-- java/lang/Record -/
def k2 : Class := { plain "java/lang/Record" (some 0) with
  accessFlags := 1057
  interfaces := #[]
  cf := some (fileOf pool2 7 #[] #[{ accessFlags := 4, nameIndex := 5, descriptorIndex := 6, attributes := #[] }] 1057 2 #[] #[])
  fields := #[]
  methods := #[k2m0]
  instanceTypes := #[]
  staticTypes := #[]
  resolved := Array.replicate 22 none
  statics := none }

def pool3 : Array CpInfo := pool [(1, .methodref 2 3), (0, .class_ 4), (0, .nameAndType 5 6), (0, u "java/lang/Record"), (0, u "<init>"), (0, u "()V"), (0, .fieldref 8 9), (0, .class_ 10), (0, .nameAndType 11 12), (0, u "com/example/rigor_lock/rigorlock/LockStore$Take"), (0, u "holdCount"), (0, u "J"), (0, .fieldref 8 14), (0, .nameAndType 15 12), (0, u "fencingToken"), (0, .fieldref 8 17), (0, .nameAndType 18 12), (0, u "leaseLeftMillis"), (0, .methodref 8 20), (0, .nameAndType 5 21), (0, u "(JJJ)V"), (15, u "taken"), (0, u "(JJ)Lcom/example/rigor_lock/rigorlock/LockStore$Take;"), (0, u "refused"), (0, u "(J)Lcom/example/rigor_lock/rigorlock/LockStore$Take;"), (0, u "()Z"), (8, .class_ 51), (0, u "com/example/rigor_lock/rigorlock/LockStore")] 21

def k3c0 : Code := { maxStack := 3, maxLocals := 7, code := prog_13_method_1_code, exceptionTable := #[], attributes := #[] }
def k3m0 : Method := { name := "<init>", desc := "(JJJ)V", sig := { parameters := [.long, .long, .long], returnType := none }, accessFlags := 1, code := some k3c0 }
def k3c1 : Code := { maxStack := 8, maxLocals := 4, code := prog_13_method_2_code, exceptionTable := #[], attributes := #[] }
def k3m1 : Method := { name := "taken", desc := "(JJ)Lcom/example/rigor_lock/rigorlock/LockStore$Take;", sig := { parameters := [.long, .long], returnType := some (.object "com/example/rigor_lock/rigorlock/LockStore$Take") }, accessFlags := 8, code := some k3c1 }
def k3c2 : Code := { maxStack := 8, maxLocals := 2, code := prog_13_method_3_code, exceptionTable := #[], attributes := #[] }
def k3m2 : Method := { name := "refused", desc := "(J)Lcom/example/rigor_lock/rigorlock/LockStore$Take;", sig := { parameters := [.long], returnType := some (.object "com/example/rigor_lock/rigorlock/LockStore$Take") }, accessFlags := 8, code := some k3c2 }
def k3c3 : Code := { maxStack := 4, maxLocals := 1, code := prog_13_method_4_code, exceptionTable := #[], attributes := #[] }
def k3m3 : Method := { name := "taken", desc := "()Z", sig := { parameters := [], returnType := some .boolean }, accessFlags := 0, code := some k3c3 }
/-- com/example/rigor_lock/rigorlock/LockStore$Take -/
def k3 : Class := { plain "com/example/rigor_lock/rigorlock/LockStore$Take" (some 2) with
  accessFlags := 49
  interfaces := #[]
  cf := some (fileOf pool3 8 #[.nestHost 50] #[{ accessFlags := 1, nameIndex := 5, descriptorIndex := 21, attributes := #[] }, { accessFlags := 8, nameIndex := 37, descriptorIndex := 38, attributes := #[] }, { accessFlags := 8, nameIndex := 39, descriptorIndex := 40, attributes := #[] }, { accessFlags := 0, nameIndex := 37, descriptorIndex := 41, attributes := #[] }] 49 2 #[] #[{ accessFlags := 18, nameIndex := 11, descriptorIndex := 12, attributes := #[] }, { accessFlags := 18, nameIndex := 15, descriptorIndex := 12, attributes := #[] }, { accessFlags := 18, nameIndex := 18, descriptorIndex := 12, attributes := #[] }])
  fields := #[{ name := "holdCount", type := .long, accessFlags := 18, slot := 0, constantValue := 0 }, { name := "fencingToken", type := .long, accessFlags := 18, slot := 1, constantValue := 0 }, { name := "leaseLeftMillis", type := .long, accessFlags := 18, slot := 2, constantValue := 0 }]
  methods := #[k3m0, k3m1, k3m2, k3m3]
  instanceTypes := #[.long, .long, .long]
  staticTypes := #[]
  resolved := Array.replicate 73 none
  statics := none }

def pool4 : Array CpInfo := pool [(1, u "java/lang/Cloneable"), (0, .class_ 1), (0, u "java/lang/Object"), (0, .class_ 3)] 3

/-- java/lang/Cloneable -/
def k4 : Class := { plain "java/lang/Cloneable" (some 0) with
  accessFlags := 1537
  interfaces := #[]
  cf := some (fileOf pool4 2 #[] #[] 1537 4 #[] #[])
  fields := #[]
  methods := #[]
  instanceTypes := #[]
  staticTypes := #[]
  resolved := Array.replicate 8 none
  statics := none }

def pool5 : Array CpInfo := pool [(1, u "java/io/Serializable"), (0, .class_ 1), (0, u "java/lang/Object"), (0, .class_ 3)] 3

/-- java/io/Serializable -/
def k5 : Class := { plain "java/io/Serializable" (some 0) with
  accessFlags := 1537
  interfaces := #[]
  cf := some (fileOf pool5 2 #[] #[] 1537 4 #[] #[])
  fields := #[]
  methods := #[]
  instanceTypes := #[]
  staticTypes := #[]
  resolved := Array.replicate 8 none
  statics := none }

/-- the primitive byte -/
def k6 : Class := { plain "byte" none with kind := .primitive 'B', accessFlags := 0x411 }
/-- [B -/
def k7 : Class := { plain "[B" (some 0) with kind := .array 6 .byte, interfaces := #[4, 5], accessFlags := 1041 }

/-- the primitive int -/
def k8 : Class := { plain "int" none with kind := .primitive 'I', accessFlags := 0x411 }
/-- [I -/
def k9 : Class := { plain "[I" (some 0) with kind := .array 8 .int, interfaces := #[4, 5], accessFlags := 1041 }

def heap : Heap := #[]
def classes : Array Class := #[k0, k1, k2, k3, k4, k5, k6, k7, k8, k9]
def interned : List (Array UInt16 × Addr) := []
def slotsUsed : Nat := 0
def theMethod : MethodId := ⟨1, 1⟩
def args0 : Array Value := #[.long 5, .long 9, .long 7]
def aboutOver (below : List Frame) : State where
  vm := { classes := classes, interned := interned.toArray }
  heap := heap
  slotsUsed := slotsUsed
  threads := #[{ frames := .invoking theMethod args0 :: below }]
def below0 : List Frame := [.native { method := ⟨0, 0⟩, args := #[] }]
def about1 : State := aboutOver below0
def p0 : Program := .bare "" "" ""
def e0 : Env := launch0.env 0 0 0
theorem w_frames : about1.frames = Frame.invoking theMethod args0 :: below0 := rfl
set_option maxRecDepth 65536 in
theorem w_args : argsFit about1.vm theMethod args0 = true := by decide +kernel
set_option maxRecDepth 65536 in
theorem w_heap : heapFits about1 = true := by decide +kernel
set_option maxRecDepth 65536 in
theorem w_runnable : about1.curStatus? = some .runnable := by decide +kernel
set_option maxRecDepth 65536 in
theorem w_alone : about1.alone = true := by decide +kernel
set_option maxRecDepth 65536 in
theorem w_named : about1.methodNamed? x = some theMethod := by decide +kernel
set_option maxRecDepth 65536 in
theorem w_hears : about1.hears theMethod below0 = true := by decide +kernel
set_option maxRecDepth 65536 in
theorem w_ripe : about1.ripe theMethod args0 below0 = true := by decide +kernel
theorem w_running : about1.status = .running := rfl
set_option maxRecDepth 65536 in
theorem w_room : about1.hasRoom e0.platform room_1 = true :=
  launch0.hasRoom_least _ room_1 (by decide +kernel) (by decide +kernel) (by decide +kernel) (by decide +kernel) (by decide +kernel) (by decide +kernel)
theorem allAtoms_all (ts : List Jvm.Cond) (a : Array Jvm.Value) (st : Jvm.State) : (allAtoms ts).before a st = ts.all (fun c => c.before a st) := by
  induction ts with
  | nil => rfl
  | cons c t ih =>
    show (Jvm.Cond.and c (allAtoms t)).before a st = _
    rw [Jvm.Cond.before_and, ih, List.all_cons]
def words1 : List Jvm.Cond := Jvm.Cond.code x code maxLocals ret :: tables_1
/-- a 'code' word, met by the world's own term for the bytes: nothing is compared byte by byte -/
theorem code_word {y : MethodName} {bytes : ByteArray} {mx : Nat} {rt : Option FieldType} {a : Array Value} {s : State} {m : MethodId} {meth : Method} {c : Code} (h1 : s.methodNamed? y = some m) (h2 : s.vm.method? m = some meth) (h3 : meth.code = some c) (h4 : c.code = bytes)
    (h5 : (c.maxLocals == mx && c.exceptionTable.isEmpty && decide (c.maxStack ≤ mostOperands) && decide (meth.sig.returnType = rt) && !meth.locks && decide (parseMethodDescriptor y.desc = some meth.sig)) = true) : (Jvm.Cond.code y bytes mx rt).before a s = true := by
  simp only [Bool.and_eq_true, beq_iff_eq, Bool.not_eq_true', decide_eq_true_eq] at h5
  obtain ⟨⟨⟨⟨⟨g1, g2⟩, g3⟩, g4⟩, g5⟩, g6⟩ := h5
  simp [Cond.before, Cond.holds, Cond.value, h1, h2, h3, h4, g1, g2, g3, g4, g5, g6]
def isCode : Jvm.Cond → Bool
  | .code _ _ _ _ => true
  | _ => false
theorem all_split {L : List Jvm.Cond} {P : Jvm.Cond → Bool} (h1 : L.all (fun c => isCode c || P c) = true) (h2 : ∀ c ∈ L.filter isCode, P c = true) : L.all P = true := by
  refine List.all_eq_true.mpr fun c hc => ?_
  have h := List.all_eq_true.mp h1 c hc
  rcases Bool.eq_false_or_eq_true (isCode c) with hi | hi
  · exact h2 c (List.mem_filter.mpr ⟨hc, hi⟩)
  · simpa [hi] using h
set_option maxRecDepth 65536 in
theorem w_c0 : (Jvm.Cond.code x code maxLocals ret).before args0 about1 = true := code_word (m := ⟨1, 1⟩) (meth := k1m1) (c := k1c1) (by decide +kernel) rfl rfl rfl (by decide +kernel)
set_option maxRecDepth 65536 in
theorem w_c1 : (Jvm.Cond.code ({ cls := "com/example/rigor_lock/rigorlock/LockStore$Take", name := "<init>", desc := "(JJJ)V" } : Jvm.MethodName) prog_13_method_1_code (7 : Nat) (Option.none : Option Jvm.ClassFile.FieldType)).before args0 about1 = true := code_word (m := ⟨3, 0⟩) (meth := k3m0) (c := k3c0) (by decide +kernel) rfl rfl rfl (by decide +kernel)
set_option maxRecDepth 65536 in
theorem w_c2 : (Jvm.Cond.code ({ cls := "java/lang/Record", name := "<init>", desc := "()V" } : Jvm.MethodName) jdk_30_method_1_code (1 : Nat) (Option.none : Option Jvm.ClassFile.FieldType)).before args0 about1 = true := code_word (m := ⟨2, 0⟩) (meth := k2m0) (c := k2c0) (by decide +kernel) rfl rfl rfl (by decide +kernel)
set_option maxRecDepth 65536 in
theorem w_c3 : (Jvm.Cond.code ({ cls := "java/lang/Object", name := "<init>", desc := "()V" } : Jvm.MethodName) object_method_1_code (1 : Nat) (Option.none : Option Jvm.ClassFile.FieldType)).before args0 about1 = true := code_word (m := ⟨0, 0⟩) (meth := k0m0) (c := k0c0) (by decide +kernel) rfl rfl rfl (by decide +kernel)
set_option maxRecDepth 65536 in
theorem w_c4 : (Jvm.Cond.code ({ cls := "com/example/rigor_lock/rigorlock/LockStore$Take", name := "refused", desc := "(J)Lcom/example/rigor_lock/rigorlock/LockStore$Take;" } : Jvm.MethodName) prog_13_method_3_code (2 : Nat) (Option.some (Jvm.ClassFile.FieldType.object "com/example/rigor_lock/rigorlock/LockStore$Take"))).before args0 about1 = true := code_word (m := ⟨3, 2⟩) (meth := k3m2) (c := k3c2) (by decide +kernel) rfl rfl rfl (by decide +kernel)
set_option maxRecDepth 65536 in
theorem w_c5 : (Jvm.Cond.code ({ cls := "com/example/rigor_lock/rigorlock/LockStore$Take", name := "taken", desc := "(JJ)Lcom/example/rigor_lock/rigorlock/LockStore$Take;" } : Jvm.MethodName) prog_13_method_2_code (4 : Nat) (Option.some (Jvm.ClassFile.FieldType.object "com/example/rigor_lock/rigorlock/LockStore$Take"))).before args0 about1 = true := code_word (m := ⟨3, 1⟩) (meth := k3m1) (c := k3c1) (by decide +kernel) rfl rfl rfl (by decide +kernel)
set_option maxRecDepth 65536 in
theorem w_c6 : (Jvm.Cond.code ({ cls := "com/example/rigor_lock/rigorlock/LockStore$Take", name := "taken", desc := "()Z" } : Jvm.MethodName) prog_13_method_4_code (1 : Nat) (Option.some Jvm.ClassFile.FieldType.boolean)).before args0 about1 = true := code_word (m := ⟨3, 3⟩) (meth := k3m3) (c := k3c3) (by decide +kernel) rfl rfl rfl (by decide +kernel)
def codes1 : List Jvm.Cond := [Jvm.Cond.code x code maxLocals ret, Jvm.Cond.code ({ cls := "com/example/rigor_lock/rigorlock/LockStore$Take", name := "<init>", desc := "(JJJ)V" } : Jvm.MethodName) prog_13_method_1_code (7 : Nat) (Option.none : Option Jvm.ClassFile.FieldType), Jvm.Cond.code ({ cls := "java/lang/Record", name := "<init>", desc := "()V" } : Jvm.MethodName) jdk_30_method_1_code (1 : Nat) (Option.none : Option Jvm.ClassFile.FieldType), Jvm.Cond.code ({ cls := "java/lang/Object", name := "<init>", desc := "()V" } : Jvm.MethodName) object_method_1_code (1 : Nat) (Option.none : Option Jvm.ClassFile.FieldType), Jvm.Cond.code ({ cls := "com/example/rigor_lock/rigorlock/LockStore$Take", name := "refused", desc := "(J)Lcom/example/rigor_lock/rigorlock/LockStore$Take;" } : Jvm.MethodName) prog_13_method_3_code (2 : Nat) (Option.some (Jvm.ClassFile.FieldType.object "com/example/rigor_lock/rigorlock/LockStore$Take")), Jvm.Cond.code ({ cls := "com/example/rigor_lock/rigorlock/LockStore$Take", name := "taken", desc := "(JJ)Lcom/example/rigor_lock/rigorlock/LockStore$Take;" } : Jvm.MethodName) prog_13_method_2_code (4 : Nat) (Option.some (Jvm.ClassFile.FieldType.object "com/example/rigor_lock/rigorlock/LockStore$Take")), Jvm.Cond.code ({ cls := "com/example/rigor_lock/rigorlock/LockStore$Take", name := "taken", desc := "()Z" } : Jvm.MethodName) prog_13_method_4_code (1 : Nat) (Option.some Jvm.ClassFile.FieldType.boolean)]
set_option maxRecDepth 65536 in
theorem codes_eq : words1.filter isCode = codes1 := rfl
theorem w_codes : ∀ c ∈ words1.filter isCode, c.before args0 about1 = true := by
  rw [codes_eq]
  intro c hc
  simp only [codes1, List.mem_cons, List.not_mem_nil, or_false] at hc
  rcases hc with rfl | rfl | rfl | rfl | rfl | rfl | rfl
  · exact w_c0
  · exact w_c1
  · exact w_c2
  · exact w_c3
  · exact w_c4
  · exact w_c5
  · exact w_c6
set_option maxRecDepth 65536 in
theorem w_t1 : (words1.take 24).all (fun c => isCode c || c.before args0 about1) = true := by decide +kernel
set_option maxRecDepth 65536 in
theorem w_t2 : (words1.drop 24).all (fun c => isCode c || c.before args0 about1) = true := by decide +kernel
theorem w_tables : (allAtoms (Jvm.Cond.code x code maxLocals ret :: tables_1)).before args0 about1 = true := by
  rw [allAtoms_all]
  show words1.all (fun c => c.before args0 about1) = true
  refine all_split ?_ w_codes
  rw [← List.take_append_drop 24 words1, List.all_append, w_t1, w_t2]
  rfl
set_option maxRecDepth 65536 in
theorem w_case : (Jvm.Cond.and given_1 narrow_1).before args0 about1 = true := by decide +kernel
theorem w_applies : (headSpec (Jvm.Cond.code x code maxLocals ret :: tables_1) room_1).applies x e0.platform about1 = true :=
  (Spec.applies_iff w_frames).mpr ⟨w_running, w_runnable, w_alone, w_named, w_hears, w_ripe, w_room, w_tables⟩
theorem atStart : AtStart classFile x code maxLocals ret World_1 tables_1 room_1 Calls_1 rest_1 Pre_1 launch0 p0 e0 about1 theMethod args0 below0 :=
  ⟨lists_1, trivial, launch0.admits_env _ _ _, launch0.least_env, fairChoices_fair.cas, fairChoices_fair.clock, w_frames, w_args, w_heap, w_applies, trivial, trivial, w_case⟩
end start1
theorem witness_1 : WitnessClaimed_1 := ⟨start1.p0, start1.e0, start1.about1, start1.theMethod, start1.args0, start1.below0, start1.atStart⟩
end Jvm.Pilot.@@N@@
