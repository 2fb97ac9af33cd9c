import JvmDerived
import JvmDerived.Pilot.@@N@@Statement
import JvmDerived.Pilot.@@N@@Code
set_option linter.unusedVariables false
set_option linter.unusedSimpArgs false
namespace Jvm.Pilot.@@N@@
open Jvm Jvm.ClassFile Sem Op Lib Jvm.Free Jvm.Stand Jvm.LawKit Jvm.RoadKit Bundle Jvm.Pilot.@@N@@.Jvm.D
section Own
variable {p : Program} {l : Launch} {e : Env} {R : Room} {s : State} {m : MethodId} {args : Array Value} {below : List Frame} {meth : Method} {c : Code} {T : State} {locs : List Loc} {cells slots : Nat}
/-- from this frame on the run comes to an end of which Φ holds -/
def own_Go (tb : Tables) (e : Env) (below : List Frame) (T : State) (g : JFrame) (Φ : State → Outcome → Prop) : Prop :=
  ∃ s₂ o, Steps tb e below (T.setTop g) s₂ ∧ s₂.status = .running ∧ Ended s₂ below o ∧ Φ s₂ o
def own_End (s : State) (Q : Option Value → Heap → List Loc → Prop) (k n : Nat) (t : State) (o : Outcome) : Prop := ∃ v L, o = .returned v ∧ Q v t.heap L ∧ FrameEnd s o t L k n
theorem own_st {tb : Tables} {T' : State} {g g' : JFrame} {Φ : State → Outcome → Prop} (h : own_Go tb e below T' g' Φ) (k : ∀ t, Steps tb e below (T'.setTop g') t → Steps tb e below (T.setTop g) t) : own_Go tb e below T g Φ := by
  obtain ⟨s₂, o, h1, h2⟩ := h
  exact ⟨s₂, o, k _ h1, h2⟩
theorem own_in {tb : Tables} {g g' : JFrame} {Q : Option Value → Heap → List Loc → Prop} {k n : Nat} (q : g = g') (h : own_Go tb e below T g' (own_End s Q k n)) : ∃ s₂ o, Steps tb e below (T.setTop g) s₂ ∧ s₂.status = .running ∧ Ended s₂ below o ∧ ∃ v L, o = .returned v ∧ Q v s₂.heap L ∧ FrameEnd s o s₂ L k n := by
  subst q
  exact h
theorem own_ret (X : Stand p l e R s m args below meth c T locs cells slots) (hlocks : meth.locks = false) {g : JFrame} {v : Option Value} (hv : meth.sig.returnType = none → v = none) {Q : Option Value → Heap → List Loc → Prop} {k n : Nat} (hk : cells ≤ k) (hn : slots ≤ n) (hQ : Q v T.heap locs)
    (hst : ∀ fs, (∀ (f : JFrame) (acts : List Action), f.method = m → f.locked = none → f.entered = [] → (doReturn e (T.setTop f) acts v).1 = T.setFrames fs) → Steps p.tables e below (T.setTop g) (T.setFrames fs)) : own_Go p.tables e below T g (own_End s Q k n) := by
  obtain ⟨fs, hr, hrun, hended, hW, hsame⟩ := X.leave (v := v) hv hlocks
  exact ⟨_, _, hst fs hr, hrun, hended, _, _, rfl, hQ, ⟨_, rfl⟩, hW, hsame.mono hk hn⟩
theorem own_retZ (X : Stand p l e R s m args below meth c T locs cells slots) (hx : p.tables.exec = Jvm.exec) (hlocks : meth.locks = false) {pc : Nat} {Ls : Array Slot} {z : Int32} {rest : List Value} (hret : meth.sig.returnType = some .boolean) (hd : decode c.code pc = .ok (.ireturn, 1)) {Q : Option Value → Heap → List Loc → Prop} {k n : Nat} (hk : cells ≤ k) (hn : slots ≤ n) (hz : z &&& 1 = z) (hQ : Q (some (.int z)) T.heap locs) :
    own_Go p.tables e below T (mkF m pc Ls (.int z :: rest)) (own_End s Q k n) :=
  own_ret X hlocks (fun h => by rw [hret] at h; cases h) hk hn hQ fun fs hr => retOut X hx hret (by show Value.int (z &&& 1) = _; rw [hz]) (Or.inl ⟨rfl, Or.inr (Or.inl rfl), _, rfl⟩) hd hr
theorem own_retI (X : Stand p l e R s m args below meth c T locs cells slots) (hx : p.tables.exec = Jvm.exec) (hlocks : meth.locks = false) {pc : Nat} {Ls : Array Slot} {z : Int32} {rest : List Value} (hret : meth.sig.returnType = some .int) (hd : decode c.code pc = .ok (.ireturn, 1)) {Q : Option Value → Heap → List Loc → Prop} {k n : Nat} (hk : cells ≤ k) (hn : slots ≤ n) (hQ : Q (some (.int z)) T.heap locs) :
    own_Go p.tables e below T (mkF m pc Ls (.int z :: rest)) (own_End s Q k n) :=
  own_ret X hlocks (fun h => by rw [hret] at h; cases h) hk hn hQ fun fs hr => retOut X hx hret rfl (Or.inl ⟨rfl, Or.inl rfl, _, rfl⟩) hd hr
theorem own_retJ (X : Stand p l e R s m args below meth c T locs cells slots) (hx : p.tables.exec = Jvm.exec) (hlocks : meth.locks = false) {pc : Nat} {Ls : Array Slot} {z : Int64} {rest : List Value} (hret : meth.sig.returnType = some .long) (hd : decode c.code pc = .ok (.lreturn, 1)) {Q : Option Value → Heap → List Loc → Prop} {k n : Nat} (hk : cells ≤ k) (hn : slots ≤ n) (hQ : Q (some (.long z)) T.heap locs) :
    own_Go p.tables e below T (mkF m pc Ls (.long z :: rest)) (own_End s Q k n) :=
  own_ret X hlocks (fun h => by rw [hret] at h; cases h) hk hn hQ fun fs hr => retOut X hx hret rfl (Or.inr (Or.inl ⟨rfl, rfl, _, rfl⟩)) hd hr
theorem own_retA (X : Stand p l e R s m args below meth c T locs cells slots) (hx : p.tables.exec = Jvm.exec) (hlocks : meth.locks = false) {pc : Nat} {Ls : Array Slot} {z : Addr} {rest : List Value} {C : String} (hret : meth.sig.returnType = some (.object C)) (hd : decode c.code pc = .ok (.areturn, 1)) {Q : Option Value → Heap → List Loc → Prop} {k n : Nat} (hk : cells ≤ k) (hn : slots ≤ n) (hQ : Q (some (.ref z)) T.heap locs) :
    own_Go p.tables e below T (mkF m pc Ls (.ref z :: rest)) (own_End s Q k n) :=
  own_ret X hlocks (fun h => by rw [hret] at h; cases h) hk hn hQ fun fs hr => retOut X hx hret rfl (Or.inr (Or.inr (Or.inr (Or.inr ⟨rfl, rfl, rfl⟩)))) hd hr
theorem own_retV (X : Stand p l e R s m args below meth c T locs cells slots) (hx : p.tables.exec = Jvm.exec) (hlocks : meth.locks = false) {pc : Nat} {Ls : Array Slot} (hret : meth.sig.returnType = none) (hd : decode c.code pc = .ok (.return_, 1)) {Q : Option Value → Heap → List Loc → Prop} {k n : Nat} (hk : cells ≤ k) (hn : slots ≤ n) (hQ : Q none T.heap locs) :
    own_Go p.tables e below T (mkF m pc Ls []) (own_End s Q k n) :=
  own_ret X hlocks (fun _ => rfl) hk hn hQ fun fs hr => X.returnOut hx hret hd hr
/-- a truth as Java's int -/
def own_b (b : Bool) : Int32 := if b then 1 else 0
theorem own_bt {b : Bool} (h : b = true) : own_b b = 1 := by rw [h]; rfl
theorem own_bf {b : Bool} (h : b = false) : own_b b = 0 := by rw [h]; rfl
theorem own_bz {a : Bool} : own_b a = 0 ↔ a = false := by cases a <;> decide
theorem own_bo {a : Bool} : own_b a = 1 ↔ a = true := by cases a <;> decide
theorem own_zb {a : Bool} : 0 = own_b a ↔ a = false := by cases a <;> decide
theorem own_ob {a : Bool} : 1 = own_b a ↔ a = true := by cases a <;> decide
theorem own_binj {a b : Bool} : own_b a = own_b b ↔ a = b := by cases a <;> cases b <;> decide
theorem own_b1 (a : Bool) : own_b a &&& 1 = own_b a := by cases a <;> decide
end Own
theorem own_Im2147483648 : (-2147483648 : Int32).toInt = -2147483648 := by decide +kernel
theorem own_Im5 : (-5 : Int32).toInt = -5 := by decide +kernel
theorem own_Im4 : (-4 : Int32).toInt = -4 := by decide +kernel
theorem own_Im3 : (-3 : Int32).toInt = -3 := by decide +kernel
theorem own_Im2 : (-2 : Int32).toInt = -2 := by decide +kernel
theorem own_Im1 : (-1 : Int32).toInt = -1 := by decide +kernel
theorem own_I0 : (0 : Int32).toInt = 0 := by decide +kernel
theorem own_I1 : (1 : Int32).toInt = 1 := by decide +kernel
theorem d1_0 : decode prog_13_method_5_code 0 = .ok (.iload_n 0, 1) := by decide +kernel
theorem d1_1 : decode prog_13_method_5_code 1 = .ok (.bipush (-5), 2) := by decide +kernel
theorem d1_3 : decode prog_13_method_5_code 3 = .ok (.if_icmp .gt 7, 3) := by decide +kernel
theorem d1_6 : decode prog_13_method_5_code 6 = .ok (.iconst 1, 1) := by decide +kernel
theorem d1_7 : decode prog_13_method_5_code 7 = .ok (.goto 4, 3) := by decide +kernel
theorem d1_10 : decode prog_13_method_5_code 10 = .ok (.iconst 0, 1) := by decide +kernel
theorem d1_11 : decode prog_13_method_5_code 11 = .ok (.ireturn, 1) := by decide +kernel
theorem pn_1 : plainName "com/example/grantline/grantline/Memberships" = true := by first | (simp [plainName, overriddenIn]; done) | decide +kernel
theorem ef_1 (m : MethodId) (p0 : Int32) : entryFrame m #[(.int p0)] 1 = mkF m 0 #[.val (.int p0)] [] := by first | (simp [entryFrame, mkF, argsToLocals, Value.category]; done) | rfl
def Q1 (Z : State) (p0 : Int32) (h0 : Heap) (n0 : Nat) (v : Option Value) (h : Heap) (L : List Loc) : Prop := v = some (.int (own_b (decide (¬ (-5 : Int32) < p0)))) ∧ Fr n0 L ∧ h = h0
set_option maxRecDepth 65536 in
set_option maxHeartbeats 40000000 in
theorem rm1 (l : Launch) (Z : State) (a0 : Array Value) (hw : ∀ d ∈ tables_1, d.before a0 Z = true) (ws : List Jvm.Cond) (p0 : Int32) (h0 : Heap) (n0 : Nat) (Z0 : n0 ≤ h0.size)  :
    MetFree l (⟨"com/example/grantline/grantline/Memberships", "isUser", "(I)Z"⟩ : MethodName) (head1 (Jvm.Cond.code (⟨"com/example/grantline/grantline/Memberships", "isUser", "(I)Z"⟩ : MethodName) prog_13_method_5_code 1 (some .boolean) :: ws) ({ frames := 0, cells := 0, slots := 0, locals := 0 } : Room)) (fun a U => a = #[(.int p0)] ∧ Z.Warmed39 U.vm ∧ U.heap = h0) (fun _ _ _ _ _ => True) (fun _ U o U' => ∃ v L, o = .returned v ∧ Q1 Z p0 h0 n0 v U'.heap L ∧ FrameEnd U o U' L ({ frames := 0, cells := 0, slots := 0, locals := 0 } : Room).cells ({ frames := 0, cells := 0, slots := 0, locals := 0 } : Room).slots) := by
  refine MetFree.of_bodySF (plainFor_of_name pn_1) hisR ?_
  intro p e s m args below meth c s₁ Bd hml0 hP hK
  obtain ⟨rfl, hZ, hh⟩ := hP
  have hx := Bd.exec
  have hby := Bd.bytes
  have hml : c.maxLocals = 1 := hml0
  have hown : s.vm.findClass "com/example/grantline/grantline/Memberships" = some m.cls := findClass_of_methodNamed Bd.named
  have hnm := (name_of_methodNamed Bd.named Bd.method).1
  have X0 : Stand p l e ({ frames := 0, cells := 0, slots := 0, locals := 0 } : Room) s m #[(.int p0)] below meth c s₁ [] 0 0 := Stand.of_body Bd
  have e0 : s₁.heap = h0 := by rw [← hh, Bd.state]; rfl
  have N0 := Fr.nil n0
  have hlk := Bd.notSynchronized
  refine own_in (Q := Q1 Z p0 h0 n0) (ef_1 m p0) ?_
  refine own_st (T' := s₁) (g' := (mkF m 1 #[.val (.int p0)] [(.int p0)])) ?_ fun _ k => XS.iloadN X0.here hx rfl (hb hby d1_0) rfl k
  refine own_st (T' := s₁) (g' := (mkF m 3 #[.val (.int p0)] [(.int (-5 : Int32)), (.int p0)])) ?_ fun _ k => XS.bipush X0.here hx rfl (hb hby d1_1) k
  by_cases hc1 : (-5 : Int32) < p0
  · refine own_st (T' := s₁) (g' := (mkF m 10 #[.val (.int p0)] [])) ?_ fun _ k => XS.icmpYes X0.here hx rfl (pc0 := 3) (pc' := 10) rfl (hb hby d1_3) rfl ((tlt hc1).2.2.1) (by decide) (by decide) k
    refine own_st (T' := s₁) (g' := (mkF m 11 #[.val (.int p0)] [(.int (0 : Int32))])) ?_ fun _ k => XS.iconst X0.here hx rfl (hb hby d1_10) k
    refine own_retZ X0 hx hlk Bd.returns (hb hby d1_11) (Q := (Q1 Z p0 h0 n0)) (by decide) (by decide) (by decide) ?_
    exact ⟨by simp [own_b, hc1], N0, e0⟩
  · refine own_st (T' := s₁) (g' := (mkF m 6 #[.val (.int p0)] [])) ?_ fun _ k => XS.icmpNo X0.here hx rfl (hb hby d1_3) rfl ((flt hc1).2.2.1) k
    refine own_st (T' := s₁) (g' := (mkF m 7 #[.val (.int p0)] [(.int (1 : Int32))])) ?_ fun _ k => XS.iconst X0.here hx rfl (hb hby d1_6) k
    refine own_st (T' := s₁) (g' := (mkF m 11 #[.val (.int p0)] [(.int (1 : Int32))])) ?_ fun _ k => XS.goto X0.here hx rfl (pc0 := 7) (pc' := 11) rfl (hb hby d1_7) (by decide) (by decide) k
    refine own_retZ X0 hx hlk Bd.returns (hb hby d1_11) (Q := (Q1 Z p0 h0 n0)) (by decide) (by decide) (by decide) ?_
    exact ⟨by simp [own_b, hc1], N0, e0⟩
theorem d2_0 : decode jdk_29_method_69_code 0 = .ok (.iload_n 0, 1) := by decide +kernel
theorem d2_1 : decode jdk_29_method_69_code 1 = .ok (.iload_n 1, 1) := by decide +kernel
theorem d2_2 : decode jdk_29_method_69_code 2 = .ok (.if_icmp .gt 7, 3) := by decide +kernel
theorem d2_5 : decode jdk_29_method_69_code 5 = .ok (.iload_n 0, 1) := by decide +kernel
theorem d2_6 : decode jdk_29_method_69_code 6 = .ok (.goto 4, 3) := by decide +kernel
theorem d2_9 : decode jdk_29_method_69_code 9 = .ok (.iload_n 1, 1) := by decide +kernel
theorem d2_10 : decode jdk_29_method_69_code 10 = .ok (.ireturn, 1) := by decide +kernel
theorem ef_2 (m : MethodId) (p0 : Int32) (p1 : Int32) : entryFrame m #[(.int p0), (.int p1)] 2 = mkF m 0 #[.val (.int p0), .val (.int p1)] [] := by first | (simp [entryFrame, mkF, argsToLocals, Value.category]; done) | rfl
def Q2 (Z : State) (p0 : Int32) (p1 : Int32) (h0 : Heap) (n0 : Nat) (v : Option Value) (h : Heap) (L : List Loc) : Prop := v = some (.int (if p1 < p0 then p1 else p0)) ∧ Fr n0 L ∧ h = h0
set_option maxRecDepth 65536 in
set_option maxHeartbeats 40000000 in
theorem rm2 (l : Launch) (Z : State) (a0 : Array Value) (hw : ∀ d ∈ tables_1, d.before a0 Z = true) (ws : List Jvm.Cond) (p0 : Int32) (p1 : Int32) (h0 : Heap) (n0 : Nat) (Z0 : n0 ≤ h0.size)  :
    MetFree l (⟨"java/lang/Math", "min", "(II)I"⟩ : MethodName) (head1 (Jvm.Cond.code (⟨"java/lang/Math", "min", "(II)I"⟩ : MethodName) jdk_29_method_69_code 2 (some .int) :: ws) ({ frames := 0, cells := 0, slots := 0, locals := 0 } : Room)) (fun a U => a = #[(.int p0), (.int p1)] ∧ Z.Warmed39 U.vm ∧ U.heap = h0) (fun _ _ _ _ _ => True) (fun _ U o U' => ∃ v L, o = .returned v ∧ Q2 Z p0 p1 h0 n0 v U'.heap L ∧ FrameEnd U o U' L ({ frames := 0, cells := 0, slots := 0, locals := 0 } : Room).cells ({ frames := 0, cells := 0, slots := 0, locals := 0 } : Room).slots) := by
  refine MetFree.of_bodySF (Jvm.Free.JP.mathPlain rfl (by decide +kernel)) hisR ?_
  intro p e s m args below meth c s₁ Bd hml0 hP hK
  obtain ⟨rfl, hZ, hh⟩ := hP
  have hx := Bd.exec
  have hby := Bd.bytes
  have hml : c.maxLocals = 2 := hml0
  have hown : s.vm.findClass "java/lang/Math" = some m.cls := findClass_of_methodNamed Bd.named
  have hnm := (name_of_methodNamed Bd.named Bd.method).1
  have X0 : Stand p l e ({ frames := 0, cells := 0, slots := 0, locals := 0 } : Room) s m #[(.int p0), (.int p1)] below meth c s₁ [] 0 0 := Stand.of_body Bd
  have e0 : s₁.heap = h0 := by rw [← hh, Bd.state]; rfl
  have N0 := Fr.nil n0
  have hlk := Bd.notSynchronized
  refine own_in (Q := Q2 Z p0 p1 h0 n0) (ef_2 m p0 p1) ?_
  refine own_st (T' := s₁) (g' := (mkF m 1 #[.val (.int p0), .val (.int p1)] [(.int p0)])) ?_ fun _ k => XS.iloadN X0.here hx rfl (hb hby d2_0) rfl k
  refine own_st (T' := s₁) (g' := (mkF m 2 #[.val (.int p0), .val (.int p1)] [(.int p1), (.int p0)])) ?_ fun _ k => XS.iloadN X0.here hx rfl (hb hby d2_1) rfl k
  by_cases hc1 : p1 < p0
  · refine own_st (T' := s₁) (g' := (mkF m 9 #[.val (.int p0), .val (.int p1)] [])) ?_ fun _ k => XS.icmpYes X0.here hx rfl (pc0 := 2) (pc' := 9) rfl (hb hby d2_2) rfl ((tlt hc1).2.2.1) (by decide) (by decide) k
    refine own_st (T' := s₁) (g' := (mkF m 10 #[.val (.int p0), .val (.int p1)] [(.int p1)])) ?_ fun _ k => XS.iloadN X0.here hx rfl (hb hby d2_9) rfl k
    refine own_retI X0 hx hlk Bd.returns (hb hby d2_10) (Q := (Q2 Z p0 p1 h0 n0)) (by decide) (by decide) ?_
    exact ⟨by simp [hc1], N0, e0⟩
  · refine own_st (T' := s₁) (g' := (mkF m 5 #[.val (.int p0), .val (.int p1)] [])) ?_ fun _ k => XS.icmpNo X0.here hx rfl (hb hby d2_2) rfl ((flt hc1).2.2.1) k
    refine own_st (T' := s₁) (g' := (mkF m 6 #[.val (.int p0), .val (.int p1)] [(.int p0)])) ?_ fun _ k => XS.iloadN X0.here hx rfl (hb hby d2_5) rfl k
    refine own_st (T' := s₁) (g' := (mkF m 10 #[.val (.int p0), .val (.int p1)] [(.int p0)])) ?_ fun _ k => XS.goto X0.here hx rfl (pc0 := 6) (pc' := 10) rfl (hb hby d2_6) (by decide) (by decide) k
    refine own_retI X0 hx hlk Bd.returns (hb hby d2_10) (Q := (Q2 Z p0 p1 h0 n0)) (by decide) (by decide) ?_
    exact ⟨by simp [hc1], N0, e0⟩
theorem pd0_0 : parseMethodDescriptor "(I)Z" = some ⟨[.int], some .boolean⟩ := by decide +kernel
theorem pd0_1 : parseMethodDescriptor "(II)I" = some ⟨[.int, .int], some .int⟩ := by decide +kernel
theorem pn_0 : plainName "com/example/grantline/grantline/MembershipsIsUserPinLaw" = true := by first | (simp [plainName, overriddenIn]; done) | decide +kernel
theorem ef_0 (m : MethodId) (p0 : Int32) (p1 : Int32) : entryFrame m #[(.int p0), (.int p1)] maxLocals = mkF m 0 #[.val (.int p0), .val (.int p1), .unset, .unset, .unset, .unset] [] := by first | (simp [entryFrame, mkF, argsToLocals, Value.category, maxLocals]; done) | rfl
def Q0 (Z : State) (p0 : Int32) (p1 : Int32) (h0 : Heap) (n0 : Nat) (v : Option Value) (h : Heap) (L : List Loc) : Prop := v = some (.int 1) ∧ Fr n0 L
set_option maxRecDepth 65536 in
set_option maxHeartbeats 40000000 in
theorem rm0 (l : Launch) (Z : State) (a0 : Array Value) (hw : ∀ d ∈ tables_1, d.before a0 Z = true) (ws : List Jvm.Cond) (p0 : Int32) (p1 : Int32) (h0 : Heap) (n0 : Nat) (Z0 : n0 ≤ h0.size)  :
    MetFree l x (head1 (Jvm.Cond.code x code maxLocals ret :: ws) room_1) (fun a U => a = #[(.int p0), (.int p1)] ∧ Z.Warmed39 U.vm ∧ U.heap = h0) (fun _ _ _ _ _ => True) (fun _ U o U' => ∃ v L, o = .returned v ∧ Q0 Z p0 p1 h0 n0 v U'.heap L ∧ FrameEnd U o U' L 0 0) := by
  refine MetFree.of_bodySF (plainFor_of_name pn_0) hisR ?_
  intro p e s m args below meth c s₁ Bd hml0 hP hK
  obtain ⟨rfl, hZ, hh⟩ := hP
  have hx := Bd.exec
  have hby := Bd.bytes
  have hml : c.maxLocals = 6 := hml0
  have hown : s.vm.findClass "com/example/grantline/grantline/MembershipsIsUserPinLaw" = some m.cls := findClass_of_methodNamed Bd.named
  have hnm := (name_of_methodNamed Bd.named Bd.method).1
  have X0 : Stand p l e room_1 s m #[(.int p0), (.int p1)] below meth c s₁ [] 0 0 := Stand.of_body Bd
  have e0 : s₁.heap = h0 := by rw [← hh, Bd.state]; rfl
  have N0 := Fr.nil n0
  have hlk := Bd.notSynchronized
  refine own_in (Q := Q0 Z p0 p1 h0 n0) (ef_0 m p0 p1) ?_
  have k9 : ∀ (z9 : Int32) (hz9 : z9 = own_b (decide (¬ p0 < 0))), own_Go p.tables e below s₁ (mkF m 9 #[.val (.int p0), .val (.int p1), .unset, .unset, .unset, .unset] [(.int z9)]) (own_End s (Q0 Z p0 p1 h0 n0) 0 0) := by
    intro z9 hz9
    refine own_st (T' := s₁) (g' := (mkF m 10 #[.val (.int p0), .val (.int p1), .val (.int z9), .unset, .unset, .unset] [])) ?_ fun _ k => XS.istoreN X0.here hx rfl (hb hby at_9) rfl (l' := #[.val (.int p0), .val (.int p1), .val (.int z9), .unset, .unset, .unset]) rfl k
    have k38 : ∀ (z38 : Int32) (hz38 : z38 = own_b (decide (p0 = -1 ∨ p0 = -2 ∨ p0 = -3 ∨ p0 = -4))), own_Go p.tables e below s₁ (mkF m 38 #[.val (.int p0), .val (.int p1), .val (.int z9), .unset, .unset, .unset] [(.int z38)]) (own_End s (Q0 Z p0 p1 h0 n0) 0 0) := by
      intro z38 hz38
      refine own_st (T' := s₁) (g' := (mkF m 39 #[.val (.int p0), .val (.int p1), .val (.int z9), .val (.int z38), .unset, .unset] [])) ?_ fun _ k => XS.istoreN X0.here hx rfl (hb hby at_38) rfl (l' := #[.val (.int p0), .val (.int p1), .val (.int z9), .val (.int z38), .unset, .unset]) rfl k
      have k52 : ∀ (z52 : Int32) (hz52 : z52 = own_b (decide (z9 = 0 ∧ z38 = 0))), own_Go p.tables e below s₁ (mkF m 52 #[.val (.int p0), .val (.int p1), .val (.int z9), .val (.int z38), .unset, .unset] [(.int z52)]) (own_End s (Q0 Z p0 p1 h0 n0) 0 0) := by
        intro z52 hz52
        refine own_st (T' := s₁) (g' := (mkF m 54 #[.val (.int p0), .val (.int p1), .val (.int z9), .val (.int z38), .val (.int z52), .unset] [])) ?_ fun _ k => XS.istore X0.here hx rfl (hb hby at_52) rfl (l' := #[.val (.int p0), .val (.int p1), .val (.int z9), .val (.int z38), .val (.int z52), .unset]) rfl k
        refine own_st (T' := s₁) (g' := (mkF m 55 #[.val (.int p0), .val (.int p1), .val (.int z9), .val (.int z38), .val (.int z52), .unset] [(.int p0)])) ?_ fun _ k => XS.iloadN X0.here hx rfl (hb hby at_54) rfl k
        obtain ⟨_, _, ⟨T1, L1, k1, n1⟩, -, X1, ⟨Lc1, hQ1, l1, y1, z1⟩, st1⟩ := Jvm.LawKit.callS X0 hx (y := (⟨"com/example/grantline/grantline/Memberships", "isUser", "(I)Z"⟩ : MethodName)) hown (mvT hZ (hw _ (List.mem_of_getElem? (i := 0) rfl))) (mvT hZ (hw _ (List.mem_of_getElem? (i := 1) rfl))) (mvT hZ (hw _ (List.mem_of_getElem? (i := 2) rfl))) (mvT hZ (hw _ (List.mem_of_getElem? (i := 3) rfl))) (by decide) (backOf (W := 0) (rm1 l Z a0 hw [] p0 h0 n0 Z0 ) hZ (hw _ (List.mem_of_getElem? (i := 3) rfl)) (hw _ (List.mem_of_getElem? (i := 2) rfl)) (by decide) (by decide)) (g := (mkF m 55 #[.val (.int p0), .val (.int p1), .val (.int z9), .val (.int z38), .val (.int z52), .unset] [(.int p0)])) rfl (by rw [hml]; rfl) (argsL := [(.int p0)]) (rest := []) (lenOf pd0_0 rfl) rfl (by show 2 * 0 + _ ≤ _; exact Nat.le_of_eq rfl) (hb hby at_55) (fun _ _ => ⟨rfl, e0, (by decide : 0 + 0 ≤ _), (by decide : 0 + 0 ≤ _)⟩)
        dsimp only [Pt.U, Pt.locs, Pt.cells, Pt.slots] at X1 l1 y1 z1 st1 hQ1
        subst l1 y1 z1
        obtain ⟨rfl, Nq1, e1⟩ := hQ1
        have N1 := Fr.app N0 Nq1
        refine own_st (T' := T1) (g' := (mkF m 58 #[.val (.int p0), .val (.int p1), .val (.int z9), .val (.int z38), .val (.int z52), .unset] [(.int (own_b (decide (¬ (-5 : Int32) < p0))))])) ?_ fun _ k => st1 _ k
        refine own_st (T' := T1) (g' := (mkF m 60 #[.val (.int p0), .val (.int p1), .val (.int z9), .val (.int z38), .val (.int z52), .unset] [(.int z52), (.int (own_b (decide (¬ (-5 : Int32) < p0))))])) ?_ fun _ k => XS.iload X1.here hx rfl (hb hby at_58) rfl k
        by_cases hc2 : (own_b (decide (¬ (-5 : Int32) < p0))) = z52
        · refine own_st (T' := T1) (g' := (mkF m 65 #[.val (.int p0), .val (.int p1), .val (.int z9), .val (.int z38), .val (.int z52), .unset] [])) ?_ fun _ k => XS.icmpYes X1.here hx rfl (pc0 := 60) (pc' := 65) rfl (hb hby at_60) rfl ((teq hc2).1) (by decide) (by decide) k
          refine own_st (T' := T1) (g' := (mkF m 66 #[.val (.int p0), .val (.int p1), .val (.int z9), .val (.int z38), .val (.int z52), .unset] [(.int p0)])) ?_ fun _ k => XS.iloadN X1.here hx rfl (hb hby at_65) rfl k
          refine own_st (T' := T1) (g' := (mkF m 67 #[.val (.int p0), .val (.int p1), .val (.int z9), .val (.int z38), .val (.int z52), .unset] [(.int p1), (.int p0)])) ?_ fun _ k => XS.iloadN X1.here hx rfl (hb hby at_66) rfl k
          obtain ⟨_, _, ⟨T3, L3, k3, n3⟩, -, X3, ⟨Lc3, hQ3, l3, y3, z3⟩, st3⟩ := Jvm.LawKit.callS X1 hx (y := (⟨"java/lang/Math", "min", "(II)I"⟩ : MethodName)) hown (mvT hZ (hw _ (List.mem_of_getElem? (i := 4) rfl))) (mvT hZ (hw _ (List.mem_of_getElem? (i := 5) rfl))) (mvT hZ (hw _ (List.mem_of_getElem? (i := 6) rfl))) (mvT hZ (hw _ (List.mem_of_getElem? (i := 7) rfl))) (by decide) (backOf (W := 0) (rm2 l Z a0 hw [] p0 p1 h0 n0 Z0 ) hZ (hw _ (List.mem_of_getElem? (i := 7) rfl)) (hw _ (List.mem_of_getElem? (i := 6) rfl)) (by decide) (by decide)) (g := (mkF m 67 #[.val (.int p0), .val (.int p1), .val (.int z9), .val (.int z38), .val (.int z52), .unset] [(.int p1), (.int p0)])) rfl (by rw [hml]; rfl) (argsL := [(.int p0), (.int p1)]) (rest := []) (lenOf pd0_1 rfl) rfl (by show 2 * 0 + _ ≤ _; exact Nat.le_of_eq rfl) (hb hby at_67) (fun _ _ => ⟨rfl, e1, (by decide : 0 + 0 ≤ _), (by decide : 0 + 0 ≤ _)⟩)
          dsimp only [Pt.U, Pt.locs, Pt.cells, Pt.slots] at X3 l3 y3 z3 st3 hQ3
          subst l3 y3 z3
          obtain ⟨rfl, Nq3, e3⟩ := hQ3
          have N3 := Fr.app N1 Nq3
          refine own_st (T' := T3) (g' := (mkF m 70 #[.val (.int p0), .val (.int p1), .val (.int z9), .val (.int z38), .val (.int z52), .unset] [(.int (if p1 < p0 then p1 else p0))])) ?_ fun _ k => st3 _ k
          generalize hmn : (if p1 < p0 then p1 else p0) = mn
          refine own_st (T' := T3) (g' := (mkF m 72 #[.val (.int p0), .val (.int p1), .val (.int z9), .val (.int z38), .val (.int z52), .val (.int mn)] [])) ?_ fun _ k => XS.istore X3.here hx rfl (hb hby at_70) rfl (l' := #[.val (.int p0), .val (.int p1), .val (.int z9), .val (.int z38), .val (.int z52), .val (.int mn)]) rfl k
          refine own_st (T' := T3) (g' := (mkF m 73 #[.val (.int p0), .val (.int p1), .val (.int z9), .val (.int z38), .val (.int z52), .val (.int mn)] [(.int p0)])) ?_ fun _ k => XS.iloadN X3.here hx rfl (hb hby at_72) rfl k
          obtain ⟨_, _, ⟨T4, L4, k4, n4⟩, -, X4, ⟨Lc4, hQ4, l4, y4, z4⟩, st4⟩ := Jvm.LawKit.callS X3 hx (y := (⟨"com/example/grantline/grantline/Memberships", "isUser", "(I)Z"⟩ : MethodName)) hown (mvT hZ (hw _ (List.mem_of_getElem? (i := 0) rfl))) (mvT hZ (hw _ (List.mem_of_getElem? (i := 1) rfl))) (mvT hZ (hw _ (List.mem_of_getElem? (i := 2) rfl))) (mvT hZ (hw _ (List.mem_of_getElem? (i := 3) rfl))) (by decide) (backOf (W := 0) (rm1 l Z a0 hw [] p0 h0 n0 Z0 ) hZ (hw _ (List.mem_of_getElem? (i := 3) rfl)) (hw _ (List.mem_of_getElem? (i := 2) rfl)) (by decide) (by decide)) (g := (mkF m 73 #[.val (.int p0), .val (.int p1), .val (.int z9), .val (.int z38), .val (.int z52), .val (.int mn)] [(.int p0)])) rfl (by rw [hml]; rfl) (argsL := [(.int p0)]) (rest := []) (lenOf pd0_0 rfl) rfl (by show 2 * 0 + _ ≤ _; exact Nat.le_of_eq rfl) (hb hby at_73) (fun _ _ => ⟨rfl, e3, (by decide : 0 + 0 ≤ _), (by decide : 0 + 0 ≤ _)⟩)
          dsimp only [Pt.U, Pt.locs, Pt.cells, Pt.slots] at X4 l4 y4 z4 st4 hQ4
          subst l4 y4 z4
          obtain ⟨rfl, Nq4, e4⟩ := hQ4
          have N4 := Fr.app N3 Nq4
          refine own_st (T' := T4) (g' := (mkF m 76 #[.val (.int p0), .val (.int p1), .val (.int z9), .val (.int z38), .val (.int z52), .val (.int mn)] [(.int (own_b (decide (¬ (-5 : Int32) < p0))))])) ?_ fun _ k => st4 _ k
          by_cases hc5 : (own_b (decide (¬ (-5 : Int32) < p0))) = (0 : Int32)
          · refine own_st (T' := T4) (g' := (mkF m 89 #[.val (.int p0), .val (.int p1), .val (.int z9), .val (.int z38), .val (.int z52), .val (.int mn)] [])) ?_ fun _ k => XS.ifYes X4.here hx rfl (pc0 := 76) (pc' := 89) rfl (hb hby at_76) rfl ((if0 _ _).trans (teq hc5).1) (by decide) (by decide) k
            refine own_st (T' := T4) (g' := (mkF m 91 #[.val (.int p0), .val (.int p1), .val (.int z9), .val (.int z38), .val (.int z52), .val (.int mn)] [(.int (-5 : Int32))])) ?_ fun _ k => XS.bipush X4.here hx rfl (hb hby at_89) k
            obtain ⟨_, _, ⟨T6, L6, k6, n6⟩, -, X6, ⟨Lc6, hQ6, l6, y6, z6⟩, st6⟩ := Jvm.LawKit.callS X4 hx (y := (⟨"com/example/grantline/grantline/Memberships", "isUser", "(I)Z"⟩ : MethodName)) hown (mvT hZ (hw _ (List.mem_of_getElem? (i := 0) rfl))) (mvT hZ (hw _ (List.mem_of_getElem? (i := 1) rfl))) (mvT hZ (hw _ (List.mem_of_getElem? (i := 2) rfl))) (mvT hZ (hw _ (List.mem_of_getElem? (i := 3) rfl))) (by decide) (backOf (W := 0) (rm1 l Z a0 hw [] (-5 : Int32) h0 n0 Z0 ) hZ (hw _ (List.mem_of_getElem? (i := 3) rfl)) (hw _ (List.mem_of_getElem? (i := 2) rfl)) (by decide) (by decide)) (g := (mkF m 91 #[.val (.int p0), .val (.int p1), .val (.int z9), .val (.int z38), .val (.int z52), .val (.int mn)] [(.int (-5 : Int32))])) rfl (by rw [hml]; rfl) (argsL := [(.int (-5 : Int32))]) (rest := []) (lenOf pd0_0 rfl) rfl (by show 2 * 0 + _ ≤ _; exact Nat.le_of_eq rfl) (hb hby at_91) (fun _ _ => ⟨rfl, e4, (by decide : 0 + 0 ≤ _), (by decide : 0 + 0 ≤ _)⟩)
            dsimp only [Pt.U, Pt.locs, Pt.cells, Pt.slots] at X6 l6 y6 z6 st6 hQ6
            subst l6 y6 z6
            obtain ⟨rfl, Nq6, e6⟩ := hQ6
            have N6 := Fr.app N4 Nq6
            refine own_st (T' := T6) (g' := (mkF m 94 #[.val (.int p0), .val (.int p1), .val (.int z9), .val (.int z38), .val (.int z52), .val (.int mn)] [(.int (own_b (decide (¬ (-5 : Int32) < (-5 : Int32)))))])) ?_ fun _ k => st6 _ k
            by_cases hc7 : (own_b (decide (¬ (-5 : Int32) < (-5 : Int32)))) = (0 : Int32)
            · refine own_st (T' := T6) (g' := (mkF m 113 #[.val (.int p0), .val (.int p1), .val (.int z9), .val (.int z38), .val (.int z52), .val (.int mn)] [])) ?_ fun _ k => XS.ifYes X6.here hx rfl (pc0 := 94) (pc' := 113) rfl (hb hby at_94) rfl ((if0 _ _).trans (teq hc7).1) (by decide) (by decide) k
              refine own_st (T' := T6) (g' := (mkF m 114 #[.val (.int p0), .val (.int p1), .val (.int z9), .val (.int z38), .val (.int z52), .val (.int mn)] [(.int (0 : Int32))])) ?_ fun _ k => XS.iconst X6.here hx rfl (hb hby at_113) k
              refine own_retZ X6 hx hlk Bd.returns (hb hby at_114) (Q := (Q0 Z p0 p1 h0 n0)) (by decide) (by decide) (by decide) ?_
              exfalso
              subst hz52 hz38 hz9
              simp only [own_binj, own_bz, own_bo, own_zb, own_ob, decide_eq_decide, decide_eq_false_iff_not, decide_eq_true_eq, Decidable.not_not] at hc2 hc5 hc7
              simp only [Int32.lt_iff_toInt_lt, ← Int32.toInt_inj, own_Im2147483648, own_Im5, own_Im4, own_Im3, own_Im2, own_Im1, own_I0, own_I1] at hc2 hc5 hc7
              omega
            · refine own_st (T' := T6) (g' := (mkF m 97 #[.val (.int p0), .val (.int p1), .val (.int z9), .val (.int z38), .val (.int z52), .val (.int mn)] [])) ?_ fun _ k => XS.ifNo X6.here hx rfl (hb hby at_94) rfl ((if0 _ _).trans (feq hc7).1) k
              refine own_st (T' := T6) (g' := (mkF m 99 #[.val (.int p0), .val (.int p1), .val (.int z9), .val (.int z38), .val (.int z52), .val (.int mn)] [(.int (-4 : Int32))])) ?_ fun _ k => XS.bipush X6.here hx rfl (hb hby at_97) k
              obtain ⟨_, _, ⟨T8, L8, k8, n8⟩, -, X8, ⟨Lc8, hQ8, l8, y8, z8⟩, st8⟩ := Jvm.LawKit.callS X6 hx (y := (⟨"com/example/grantline/grantline/Memberships", "isUser", "(I)Z"⟩ : MethodName)) hown (mvT hZ (hw _ (List.mem_of_getElem? (i := 0) rfl))) (mvT hZ (hw _ (List.mem_of_getElem? (i := 1) rfl))) (mvT hZ (hw _ (List.mem_of_getElem? (i := 2) rfl))) (mvT hZ (hw _ (List.mem_of_getElem? (i := 3) rfl))) (by decide) (backOf (W := 0) (rm1 l Z a0 hw [] (-4 : Int32) h0 n0 Z0 ) hZ (hw _ (List.mem_of_getElem? (i := 3) rfl)) (hw _ (List.mem_of_getElem? (i := 2) rfl)) (by decide) (by decide)) (g := (mkF m 99 #[.val (.int p0), .val (.int p1), .val (.int z9), .val (.int z38), .val (.int z52), .val (.int mn)] [(.int (-4 : Int32))])) rfl (by rw [hml]; rfl) (argsL := [(.int (-4 : Int32))]) (rest := []) (lenOf pd0_0 rfl) rfl (by show 2 * 0 + _ ≤ _; exact Nat.le_of_eq rfl) (hb hby at_99) (fun _ _ => ⟨rfl, e6, (by decide : 0 + 0 ≤ _), (by decide : 0 + 0 ≤ _)⟩)
              dsimp only [Pt.U, Pt.locs, Pt.cells, Pt.slots] at X8 l8 y8 z8 st8 hQ8
              subst l8 y8 z8
              obtain ⟨rfl, Nq8, e8⟩ := hQ8
              have N8 := Fr.app N6 Nq8
              refine own_st (T' := T8) (g' := (mkF m 102 #[.val (.int p0), .val (.int p1), .val (.int z9), .val (.int z38), .val (.int z52), .val (.int mn)] [(.int (own_b (decide (¬ (-5 : Int32) < (-4 : Int32)))))])) ?_ fun _ k => st8 _ k
              by_cases hc9 : (own_b (decide (¬ (-5 : Int32) < (-4 : Int32)))) = (0 : Int32)
              · refine own_st (T' := T8) (g' := (mkF m 105 #[.val (.int p0), .val (.int p1), .val (.int z9), .val (.int z38), .val (.int z52), .val (.int mn)] [])) ?_ fun _ k => XS.ifNo X8.here hx rfl (hb hby at_102) rfl ((if0 _ _).trans (teq hc9).2) k
                refine own_st (T' := T8) (g' := (mkF m 107 #[.val (.int p0), .val (.int p1), .val (.int z9), .val (.int z38), .val (.int z52), .val (.int mn)] [(.int (-2147483648 : Int32))])) ?_ fun _ k => X8.ldcInt hx hown (mvT hZ (hw _ (List.mem_of_getElem? (i := 8) rfl))) (g := (mkF m 105 #[.val (.int p0), .val (.int p1), .val (.int z9), .val (.int z38), .val (.int z52), .val (.int mn)] [])) rfl (hb hby at_105) _ k
                obtain ⟨_, _, ⟨T10, L10, k10, n10⟩, -, X10, ⟨Lc10, hQ10, l10, y10, z10⟩, st10⟩ := Jvm.LawKit.callS X8 hx (y := (⟨"com/example/grantline/grantline/Memberships", "isUser", "(I)Z"⟩ : MethodName)) hown (mvT hZ (hw _ (List.mem_of_getElem? (i := 0) rfl))) (mvT hZ (hw _ (List.mem_of_getElem? (i := 1) rfl))) (mvT hZ (hw _ (List.mem_of_getElem? (i := 2) rfl))) (mvT hZ (hw _ (List.mem_of_getElem? (i := 3) rfl))) (by decide) (backOf (W := 0) (rm1 l Z a0 hw [] (-2147483648 : Int32) h0 n0 Z0 ) hZ (hw _ (List.mem_of_getElem? (i := 3) rfl)) (hw _ (List.mem_of_getElem? (i := 2) rfl)) (by decide) (by decide)) (g := (mkF m 107 #[.val (.int p0), .val (.int p1), .val (.int z9), .val (.int z38), .val (.int z52), .val (.int mn)] [(.int (-2147483648 : Int32))])) rfl (by rw [hml]; rfl) (argsL := [(.int (-2147483648 : Int32))]) (rest := []) (lenOf pd0_0 rfl) rfl (by show 2 * 0 + _ ≤ _; exact Nat.le_of_eq rfl) (hb hby at_107) (fun _ _ => ⟨rfl, e8, (by decide : 0 + 0 ≤ _), (by decide : 0 + 0 ≤ _)⟩)
                dsimp only [Pt.U, Pt.locs, Pt.cells, Pt.slots] at X10 l10 y10 z10 st10 hQ10
                subst l10 y10 z10
                obtain ⟨rfl, Nq10, e10⟩ := hQ10
                have N10 := Fr.app N8 Nq10
                refine own_st (T' := T10) (g' := (mkF m 110 #[.val (.int p0), .val (.int p1), .val (.int z9), .val (.int z38), .val (.int z52), .val (.int mn)] [(.int (own_b (decide (¬ (-5 : Int32) < (-2147483648 : Int32)))))])) ?_ fun _ k => st10 _ k
                by_cases hc11 : (own_b (decide (¬ (-5 : Int32) < (-2147483648 : Int32)))) = (0 : Int32)
                · refine own_st (T' := T10) (g' := (mkF m 113 #[.val (.int p0), .val (.int p1), .val (.int z9), .val (.int z38), .val (.int z52), .val (.int mn)] [])) ?_ fun _ k => XS.ifNo X10.here hx rfl (hb hby at_110) rfl ((if0 _ _).trans (teq hc11).2) k
                  refine own_st (T' := T10) (g' := (mkF m 114 #[.val (.int p0), .val (.int p1), .val (.int z9), .val (.int z38), .val (.int z52), .val (.int mn)] [(.int (0 : Int32))])) ?_ fun _ k => XS.iconst X10.here hx rfl (hb hby at_113) k
                  refine own_retZ X10 hx hlk Bd.returns (hb hby at_114) (Q := (Q0 Z p0 p1 h0 n0)) (by decide) (by decide) (by decide) ?_
                  exfalso
                  subst hz52 hz38 hz9
                  simp only [own_binj, own_bz, own_bo, own_zb, own_ob, decide_eq_decide, decide_eq_false_iff_not, decide_eq_true_eq, Decidable.not_not] at hc2 hc5 hc7 hc9 hc11
                  simp only [Int32.lt_iff_toInt_lt, ← Int32.toInt_inj, own_Im2147483648, own_Im5, own_Im4, own_Im3, own_Im2, own_Im1, own_I0, own_I1] at hc2 hc5 hc7 hc9 hc11
                  omega
                · refine own_st (T' := T10) (g' := (mkF m 115 #[.val (.int p0), .val (.int p1), .val (.int z9), .val (.int z38), .val (.int z52), .val (.int mn)] [])) ?_ fun _ k => XS.ifYes X10.here hx rfl (pc0 := 110) (pc' := 115) rfl (hb hby at_110) rfl ((if0 _ _).trans (feq hc11).2) (by decide) (by decide) k
                  refine own_st (T' := T10) (g' := (mkF m 116 #[.val (.int p0), .val (.int p1), .val (.int z9), .val (.int z38), .val (.int z52), .val (.int mn)] [(.int (1 : Int32))])) ?_ fun _ k => XS.iconst X10.here hx rfl (hb hby at_115) k
                  refine own_retZ X10 hx hlk Bd.returns (hb hby at_116) (Q := (Q0 Z p0 p1 h0 n0)) (by decide) (by decide) (by decide) ?_
                  exact ⟨rfl, N10⟩
              · refine own_st (T' := T8) (g' := (mkF m 113 #[.val (.int p0), .val (.int p1), .val (.int z9), .val (.int z38), .val (.int z52), .val (.int mn)] [])) ?_ fun _ k => XS.ifYes X8.here hx rfl (pc0 := 102) (pc' := 113) rfl (hb hby at_102) rfl ((if0 _ _).trans (feq hc9).2) (by decide) (by decide) k
                refine own_st (T' := T8) (g' := (mkF m 114 #[.val (.int p0), .val (.int p1), .val (.int z9), .val (.int z38), .val (.int z52), .val (.int mn)] [(.int (0 : Int32))])) ?_ fun _ k => XS.iconst X8.here hx rfl (hb hby at_113) k
                refine own_retZ X8 hx hlk Bd.returns (hb hby at_114) (Q := (Q0 Z p0 p1 h0 n0)) (by decide) (by decide) (by decide) ?_
                exfalso
                subst hz52 hz38 hz9
                simp only [own_binj, own_bz, own_bo, own_zb, own_ob, decide_eq_decide, decide_eq_false_iff_not, decide_eq_true_eq, Decidable.not_not] at hc2 hc5 hc7 hc9
                simp only [Int32.lt_iff_toInt_lt, ← Int32.toInt_inj, own_Im2147483648, own_Im5, own_Im4, own_Im3, own_Im2, own_Im1, own_I0, own_I1] at hc2 hc5 hc7 hc9
                omega
          · refine own_st (T' := T4) (g' := (mkF m 79 #[.val (.int p0), .val (.int p1), .val (.int z9), .val (.int z38), .val (.int z52), .val (.int mn)] [])) ?_ fun _ k => XS.ifNo X4.here hx rfl (hb hby at_76) rfl ((if0 _ _).trans (feq hc5).1) k
            refine own_st (T' := T4) (g' := (mkF m 81 #[.val (.int p0), .val (.int p1), .val (.int z9), .val (.int z38), .val (.int z52), .val (.int mn)] [(.int mn)])) ?_ fun _ k => XS.iload X4.here hx rfl (hb hby at_79) rfl k
            obtain ⟨_, _, ⟨T12, L12, k12, n12⟩, -, X12, ⟨Lc12, hQ12, l12, y12, z12⟩, st12⟩ := Jvm.LawKit.callS X4 hx (y := (⟨"com/example/grantline/grantline/Memberships", "isUser", "(I)Z"⟩ : MethodName)) hown (mvT hZ (hw _ (List.mem_of_getElem? (i := 0) rfl))) (mvT hZ (hw _ (List.mem_of_getElem? (i := 1) rfl))) (mvT hZ (hw _ (List.mem_of_getElem? (i := 2) rfl))) (mvT hZ (hw _ (List.mem_of_getElem? (i := 3) rfl))) (by decide) (backOf (W := 0) (rm1 l Z a0 hw [] mn h0 n0 Z0 ) hZ (hw _ (List.mem_of_getElem? (i := 3) rfl)) (hw _ (List.mem_of_getElem? (i := 2) rfl)) (by decide) (by decide)) (g := (mkF m 81 #[.val (.int p0), .val (.int p1), .val (.int z9), .val (.int z38), .val (.int z52), .val (.int mn)] [(.int mn)])) rfl (by rw [hml]; rfl) (argsL := [(.int mn)]) (rest := []) (lenOf pd0_0 rfl) rfl (by show 2 * 0 + _ ≤ _; exact Nat.le_of_eq rfl) (hb hby at_81) (fun _ _ => ⟨rfl, e4, (by decide : 0 + 0 ≤ _), (by decide : 0 + 0 ≤ _)⟩)
            dsimp only [Pt.U, Pt.locs, Pt.cells, Pt.slots] at X12 l12 y12 z12 st12 hQ12
            subst l12 y12 z12
            obtain ⟨rfl, Nq12, e12⟩ := hQ12
            have N12 := Fr.app N4 Nq12
            refine own_st (T' := T12) (g' := (mkF m 84 #[.val (.int p0), .val (.int p1), .val (.int z9), .val (.int z38), .val (.int z52), .val (.int mn)] [(.int (own_b (decide (¬ (-5 : Int32) < mn))))])) ?_ fun _ k => st12 _ k
            by_cases hc13 : (own_b (decide (¬ (-5 : Int32) < mn))) = (0 : Int32)
            · refine own_st (T' := T12) (g' := (mkF m 87 #[.val (.int p0), .val (.int p1), .val (.int z9), .val (.int z38), .val (.int z52), .val (.int mn)] [])) ?_ fun _ k => XS.ifNo X12.here hx rfl (hb hby at_84) rfl ((if0 _ _).trans (teq hc13).2) k
              refine own_st (T' := T12) (g' := (mkF m 88 #[.val (.int p0), .val (.int p1), .val (.int z9), .val (.int z38), .val (.int z52), .val (.int mn)] [(.int (0 : Int32))])) ?_ fun _ k => XS.iconst X12.here hx rfl (hb hby at_87) k
              refine own_retZ X12 hx hlk Bd.returns (hb hby at_88) (Q := (Q0 Z p0 p1 h0 n0)) (by decide) (by decide) (by decide) ?_
              exfalso
              subst hz52 hz38 hz9
              have hmn' : mn.toInt ≤ p0.toInt := by rw [← hmn]; split <;> simp only [Int32.lt_iff_toInt_lt] at * <;> omega
              simp only [own_binj, own_bz, own_bo, own_zb, own_ob, decide_eq_decide, decide_eq_false_iff_not, decide_eq_true_eq, Decidable.not_not] at hc2 hc5 hc13
              simp only [Int32.lt_iff_toInt_lt, ← Int32.toInt_inj, own_Im2147483648, own_Im5, own_Im4, own_Im3, own_Im2, own_Im1, own_I0, own_I1] at hc2 hc5 hc13
              omega
            · refine own_st (T' := T12) (g' := (mkF m 89 #[.val (.int p0), .val (.int p1), .val (.int z9), .val (.int z38), .val (.int z52), .val (.int mn)] [])) ?_ fun _ k => XS.ifYes X12.here hx rfl (pc0 := 84) (pc' := 89) rfl (hb hby at_84) rfl ((if0 _ _).trans (feq hc13).2) (by decide) (by decide) k
              refine own_st (T' := T12) (g' := (mkF m 91 #[.val (.int p0), .val (.int p1), .val (.int z9), .val (.int z38), .val (.int z52), .val (.int mn)] [(.int (-5 : Int32))])) ?_ fun _ k => XS.bipush X12.here hx rfl (hb hby at_89) k
              obtain ⟨_, _, ⟨T14, L14, k14, n14⟩, -, X14, ⟨Lc14, hQ14, l14, y14, z14⟩, st14⟩ := Jvm.LawKit.callS X12 hx (y := (⟨"com/example/grantline/grantline/Memberships", "isUser", "(I)Z"⟩ : MethodName)) hown (mvT hZ (hw _ (List.mem_of_getElem? (i := 0) rfl))) (mvT hZ (hw _ (List.mem_of_getElem? (i := 1) rfl))) (mvT hZ (hw _ (List.mem_of_getElem? (i := 2) rfl))) (mvT hZ (hw _ (List.mem_of_getElem? (i := 3) rfl))) (by decide) (backOf (W := 0) (rm1 l Z a0 hw [] (-5 : Int32) h0 n0 Z0 ) hZ (hw _ (List.mem_of_getElem? (i := 3) rfl)) (hw _ (List.mem_of_getElem? (i := 2) rfl)) (by decide) (by decide)) (g := (mkF m 91 #[.val (.int p0), .val (.int p1), .val (.int z9), .val (.int z38), .val (.int z52), .val (.int mn)] [(.int (-5 : Int32))])) rfl (by rw [hml]; rfl) (argsL := [(.int (-5 : Int32))]) (rest := []) (lenOf pd0_0 rfl) rfl (by show 2 * 0 + _ ≤ _; exact Nat.le_of_eq rfl) (hb hby at_91) (fun _ _ => ⟨rfl, e12, (by decide : 0 + 0 ≤ _), (by decide : 0 + 0 ≤ _)⟩)
              dsimp only [Pt.U, Pt.locs, Pt.cells, Pt.slots] at X14 l14 y14 z14 st14 hQ14
              subst l14 y14 z14
              obtain ⟨rfl, Nq14, e14⟩ := hQ14
              have N14 := Fr.app N12 Nq14
              refine own_st (T' := T14) (g' := (mkF m 94 #[.val (.int p0), .val (.int p1), .val (.int z9), .val (.int z38), .val (.int z52), .val (.int mn)] [(.int (own_b (decide (¬ (-5 : Int32) < (-5 : Int32)))))])) ?_ fun _ k => st14 _ k
              by_cases hc15 : (own_b (decide (¬ (-5 : Int32) < (-5 : Int32)))) = (0 : Int32)
              · refine own_st (T' := T14) (g' := (mkF m 113 #[.val (.int p0), .val (.int p1), .val (.int z9), .val (.int z38), .val (.int z52), .val (.int mn)] [])) ?_ fun _ k => XS.ifYes X14.here hx rfl (pc0 := 94) (pc' := 113) rfl (hb hby at_94) rfl ((if0 _ _).trans (teq hc15).1) (by decide) (by decide) k
                refine own_st (T' := T14) (g' := (mkF m 114 #[.val (.int p0), .val (.int p1), .val (.int z9), .val (.int z38), .val (.int z52), .val (.int mn)] [(.int (0 : Int32))])) ?_ fun _ k => XS.iconst X14.here hx rfl (hb hby at_113) k
                refine own_retZ X14 hx hlk Bd.returns (hb hby at_114) (Q := (Q0 Z p0 p1 h0 n0)) (by decide) (by decide) (by decide) ?_
                exfalso
                subst hz52 hz38 hz9
                simp only [own_binj, own_bz, own_bo, own_zb, own_ob, decide_eq_decide, decide_eq_false_iff_not, decide_eq_true_eq, Decidable.not_not] at hc2 hc5 hc13 hc15
                simp only [Int32.lt_iff_toInt_lt, ← Int32.toInt_inj, own_Im2147483648, own_Im5, own_Im4, own_Im3, own_Im2, own_Im1, own_I0, own_I1] at hc2 hc5 hc13 hc15
                omega
              · refine own_st (T' := T14) (g' := (mkF m 97 #[.val (.int p0), .val (.int p1), .val (.int z9), .val (.int z38), .val (.int z52), .val (.int mn)] [])) ?_ fun _ k => XS.ifNo X14.here hx rfl (hb hby at_94) rfl ((if0 _ _).trans (feq hc15).1) k
                refine own_st (T' := T14) (g' := (mkF m 99 #[.val (.int p0), .val (.int p1), .val (.int z9), .val (.int z38), .val (.int z52), .val (.int mn)] [(.int (-4 : Int32))])) ?_ fun _ k => XS.bipush X14.here hx rfl (hb hby at_97) k
                obtain ⟨_, _, ⟨T16, L16, k16, n16⟩, -, X16, ⟨Lc16, hQ16, l16, y16, z16⟩, st16⟩ := Jvm.LawKit.callS X14 hx (y := (⟨"com/example/grantline/grantline/Memberships", "isUser", "(I)Z"⟩ : MethodName)) hown (mvT hZ (hw _ (List.mem_of_getElem? (i := 0) rfl))) (mvT hZ (hw _ (List.mem_of_getElem? (i := 1) rfl))) (mvT hZ (hw _ (List.mem_of_getElem? (i := 2) rfl))) (mvT hZ (hw _ (List.mem_of_getElem? (i := 3) rfl))) (by decide) (backOf (W := 0) (rm1 l Z a0 hw [] (-4 : Int32) h0 n0 Z0 ) hZ (hw _ (List.mem_of_getElem? (i := 3) rfl)) (hw _ (List.mem_of_getElem? (i := 2) rfl)) (by decide) (by decide)) (g := (mkF m 99 #[.val (.int p0), .val (.int p1), .val (.int z9), .val (.int z38), .val (.int z52), .val (.int mn)] [(.int (-4 : Int32))])) rfl (by rw [hml]; rfl) (argsL := [(.int (-4 : Int32))]) (rest := []) (lenOf pd0_0 rfl) rfl (by show 2 * 0 + _ ≤ _; exact Nat.le_of_eq rfl) (hb hby at_99) (fun _ _ => ⟨rfl, e14, (by decide : 0 + 0 ≤ _), (by decide : 0 + 0 ≤ _)⟩)
                dsimp only [Pt.U, Pt.locs, Pt.cells, Pt.slots] at X16 l16 y16 z16 st16 hQ16
                subst l16 y16 z16
                obtain ⟨rfl, Nq16, e16⟩ := hQ16
                have N16 := Fr.app N14 Nq16
                refine own_st (T' := T16) (g' := (mkF m 102 #[.val (.int p0), .val (.int p1), .val (.int z9), .val (.int z38), .val (.int z52), .val (.int mn)] [(.int (own_b (decide (¬ (-5 : Int32) < (-4 : Int32)))))])) ?_ fun _ k => st16 _ k
                by_cases hc17 : (own_b (decide (¬ (-5 : Int32) < (-4 : Int32)))) = (0 : Int32)
                · refine own_st (T' := T16) (g' := (mkF m 105 #[.val (.int p0), .val (.int p1), .val (.int z9), .val (.int z38), .val (.int z52), .val (.int mn)] [])) ?_ fun _ k => XS.ifNo X16.here hx rfl (hb hby at_102) rfl ((if0 _ _).trans (teq hc17).2) k
                  refine own_st (T' := T16) (g' := (mkF m 107 #[.val (.int p0), .val (.int p1), .val (.int z9), .val (.int z38), .val (.int z52), .val (.int mn)] [(.int (-2147483648 : Int32))])) ?_ fun _ k => X16.ldcInt hx hown (mvT hZ (hw _ (List.mem_of_getElem? (i := 8) rfl))) (g := (mkF m 105 #[.val (.int p0), .val (.int p1), .val (.int z9), .val (.int z38), .val (.int z52), .val (.int mn)] [])) rfl (hb hby at_105) _ k
                  obtain ⟨_, _, ⟨T18, L18, k18, n18⟩, -, X18, ⟨Lc18, hQ18, l18, y18, z18⟩, st18⟩ := Jvm.LawKit.callS X16 hx (y := (⟨"com/example/grantline/grantline/Memberships", "isUser", "(I)Z"⟩ : MethodName)) hown (mvT hZ (hw _ (List.mem_of_getElem? (i := 0) rfl))) (mvT hZ (hw _ (List.mem_of_getElem? (i := 1) rfl))) (mvT hZ (hw _ (List.mem_of_getElem? (i := 2) rfl))) (mvT hZ (hw _ (List.mem_of_getElem? (i := 3) rfl))) (by decide) (backOf (W := 0) (rm1 l Z a0 hw [] (-2147483648 : Int32) h0 n0 Z0 ) hZ (hw _ (List.mem_of_getElem? (i := 3) rfl)) (hw _ (List.mem_of_getElem? (i := 2) rfl)) (by decide) (by decide)) (g := (mkF m 107 #[.val (.int p0), .val (.int p1), .val (.int z9), .val (.int z38), .val (.int z52), .val (.int mn)] [(.int (-2147483648 : Int32))])) rfl (by rw [hml]; rfl) (argsL := [(.int (-2147483648 : Int32))]) (rest := []) (lenOf pd0_0 rfl) rfl (by show 2 * 0 + _ ≤ _; exact Nat.le_of_eq rfl) (hb hby at_107) (fun _ _ => ⟨rfl, e16, (by decide : 0 + 0 ≤ _), (by decide : 0 + 0 ≤ _)⟩)
                  dsimp only [Pt.U, Pt.locs, Pt.cells, Pt.slots] at X18 l18 y18 z18 st18 hQ18
                  subst l18 y18 z18
                  obtain ⟨rfl, Nq18, e18⟩ := hQ18
                  have N18 := Fr.app N16 Nq18
                  refine own_st (T' := T18) (g' := (mkF m 110 #[.val (.int p0), .val (.int p1), .val (.int z9), .val (.int z38), .val (.int z52), .val (.int mn)] [(.int (own_b (decide (¬ (-5 : Int32) < (-2147483648 : Int32)))))])) ?_ fun _ k => st18 _ k
                  by_cases hc19 : (own_b (decide (¬ (-5 : Int32) < (-2147483648 : Int32)))) = (0 : Int32)
                  · refine own_st (T' := T18) (g' := (mkF m 113 #[.val (.int p0), .val (.int p1), .val (.int z9), .val (.int z38), .val (.int z52), .val (.int mn)] [])) ?_ fun _ k => XS.ifNo X18.here hx rfl (hb hby at_110) rfl ((if0 _ _).trans (teq hc19).2) k
                    refine own_st (T' := T18) (g' := (mkF m 114 #[.val (.int p0), .val (.int p1), .val (.int z9), .val (.int z38), .val (.int z52), .val (.int mn)] [(.int (0 : Int32))])) ?_ fun _ k => XS.iconst X18.here hx rfl (hb hby at_113) k
                    refine own_retZ X18 hx hlk Bd.returns (hb hby at_114) (Q := (Q0 Z p0 p1 h0 n0)) (by decide) (by decide) (by decide) ?_
                    exfalso
                    subst hz52 hz38 hz9
                    simp only [own_binj, own_bz, own_bo, own_zb, own_ob, decide_eq_decide, decide_eq_false_iff_not, decide_eq_true_eq, Decidable.not_not] at hc2 hc5 hc13 hc15 hc17 hc19
                    simp only [Int32.lt_iff_toInt_lt, ← Int32.toInt_inj, own_Im2147483648, own_Im5, own_Im4, own_Im3, own_Im2, own_Im1, own_I0, own_I1] at hc2 hc5 hc13 hc15 hc17 hc19
                    omega
                  · refine own_st (T' := T18) (g' := (mkF m 115 #[.val (.int p0), .val (.int p1), .val (.int z9), .val (.int z38), .val (.int z52), .val (.int mn)] [])) ?_ fun _ k => XS.ifYes X18.here hx rfl (pc0 := 110) (pc' := 115) rfl (hb hby at_110) rfl ((if0 _ _).trans (feq hc19).2) (by decide) (by decide) k
                    refine own_st (T' := T18) (g' := (mkF m 116 #[.val (.int p0), .val (.int p1), .val (.int z9), .val (.int z38), .val (.int z52), .val (.int mn)] [(.int (1 : Int32))])) ?_ fun _ k => XS.iconst X18.here hx rfl (hb hby at_115) k
                    refine own_retZ X18 hx hlk Bd.returns (hb hby at_116) (Q := (Q0 Z p0 p1 h0 n0)) (by decide) (by decide) (by decide) ?_
                    exact ⟨rfl, N18⟩
                · refine own_st (T' := T16) (g' := (mkF m 113 #[.val (.int p0), .val (.int p1), .val (.int z9), .val (.int z38), .val (.int z52), .val (.int mn)] [])) ?_ fun _ k => XS.ifYes X16.here hx rfl (pc0 := 102) (pc' := 113) rfl (hb hby at_102) rfl ((if0 _ _).trans (feq hc17).2) (by decide) (by decide) k
                  refine own_st (T' := T16) (g' := (mkF m 114 #[.val (.int p0), .val (.int p1), .val (.int z9), .val (.int z38), .val (.int z52), .val (.int mn)] [(.int (0 : Int32))])) ?_ fun _ k => XS.iconst X16.here hx rfl (hb hby at_113) k
                  refine own_retZ X16 hx hlk Bd.returns (hb hby at_114) (Q := (Q0 Z p0 p1 h0 n0)) (by decide) (by decide) (by decide) ?_
                  exfalso
                  subst hz52 hz38 hz9
                  simp only [own_binj, own_bz, own_bo, own_zb, own_ob, decide_eq_decide, decide_eq_false_iff_not, decide_eq_true_eq, Decidable.not_not] at hc2 hc5 hc13 hc15 hc17
                  simp only [Int32.lt_iff_toInt_lt, ← Int32.toInt_inj, own_Im2147483648, own_Im5, own_Im4, own_Im3, own_Im2, own_Im1, own_I0, own_I1] at hc2 hc5 hc13 hc15 hc17
                  omega
        · refine own_st (T' := T1) (g' := (mkF m 63 #[.val (.int p0), .val (.int p1), .val (.int z9), .val (.int z38), .val (.int z52), .unset] [])) ?_ fun _ k => XS.icmpNo X1.here hx rfl (hb hby at_60) rfl ((feq hc2).1) k
          refine own_st (T' := T1) (g' := (mkF m 64 #[.val (.int p0), .val (.int p1), .val (.int z9), .val (.int z38), .val (.int z52), .unset] [(.int (0 : Int32))])) ?_ fun _ k => XS.iconst X1.here hx rfl (hb hby at_63) k
          refine own_retZ X1 hx hlk Bd.returns (hb hby at_64) (Q := (Q0 Z p0 p1 h0 n0)) (by decide) (by decide) (by decide) ?_
          exfalso
          subst hz52 hz38 hz9
          simp only [own_binj, own_bz, own_bo, own_zb, own_ob, decide_eq_decide, decide_eq_false_iff_not, decide_eq_true_eq, Decidable.not_not] at hc2
          simp only [Int32.lt_iff_toInt_lt, ← Int32.toInt_inj, own_Im2147483648, own_Im5, own_Im4, own_Im3, own_Im2, own_Im1, own_I0, own_I1] at hc2
          omega
      refine own_st (T' := s₁) (g' := (mkF m 40 #[.val (.int p0), .val (.int p1), .val (.int z9), .val (.int z38), .unset, .unset] [(.int z9)])) ?_ fun _ k => XS.iloadN X0.here hx rfl (hb hby at_39) rfl k
      by_cases hc20 : z9 = (0 : Int32)
      · refine own_st (T' := s₁) (g' := (mkF m 43 #[.val (.int p0), .val (.int p1), .val (.int z9), .val (.int z38), .unset, .unset] [])) ?_ fun _ k => XS.ifNo X0.here hx rfl (hb hby at_40) rfl ((if0 _ _).trans (teq hc20).2) k
        refine own_st (T' := s₁) (g' := (mkF m 44 #[.val (.int p0), .val (.int p1), .val (.int z9), .val (.int z38), .unset, .unset] [(.int z38)])) ?_ fun _ k => XS.iloadN X0.here hx rfl (hb hby at_43) rfl k
        by_cases hc21 : z38 = (0 : Int32)
        · refine own_st (T' := s₁) (g' := (mkF m 47 #[.val (.int p0), .val (.int p1), .val (.int z9), .val (.int z38), .unset, .unset] [])) ?_ fun _ k => XS.ifNo X0.here hx rfl (hb hby at_44) rfl ((if0 _ _).trans (teq hc21).2) k
          refine own_st (T' := s₁) (g' := (mkF m 48 #[.val (.int p0), .val (.int p1), .val (.int z9), .val (.int z38), .unset, .unset] [(.int (1 : Int32))])) ?_ fun _ k => XS.iconst X0.here hx rfl (hb hby at_47) k
          refine own_st (T' := s₁) (g' := (mkF m 52 #[.val (.int p0), .val (.int p1), .val (.int z9), .val (.int z38), .unset, .unset] [(.int (1 : Int32))])) ?_ fun _ k => XS.goto X0.here hx rfl (pc0 := 48) (pc' := 52) rfl (hb hby at_48) (by decide) (by decide) k
          exact k52 _ (by simp [own_b, hc20, hc21])
        · refine own_st (T' := s₁) (g' := (mkF m 51 #[.val (.int p0), .val (.int p1), .val (.int z9), .val (.int z38), .unset, .unset] [])) ?_ fun _ k => XS.ifYes X0.here hx rfl (pc0 := 44) (pc' := 51) rfl (hb hby at_44) rfl ((if0 _ _).trans (feq hc21).2) (by decide) (by decide) k
          refine own_st (T' := s₁) (g' := (mkF m 52 #[.val (.int p0), .val (.int p1), .val (.int z9), .val (.int z38), .unset, .unset] [(.int (0 : Int32))])) ?_ fun _ k => XS.iconst X0.here hx rfl (hb hby at_51) k
          exact k52 _ (by simp [own_b, hc20, hc21])
      · refine own_st (T' := s₁) (g' := (mkF m 51 #[.val (.int p0), .val (.int p1), .val (.int z9), .val (.int z38), .unset, .unset] [])) ?_ fun _ k => XS.ifYes X0.here hx rfl (pc0 := 40) (pc' := 51) rfl (hb hby at_40) rfl ((if0 _ _).trans (feq hc20).2) (by decide) (by decide) k
        refine own_st (T' := s₁) (g' := (mkF m 52 #[.val (.int p0), .val (.int p1), .val (.int z9), .val (.int z38), .unset, .unset] [(.int (0 : Int32))])) ?_ fun _ k => XS.iconst X0.here hx rfl (hb hby at_51) k
        exact k52 _ (by simp [own_b, hc20])
    refine own_st (T' := s₁) (g' := (mkF m 11 #[.val (.int p0), .val (.int p1), .val (.int z9), .unset, .unset, .unset] [(.int p0)])) ?_ fun _ k => XS.iloadN X0.here hx rfl (hb hby at_10) rfl k
    refine own_st (T' := s₁) (g' := (mkF m 12 #[.val (.int p0), .val (.int p1), .val (.int z9), .unset, .unset, .unset] [(.int (-1 : Int32)), (.int p0)])) ?_ fun _ k => XS.iconst X0.here hx rfl (hb hby at_11) k
    by_cases hc22 : p0 = (-1 : Int32)
    · refine own_st (T' := s₁) (g' := (mkF m 33 #[.val (.int p0), .val (.int p1), .val (.int z9), .unset, .unset, .unset] [])) ?_ fun _ k => XS.icmpYes X0.here hx rfl (pc0 := 12) (pc' := 33) rfl (hb hby at_12) rfl ((teq hc22).1) (by decide) (by decide) k
      refine own_st (T' := s₁) (g' := (mkF m 34 #[.val (.int p0), .val (.int p1), .val (.int z9), .unset, .unset, .unset] [(.int (1 : Int32))])) ?_ fun _ k => XS.iconst X0.here hx rfl (hb hby at_33) k
      refine own_st (T' := s₁) (g' := (mkF m 38 #[.val (.int p0), .val (.int p1), .val (.int z9), .unset, .unset, .unset] [(.int (1 : Int32))])) ?_ fun _ k => XS.goto X0.here hx rfl (pc0 := 34) (pc' := 38) rfl (hb hby at_34) (by decide) (by decide) k
      exact k38 _ (by simp [own_b, hc22])
    · refine own_st (T' := s₁) (g' := (mkF m 15 #[.val (.int p0), .val (.int p1), .val (.int z9), .unset, .unset, .unset] [])) ?_ fun _ k => XS.icmpNo X0.here hx rfl (hb hby at_12) rfl ((feq hc22).1) k
      refine own_st (T' := s₁) (g' := (mkF m 16 #[.val (.int p0), .val (.int p1), .val (.int z9), .unset, .unset, .unset] [(.int p0)])) ?_ fun _ k => XS.iloadN X0.here hx rfl (hb hby at_15) rfl k
      refine own_st (T' := s₁) (g' := (mkF m 18 #[.val (.int p0), .val (.int p1), .val (.int z9), .unset, .unset, .unset] [(.int (-2 : Int32)), (.int p0)])) ?_ fun _ k => XS.bipush X0.here hx rfl (hb hby at_16) k
      by_cases hc23 : p0 = (-2 : Int32)
      · refine own_st (T' := s₁) (g' := (mkF m 33 #[.val (.int p0), .val (.int p1), .val (.int z9), .unset, .unset, .unset] [])) ?_ fun _ k => XS.icmpYes X0.here hx rfl (pc0 := 18) (pc' := 33) rfl (hb hby at_18) rfl ((teq hc23).1) (by decide) (by decide) k
        refine own_st (T' := s₁) (g' := (mkF m 34 #[.val (.int p0), .val (.int p1), .val (.int z9), .unset, .unset, .unset] [(.int (1 : Int32))])) ?_ fun _ k => XS.iconst X0.here hx rfl (hb hby at_33) k
        refine own_st (T' := s₁) (g' := (mkF m 38 #[.val (.int p0), .val (.int p1), .val (.int z9), .unset, .unset, .unset] [(.int (1 : Int32))])) ?_ fun _ k => XS.goto X0.here hx rfl (pc0 := 34) (pc' := 38) rfl (hb hby at_34) (by decide) (by decide) k
        exact k38 _ (by simp [own_b, hc22, hc23])
      · refine own_st (T' := s₁) (g' := (mkF m 21 #[.val (.int p0), .val (.int p1), .val (.int z9), .unset, .unset, .unset] [])) ?_ fun _ k => XS.icmpNo X0.here hx rfl (hb hby at_18) rfl ((feq hc23).1) k
        refine own_st (T' := s₁) (g' := (mkF m 22 #[.val (.int p0), .val (.int p1), .val (.int z9), .unset, .unset, .unset] [(.int p0)])) ?_ fun _ k => XS.iloadN X0.here hx rfl (hb hby at_21) rfl k
        refine own_st (T' := s₁) (g' := (mkF m 24 #[.val (.int p0), .val (.int p1), .val (.int z9), .unset, .unset, .unset] [(.int (-3 : Int32)), (.int p0)])) ?_ fun _ k => XS.bipush X0.here hx rfl (hb hby at_22) k
        by_cases hc24 : p0 = (-3 : Int32)
        · refine own_st (T' := s₁) (g' := (mkF m 33 #[.val (.int p0), .val (.int p1), .val (.int z9), .unset, .unset, .unset] [])) ?_ fun _ k => XS.icmpYes X0.here hx rfl (pc0 := 24) (pc' := 33) rfl (hb hby at_24) rfl ((teq hc24).1) (by decide) (by decide) k
          refine own_st (T' := s₁) (g' := (mkF m 34 #[.val (.int p0), .val (.int p1), .val (.int z9), .unset, .unset, .unset] [(.int (1 : Int32))])) ?_ fun _ k => XS.iconst X0.here hx rfl (hb hby at_33) k
          refine own_st (T' := s₁) (g' := (mkF m 38 #[.val (.int p0), .val (.int p1), .val (.int z9), .unset, .unset, .unset] [(.int (1 : Int32))])) ?_ fun _ k => XS.goto X0.here hx rfl (pc0 := 34) (pc' := 38) rfl (hb hby at_34) (by decide) (by decide) k
          exact k38 _ (by simp [own_b, hc22, hc23, hc24])
        · refine own_st (T' := s₁) (g' := (mkF m 27 #[.val (.int p0), .val (.int p1), .val (.int z9), .unset, .unset, .unset] [])) ?_ fun _ k => XS.icmpNo X0.here hx rfl (hb hby at_24) rfl ((feq hc24).1) k
          refine own_st (T' := s₁) (g' := (mkF m 28 #[.val (.int p0), .val (.int p1), .val (.int z9), .unset, .unset, .unset] [(.int p0)])) ?_ fun _ k => XS.iloadN X0.here hx rfl (hb hby at_27) rfl k
          refine own_st (T' := s₁) (g' := (mkF m 30 #[.val (.int p0), .val (.int p1), .val (.int z9), .unset, .unset, .unset] [(.int (-4 : Int32)), (.int p0)])) ?_ fun _ k => XS.bipush X0.here hx rfl (hb hby at_28) k
          by_cases hc25 : p0 = (-4 : Int32)
          · refine own_st (T' := s₁) (g' := (mkF m 33 #[.val (.int p0), .val (.int p1), .val (.int z9), .unset, .unset, .unset] [])) ?_ fun _ k => XS.icmpNo X0.here hx rfl (hb hby at_30) rfl ((teq hc25).2) k
            refine own_st (T' := s₁) (g' := (mkF m 34 #[.val (.int p0), .val (.int p1), .val (.int z9), .unset, .unset, .unset] [(.int (1 : Int32))])) ?_ fun _ k => XS.iconst X0.here hx rfl (hb hby at_33) k
            refine own_st (T' := s₁) (g' := (mkF m 38 #[.val (.int p0), .val (.int p1), .val (.int z9), .unset, .unset, .unset] [(.int (1 : Int32))])) ?_ fun _ k => XS.goto X0.here hx rfl (pc0 := 34) (pc' := 38) rfl (hb hby at_34) (by decide) (by decide) k
            exact k38 _ (by simp [own_b, hc22, hc23, hc24, hc25])
          · refine own_st (T' := s₁) (g' := (mkF m 37 #[.val (.int p0), .val (.int p1), .val (.int z9), .unset, .unset, .unset] [])) ?_ fun _ k => XS.icmpYes X0.here hx rfl (pc0 := 30) (pc' := 37) rfl (hb hby at_30) rfl ((feq hc25).2) (by decide) (by decide) k
            refine own_st (T' := s₁) (g' := (mkF m 38 #[.val (.int p0), .val (.int p1), .val (.int z9), .unset, .unset, .unset] [(.int (0 : Int32))])) ?_ fun _ k => XS.iconst X0.here hx rfl (hb hby at_37) k
            exact k38 _ (by simp [own_b, hc22, hc23, hc24, hc25])
  refine own_st (T' := s₁) (g' := (mkF m 1 #[.val (.int p0), .val (.int p1), .unset, .unset, .unset, .unset] [(.int p0)])) ?_ fun _ k => XS.iloadN X0.here hx rfl (hb hby at_0) rfl k
  by_cases hc26 : p0 < (0 : Int32)
  · refine own_st (T' := s₁) (g' := (mkF m 8 #[.val (.int p0), .val (.int p1), .unset, .unset, .unset, .unset] [])) ?_ fun _ k => XS.ifYes X0.here hx rfl (pc0 := 1) (pc' := 8) rfl (hb hby at_1) rfl ((if0 _ _).trans (tlt hc26).1) (by decide) (by decide) k
    refine own_st (T' := s₁) (g' := (mkF m 9 #[.val (.int p0), .val (.int p1), .unset, .unset, .unset, .unset] [(.int (0 : Int32))])) ?_ fun _ k => XS.iconst X0.here hx rfl (hb hby at_8) k
    exact k9 _ (by simp [own_b, hc26])
  · refine own_st (T' := s₁) (g' := (mkF m 4 #[.val (.int p0), .val (.int p1), .unset, .unset, .unset, .unset] [])) ?_ fun _ k => XS.ifNo X0.here hx rfl (hb hby at_1) rfl ((if0 _ _).trans (flt hc26).1) k
    refine own_st (T' := s₁) (g' := (mkF m 5 #[.val (.int p0), .val (.int p1), .unset, .unset, .unset, .unset] [(.int (1 : Int32))])) ?_ fun _ k => XS.iconst X0.here hx rfl (hb hby at_4) k
    refine own_st (T' := s₁) (g' := (mkF m 9 #[.val (.int p0), .val (.int p1), .unset, .unset, .unset, .unset] [(.int (1 : Int32))])) ?_ fun _ k => XS.goto X0.here hx rfl (pc0 := 5) (pc' := 9) rfl (hb hby at_5) (by decide) (by decide) k
    exact k9 _ (by simp [own_b, hc26])
set_option maxRecDepth 65536 in
set_option maxHeartbeats 40000000 in
theorem comes_1 {Post : Tables → Env → Array Value → State → Outcome → State → Prop} (hpost : ∀ tb e args s v u, (limb_1_1.after args s (.returned v) u = true ∧ limb_1_2.after args s (.returned v) u = true ∧ True) → FrameEnd s (.returned v) u (Jvm.fieldLocs frame_1_writes args s ++ Jvm.arrayLocs frame_1_arrays args s ++ Jvm.staticLocs frame_1_statics s) 0 0 → Post tb e args s (.returned v) u) :
    ArmFor flags0 classFile x code maxLocals ret World_1 tables_1 room_1 Calls_1 rest_1 Pre_1 Post := by
  intro l hfl _ _ p e ha hc hk s m args below hf hA hF happ hP
  obtain ⟨hcalls, hrest, hpre⟩ := hP
  obtain ⟨-, -, -, hnamed, -, -, -, hat⟩ := (Spec.applies_iff hf).mp happ
  obtain ⟨hg, hn⟩ := and_e (Cond.before_iff.mp (show (Jvm.Cond.and given_1 narrow_1).before args s = true from hpre))
  obtain ⟨g1, g2⟩ := and_e hg
  obtain ⟨g3, g4⟩ := and_e g2
  obtain ⟨w0, w1, rfl⟩ : ∃ w0 w1 : Value, args = #[w0, w1] := by
    have hs : args.size = 2 := by simpa [Cond.value, given_1] using g1
    obtain ⟨L⟩ := args
    match L, hs with
    | [w0, w1], _ => exact ⟨w0, w1, rfl⟩
  have hw := fun d (hd : d ∈ tables_1) => atoms_spec (ws := Jvm.Cond.code x code maxLocals ret :: tables_1) hat d (List.mem_cons_of_mem _ hd)
  obtain ⟨i0, ei0⟩ := is_v g3
  obtain rfl : w0 = (.int i0) := Option.some.inj ei0
  obtain ⟨i1, ei1⟩ := is_v g4
  obtain rfl : w1 = (.int i1) := Option.some.inj ei1
  obtain ⟨n, o, h1, h2, h3, _, L, rfl, ⟨rfl, N⟩, hq⟩ := rm0 l s _ hw tables_1 i0 i1 s.heap s.heap.size (Nat.le_refl _) p e ha hc hk s m _ below hf ((Spec.applies_iff_loose hf).mp happ).1 ⟨rfl, State.Warmed39.refl s, rfl⟩ trivial
  refine ⟨n, _, h1, h2, h3, hpost _ _ _ _ _ _ ⟨Cond.after_iff.mpr rfl, Cond.after_iff.mpr (eq_i res_at (Term.int_eval (1)) rfl), trivial⟩ ⟨hq.1, hq.2.1, (hq.2.2.sift fun y hy => Or.inr (N y hy)).mono (by decide) (by decide)⟩⟩
theorem main_1_1 : Claimed_1_1 := comes_1 fun _ _ _ _ _ _ h hF => ⟨h.1, hF⟩
theorem main_1_2 : Claimed_1_2 := comes_1 fun _ _ _ _ _ _ h hF => ⟨h.2.1, hF⟩
end Jvm.Pilot.@@N@@
namespace Jvm.Pilot.@@N@@
open Jvm Jvm.ClassFile Sem Op Lib Jvm.Free Jvm.Stand Jvm.Pilot.@@N@@.Jvm.D
/-! MADE BY PROGRAM (witnessworld.py) out of the Statement's table words and the real class files: 10 classes; the members and pool entries that the words name. The judged class is class 1, her method 1. -/
namespace start1
open Jvm.ClassFile
def u (s : String) : CpInfo := .utf8 (stringToUtf16 s)
/-- a pool by its gaps: so many unusable entries, then the entry; so many at the end -/
def gap : Nat → List CpInfo → List CpInfo
  | 0, r => r
  | n + 1, r => .unusable :: gap n r
def poolList (es : List (Nat × CpInfo)) (last : Nat) : List CpInfo := es.foldr (fun e r => gap e.1 (e.2 :: r)) (gap last [])
def pool (es : List (Nat × CpInfo)) (last : Nat) : Array CpInfo := ⟨poolList es last⟩
def fileOf (pool : Array CpInfo) (this : Nat) (attrs : Array Attribute := #[]) (ms : Array MethodInfo := #[]) (fl : Nat := 33) (sup : Nat := 0) (ifs : Array Nat := #[]) (fds : Array FieldInfo := #[]) : ClassFile where
  minorVersion := 0
  majorVersion := 65
  constantPool := pool
  accessFlags := fl
  thisClass := this
  superClass := sup
  interfaces := ifs
  fields := fds
  methods := ms
  attributes := attrs
def plain (name : String) (sup : Option ClassId) : Class where
  name := name
  kind := .ordinary
  loader := none
  accessFlags := 33
  super := sup
  interfaces := #[]
  cf := none
  fields := #[]
  methods := #[]
  instanceTypes := #[]
  staticTypes := #[]
  resolved := #[]
  callSites := []
  init := .initialized
  statics := none
  mirror := none

def pool0 : Array CpInfo := pool [(5, u "<init>"), (0, u "()V"), (1, .class_ 10), (1, u "java/lang/Object")] 113

def k0m0 : Method := { name := "<init>", desc := "()V", sig := { parameters := [], returnType := none }, accessFlags := 1, code := none }
/-- java/lang/Object -/
def k0 : Class := { plain "java/lang/Object" none with
  accessFlags := 33
  interfaces := #[]
  cf := some (fileOf pool0 8 #[] #[{ accessFlags := 1, nameIndex := 5, descriptorIndex := 6, attributes := #[] }] 33 0 #[] #[])
  fields := #[]
  methods := #[k0m0]
  instanceTypes := #[]
  staticTypes := #[]
  resolved := Array.replicate 124 none
  statics := none }

def pool1 : Array CpInfo := pool [(2, .class_ 4), (1, u "java/lang/Object"), (0, u "<init>"), (0, u "()V"), (0, .methodref 8 9), (0, .class_ 10), (0, .nameAndType 11 12), (0, u "com/example/grantline/grantline/Memberships"), (0, u "isUser"), (0, u "(I)Z"), (0, .methodref 14 15), (0, .class_ 16), (0, .nameAndType 17 18), (0, u "java/lang/Math"), (0, u "min"), (0, u "(II)I"), (2, .integer 2147483648), (0, .class_ 23), (0, u "com/example/grantline/grantline/MembershipsIsUserPinLaw"), (2, u "law"), (0, u "(II)Z")] 3

def k1m0 : Method := { name := "<init>", desc := "()V", sig := { parameters := [], returnType := none }, accessFlags := 2, code := none }
def k1c1 : Code := { maxStack := 2, maxLocals := 6, code := code, exceptionTable := #[], attributes := #[] }
def k1m1 : Method := { name := "law", desc := "(II)Z", sig := { parameters := [.int, .int], returnType := some .boolean }, accessFlags := 9, code := some k1c1 }
/-- com/example/grantline/grantline/MembershipsIsUserPinLaw -/
def k1 : Class := { plain "com/example/grantline/grantline/MembershipsIsUserPinLaw" (some 0) with
  accessFlags := 49
  interfaces := #[]
  cf := some (fileOf pool1 22 #[] #[{ accessFlags := 2, nameIndex := 5, descriptorIndex := 6, attributes := #[] }, { accessFlags := 9, nameIndex := 26, descriptorIndex := 27, attributes := #[] }] 49 2 #[] #[])
  fields := #[]
  methods := #[k1m0, k1m1]
  instanceTypes := #[]
  staticTypes := #[]
  resolved := Array.replicate 31 none
  statics := none }

def pool2 : Array CpInfo := pool [(2, .class_ 4), (1, u "java/lang/Object"), (9, .class_ 16), (1, u "com/example/grantline/grantline/Memberships"), (0, u "identities"), (0, u "Ljava/util/Map;"), (2, u "groups"), (0, u "Lcom/example/grantline/grantline/GroupSet;"), (118, .class_ 142), (0, u "com/example/grantline/grantline/Memberships$Identities"), (22, u "ANONYMOUS_IDENTITIES"), (0, u "Lcom/example/grantline/grantline/Memberships$Identities;"), (2, u "UNDECLARED_IDENTITIES"), (1, .class_ 173), (1, u "com/example/grantline/grantline/Memberships$1"), (8, u "I"), (22, u "NESTING_LIMIT"), (1, u "NESTING_LINK_LIMIT"), (0, u "ALL"), (1, u "AUTHENTICATED"), (1, u "UNAUTHENTICATED"), (1, u "SELF"), (1, u "FIRST_USER"), (14, u "isUser"), (0, u "(I)Z")] 28

def k2c0 : Code := { maxStack := 2, maxLocals := 1, code := prog_13_method_5_code, exceptionTable := #[], attributes := #[] }
def k2m0 : Method := { name := "isUser", desc := "(I)Z", sig := { parameters := [.int], returnType := some .boolean }, accessFlags := 8, code := some k2c0 }
/-- com/example/grantline/grantline/Memberships -/
def k2 : Class := { plain "com/example/grantline/grantline/Memberships" (some 0) with
  accessFlags := 48
  interfaces := #[]
  cf := some (fileOf pool2 14 #[.nestMembers #[171, 141]] #[{ accessFlags := 8, nameIndex := 231, descriptorIndex := 232, attributes := #[] }] 48 2 #[] #[{ accessFlags := 26, nameIndex := 205, descriptorIndex := 182, attributes := #[] }, { accessFlags := 26, nameIndex := 207, descriptorIndex := 182, attributes := #[] }, { accessFlags := 26, nameIndex := 208, descriptorIndex := 182, attributes := #[] }, { accessFlags := 26, nameIndex := 210, descriptorIndex := 182, attributes := #[] }, { accessFlags := 26, nameIndex := 212, descriptorIndex := 182, attributes := #[] }, { accessFlags := 26, nameIndex := 214, descriptorIndex := 182, attributes := #[] }, { accessFlags := 26, nameIndex := 216, descriptorIndex := 182, attributes := #[] }, { accessFlags := 26, nameIndex := 165, descriptorIndex := 166, attributes := #[] }, { accessFlags := 26, nameIndex := 169, descriptorIndex := 166, attributes := #[] }, { accessFlags := 18, nameIndex := 17, descriptorIndex := 18, attributes := #[] }, { accessFlags := 18, nameIndex := 21, descriptorIndex := 22, attributes := #[] }])
  fields := #[{ name := "NESTING_LIMIT", type := .int, accessFlags := 26, slot := 0, constantValue := 0 }, { name := "NESTING_LINK_LIMIT", type := .int, accessFlags := 26, slot := 1, constantValue := 0 }, { name := "ALL", type := .int, accessFlags := 26, slot := 2, constantValue := 0 }, { name := "AUTHENTICATED", type := .int, accessFlags := 26, slot := 3, constantValue := 0 }, { name := "UNAUTHENTICATED", type := .int, accessFlags := 26, slot := 4, constantValue := 0 }, { name := "SELF", type := .int, accessFlags := 26, slot := 5, constantValue := 0 }, { name := "FIRST_USER", type := .int, accessFlags := 26, slot := 6, constantValue := 0 }, { name := "ANONYMOUS_IDENTITIES", type := (.object "com/example/grantline/grantline/Memberships$Identities"), accessFlags := 26, slot := 7, constantValue := 0 }, { name := "UNDECLARED_IDENTITIES", type := (.object "com/example/grantline/grantline/Memberships$Identities"), accessFlags := 26, slot := 8, constantValue := 0 }, { name := "identities", type := (.object "java/util/Map"), accessFlags := 18, slot := 0, constantValue := 0 }, { name := "groups", type := (.object "com/example/grantline/grantline/GroupSet"), accessFlags := 18, slot := 1, constantValue := 0 }]
  methods := #[k2m0]
  instanceTypes := #[(.object "java/util/Map"), (.object "com/example/grantline/grantline/GroupSet")]
  staticTypes := #[.int, .int, .int, .int, .int, .int, .int, (.object "com/example/grantline/grantline/Memberships$Identities"), (.object "com/example/grantline/grantline/Memberships$Identities")]
  resolved := Array.replicate 261 none
  statics := none }

def pool3 : Array CpInfo := pool [(1, .class_ 2), (0, u "java/lang/Math"), (1, .class_ 6), (1, u "java/lang/Object"), (0, u "<init>"), (0, u "()V"), (89, .class_ 100), (1, u "java/lang/Math$RandomNumberGeneratorHolder"), (71, u "negativeZeroFloatBits"), (0, u "J"), (2, u "negativeZeroDoubleBits"), (24, u "min"), (43, u "$assertionsDisabled"), (0, u "Z"), (88, u "(II)I"), (2, u "twoToTheDoubleScaleDown"), (0, u "D"), (4, u "twoToTheDoubleScaleUp"), (9, u "E"), (3, u "PI"), (2, u "TAU"), (2, u "DEGREES_TO_RADIANS"), (0, u "RADIANS_TO_DEGREES")] 94

def k3m0 : Method := { name := "<init>", desc := "()V", sig := { parameters := [], returnType := none }, accessFlags := 2, code := none }
def k3c1 : Code := { maxStack := 2, maxLocals := 2, code := jdk_29_method_69_code, exceptionTable := #[], attributes := #[] }
def k3m1 : Method := { name := "min", desc := "(II)I", sig := { parameters := [.int, .int], returnType := some .int }, accessFlags := 9, code := some k3c1 }
/-- java/lang/Math -/
def k3 : Class := { plain "java/lang/Math" (some 0) with
  accessFlags := 49
  interfaces := #[]
  cf := some (fileOf pool3 1 #[.nestMembers #[98]] #[{ accessFlags := 2, nameIndex := 7, descriptorIndex := 8, attributes := #[] }, { accessFlags := 9, nameIndex := 201, descriptorIndex := 335, attributes := #[] }] 49 4 #[] #[{ accessFlags := 25, nameIndex := 354, descriptorIndex := 339, attributes := #[] }, { accessFlags := 25, nameIndex := 358, descriptorIndex := 339, attributes := #[] }, { accessFlags := 25, nameIndex := 361, descriptorIndex := 339, attributes := #[] }, { accessFlags := 26, nameIndex := 364, descriptorIndex := 339, attributes := #[] }, { accessFlags := 26, nameIndex := 365, descriptorIndex := 339, attributes := #[] }, { accessFlags := 26, nameIndex := 172, descriptorIndex := 173, attributes := #[] }, { accessFlags := 26, nameIndex := 176, descriptorIndex := 173, attributes := #[] }, { accessFlags := 8, nameIndex := 344, descriptorIndex := 339, attributes := #[] }, { accessFlags := 8, nameIndex := 338, descriptorIndex := 339, attributes := #[] }, { accessFlags := 4120, nameIndex := 245, descriptorIndex := 246, attributes := #[] }])
  fields := #[{ name := "E", type := .double, accessFlags := 25, slot := 0, constantValue := 0 }, { name := "PI", type := .double, accessFlags := 25, slot := 1, constantValue := 0 }, { name := "TAU", type := .double, accessFlags := 25, slot := 2, constantValue := 0 }, { name := "DEGREES_TO_RADIANS", type := .double, accessFlags := 26, slot := 3, constantValue := 0 }, { name := "RADIANS_TO_DEGREES", type := .double, accessFlags := 26, slot := 4, constantValue := 0 }, { name := "negativeZeroFloatBits", type := .long, accessFlags := 26, slot := 5, constantValue := 0 }, { name := "negativeZeroDoubleBits", type := .long, accessFlags := 26, slot := 6, constantValue := 0 }, { name := "twoToTheDoubleScaleUp", type := .double, accessFlags := 8, slot := 7, constantValue := 0 }, { name := "twoToTheDoubleScaleDown", type := .double, accessFlags := 8, slot := 8, constantValue := 0 }, { name := "$assertionsDisabled", type := .boolean, accessFlags := 4120, slot := 9, constantValue := 0 }]
  methods := #[k3m0, k3m1]
  instanceTypes := #[]
  staticTypes := #[.double, .double, .double, .double, .double, .long, .long, .double, .double, .boolean]
  resolved := Array.replicate 460 none
  statics := none }

def pool4 : Array CpInfo := pool [(1, u "java/lang/Cloneable"), (0, .class_ 1), (0, u "java/lang/Object"), (0, .class_ 3)] 3

/-- java/lang/Cloneable -/
def k4 : Class := { plain "java/lang/Cloneable" (some 0) with
  accessFlags := 1537
  interfaces := #[]
  cf := some (fileOf pool4 2 #[] #[] 1537 4 #[] #[])
  fields := #[]
  methods := #[]
  instanceTypes := #[]
  staticTypes := #[]
  resolved := Array.replicate 8 none
  statics := none }

def pool5 : Array CpInfo := pool [(1, u "java/io/Serializable"), (0, .class_ 1), (0, u "java/lang/Object"), (0, .class_ 3)] 3

/-- java/io/Serializable -/
def k5 : Class := { plain "java/io/Serializable" (some 0) with
  accessFlags := 1537
  interfaces := #[]
  cf := some (fileOf pool5 2 #[] #[] 1537 4 #[] #[])
  fields := #[]
  methods := #[]
  instanceTypes := #[]
  staticTypes := #[]
  resolved := Array.replicate 8 none
  statics := none }

/-- the primitive byte -/
def k6 : Class := { plain "byte" none with kind := .primitive 'B', accessFlags := 0x411 }
/-- [B -/
def k7 : Class := { plain "[B" (some 0) with kind := .array 6 .byte, interfaces := #[4, 5], accessFlags := 1041 }

/-- the primitive int -/
def k8 : Class := { plain "int" none with kind := .primitive 'I', accessFlags := 0x411 }
/-- [I -/
def k9 : Class := { plain "[I" (some 0) with kind := .array 8 .int, interfaces := #[4, 5], accessFlags := 1041 }

def heap : Heap := #[]
def classes : Array Class := #[k0, k1, k2, k3, k4, k5, k6, k7, k8, k9]
def interned : List (Array UInt16 × Addr) := []
def slotsUsed : Nat := 0
def theMethod : MethodId := ⟨1, 1⟩
def args0 : Array Value := #[.int 5, .int 9]
def aboutOver (below : List Frame) : State where
  vm := { classes := classes, interned := interned.toArray }
  heap := heap
  slotsUsed := slotsUsed
  threads := #[{ frames := .invoking theMethod args0 :: below }]
def below0 : List Frame := [.native { method := ⟨0, 0⟩, args := #[] }]
def about1 : State := aboutOver below0
def p0 : Program := .bare "" "" ""
def e0 : Env := launch0.env 0 0 0
theorem w_frames : about1.frames = Frame.invoking theMethod args0 :: below0 := rfl
set_option maxRecDepth 65536 in
theorem w_args : argsFit about1.vm theMethod args0 = true := by decide +kernel
set_option maxRecDepth 65536 in
theorem w_heap : heapFits about1 = true := by decide +kernel
set_option maxRecDepth 65536 in
theorem w_runnable : about1.curStatus? = some .runnable := by decide +kernel
set_option maxRecDepth 65536 in
theorem w_alone : about1.alone = true := by decide +kernel
set_option maxRecDepth 65536 in
theorem w_named : about1.methodNamed? x = some theMethod := by decide +kernel
set_option maxRecDepth 65536 in
theorem w_hears : about1.hears theMethod below0 = true := by decide +kernel
set_option maxRecDepth 65536 in
theorem w_ripe : about1.ripe theMethod args0 below0 = true := by decide +kernel
theorem w_running : about1.status = .running := rfl
set_option maxRecDepth 65536 in
theorem w_room : about1.hasRoom e0.platform room_1 = true :=
  launch0.hasRoom_least _ room_1 (by decide +kernel) (by decide +kernel) (by decide +kernel) (by decide +kernel) (by decide +kernel) (by decide +kernel)
theorem allAtoms_all (ts : List Jvm.Cond) (a : Array Jvm.Value) (st : Jvm.State) : (allAtoms ts).before a st = ts.all (fun c => c.before a st) := by
  induction ts with
  | nil => rfl
  | cons c t ih =>
    show (Jvm.Cond.and c (allAtoms t)).before a st = _
    rw [Jvm.Cond.before_and, ih, List.all_cons]
def words1 : List Jvm.Cond := Jvm.Cond.code x code maxLocals ret :: tables_1
/-- a 'code' word, met by the world's own term for the bytes: nothing is compared byte by byte -/
theorem code_word {y : MethodName} {bytes : ByteArray} {mx : Nat} {rt : Option FieldType} {a : Array Value} {s : State} {m : MethodId} {meth : Method} {c : Code} (h1 : s.methodNamed? y = some m) (h2 : s.vm.method? m = some meth) (h3 : meth.code = some c) (h4 : c.code = bytes)
    (h5 : (c.maxLocals == mx && c.exceptionTable.isEmpty && decide (c.maxStack ≤ mostOperands) && decide (meth.sig.returnType = rt) && !meth.locks && decide (parseMethodDescriptor y.desc = some meth.sig)) = true) : (Jvm.Cond.code y bytes mx rt).before a s = true := by
  simp only [Bool.and_eq_true, beq_iff_eq, Bool.not_eq_true', decide_eq_true_eq] at h5
  obtain ⟨⟨⟨⟨⟨g1, g2⟩, g3⟩, g4⟩, g5⟩, g6⟩ := h5
  simp [Cond.before, Cond.holds, Cond.value, h1, h2, h3, h4, g1, g2, g3, g4, g5, g6]
def isCode : Jvm.Cond → Bool
  | .code _ _ _ _ => true
  | _ => false
theorem all_split {L : List Jvm.Cond} {P : Jvm.Cond → Bool} (h1 : L.all (fun c => isCode c || P c) = true) (h2 : ∀ c ∈ L.filter isCode, P c = true) : L.all P = true := by
  refine List.all_eq_true.mpr fun c hc => ?_
  have h := List.all_eq_true.mp h1 c hc
  rcases Bool.eq_false_or_eq_true (isCode c) with hi | hi
  · exact h2 c (List.mem_filter.mpr ⟨hc, hi⟩)
  · simpa [hi] using h
set_option maxRecDepth 65536 in
theorem w_c0 : (Jvm.Cond.code x code maxLocals ret).before args0 about1 = true := code_word (m := ⟨1, 1⟩) (meth := k1m1) (c := k1c1) (by decide +kernel) rfl rfl rfl (by decide +kernel)
set_option maxRecDepth 65536 in
theorem w_c1 : (Jvm.Cond.code ({ cls := "com/example/grantline/grantline/Memberships", name := "isUser", desc := "(I)Z" } : Jvm.MethodName) prog_13_method_5_code (1 : Nat) (Option.some Jvm.ClassFile.FieldType.boolean)).before args0 about1 = true := code_word (m := ⟨2, 0⟩) (meth := k2m0) (c := k2c0) (by decide +kernel) rfl rfl rfl (by decide +kernel)
set_option maxRecDepth 65536 in
theorem w_c2 : (Jvm.Cond.code ({ cls := "java/lang/Math", name := "min", desc := "(II)I" } : Jvm.MethodName) jdk_29_method_69_code (2 : Nat) (Option.some Jvm.ClassFile.FieldType.int)).before args0 about1 = true := code_word (m := ⟨3, 1⟩) (meth := k3m1) (c := k3c1) (by decide +kernel) rfl rfl rfl (by decide +kernel)
def codes1 : List Jvm.Cond := [Jvm.Cond.code x code maxLocals ret, Jvm.Cond.code ({ cls := "com/example/grantline/grantline/Memberships", name := "isUser", desc := "(I)Z" } : Jvm.MethodName) prog_13_method_5_code (1 : Nat) (Option.some Jvm.ClassFile.FieldType.boolean), Jvm.Cond.code ({ cls := "java/lang/Math", name := "min", desc := "(II)I" } : Jvm.MethodName) jdk_29_method_69_code (2 : Nat) (Option.some Jvm.ClassFile.FieldType.int)]
set_option maxRecDepth 65536 in
theorem codes_eq : words1.filter isCode = codes1 := rfl
theorem w_codes : ∀ c ∈ words1.filter isCode, c.before args0 about1 = true := by
  rw [codes_eq]
  intro c hc
  simp only [codes1, List.mem_cons, List.not_mem_nil, or_false] at hc
  rcases hc with rfl | rfl | rfl
  · exact w_c0
  · exact w_c1
  · exact w_c2
set_option maxRecDepth 65536 in
theorem w_t1 : words1.all (fun c => isCode c || c.before args0 about1) = true := by decide +kernel
theorem w_tables : (allAtoms (Jvm.Cond.code x code maxLocals ret :: tables_1)).before args0 about1 = true := by
  rw [allAtoms_all]
  show words1.all (fun c => c.before args0 about1) = true
  refine all_split ?_ w_codes
  rw [w_t1]
set_option maxRecDepth 65536 in
theorem w_case : (Jvm.Cond.and given_1 narrow_1).before args0 about1 = true := by decide +kernel
theorem w_applies : (headSpec (Jvm.Cond.code x code maxLocals ret :: tables_1) room_1).applies x e0.platform about1 = true :=
  (Spec.applies_iff w_frames).mpr ⟨w_running, w_runnable, w_alone, w_named, w_hears, w_ripe, w_room, w_tables⟩
theorem atStart : AtStart classFile x code maxLocals ret World_1 tables_1 room_1 Calls_1 rest_1 Pre_1 launch0 p0 e0 about1 theMethod args0 below0 :=
  ⟨lists_1, trivial, launch0.admits_env _ _ _, launch0.least_env, fairChoices_fair.cas, fairChoices_fair.clock, w_frames, w_args, w_heap, w_applies, trivial, trivial, w_case⟩
end start1
theorem witness_1 : WitnessClaimed_1 := ⟨start1.p0, start1.e0, start1.about1, start1.theMethod, start1.args0, start1.below0, start1.atStart⟩
end Jvm.Pilot.@@N@@
