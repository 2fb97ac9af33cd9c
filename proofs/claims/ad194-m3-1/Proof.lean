import JvmDerived
import JvmDerived.Pilot.@@N@@Statement
import JvmDerived.Pilot.@@N@@Code
set_option linter.unusedVariables false
set_option linter.unusedSimpArgs false
namespace Jvm.Pilot.@@N@@
open Jvm Jvm.ClassFile Sem Op Lib Jvm.Free Jvm.Stand Jvm.LawKit Jvm.RoadKit Bundle Jvm.Pilot.@@N@@.Jvm.D
section Own
variable {p : Program} {l : Launch} {e : Env} {R : Room} {s : State} {m : MethodId} {args : Array Value} {below : List Frame} {meth : Method} {c : Code} {T : State} {locs : List Loc} {cells slots : Nat}
/-- from this frame on the run comes to an end of which Φ holds -/
def own_Go (tb : Tables) (e : Env) (below : List Frame) (T : State) (g : JFrame) (Φ : State → Outcome → Prop) : Prop :=
  ∃ s₂ o, Steps tb e below (T.setTop g) s₂ ∧ s₂.status = .running ∧ Ended s₂ below o ∧ Φ s₂ o
def own_End (s : State) (Q : Option Value → Heap → List Loc → Prop) (k n : Nat) (t : State) (o : Outcome) : Prop := ∃ v L, o = .returned v ∧ Q v t.heap L ∧ FrameEnd s o t L k n
theorem own_st {tb : Tables} {T' : State} {g g' : JFrame} {Φ : State → Outcome → Prop} (h : own_Go tb e below T' g' Φ) (k : ∀ t, Steps tb e below (T'.setTop g') t → Steps tb e below (T.setTop g) t) : own_Go tb e below T g Φ := by
  obtain ⟨s₂, o, h1, h2⟩ := h
  exact ⟨s₂, o, k _ h1, h2⟩
theorem own_in {tb : Tables} {g g' : JFrame} {Q : Option Value → Heap → List Loc → Prop} {k n : Nat} (q : g = g') (h : own_Go tb e below T g' (own_End s Q k n)) : ∃ s₂ o, Steps tb e below (T.setTop g) s₂ ∧ s₂.status = .running ∧ Ended s₂ below o ∧ ∃ v L, o = .returned v ∧ Q v s₂.heap L ∧ FrameEnd s o s₂ L k n := by
  subst q
  exact h
theorem own_ret (X : Stand p l e R s m args below meth c T locs cells slots) (hlocks : meth.locks = false) {g : JFrame} {v : Option Value} (hv : meth.sig.returnType = none → v = none) {Q : Option Value → Heap → List Loc → Prop} {k n : Nat} (hk : cells ≤ k) (hn : slots ≤ n) (hQ : Q v T.heap locs)
    (hst : ∀ fs, (∀ (f : JFrame) (acts : List Action), f.method = m → f.locked = none → f.entered = [] → (doReturn e (T.setTop f) acts v).1 = T.setFrames fs) → Steps p.tables e below (T.setTop g) (T.setFrames fs)) : own_Go p.tables e below T g (own_End s Q k n) := by
  obtain ⟨fs, hr, hrun, hended, hW, hsame⟩ := X.leave (v := v) hv hlocks
  exact ⟨_, _, hst fs hr, hrun, hended, _, _, rfl, hQ, ⟨_, rfl⟩, hW, hsame.mono hk hn⟩
theorem own_retZ (X : Stand p l e R s m args below meth c T locs cells slots) (hx : p.tables.exec = Jvm.exec) (hlocks : meth.locks = false) {pc : Nat} {Ls : Array Slot} {z : Int32} {rest : List Value} (hret : meth.sig.returnType = some .boolean) (hd : decode c.code pc = .ok (.ireturn, 1)) {Q : Option Value → Heap → List Loc → Prop} {k n : Nat} (hk : cells ≤ k) (hn : slots ≤ n) (hz : z &&& 1 = z) (hQ : Q (some (.int z)) T.heap locs) :
    own_Go p.tables e below T (mkF m pc Ls (.int z :: rest)) (own_End s Q k n) :=
  own_ret X hlocks (fun h => by rw [hret] at h; cases h) hk hn hQ fun fs hr => retOut X hx hret (by show Value.int (z &&& 1) = _; rw [hz]) (Or.inl ⟨rfl, Or.inr (Or.inl rfl), _, rfl⟩) hd hr
theorem own_retI (X : Stand p l e R s m args below meth c T locs cells slots) (hx : p.tables.exec = Jvm.exec) (hlocks : meth.locks = false) {pc : Nat} {Ls : Array Slot} {z : Int32} {rest : List Value} (hret : meth.sig.returnType = some .int) (hd : decode c.code pc = .ok (.ireturn, 1)) {Q : Option Value → Heap → List Loc → Prop} {k n : Nat} (hk : cells ≤ k) (hn : slots ≤ n) (hQ : Q (some (.int z)) T.heap locs) :
    own_Go p.tables e below T (mkF m pc Ls (.int z :: rest)) (own_End s Q k n) :=
  own_ret X hlocks (fun h => by rw [hret] at h; cases h) hk hn hQ fun fs hr => retOut X hx hret rfl (Or.inl ⟨rfl, Or.inl rfl, _, rfl⟩) hd hr
theorem own_retJ (X : Stand p l e R s m args below meth c T locs cells slots) (hx : p.tables.exec = Jvm.exec) (hlocks : meth.locks = false) {pc : Nat} {Ls : Array Slot} {z : Int64} {rest : List Value} (hret : meth.sig.returnType = some .long) (hd : decode c.code pc = .ok (.lreturn, 1)) {Q : Option Value → Heap → List Loc → Prop} {k n : Nat} (hk : cells ≤ k) (hn : slots ≤ n) (hQ : Q (some (.long z)) T.heap locs) :
    own_Go p.tables e below T (mkF m pc Ls (.long z :: rest)) (own_End s Q k n) :=
  own_ret X hlocks (fun h => by rw [hret] at h; cases h) hk hn hQ fun fs hr => retOut X hx hret rfl (Or.inr (Or.inl ⟨rfl, rfl, _, rfl⟩)) hd hr
theorem own_retA (X : Stand p l e R s m args below meth c T locs cells slots) (hx : p.tables.exec = Jvm.exec) (hlocks : meth.locks = false) {pc : Nat} {Ls : Array Slot} {z : Addr} {rest : List Value} {C : String} (hret : meth.sig.returnType = some (.object C)) (hd : decode c.code pc = .ok (.areturn, 1)) {Q : Option Value → Heap → List Loc → Prop} {k n : Nat} (hk : cells ≤ k) (hn : slots ≤ n) (hQ : Q (some (.ref z)) T.heap locs) :
    own_Go p.tables e below T (mkF m pc Ls (.ref z :: rest)) (own_End s Q k n) :=
  own_ret X hlocks (fun h => by rw [hret] at h; cases h) hk hn hQ fun fs hr => retOut X hx hret rfl (Or.inr (Or.inr (Or.inr (Or.inr ⟨rfl, rfl, rfl⟩)))) hd hr
theorem own_retV (X : Stand p l e R s m args below meth c T locs cells slots) (hx : p.tables.exec = Jvm.exec) (hlocks : meth.locks = false) {pc : Nat} {Ls : Array Slot} (hret : meth.sig.returnType = none) (hd : decode c.code pc = .ok (.return_, 1)) {Q : Option Value → Heap → List Loc → Prop} {k n : Nat} (hk : cells ≤ k) (hn : slots ≤ n) (hQ : Q none T.heap locs) :
    own_Go p.tables e below T (mkF m pc Ls []) (own_End s Q k n) :=
  own_ret X hlocks (fun _ => rfl) hk hn hQ fun fs hr => X.returnOut hx hret hd hr
/-- a truth as Java's int -/
def own_b (b : Bool) : Int32 := if b then 1 else 0
theorem own_bt {b : Bool} (h : b = true) : own_b b = 1 := by rw [h]; rfl
theorem own_bf {b : Bool} (h : b = false) : own_b b = 0 := by rw [h]; rfl
theorem own_bz {a : Bool} : own_b a = 0 ↔ a = false := by cases a <;> decide
theorem own_bo {a : Bool} : own_b a = 1 ↔ a = true := by cases a <;> decide
theorem own_zb {a : Bool} : 0 = own_b a ↔ a = false := by cases a <;> decide
theorem own_ob {a : Bool} : 1 = own_b a ↔ a = true := by cases a <;> decide
theorem own_binj {a b : Bool} : own_b a = own_b b ↔ a = b := by cases a <;> cases b <;> decide
theorem own_b1 (a : Bool) : own_b a &&& 1 = own_b a := by cases a <;> decide
end Own
theorem d1_0 : decode prog_18_method_2_code 0 = .ok (.iload_n 0, 1) := by decide +kernel
theorem d1_1 : decode prog_18_method_2_code 1 = .ok (.bipush 7, 2) := by decide +kernel
theorem d1_3 : decode prog_18_method_2_code 3 = .ok (.if_icmp .lt 7, 3) := by decide +kernel
theorem d1_6 : decode prog_18_method_2_code 6 = .ok (.iconst 1, 1) := by decide +kernel
theorem d1_7 : decode prog_18_method_2_code 7 = .ok (.goto 4, 3) := by decide +kernel
theorem d1_10 : decode prog_18_method_2_code 10 = .ok (.iconst 0, 1) := by decide +kernel
theorem d1_11 : decode prog_18_method_2_code 11 = .ok (.ireturn, 1) := by decide +kernel
theorem pn_1 : plainName "com/example/succession/succession/Format" = true := by first | (simp [plainName, overriddenIn]; done) | decide +kernel
theorem ef_1 (m : MethodId) (p0 : Int32) : entryFrame m #[(.int p0)] 1 = mkF m 0 #[.val (.int p0)] [] := by first | (simp [entryFrame, mkF, argsToLocals, Value.category]; done) | rfl
def Q1 (Z : State) (p0 : Int32) (h0 : Heap) (n0 : Nat) (v : Option Value) (h : Heap) (L : List Loc) : Prop := v = some (.int (own_b (decide (¬ p0 < 7)))) ∧ Fr n0 L ∧ h = h0
set_option maxRecDepth 65536 in
set_option maxHeartbeats 40000000 in
theorem rm1 (l : Launch) (Z : State) (a0 : Array Value) (hw : ∀ d ∈ tables_1, d.before a0 Z = true) (ws : List Jvm.Cond) (p0 : Int32) (h0 : Heap) (n0 : Nat) (Z0 : n0 ≤ h0.size)  :
    MetFree l (⟨"com/example/succession/succession/Format", "isCompact", "(I)Z"⟩ : MethodName) (head1 (Jvm.Cond.code (⟨"com/example/succession/succession/Format", "isCompact", "(I)Z"⟩ : MethodName) prog_18_method_2_code 1 (some .boolean) :: ws) ({ frames := 0, cells := 0, slots := 0, locals := 0 } : Room)) (fun a U => a = #[(.int p0)] ∧ Z.Warmed39 U.vm ∧ U.heap = h0) (fun _ _ _ _ _ => True) (fun _ U o U' => ∃ v L, o = .returned v ∧ Q1 Z p0 h0 n0 v U'.heap L ∧ FrameEnd U o U' L ({ frames := 0, cells := 0, slots := 0, locals := 0 } : Room).cells ({ frames := 0, cells := 0, slots := 0, locals := 0 } : Room).slots) := by
  refine MetFree.of_bodySF (plainFor_of_name pn_1) hisR ?_
  intro p e s m args below meth c s₁ Bd hml0 hP hK
  obtain ⟨rfl, hZ, hh⟩ := hP
  have hx := Bd.exec
  have hby := Bd.bytes
  have hml : c.maxLocals = 1 := hml0
  have hown : s.vm.findClass "com/example/succession/succession/Format" = some m.cls := findClass_of_methodNamed Bd.named
  have hnm := (name_of_methodNamed Bd.named Bd.method).1
  have X0 : Stand p l e ({ frames := 0, cells := 0, slots := 0, locals := 0 } : Room) s m #[(.int p0)] below meth c s₁ [] 0 0 := Stand.of_body Bd
  have e0 : s₁.heap = h0 := by rw [← hh, Bd.state]; rfl
  have N0 := Fr.nil n0
  have hlk := Bd.notSynchronized
  refine own_in (Q := Q1 Z p0 h0 n0) (ef_1 m p0) ?_
  refine own_st (T' := s₁) (g' := (mkF m 1 #[.val (.int p0)] [(.int p0)])) ?_ fun _ k => XS.iloadN X0.here hx rfl (hb hby d1_0) rfl k
  refine own_st (T' := s₁) (g' := (mkF m 3 #[.val (.int p0)] [(.int (7 : Int32)), (.int p0)])) ?_ fun _ k => XS.bipush X0.here hx rfl (hb hby d1_1) k
  by_cases hc1 : p0 < (7 : Int32)
  · refine own_st (T' := s₁) (g' := (mkF m 10 #[.val (.int p0)] [])) ?_ fun _ k => XS.icmpYes X0.here hx rfl (pc0 := 3) (pc' := 10) rfl (hb hby d1_3) rfl ((tlt hc1).1) (by decide) (by decide) k
    refine own_st (T' := s₁) (g' := (mkF m 11 #[.val (.int p0)] [(.int (0 : Int32))])) ?_ fun _ k => XS.iconst X0.here hx rfl (hb hby d1_10) k
    refine own_retZ X0 hx hlk Bd.returns (hb hby d1_11) (Q := (Q1 Z p0 h0 n0)) (by decide) (by decide) (by decide) ?_
    exact ⟨by simp [own_b, hc1], N0, e0⟩
  · refine own_st (T' := s₁) (g' := (mkF m 6 #[.val (.int p0)] [])) ?_ fun _ k => XS.icmpNo X0.here hx rfl (hb hby d1_3) rfl ((flt hc1).1) k
    refine own_st (T' := s₁) (g' := (mkF m 7 #[.val (.int p0)] [(.int (1 : Int32))])) ?_ fun _ k => XS.iconst X0.here hx rfl (hb hby d1_6) k
    refine own_st (T' := s₁) (g' := (mkF m 11 #[.val (.int p0)] [(.int (1 : Int32))])) ?_ fun _ k => XS.goto X0.here hx rfl (pc0 := 7) (pc' := 11) rfl (hb hby d1_7) (by decide) (by decide) k
    refine own_retZ X0 hx hlk Bd.returns (hb hby d1_11) (Q := (Q1 Z p0 h0 n0)) (by decide) (by decide) (by decide) ?_
    exact ⟨by simp [own_b, hc1], N0, e0⟩
theorem pd0_0 : parseMethodDescriptor "(I)Z" = some ⟨[.int], some .boolean⟩ := by decide +kernel
theorem pn_0 : plainName "com/example/succession/succession/FormatIsCompactPinLaw" = true := by first | (simp [plainName, overriddenIn]; done) | decide +kernel
theorem ef_0 (m : MethodId) (p0 : Int32) (p1 : Int32) : entryFrame m #[(.int p0), (.int p1)] maxLocals = mkF m 0 #[.val (.int p0), .val (.int p1), .unset, .unset, .unset, .unset] [] := by first | (simp [entryFrame, mkF, argsToLocals, Value.category, maxLocals]; done) | rfl
def Q0 (Z : State) (p0 : Int32) (p1 : Int32) (h0 : Heap) (n0 : Nat) (v : Option Value) (h : Heap) (L : List Loc) : Prop := v = some (.int 1) ∧ Fr n0 L
set_option maxRecDepth 65536 in
set_option maxHeartbeats 40000000 in
theorem rm0 (l : Launch) (Z : State) (a0 : Array Value) (hw : ∀ d ∈ tables_1, d.before a0 Z = true) (ws : List Jvm.Cond) (p0 : Int32) (p1 : Int32) (h0 : Heap) (n0 : Nat) (Z0 : n0 ≤ h0.size)  :
    MetFree l x (head1 (Jvm.Cond.code x code maxLocals ret :: ws) room_1) (fun a U => a = #[(.int p0), (.int p1)] ∧ Z.Warmed39 U.vm ∧ U.heap = h0) (fun _ _ _ _ _ => True) (fun _ U o U' => ∃ v L, o = .returned v ∧ Q0 Z p0 p1 h0 n0 v U'.heap L ∧ FrameEnd U o U' L 0 0) := by
  refine MetFree.of_bodySF (plainFor_of_name pn_0) hisR ?_
  intro p e s m args below meth c s₁ Bd hml0 hP hK
  obtain ⟨rfl, hZ, hh⟩ := hP
  have hx := Bd.exec
  have hby := Bd.bytes
  have hml : c.maxLocals = 6 := hml0
  have hown : s.vm.findClass "com/example/succession/succession/FormatIsCompactPinLaw" = some m.cls := findClass_of_methodNamed Bd.named
  have hnm := (name_of_methodNamed Bd.named Bd.method).1
  have X0 : Stand p l e room_1 s m #[(.int p0), (.int p1)] below meth c s₁ [] 0 0 := Stand.of_body Bd
  have e0 : s₁.heap = h0 := by rw [← hh, Bd.state]; rfl
  have N0 := Fr.nil n0
  have hlk := Bd.notSynchronized
  refine own_in (Q := Q0 Z p0 p1 h0 n0) (ef_0 m p0 p1) ?_
  refine own_st (T' := s₁) (g' := (mkF m 1 #[.val (.int p0), .val (.int p1), .unset, .unset, .unset, .unset] [(.int p0)])) ?_ fun _ k => XS.iloadN X0.here hx rfl (hb hby at_0) rfl k
  obtain ⟨_, _, ⟨T1, L1, k1, n1⟩, -, X1, ⟨Lc1, hQ1, l1, y1, z1⟩, st1⟩ := Jvm.LawKit.callS X0 hx (y := (⟨"com/example/succession/succession/Format", "isCompact", "(I)Z"⟩ : MethodName)) hown (mvT hZ (hw _ (List.mem_of_getElem? (i := 0) rfl))) (mvT hZ (hw _ (List.mem_of_getElem? (i := 1) rfl))) (mvT hZ (hw _ (List.mem_of_getElem? (i := 2) rfl))) (mvT hZ (hw _ (List.mem_of_getElem? (i := 3) rfl))) (by decide) (backOf (W := 0) (rm1 l Z a0 hw [] p0 h0 n0 Z0 ) hZ (hw _ (List.mem_of_getElem? (i := 3) rfl)) (hw _ (List.mem_of_getElem? (i := 2) rfl)) (by decide) (by decide)) (g := (mkF m 1 #[.val (.int p0), .val (.int p1), .unset, .unset, .unset, .unset] [(.int p0)])) rfl (by rw [hml]; rfl) (argsL := [(.int p0)]) (rest := []) (lenOf pd0_0 rfl) rfl (by show 2 * 0 + _ ≤ _; exact Nat.le_of_eq rfl) (hb hby at_1) (fun _ _ => ⟨rfl, e0, (by decide : 0 + 0 ≤ _), (by decide : 0 + 0 ≤ _)⟩)
  dsimp only [Pt.U, Pt.locs, Pt.cells, Pt.slots] at X1 l1 y1 z1 st1 hQ1
  subst l1 y1 z1
  obtain ⟨rfl, Nq1, e1⟩ := hQ1
  have N1 := Fr.app N0 Nq1
  refine own_st (T' := T1) (g' := (mkF m 4 #[.val (.int p0), .val (.int p1), .unset, .unset, .unset, .unset] [(.int (own_b (decide (¬ p0 < 7))))])) ?_ fun _ k => st1 _ k
  refine own_st (T' := T1) (g' := (mkF m 5 #[.val (.int p0), .val (.int p1), .val (.int (own_b (decide (¬ p0 < 7)))), .unset, .unset, .unset] [])) ?_ fun _ k => XS.istoreN X1.here hx rfl (hb hby at_4) rfl (l' := #[.val (.int p0), .val (.int p1), .val (.int (own_b (decide (¬ p0 < 7)))), .unset, .unset, .unset]) rfl k
  refine own_st (T' := T1) (g' := (mkF m 6 #[.val (.int p0), .val (.int p1), .val (.int (own_b (decide (¬ p0 < 7)))), .unset, .unset, .unset] [(.int p1)])) ?_ fun _ k => XS.iloadN X1.here hx rfl (hb hby at_5) rfl k
  obtain ⟨_, _, ⟨T2, L2, k2, n2⟩, -, X2, ⟨Lc2, hQ2, l2, y2, z2⟩, st2⟩ := Jvm.LawKit.callS X1 hx (y := (⟨"com/example/succession/succession/Format", "isCompact", "(I)Z"⟩ : MethodName)) hown (mvT hZ (hw _ (List.mem_of_getElem? (i := 0) rfl))) (mvT hZ (hw _ (List.mem_of_getElem? (i := 1) rfl))) (mvT hZ (hw _ (List.mem_of_getElem? (i := 2) rfl))) (mvT hZ (hw _ (List.mem_of_getElem? (i := 3) rfl))) (by decide) (backOf (W := 0) (rm1 l Z a0 hw [] p1 h0 n0 Z0 ) hZ (hw _ (List.mem_of_getElem? (i := 3) rfl)) (hw _ (List.mem_of_getElem? (i := 2) rfl)) (by decide) (by decide)) (g := (mkF m 6 #[.val (.int p0), .val (.int p1), .val (.int (own_b (decide (¬ p0 < 7)))), .unset, .unset, .unset] [(.int p1)])) rfl (by rw [hml]; rfl) (argsL := [(.int p1)]) (rest := []) (lenOf pd0_0 rfl) rfl (by show 2 * 0 + _ ≤ _; exact Nat.le_of_eq rfl) (hb hby at_6) (fun _ _ => ⟨rfl, e1, (by decide : 0 + 0 ≤ _), (by decide : 0 + 0 ≤ _)⟩)
  dsimp only [Pt.U, Pt.locs, Pt.cells, Pt.slots] at X2 l2 y2 z2 st2 hQ2
  subst l2 y2 z2
  obtain ⟨rfl, Nq2, e2⟩ := hQ2
  have N2 := Fr.app N1 Nq2
  refine own_st (T' := T2) (g' := (mkF m 9 #[.val (.int p0), .val (.int p1), .val (.int (own_b (decide (¬ p0 < 7)))), .unset, .unset, .unset] [(.int (own_b (decide (¬ p1 < 7))))])) ?_ fun _ k => st2 _ k
  refine own_st (T' := T2) (g' := (mkF m 10 #[.val (.int p0), .val (.int p1), .val (.int (own_b (decide (¬ p0 < 7)))), .val (.int (own_b (decide (¬ p1 < 7)))), .unset, .unset] [])) ?_ fun _ k => XS.istoreN X2.here hx rfl (hb hby at_9) rfl (l' := #[.val (.int p0), .val (.int p1), .val (.int (own_b (decide (¬ p0 < 7)))), .val (.int (own_b (decide (¬ p1 < 7)))), .unset, .unset]) rfl k
  have k40 : own_Go p.tables e below T2 (mkF m 40 #[.val (.int p0), .val (.int p1), .val (.int (own_b (decide (¬ p0 < 7)))), .val (.int (own_b (decide (¬ p1 < 7)))), .unset, .unset] []) (own_End s (Q0 Z p0 p1 h0 n0) 0 0) := by
    refine own_st (T' := T2) (g' := (mkF m 42 #[.val (.int p0), .val (.int p1), .val (.int (own_b (decide (¬ p0 < 7)))), .val (.int (own_b (decide (¬ p1 < 7)))), .unset, .unset] [(.int (6 : Int32))])) ?_ fun _ k => XS.bipush X2.here hx rfl (hb hby at_40) k
    obtain ⟨_, _, ⟨T3, L3, k3, n3⟩, -, X3, ⟨Lc3, hQ3, l3, y3, z3⟩, st3⟩ := Jvm.LawKit.callS X2 hx (y := (⟨"com/example/succession/succession/Format", "isCompact", "(I)Z"⟩ : MethodName)) hown (mvT hZ (hw _ (List.mem_of_getElem? (i := 0) rfl))) (mvT hZ (hw _ (List.mem_of_getElem? (i := 1) rfl))) (mvT hZ (hw _ (List.mem_of_getElem? (i := 2) rfl))) (mvT hZ (hw _ (List.mem_of_getElem? (i := 3) rfl))) (by decide) (backOf (W := 0) (rm1 l Z a0 hw [] (6 : Int32) h0 n0 Z0 ) hZ (hw _ (List.mem_of_getElem? (i := 3) rfl)) (hw _ (List.mem_of_getElem? (i := 2) rfl)) (by decide) (by decide)) (g := (mkF m 42 #[.val (.int p0), .val (.int p1), .val (.int (own_b (decide (¬ p0 < 7)))), .val (.int (own_b (decide (¬ p1 < 7)))), .unset, .unset] [(.int (6 : Int32))])) rfl (by rw [hml]; rfl) (argsL := [(.int (6 : Int32))]) (rest := []) (lenOf pd0_0 rfl) rfl (by show 2 * 0 + _ ≤ _; exact Nat.le_of_eq rfl) (hb hby at_42) (fun _ _ => ⟨rfl, e2, (by decide : 0 + 0 ≤ _), (by decide : 0 + 0 ≤ _)⟩)
    dsimp only [Pt.U, Pt.locs, Pt.cells, Pt.slots] at X3 l3 y3 z3 st3 hQ3
    subst l3 y3 z3
    obtain ⟨rfl, Nq3, e3⟩ := hQ3
    have N3 := Fr.app N2 Nq3
    refine own_st (T' := T3) (g' := (mkF m 45 #[.val (.int p0), .val (.int p1), .val (.int (own_b (decide (¬ p0 < 7)))), .val (.int (own_b (decide (¬ p1 < 7)))), .unset, .unset] [(.int (own_b (decide (¬ (6 : Int32) < 7))))])) ?_ fun _ k => st3 _ k
    refine own_st (T' := T3) (g' := (mkF m 47 #[.val (.int p0), .val (.int p1), .val (.int (own_b (decide (¬ p0 < 7)))), .val (.int (own_b (decide (¬ p1 < 7)))), .val (.int (own_b (decide (¬ (6 : Int32) < 7)))), .unset] [])) ?_ fun _ k => XS.istore X3.here hx rfl (hb hby at_45) rfl (l' := #[.val (.int p0), .val (.int p1), .val (.int (own_b (decide (¬ p0 < 7)))), .val (.int (own_b (decide (¬ p1 < 7)))), .val (.int (own_b (decide (¬ (6 : Int32) < 7)))), .unset]) rfl k
    refine own_st (T' := T3) (g' := (mkF m 49 #[.val (.int p0), .val (.int p1), .val (.int (own_b (decide (¬ p0 < 7)))), .val (.int (own_b (decide (¬ p1 < 7)))), .val (.int (own_b (decide (¬ (6 : Int32) < 7)))), .unset] [(.int (7 : Int32))])) ?_ fun _ k => XS.bipush X3.here hx rfl (hb hby at_47) k
    obtain ⟨_, _, ⟨T4, L4, k4, n4⟩, -, X4, ⟨Lc4, hQ4, l4, y4, z4⟩, st4⟩ := Jvm.LawKit.callS X3 hx (y := (⟨"com/example/succession/succession/Format", "isCompact", "(I)Z"⟩ : MethodName)) hown (mvT hZ (hw _ (List.mem_of_getElem? (i := 0) rfl))) (mvT hZ (hw _ (List.mem_of_getElem? (i := 1) rfl))) (mvT hZ (hw _ (List.mem_of_getElem? (i := 2) rfl))) (mvT hZ (hw _ (List.mem_of_getElem? (i := 3) rfl))) (by decide) (backOf (W := 0) (rm1 l Z a0 hw [] (7 : Int32) h0 n0 Z0 ) hZ (hw _ (List.mem_of_getElem? (i := 3) rfl)) (hw _ (List.mem_of_getElem? (i := 2) rfl)) (by decide) (by decide)) (g := (mkF m 49 #[.val (.int p0), .val (.int p1), .val (.int (own_b (decide (¬ p0 < 7)))), .val (.int (own_b (decide (¬ p1 < 7)))), .val (.int (own_b (decide (¬ (6 : Int32) < 7)))), .unset] [(.int (7 : Int32))])) rfl (by rw [hml]; rfl) (argsL := [(.int (7 : Int32))]) (rest := []) (lenOf pd0_0 rfl) rfl (by show 2 * 0 + _ ≤ _; exact Nat.le_of_eq rfl) (hb hby at_49) (fun _ _ => ⟨rfl, e3, (by decide : 0 + 0 ≤ _), (by decide : 0 + 0 ≤ _)⟩)
    dsimp only [Pt.U, Pt.locs, Pt.cells, Pt.slots] at X4 l4 y4 z4 st4 hQ4
    subst l4 y4 z4
    obtain ⟨rfl, Nq4, e4⟩ := hQ4
    have N4 := Fr.app N3 Nq4
    refine own_st (T' := T4) (g' := (mkF m 52 #[.val (.int p0), .val (.int p1), .val (.int (own_b (decide (¬ p0 < 7)))), .val (.int (own_b (decide (¬ p1 < 7)))), .val (.int (own_b (decide (¬ (6 : Int32) < 7)))), .unset] [(.int (own_b (decide (¬ (7 : Int32) < 7))))])) ?_ fun _ k => st4 _ k
    refine own_st (T' := T4) (g' := (mkF m 54 #[.val (.int p0), .val (.int p1), .val (.int (own_b (decide (¬ p0 < 7)))), .val (.int (own_b (decide (¬ p1 < 7)))), .val (.int (own_b (decide (¬ (6 : Int32) < 7)))), .val (.int (own_b (decide (¬ (7 : Int32) < 7))))] [])) ?_ fun _ k => XS.istore X4.here hx rfl (hb hby at_52) rfl (l' := #[.val (.int p0), .val (.int p1), .val (.int (own_b (decide (¬ p0 < 7)))), .val (.int (own_b (decide (¬ p1 < 7)))), .val (.int (own_b (decide (¬ (6 : Int32) < 7)))), .val (.int (own_b (decide (¬ (7 : Int32) < 7))))]) rfl k
    refine own_st (T' := T4) (g' := (mkF m 56 #[.val (.int p0), .val (.int p1), .val (.int (own_b (decide (¬ p0 < 7)))), .val (.int (own_b (decide (¬ p1 < 7)))), .val (.int (own_b (decide (¬ (6 : Int32) < 7)))), .val (.int (own_b (decide (¬ (7 : Int32) < 7))))] [(.int (own_b (decide (¬ (6 : Int32) < 7))))])) ?_ fun _ k => XS.iload X4.here hx rfl (hb hby at_54) rfl k
    by_cases hc5 : (own_b (decide (¬ (6 : Int32) < 7))) = (0 : Int32)
    · refine own_st (T' := T4) (g' := (mkF m 59 #[.val (.int p0), .val (.int p1), .val (.int (own_b (decide (¬ p0 < 7)))), .val (.int (own_b (decide (¬ p1 < 7)))), .val (.int (own_b (decide (¬ (6 : Int32) < 7)))), .val (.int (own_b (decide (¬ (7 : Int32) < 7))))] [])) ?_ fun _ k => XS.ifNo X4.here hx rfl (hb hby at_56) rfl ((if0 _ _).trans (teq hc5).2) k
      refine own_st (T' := T4) (g' := (mkF m 61 #[.val (.int p0), .val (.int p1), .val (.int (own_b (decide (¬ p0 < 7)))), .val (.int (own_b (decide (¬ p1 < 7)))), .val (.int (own_b (decide (¬ (6 : Int32) < 7)))), .val (.int (own_b (decide (¬ (7 : Int32) < 7))))] [(.int (own_b (decide (¬ (7 : Int32) < 7))))])) ?_ fun _ k => XS.iload X4.here hx rfl (hb hby at_59) rfl k
      by_cases hc6 : (own_b (decide (¬ (7 : Int32) < 7))) = (0 : Int32)
      · refine own_st (T' := T4) (g' := (mkF m 68 #[.val (.int p0), .val (.int p1), .val (.int (own_b (decide (¬ p0 < 7)))), .val (.int (own_b (decide (¬ p1 < 7)))), .val (.int (own_b (decide (¬ (6 : Int32) < 7)))), .val (.int (own_b (decide (¬ (7 : Int32) < 7))))] [])) ?_ fun _ k => XS.ifYes X4.here hx rfl (pc0 := 61) (pc' := 68) rfl (hb hby at_61) rfl ((if0 _ _).trans (teq hc6).1) (by decide) (by decide) k
        refine own_st (T' := T4) (g' := (mkF m 69 #[.val (.int p0), .val (.int p1), .val (.int (own_b (decide (¬ p0 < 7)))), .val (.int (own_b (decide (¬ p1 < 7)))), .val (.int (own_b (decide (¬ (6 : Int32) < 7)))), .val (.int (own_b (decide (¬ (7 : Int32) < 7))))] [(.int (0 : Int32))])) ?_ fun _ k => XS.iconst X4.here hx rfl (hb hby at_68) k
        refine own_retZ X4 hx hlk Bd.returns (hb hby at_69) (Q := (Q0 Z p0 p1 h0 n0)) (by decide) (by decide) (by decide) ?_
        exfalso
        simp [own_b, Int32.lt_iff_toInt_lt] at hc5 hc6 <;> omega
      · refine own_st (T' := T4) (g' := (mkF m 64 #[.val (.int p0), .val (.int p1), .val (.int (own_b (decide (¬ p0 < 7)))), .val (.int (own_b (decide (¬ p1 < 7)))), .val (.int (own_b (decide (¬ (6 : Int32) < 7)))), .val (.int (own_b (decide (¬ (7 : Int32) < 7))))] [])) ?_ fun _ k => XS.ifNo X4.here hx rfl (hb hby at_61) rfl ((if0 _ _).trans (feq hc6).1) k
        refine own_st (T' := T4) (g' := (mkF m 65 #[.val (.int p0), .val (.int p1), .val (.int (own_b (decide (¬ p0 < 7)))), .val (.int (own_b (decide (¬ p1 < 7)))), .val (.int (own_b (decide (¬ (6 : Int32) < 7)))), .val (.int (own_b (decide (¬ (7 : Int32) < 7))))] [(.int (1 : Int32))])) ?_ fun _ k => XS.iconst X4.here hx rfl (hb hby at_64) k
        refine own_st (T' := T4) (g' := (mkF m 69 #[.val (.int p0), .val (.int p1), .val (.int (own_b (decide (¬ p0 < 7)))), .val (.int (own_b (decide (¬ p1 < 7)))), .val (.int (own_b (decide (¬ (6 : Int32) < 7)))), .val (.int (own_b (decide (¬ (7 : Int32) < 7))))] [(.int (1 : Int32))])) ?_ fun _ k => XS.goto X4.here hx rfl (pc0 := 65) (pc' := 69) rfl (hb hby at_65) (by decide) (by decide) k
        refine own_retZ X4 hx hlk Bd.returns (hb hby at_69) (Q := (Q0 Z p0 p1 h0 n0)) (by decide) (by decide) (by decide) ?_
        exact ⟨rfl, N4⟩
    · refine own_st (T' := T4) (g' := (mkF m 68 #[.val (.int p0), .val (.int p1), .val (.int (own_b (decide (¬ p0 < 7)))), .val (.int (own_b (decide (¬ p1 < 7)))), .val (.int (own_b (decide (¬ (6 : Int32) < 7)))), .val (.int (own_b (decide (¬ (7 : Int32) < 7))))] [])) ?_ fun _ k => XS.ifYes X4.here hx rfl (pc0 := 56) (pc' := 68) rfl (hb hby at_56) rfl ((if0 _ _).trans (feq hc5).2) (by decide) (by decide) k
      refine own_st (T' := T4) (g' := (mkF m 69 #[.val (.int p0), .val (.int p1), .val (.int (own_b (decide (¬ p0 < 7)))), .val (.int (own_b (decide (¬ p1 < 7)))), .val (.int (own_b (decide (¬ (6 : Int32) < 7)))), .val (.int (own_b (decide (¬ (7 : Int32) < 7))))] [(.int (0 : Int32))])) ?_ fun _ k => XS.iconst X4.here hx rfl (hb hby at_68) k
      refine own_retZ X4 hx hlk Bd.returns (hb hby at_69) (Q := (Q0 Z p0 p1 h0 n0)) (by decide) (by decide) (by decide) ?_
      exfalso
      simp [own_b, Int32.lt_iff_toInt_lt] at hc5 <;> omega
  have k25 : own_Go p.tables e below T2 (mkF m 25 #[.val (.int p0), .val (.int p1), .val (.int (own_b (decide (¬ p0 < 7)))), .val (.int (own_b (decide (¬ p1 < 7)))), .unset, .unset] []) (own_End s (Q0 Z p0 p1 h0 n0) 0 0) := by
    refine own_st (T' := T2) (g' := (mkF m 26 #[.val (.int p0), .val (.int p1), .val (.int (own_b (decide (¬ p0 < 7)))), .val (.int (own_b (decide (¬ p1 < 7)))), .unset, .unset] [(.int p1)])) ?_ fun _ k => XS.iloadN X2.here hx rfl (hb hby at_25) rfl k
    refine own_st (T' := T2) (g' := (mkF m 27 #[.val (.int p0), .val (.int p1), .val (.int (own_b (decide (¬ p0 < 7)))), .val (.int (own_b (decide (¬ p1 < 7)))), .unset, .unset] [(.int p0), (.int p1)])) ?_ fun _ k => XS.iloadN X2.here hx rfl (hb hby at_26) rfl k
    by_cases hc7 : p0 < p1
    · refine own_st (T' := T2) (g' := (mkF m 40 #[.val (.int p0), .val (.int p1), .val (.int (own_b (decide (¬ p0 < 7)))), .val (.int (own_b (decide (¬ p1 < 7)))), .unset, .unset] [])) ?_ fun _ k => XS.icmpYes X2.here hx rfl (pc0 := 27) (pc' := 40) rfl (hb hby at_27) rfl ((tlt hc7).2.2.1) (by decide) (by decide) k
      exact k40
    · refine own_st (T' := T2) (g' := (mkF m 30 #[.val (.int p0), .val (.int p1), .val (.int (own_b (decide (¬ p0 < 7)))), .val (.int (own_b (decide (¬ p1 < 7)))), .unset, .unset] [])) ?_ fun _ k => XS.icmpNo X2.here hx rfl (hb hby at_27) rfl ((flt hc7).2.2.1) k
      refine own_st (T' := T2) (g' := (mkF m 31 #[.val (.int p0), .val (.int p1), .val (.int (own_b (decide (¬ p0 < 7)))), .val (.int (own_b (decide (¬ p1 < 7)))), .unset, .unset] [(.int (own_b (decide (¬ p1 < 7))))])) ?_ fun _ k => XS.iloadN X2.here hx rfl (hb hby at_30) rfl k
      by_cases hc8 : (own_b (decide (¬ p1 < 7))) = (0 : Int32)
      · refine own_st (T' := T2) (g' := (mkF m 40 #[.val (.int p0), .val (.int p1), .val (.int (own_b (decide (¬ p0 < 7)))), .val (.int (own_b (decide (¬ p1 < 7)))), .unset, .unset] [])) ?_ fun _ k => XS.ifYes X2.here hx rfl (pc0 := 31) (pc' := 40) rfl (hb hby at_31) rfl ((if0 _ _).trans (teq hc8).1) (by decide) (by decide) k
        exact k40
      · refine own_st (T' := T2) (g' := (mkF m 34 #[.val (.int p0), .val (.int p1), .val (.int (own_b (decide (¬ p0 < 7)))), .val (.int (own_b (decide (¬ p1 < 7)))), .unset, .unset] [])) ?_ fun _ k => XS.ifNo X2.here hx rfl (hb hby at_31) rfl ((if0 _ _).trans (feq hc8).1) k
        refine own_st (T' := T2) (g' := (mkF m 35 #[.val (.int p0), .val (.int p1), .val (.int (own_b (decide (¬ p0 < 7)))), .val (.int (own_b (decide (¬ p1 < 7)))), .unset, .unset] [(.int (own_b (decide (¬ p0 < 7))))])) ?_ fun _ k => XS.iloadN X2.here hx rfl (hb hby at_34) rfl k
        by_cases hc9 : (own_b (decide (¬ p0 < 7))) = (0 : Int32)
        · refine own_st (T' := T2) (g' := (mkF m 38 #[.val (.int p0), .val (.int p1), .val (.int (own_b (decide (¬ p0 < 7)))), .val (.int (own_b (decide (¬ p1 < 7)))), .unset, .unset] [])) ?_ fun _ k => XS.ifNo X2.here hx rfl (hb hby at_35) rfl ((if0 _ _).trans (teq hc9).2) k
          refine own_st (T' := T2) (g' := (mkF m 39 #[.val (.int p0), .val (.int p1), .val (.int (own_b (decide (¬ p0 < 7)))), .val (.int (own_b (decide (¬ p1 < 7)))), .unset, .unset] [(.int (0 : Int32))])) ?_ fun _ k => XS.iconst X2.here hx rfl (hb hby at_38) k
          refine own_retZ X2 hx hlk Bd.returns (hb hby at_39) (Q := (Q0 Z p0 p1 h0 n0)) (by decide) (by decide) (by decide) ?_
          exfalso
          simp [own_b, Int32.lt_iff_toInt_lt] at hc7 hc8 hc9 <;> omega
        · refine own_st (T' := T2) (g' := (mkF m 40 #[.val (.int p0), .val (.int p1), .val (.int (own_b (decide (¬ p0 < 7)))), .val (.int (own_b (decide (¬ p1 < 7)))), .unset, .unset] [])) ?_ fun _ k => XS.ifYes X2.here hx rfl (pc0 := 35) (pc' := 40) rfl (hb hby at_35) rfl ((if0 _ _).trans (feq hc9).2) (by decide) (by decide) k
          exact k40
  refine own_st (T' := T2) (g' := (mkF m 11 #[.val (.int p0), .val (.int p1), .val (.int (own_b (decide (¬ p0 < 7)))), .val (.int (own_b (decide (¬ p1 < 7)))), .unset, .unset] [(.int p0)])) ?_ fun _ k => XS.iloadN X2.here hx rfl (hb hby at_10) rfl k
  refine own_st (T' := T2) (g' := (mkF m 12 #[.val (.int p0), .val (.int p1), .val (.int (own_b (decide (¬ p0 < 7)))), .val (.int (own_b (decide (¬ p1 < 7)))), .unset, .unset] [(.int p1), (.int p0)])) ?_ fun _ k => XS.iloadN X2.here hx rfl (hb hby at_11) rfl k
  by_cases hc10 : p1 < p0
  · refine own_st (T' := T2) (g' := (mkF m 25 #[.val (.int p0), .val (.int p1), .val (.int (own_b (decide (¬ p0 < 7)))), .val (.int (own_b (decide (¬ p1 < 7)))), .unset, .unset] [])) ?_ fun _ k => XS.icmpYes X2.here hx rfl (pc0 := 12) (pc' := 25) rfl (hb hby at_12) rfl ((tlt hc10).2.2.1) (by decide) (by decide) k
    exact k25
  · refine own_st (T' := T2) (g' := (mkF m 15 #[.val (.int p0), .val (.int p1), .val (.int (own_b (decide (¬ p0 < 7)))), .val (.int (own_b (decide (¬ p1 < 7)))), .unset, .unset] [])) ?_ fun _ k => XS.icmpNo X2.here hx rfl (hb hby at_12) rfl ((flt hc10).2.2.1) k
    refine own_st (T' := T2) (g' := (mkF m 16 #[.val (.int p0), .val (.int p1), .val (.int (own_b (decide (¬ p0 < 7)))), .val (.int (own_b (decide (¬ p1 < 7)))), .unset, .unset] [(.int (own_b (decide (¬ p0 < 7))))])) ?_ fun _ k => XS.iloadN X2.here hx rfl (hb hby at_15) rfl k
    by_cases hc11 : (own_b (decide (¬ p0 < 7))) = (0 : Int32)
    · refine own_st (T' := T2) (g' := (mkF m 25 #[.val (.int p0), .val (.int p1), .val (.int (own_b (decide (¬ p0 < 7)))), .val (.int (own_b (decide (¬ p1 < 7)))), .unset, .unset] [])) ?_ fun _ k => XS.ifYes X2.here hx rfl (pc0 := 16) (pc' := 25) rfl (hb hby at_16) rfl ((if0 _ _).trans (teq hc11).1) (by decide) (by decide) k
      exact k25
    · refine own_st (T' := T2) (g' := (mkF m 19 #[.val (.int p0), .val (.int p1), .val (.int (own_b (decide (¬ p0 < 7)))), .val (.int (own_b (decide (¬ p1 < 7)))), .unset, .unset] [])) ?_ fun _ k => XS.ifNo X2.here hx rfl (hb hby at_16) rfl ((if0 _ _).trans (feq hc11).1) k
      refine own_st (T' := T2) (g' := (mkF m 20 #[.val (.int p0), .val (.int p1), .val (.int (own_b (decide (¬ p0 < 7)))), .val (.int (own_b (decide (¬ p1 < 7)))), .unset, .unset] [(.int (own_b (decide (¬ p1 < 7))))])) ?_ fun _ k => XS.iloadN X2.here hx rfl (hb hby at_19) rfl k
      by_cases hc12 : (own_b (decide (¬ p1 < 7))) = (0 : Int32)
      · refine own_st (T' := T2) (g' := (mkF m 23 #[.val (.int p0), .val (.int p1), .val (.int (own_b (decide (¬ p0 < 7)))), .val (.int (own_b (decide (¬ p1 < 7)))), .unset, .unset] [])) ?_ fun _ k => XS.ifNo X2.here hx rfl (hb hby at_20) rfl ((if0 _ _).trans (teq hc12).2) k
        refine own_st (T' := T2) (g' := (mkF m 24 #[.val (.int p0), .val (.int p1), .val (.int (own_b (decide (¬ p0 < 7)))), .val (.int (own_b (decide (¬ p1 < 7)))), .unset, .unset] [(.int (0 : Int32))])) ?_ fun _ k => XS.iconst X2.here hx rfl (hb hby at_23) k
        refine own_retZ X2 hx hlk Bd.returns (hb hby at_24) (Q := (Q0 Z p0 p1 h0 n0)) (by decide) (by decide) (by decide) ?_
        exfalso
        simp [own_b, Int32.lt_iff_toInt_lt] at hc10 hc11 hc12 <;> omega
      · refine own_st (T' := T2) (g' := (mkF m 25 #[.val (.int p0), .val (.int p1), .val (.int (own_b (decide (¬ p0 < 7)))), .val (.int (own_b (decide (¬ p1 < 7)))), .unset, .unset] [])) ?_ fun _ k => XS.ifYes X2.here hx rfl (pc0 := 20) (pc' := 25) rfl (hb hby at_20) rfl ((if0 _ _).trans (feq hc12).2) (by decide) (by decide) k
        exact k25
set_option maxRecDepth 65536 in
set_option maxHeartbeats 40000000 in
theorem comes_1 {Post : Tables → Env → Array Value → State → Outcome → State → Prop} (hpost : ∀ tb e args s v u, (limb_1_1.after args s (.returned v) u = true ∧ limb_1_2.after args s (.returned v) u = true ∧ True) → FrameEnd s (.returned v) u (Jvm.fieldLocs frame_1_writes args s ++ Jvm.arrayLocs frame_1_arrays args s ++ Jvm.staticLocs frame_1_statics s) 0 0 → Post tb e args s (.returned v) u) :
    ArmFor flags0 classFile x code maxLocals ret World_1 tables_1 room_1 Calls_1 rest_1 Pre_1 Post := by
  intro l hfl _ _ p e ha hc hk s m args below hf hA hF happ hP
  obtain ⟨hcalls, hrest, hpre⟩ := hP
  obtain ⟨-, -, -, hnamed, -, -, -, hat⟩ := (Spec.applies_iff hf).mp happ
  obtain ⟨hg, hn⟩ := and_e (Cond.before_iff.mp (show (Jvm.Cond.and given_1 narrow_1).before args s = true from hpre))
  obtain ⟨g1, g2⟩ := and_e hg
  obtain ⟨g3, g4⟩ := and_e g2
  obtain ⟨w0, w1, rfl⟩ : ∃ w0 w1 : Value, args = #[w0, w1] := by
    have hs : args.size = 2 := by simpa [Cond.value, given_1] using g1
    obtain ⟨L⟩ := args
    match L, hs with
    | [w0, w1], _ => exact ⟨w0, w1, rfl⟩
  have hw := fun d (hd : d ∈ tables_1) => atoms_spec (ws := Jvm.Cond.code x code maxLocals ret :: tables_1) hat d (List.mem_cons_of_mem _ hd)
  obtain ⟨i0, ei0⟩ := is_v g3
  obtain rfl : w0 = (.int i0) := Option.some.inj ei0
  obtain ⟨i1, ei1⟩ := is_v g4
  obtain rfl : w1 = (.int i1) := Option.some.inj ei1
  obtain ⟨n, o, h1, h2, h3, _, L, rfl, ⟨rfl, N⟩, hq⟩ := rm0 l s _ hw tables_1 i0 i1 s.heap s.heap.size (Nat.le_refl _) p e ha hc hk s m _ below hf ((Spec.applies_iff_loose hf).mp happ).1 ⟨rfl, State.Warmed39.refl s, rfl⟩ trivial
  refine ⟨n, _, h1, h2, h3, hpost _ _ _ _ _ _ ⟨Cond.after_iff.mpr rfl, Cond.after_iff.mpr (eq_i res_at (Term.int_eval (1)) rfl), trivial⟩ ⟨hq.1, hq.2.1, (hq.2.2.sift fun y hy => Or.inr (N y hy)).mono (by decide) (by decide)⟩⟩
theorem main_1_1 : Claimed_1_1 := comes_1 fun _ _ _ _ _ _ h hF => ⟨h.1, hF⟩
theorem main_1_2 : Claimed_1_2 := comes_1 fun _ _ _ _ _ _ h hF => ⟨h.2.1, hF⟩
end Jvm.Pilot.@@N@@
namespace Jvm.Pilot.@@N@@
open Jvm Jvm.ClassFile Sem Op Lib Jvm.Free Jvm.Stand Jvm.Pilot.@@N@@.Jvm.D
/-! MADE BY PROGRAM (witnessworld.py) out of the Statement's table words and the real class files: 9 classes; the members and pool entries that the words name. The judged class is class 1, her method 1. -/
namespace start1
open Jvm.ClassFile
def u (s : String) : CpInfo := .utf8 (stringToUtf16 s)
/-- a pool by its gaps: so many unusable entries, then the entry; so many at the end -/
def gap : Nat → List CpInfo → List CpInfo
  | 0, r => r
  | n + 1, r => .unusable :: gap n r
def poolList (es : List (Nat × CpInfo)) (last : Nat) : List CpInfo := es.foldr (fun e r => gap e.1 (e.2 :: r)) (gap last [])
def pool (es : List (Nat × CpInfo)) (last : Nat) : Array CpInfo := ⟨poolList es last⟩
def fileOf (pool : Array CpInfo) (this : Nat) (attrs : Array Attribute := #[]) (ms : Array MethodInfo := #[]) (fl : Nat := 33) (sup : Nat := 0) (ifs : Array Nat := #[]) (fds : Array FieldInfo := #[]) : ClassFile where
  minorVersion := 0
  majorVersion := 65
  constantPool := pool
  accessFlags := fl
  thisClass := this
  superClass := sup
  interfaces := ifs
  fields := fds
  methods := ms
  attributes := attrs
def plain (name : String) (sup : Option ClassId) : Class where
  name := name
  kind := .ordinary
  loader := none
  accessFlags := 33
  super := sup
  interfaces := #[]
  cf := none
  fields := #[]
  methods := #[]
  instanceTypes := #[]
  staticTypes := #[]
  resolved := #[]
  callSites := []
  init := .initialized
  statics := none
  mirror := none

def pool0 : Array CpInfo := pool [(5, u "<init>"), (0, u "()V"), (1, .class_ 10), (1, u "java/lang/Object")] 113

def k0m0 : Method := { name := "<init>", desc := "()V", sig := { parameters := [], returnType := none }, accessFlags := 1, code := none }
/-- java/lang/Object -/
def k0 : Class := { plain "java/lang/Object" none with
  accessFlags := 33
  interfaces := #[]
  cf := some (fileOf pool0 8 #[] #[{ accessFlags := 1, nameIndex := 5, descriptorIndex := 6, attributes := #[] }] 33 0 #[] #[])
  fields := #[]
  methods := #[k0m0]
  instanceTypes := #[]
  staticTypes := #[]
  resolved := Array.replicate 124 none
  statics := none }

def pool1 : Array CpInfo := pool [(2, .class_ 4), (1, u "java/lang/Object"), (0, u "<init>"), (0, u "()V"), (0, .methodref 8 9), (0, .class_ 10), (0, .nameAndType 11 12), (0, u "com/example/succession/succession/Format"), (0, u "isCompact"), (0, u "(I)Z"), (0, .class_ 14), (0, u "com/example/succession/succession/FormatIsCompactPinLaw"), (2, u "law"), (0, u "(II)Z")] 3

def k1m0 : Method := { name := "<init>", desc := "()V", sig := { parameters := [], returnType := none }, accessFlags := 2, code := none }
def k1c1 : Code := { maxStack := 2, maxLocals := 6, code := code, exceptionTable := #[], attributes := #[] }
def k1m1 : Method := { name := "law", desc := "(II)Z", sig := { parameters := [.int, .int], returnType := some .boolean }, accessFlags := 9, code := some k1c1 }
/-- com/example/succession/succession/FormatIsCompactPinLaw -/
def k1 : Class := { plain "com/example/succession/succession/FormatIsCompactPinLaw" (some 0) with
  accessFlags := 49
  interfaces := #[]
  cf := some (fileOf pool1 13 #[] #[{ accessFlags := 2, nameIndex := 5, descriptorIndex := 6, attributes := #[] }, { accessFlags := 9, nameIndex := 17, descriptorIndex := 18, attributes := #[] }] 49 2 #[] #[])
  fields := #[]
  methods := #[k1m0, k1m1]
  instanceTypes := #[]
  staticTypes := #[]
  resolved := Array.replicate 22 none
  statics := none }

def pool2 : Array CpInfo := pool [(1, .class_ 2), (0, u "com/example/succession/succession/Format"), (3, .class_ 8), (1, u "java/lang/Object"), (0, u "<init>"), (0, u "()V"), (2, u "isCompact"), (0, u "(I)Z"), (2, u "MAGIC"), (0, u "[B"), (47, u "FIRST_VERSION"), (0, u "I"), (2, u "DECLARED_ENUM_VERSION"), (1, u "IDENTITY_VERSION"), (1, u "OBJECT_REFERENCE_VERSION"), (1, u "FIELD_TYPES_VERSION"), (1, u "OPTIONAL_DATA_VERSION"), (1, u "COMPACT_VERSION"), (1, u "CONTAINER_REFERENCE_VERSION"), (1, u "ANY_VALUE_VERSION"), (1, u "VERSION"), (0, u "NO_TYPE"), (1, u "NULL_VALUE"), (0, u "NEW_TYPE"), (0, u "FIRST_TYPE"), (0, u "FIRST_COMPACT_TYPE"), (0, u "CLASS"), (0, u "ENUM"), (0, u "DECLARED_ENUM"), (0, u "IDENTIFIED"), (0, u "OBJECT_REFERENCE"), (0, u "CLASS_WITH_OPTIONAL_DATA"), (0, u "FIRST_CONTAINER_REFERENCE"), (0, u "J")] 35

def k2m0 : Method := { name := "<init>", desc := "()V", sig := { parameters := [], returnType := none }, accessFlags := 2, code := none }
def k2c1 : Code := { maxStack := 2, maxLocals := 1, code := prog_18_method_2_code, exceptionTable := #[], attributes := #[] }
def k2m1 : Method := { name := "isCompact", desc := "(I)Z", sig := { parameters := [.int], returnType := some .boolean }, accessFlags := 8, code := some k2c1 }
/-- com/example/succession/succession/Format -/
def k2 : Class := { plain "com/example/succession/succession/Format" (some 0) with
  accessFlags := 48
  interfaces := #[]
  cf := some (fileOf pool2 1 #[] #[{ accessFlags := 2, nameIndex := 9, descriptorIndex := 10, attributes := #[] }, { accessFlags := 8, nameIndex := 13, descriptorIndex := 14, attributes := #[] }] 48 6 #[] #[{ accessFlags := 24, nameIndex := 66, descriptorIndex := 67, attributes := #[] }, { accessFlags := 24, nameIndex := 70, descriptorIndex := 67, attributes := #[] }, { accessFlags := 24, nameIndex := 72, descriptorIndex := 67, attributes := #[] }, { accessFlags := 24, nameIndex := 74, descriptorIndex := 67, attributes := #[] }, { accessFlags := 24, nameIndex := 76, descriptorIndex := 67, attributes := #[] }, { accessFlags := 24, nameIndex := 78, descriptorIndex := 67, attributes := #[] }, { accessFlags := 24, nameIndex := 80, descriptorIndex := 67, attributes := #[] }, { accessFlags := 24, nameIndex := 82, descriptorIndex := 67, attributes := #[] }, { accessFlags := 24, nameIndex := 84, descriptorIndex := 67, attributes := #[] }, { accessFlags := 24, nameIndex := 86, descriptorIndex := 67, attributes := #[] }, { accessFlags := 24, nameIndex := 87, descriptorIndex := 67, attributes := #[] }, { accessFlags := 24, nameIndex := 89, descriptorIndex := 67, attributes := #[] }, { accessFlags := 24, nameIndex := 90, descriptorIndex := 67, attributes := #[] }, { accessFlags := 24, nameIndex := 91, descriptorIndex := 67, attributes := #[] }, { accessFlags := 24, nameIndex := 92, descriptorIndex := 67, attributes := #[] }, { accessFlags := 24, nameIndex := 93, descriptorIndex := 67, attributes := #[] }, { accessFlags := 24, nameIndex := 94, descriptorIndex := 67, attributes := #[] }, { accessFlags := 24, nameIndex := 95, descriptorIndex := 67, attributes := #[] }, { accessFlags := 24, nameIndex := 96, descriptorIndex := 67, attributes := #[] }, { accessFlags := 24, nameIndex := 97, descriptorIndex := 67, attributes := #[] }, { accessFlags := 24, nameIndex := 98, descriptorIndex := 67, attributes := #[] }, { accessFlags := 24, nameIndex := 99, descriptorIndex := 100, attributes := #[] }, { accessFlags := 26, nameIndex := 17, descriptorIndex := 18, attributes := #[] }])
  fields := #[{ name := "FIRST_VERSION", type := .int, accessFlags := 24, slot := 0, constantValue := 0 }, { name := "DECLARED_ENUM_VERSION", type := .int, accessFlags := 24, slot := 1, constantValue := 0 }, { name := "IDENTITY_VERSION", type := .int, accessFlags := 24, slot := 2, constantValue := 0 }, { name := "OBJECT_REFERENCE_VERSION", type := .int, accessFlags := 24, slot := 3, constantValue := 0 }, { name := "FIELD_TYPES_VERSION", type := .int, accessFlags := 24, slot := 4, constantValue := 0 }, { name := "OPTIONAL_DATA_VERSION", type := .int, accessFlags := 24, slot := 5, constantValue := 0 }, { name := "COMPACT_VERSION", type := .int, accessFlags := 24, slot := 6, constantValue := 0 }, { name := "CONTAINER_REFERENCE_VERSION", type := .int, accessFlags := 24, slot := 7, constantValue := 0 }, { name := "ANY_VALUE_VERSION", type := .int, accessFlags := 24, slot := 8, constantValue := 0 }, { name := "VERSION", type := .int, accessFlags := 24, slot := 9, constantValue := 0 }, { name := "NO_TYPE", type := .int, accessFlags := 24, slot := 10, constantValue := 0 }, { name := "NULL_VALUE", type := .int, accessFlags := 24, slot := 11, constantValue := 0 }, { name := "NEW_TYPE", type := .int, accessFlags := 24, slot := 12, constantValue := 0 }, { name := "FIRST_TYPE", type := .int, accessFlags := 24, slot := 13, constantValue := 0 }, { name := "FIRST_COMPACT_TYPE", type := .int, accessFlags := 24, slot := 14, constantValue := 0 }, { name := "CLASS", type := .int, accessFlags := 24, slot := 15, constantValue := 0 }, { name := "ENUM", type := .int, accessFlags := 24, slot := 16, constantValue := 0 }, { name := "DECLARED_ENUM", type := .int, accessFlags := 24, slot := 17, constantValue := 0 }, { name := "IDENTIFIED", type := .int, accessFlags := 24, slot := 18, constantValue := 0 }, { name := "OBJECT_REFERENCE", type := .int, accessFlags := 24, slot := 19, constantValue := 0 }, { name := "CLASS_WITH_OPTIONAL_DATA", type := .int, accessFlags := 24, slot := 20, constantValue := 0 }, { name := "FIRST_CONTAINER_REFERENCE", type := .long, accessFlags := 24, slot := 21, constantValue := 0 }, { name := "MAGIC", type := (.array .byte), accessFlags := 26, slot := 22, constantValue := 0 }]
  methods := #[k2m0, k2m1]
  instanceTypes := #[]
  staticTypes := #[.int, .int, .int, .int, .int, .int, .int, .int, .int, .int, .int, .int, .int, .int, .int, .int, .int, .int, .int, .int, .int, .long, (.array .byte)]
  resolved := Array.replicate 136 none
  statics := none }

def pool3 : Array CpInfo := pool [(1, u "java/lang/Cloneable"), (0, .class_ 1), (0, u "java/lang/Object"), (0, .class_ 3)] 3

/-- java/lang/Cloneable -/
def k3 : Class := { plain "java/lang/Cloneable" (some 0) with
  accessFlags := 1537
  interfaces := #[]
  cf := some (fileOf pool3 2 #[] #[] 1537 4 #[] #[])
  fields := #[]
  methods := #[]
  instanceTypes := #[]
  staticTypes := #[]
  resolved := Array.replicate 8 none
  statics := none }

def pool4 : Array CpInfo := pool [(1, u "java/io/Serializable"), (0, .class_ 1), (0, u "java/lang/Object"), (0, .class_ 3)] 3

/-- java/io/Serializable -/
def k4 : Class := { plain "java/io/Serializable" (some 0) with
  accessFlags := 1537
  interfaces := #[]
  cf := some (fileOf pool4 2 #[] #[] 1537 4 #[] #[])
  fields := #[]
  methods := #[]
  instanceTypes := #[]
  staticTypes := #[]
  resolved := Array.replicate 8 none
  statics := none }

/-- the primitive byte -/
def k5 : Class := { plain "byte" none with kind := .primitive 'B', accessFlags := 0x411 }
/-- [B -/
def k6 : Class := { plain "[B" (some 0) with kind := .array 5 .byte, interfaces := #[3, 4], accessFlags := 1041 }

/-- the primitive int -/
def k7 : Class := { plain "int" none with kind := .primitive 'I', accessFlags := 0x411 }
/-- [I -/
def k8 : Class := { plain "[I" (some 0) with kind := .array 7 .int, interfaces := #[3, 4], accessFlags := 1041 }

def heap : Heap := #[]
def classes : Array Class := #[k0, k1, k2, k3, k4, k5, k6, k7, k8]
def interned : List (Array UInt16 × Addr) := []
def slotsUsed : Nat := 0
def theMethod : MethodId := ⟨1, 1⟩
def args0 : Array Value := #[.int 5, .int 9]
def aboutOver (below : List Frame) : State where
  vm := { classes := classes, interned := interned.toArray }
  heap := heap
  slotsUsed := slotsUsed
  threads := #[{ frames := .invoking theMethod args0 :: below }]
def below0 : List Frame := [.native { method := ⟨0, 0⟩, args := #[] }]
def about1 : State := aboutOver below0
def p0 : Program := .bare "" "" ""
def e0 : Env := launch0.env 0 0 0
theorem w_frames : about1.frames = Frame.invoking theMethod args0 :: below0 := rfl
set_option maxRecDepth 65536 in
theorem w_args : argsFit about1.vm theMethod args0 = true := by decide +kernel
set_option maxRecDepth 65536 in
theorem w_heap : heapFits about1 = true := by decide +kernel
set_option maxRecDepth 65536 in
theorem w_runnable : about1.curStatus? = some .runnable := by decide +kernel
set_option maxRecDepth 65536 in
theorem w_alone : about1.alone = true := by decide +kernel
set_option maxRecDepth 65536 in
theorem w_named : about1.methodNamed? x = some theMethod := by decide +kernel
set_option maxRecDepth 65536 in
theorem w_hears : about1.hears theMethod below0 = true := by decide +kernel
set_option maxRecDepth 65536 in
theorem w_ripe : about1.ripe theMethod args0 below0 = true := by decide +kernel
theorem w_running : about1.status = .running := rfl
set_option maxRecDepth 65536 in
theorem w_room : about1.hasRoom e0.platform room_1 = true :=
  launch0.hasRoom_least _ room_1 (by decide +kernel) (by decide +kernel) (by decide +kernel) (by decide +kernel) (by decide +kernel) (by decide +kernel)
theorem allAtoms_all (ts : List Jvm.Cond) (a : Array Jvm.Value) (st : Jvm.State) : (allAtoms ts).before a st = ts.all (fun c => c.before a st) := by
  induction ts with
  | nil => rfl
  | cons c t ih =>
    show (Jvm.Cond.and c (allAtoms t)).before a st = _
    rw [Jvm.Cond.before_and, ih, List.all_cons]
def words1 : List Jvm.Cond := Jvm.Cond.code x code maxLocals ret :: tables_1
/-- a 'code' word, met by the world's own term for the bytes: nothing is compared byte by byte -/
theorem code_word {y : MethodName} {bytes : ByteArray} {mx : Nat} {rt : Option FieldType} {a : Array Value} {s : State} {m : MethodId} {meth : Method} {c : Code} (h1 : s.methodNamed? y = some m) (h2 : s.vm.method? m = some meth) (h3 : meth.code = some c) (h4 : c.code = bytes)
    (h5 : (c.maxLocals == mx && c.exceptionTable.isEmpty && decide (c.maxStack ≤ mostOperands) && decide (meth.sig.returnType = rt) && !meth.locks && decide (parseMethodDescriptor y.desc = some meth.sig)) = true) : (Jvm.Cond.code y bytes mx rt).before a s = true := by
  simp only [Bool.and_eq_true, beq_iff_eq, Bool.not_eq_true', decide_eq_true_eq] at h5
  obtain ⟨⟨⟨⟨⟨g1, g2⟩, g3⟩, g4⟩, g5⟩, g6⟩ := h5
  simp [Cond.before, Cond.holds, Cond.value, h1, h2, h3, h4, g1, g2, g3, g4, g5, g6]
def isCode : Jvm.Cond → Bool
  | .code _ _ _ _ => true
  | _ => false
theorem all_split {L : List Jvm.Cond} {P : Jvm.Cond → Bool} (h1 : L.all (fun c => isCode c || P c) = true) (h2 : ∀ c ∈ L.filter isCode, P c = true) : L.all P = true := by
  refine List.all_eq_true.mpr fun c hc => ?_
  have h := List.all_eq_true.mp h1 c hc
  rcases Bool.eq_false_or_eq_true (isCode c) with hi | hi
  · exact h2 c (List.mem_filter.mpr ⟨hc, hi⟩)
  · simpa [hi] using h
set_option maxRecDepth 65536 in
theorem w_c0 : (Jvm.Cond.code x code maxLocals ret).before args0 about1 = true := code_word (m := ⟨1, 1⟩) (meth := k1m1) (c := k1c1) (by decide +kernel) rfl rfl rfl (by decide +kernel)
set_option maxRecDepth 65536 in
theorem w_c1 : (Jvm.Cond.code ({ cls := "com/example/succession/succession/Format", name := "isCompact", desc := "(I)Z" } : Jvm.MethodName) prog_18_method_2_code (1 : Nat) (Option.some Jvm.ClassFile.FieldType.boolean)).before args0 about1 = true := code_word (m := ⟨2, 1⟩) (meth := k2m1) (c := k2c1) (by decide +kernel) rfl rfl rfl (by decide +kernel)
def codes1 : List Jvm.Cond := [Jvm.Cond.code x code maxLocals ret, Jvm.Cond.code ({ cls := "com/example/succession/succession/Format", name := "isCompact", desc := "(I)Z" } : Jvm.MethodName) prog_18_method_2_code (1 : Nat) (Option.some Jvm.ClassFile.FieldType.boolean)]
set_option maxRecDepth 65536 in
theorem codes_eq : words1.filter isCode = codes1 := rfl
theorem w_codes : ∀ c ∈ words1.filter isCode, c.before args0 about1 = true := by
  rw [codes_eq]
  intro c hc
  simp only [codes1, List.mem_cons, List.not_mem_nil, or_false] at hc
  rcases hc with rfl | rfl
  · exact w_c0
  · exact w_c1
set_option maxRecDepth 65536 in
theorem w_t1 : words1.all (fun c => isCode c || c.before args0 about1) = true := by decide +kernel
theorem w_tables : (allAtoms (Jvm.Cond.code x code maxLocals ret :: tables_1)).before args0 about1 = true := by
  rw [allAtoms_all]
  show words1.all (fun c => c.before args0 about1) = true
  refine all_split ?_ w_codes
  rw [w_t1]
set_option maxRecDepth 65536 in
theorem w_case : (Jvm.Cond.and given_1 narrow_1).before args0 about1 = true := by decide +kernel
theorem w_applies : (headSpec (Jvm.Cond.code x code maxLocals ret :: tables_1) room_1).applies x e0.platform about1 = true :=
  (Spec.applies_iff w_frames).mpr ⟨w_running, w_runnable, w_alone, w_named, w_hears, w_ripe, w_room, w_tables⟩
theorem atStart : AtStart classFile x code maxLocals ret World_1 tables_1 room_1 Calls_1 rest_1 Pre_1 launch0 p0 e0 about1 theMethod args0 below0 :=
  ⟨lists_1, trivial, launch0.admits_env _ _ _, launch0.least_env, fairChoices_fair.cas, fairChoices_fair.clock, w_frames, w_args, w_heap, w_applies, trivial, trivial, w_case⟩
end start1
theorem witness_1 : WitnessClaimed_1 := ⟨start1.p0, start1.e0, start1.about1, start1.theMethod, start1.args0, start1.below0, start1.atStart⟩
end Jvm.Pilot.@@N@@
