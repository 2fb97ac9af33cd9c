import JvmDerived
import JvmDerived.Pilot.@@N@@Statement
import JvmDerived.Pilot.@@N@@Code
set_option linter.unusedVariables false
set_option linter.unusedSimpArgs false
namespace Jvm.Pilot.@@N@@
open Jvm Jvm.ClassFile Sem Op Lib Jvm.Free Jvm.Stand Jvm.LawKit Jvm.RoadKit Bundle Jvm.Pilot.@@N@@.Jvm.D
section Own
variable {p : Program} {l : Launch} {e : Env} {R : Room} {s : State} {m : MethodId} {args : Array Value} {below : List Frame} {meth : Method} {c : Code} {T : State} {locs : List Loc} {cells slots : Nat}
/-- from this frame on the run comes to an end of which Φ holds -/
def own_Go (tb : Tables) (e : Env) (below : List Frame) (T : State) (g : JFrame) (Φ : State → Outcome → Prop) : Prop :=
  ∃ s₂ o, Steps tb e below (T.setTop g) s₂ ∧ s₂.status = .running ∧ Ended s₂ below o ∧ Φ s₂ o
def own_End (s : State) (Q : Option Value → Heap → List Loc → Prop) (k n : Nat) (t : State) (o : Outcome) : Prop := ∃ v L, o = .returned v ∧ Q v t.heap L ∧ FrameEnd s o t L k n
theorem own_st {tb : Tables} {T' : State} {g g' : JFrame} {Φ : State → Outcome → Prop} (h : own_Go tb e below T' g' Φ) (k : ∀ t, Steps tb e below (T'.setTop g') t → Steps tb e below (T.setTop g) t) : own_Go tb e below T g Φ := by
  obtain ⟨s₂, o, h1, h2⟩ := h
  exact ⟨s₂, o, k _ h1, h2⟩
theorem own_in {tb : Tables} {g g' : JFrame} {Q : Option Value → Heap → List Loc → Prop} {k n : Nat} (q : g = g') (h : own_Go tb e below T g' (own_End s Q k n)) : ∃ s₂ o, Steps tb e below (T.setTop g) s₂ ∧ s₂.status = .running ∧ Ended s₂ below o ∧ ∃ v L, o = .returned v ∧ Q v s₂.heap L ∧ FrameEnd s o s₂ L k n := by
  subst q
  exact h
theorem own_ret (X : Stand p l e R s m args below meth c T locs cells slots) (hlocks : meth.locks = false) {g : JFrame} {v : Option Value} (hv : meth.sig.returnType = none → v = none) {Q : Option Value → Heap → List Loc → Prop} {k n : Nat} (hk : cells ≤ k) (hn : slots ≤ n) (hQ : Q v T.heap locs)
    (hst : ∀ fs, (∀ (f : JFrame) (acts : List Action), f.method = m → f.locked = none → f.entered = [] → (doReturn e (T.setTop f) acts v).1 = T.setFrames fs) → Steps p.tables e below (T.setTop g) (T.setFrames fs)) : own_Go p.tables e below T g (own_End s Q k n) := by
  obtain ⟨fs, hr, hrun, hended, hW, hsame⟩ := X.leave (v := v) hv hlocks
  exact ⟨_, _, hst fs hr, hrun, hended, _, _, rfl, hQ, ⟨_, rfl⟩, hW, hsame.mono hk hn⟩
theorem own_retZ (X : Stand p l e R s m args below meth c T locs cells slots) (hx : p.tables.exec = Jvm.exec) (hlocks : meth.locks = false) {pc : Nat} {Ls : Array Slot} {z : Int32} {rest : List Value} (hret : meth.sig.returnType = some .boolean) (hd : decode c.code pc = .ok (.ireturn, 1)) {Q : Option Value → Heap → List Loc → Prop} {k n : Nat} (hk : cells ≤ k) (hn : slots ≤ n) (hz : z &&& 1 = z) (hQ : Q (some (.int z)) T.heap locs) :
    own_Go p.tables e below T (mkF m pc Ls (.int z :: rest)) (own_End s Q k n) :=
  own_ret X hlocks (fun h => by rw [hret] at h; cases h) hk hn hQ fun fs hr => retOut X hx hret (by show Value.int (z &&& 1) = _; rw [hz]) (Or.inl ⟨rfl, Or.inr (Or.inl rfl), _, rfl⟩) hd hr
theorem own_retI (X : Stand p l e R s m args below meth c T locs cells slots) (hx : p.tables.exec = Jvm.exec) (hlocks : meth.locks = false) {pc : Nat} {Ls : Array Slot} {z : Int32} {rest : List Value} (hret : meth.sig.returnType = some .int) (hd : decode c.code pc = .ok (.ireturn, 1)) {Q : Option Value → Heap → List Loc → Prop} {k n : Nat} (hk : cells ≤ k) (hn : slots ≤ n) (hQ : Q (some (.int z)) T.heap locs) :
    own_Go p.tables e below T (mkF m pc Ls (.int z :: rest)) (own_End s Q k n) :=
  own_ret X hlocks (fun h => by rw [hret] at h; cases h) hk hn hQ fun fs hr => retOut X hx hret rfl (Or.inl ⟨rfl, Or.inl rfl, _, rfl⟩) hd hr
theorem own_retJ (X : Stand p l e R s m args below meth c T locs cells slots) (hx : p.tables.exec = Jvm.exec) (hlocks : meth.locks = false) {pc : Nat} {Ls : Array Slot} {z : Int64} {rest : List Value} (hret : meth.sig.returnType = some .long) (hd : decode c.code pc = .ok (.lreturn, 1)) {Q : Option Value → Heap → List Loc → Prop} {k n : Nat} (hk : cells ≤ k) (hn : slots ≤ n) (hQ : Q (some (.long z)) T.heap locs) :
    own_Go p.tables e below T (mkF m pc Ls (.long z :: rest)) (own_End s Q k n) :=
  own_ret X hlocks (fun h => by rw [hret] at h; cases h) hk hn hQ fun fs hr => retOut X hx hret rfl (Or.inr (Or.inl ⟨rfl, rfl, _, rfl⟩)) hd hr
theorem own_retA (X : Stand p l e R s m args below meth c T locs cells slots) (hx : p.tables.exec = Jvm.exec) (hlocks : meth.locks = false) {pc : Nat} {Ls : Array Slot} {z : Addr} {rest : List Value} {C : String} (hret : meth.sig.returnType = some (.object C)) (hd : decode c.code pc = .ok (.areturn, 1)) {Q : Option Value → Heap → List Loc → Prop} {k n : Nat} (hk : cells ≤ k) (hn : slots ≤ n) (hQ : Q (some (.ref z)) T.heap locs) :
    own_Go p.tables e below T (mkF m pc Ls (.ref z :: rest)) (own_End s Q k n) :=
  own_ret X hlocks (fun h => by rw [hret] at h; cases h) hk hn hQ fun fs hr => retOut X hx hret rfl (Or.inr (Or.inr (Or.inr (Or.inr ⟨rfl, rfl, rfl⟩)))) hd hr
theorem own_retV (X : Stand p l e R s m args below meth c T locs cells slots) (hx : p.tables.exec = Jvm.exec) (hlocks : meth.locks = false) {pc : Nat} {Ls : Array Slot} (hret : meth.sig.returnType = none) (hd : decode c.code pc = .ok (.return_, 1)) {Q : Option Value → Heap → List Loc → Prop} {k n : Nat} (hk : cells ≤ k) (hn : slots ≤ n) (hQ : Q none T.heap locs) :
    own_Go p.tables e below T (mkF m pc Ls []) (own_End s Q k n) :=
  own_ret X hlocks (fun _ => rfl) hk hn hQ fun fs hr => X.returnOut hx hret hd hr
/-- a truth as Java's int -/
def own_b (b : Bool) : Int32 := if b then 1 else 0
theorem own_bt {b : Bool} (h : b = true) : own_b b = 1 := by rw [h]; rfl
theorem own_bf {b : Bool} (h : b = false) : own_b b = 0 := by rw [h]; rfl
theorem own_bz {a : Bool} : own_b a = 0 ↔ a = false := by cases a <;> decide
theorem own_bo {a : Bool} : own_b a = 1 ↔ a = true := by cases a <;> decide
theorem own_zb {a : Bool} : 0 = own_b a ↔ a = false := by cases a <;> decide
theorem own_ob {a : Bool} : 1 = own_b a ↔ a = true := by cases a <;> decide
theorem own_binj {a b : Bool} : own_b a = own_b b ↔ a = b := by cases a <;> cases b <;> decide
theorem own_b1 (a : Bool) : own_b a &&& 1 = own_b a := by cases a <;> decide
end Own
theorem own_I0 : (0 : Int32).toInt = 0 := by decide +kernel
theorem own_J0 : (0 : Int64).toInt = 0 := by decide +kernel
theorem own_I1 : (1 : Int32).toInt = 1 := by decide +kernel
theorem own_J1 : (1 : Int64).toInt = 1 := by decide +kernel
theorem own_I2 : (2 : Int32).toInt = 2 := by decide +kernel
theorem own_J2 : (2 : Int64).toInt = 2 := by decide +kernel
theorem own_J3 : (3 : Int64).toInt = 3 := by decide +kernel
theorem own_I4 : (4 : Int32).toInt = 4 := by decide +kernel
theorem own_J7 : (7 : Int64).toInt = 7 := by decide +kernel
theorem own_J4611686018427387903 : (4611686018427387903 : Int64).toInt = 4611686018427387903 := by decide +kernel
theorem d1_0 : decode prog_16_method_2_code 0 = .ok (.lload_n 0, 1) := by decide +kernel
theorem d1_1 : decode prog_16_method_2_code 1 = .ok (.lconst 0, 1) := by decide +kernel
theorem d1_2 : decode prog_16_method_2_code 2 = .ok (.lcmp, 1) := by decide +kernel
theorem d1_3 : decode prog_16_method_2_code 3 = .ok (.ifCond .le 22, 3) := by decide +kernel
theorem d1_6 : decode prog_16_method_2_code 6 = .ok (.ldc2_w 28, 3) := by decide +kernel
theorem d1_9 : decode prog_16_method_2_code 9 = .ok (.lload_n 2, 1) := by decide +kernel
theorem d1_10 : decode prog_16_method_2_code 10 = .ok (.lmul, 1) := by decide +kernel
theorem d1_11 : decode prog_16_method_2_code 11 = .ok (.lload_n 0, 1) := by decide +kernel
theorem d1_12 : decode prog_16_method_2_code 12 = .ok (.lcmp, 1) := by decide +kernel
theorem d1_13 : decode prog_16_method_2_code 13 = .ok (.ifCond .lt 12, 3) := by decide +kernel
theorem d1_16 : decode prog_16_method_2_code 16 = .ok (.iload 4, 2) := by decide +kernel
theorem d1_18 : decode prog_16_method_2_code 18 = .ok (.ifCond .ne 7, 3) := by decide +kernel
theorem d1_21 : decode prog_16_method_2_code 21 = .ok (.iconst 1, 1) := by decide +kernel
theorem d1_22 : decode prog_16_method_2_code 22 = .ok (.goto 4, 3) := by decide +kernel
theorem d1_25 : decode prog_16_method_2_code 25 = .ok (.iconst 0, 1) := by decide +kernel
theorem d1_26 : decode prog_16_method_2_code 26 = .ok (.ireturn, 1) := by decide +kernel
theorem pn_1 : plainName "com/example/cullprint/cullprint/maintext/Block" = true := by first | (simp [plainName, overriddenIn]; done) | decide +kernel
theorem ef_1 (m : MethodId) (p0 : Int64) (p1 : Int64) (p2 : Int32) : entryFrame m #[(.long p0), (.long p1), (.int p2)] 5 = mkF m 0 #[.val (.long p0), .second, .val (.long p1), .second, .val (.int p2)] [] := by first | (simp [entryFrame, mkF, argsToLocals, Value.category]; done) | rfl
def Q1 (Z : State) (p0 : Int64) (p1 : Int64) (p2 : Int32) (h0 : Heap) (n0 : Nat) (v : Option Value) (h : Heap) (L : List Loc) : Prop := v = some (.int (own_b (decide ((0 : Int32) < lcmpW p0 (0 : Int64) ∧ ¬ lcmpW ((2 : Int64) * p1) p0 < (0 : Int32) ∧ p2 = (0 : Int32))))) ∧ Fr n0 L ∧ h = h0
set_option maxRecDepth 65536 in
set_option maxHeartbeats 40000000 in
theorem rm1 (l : Launch) (Z : State) (a0 : Array Value) (hw : ∀ d ∈ tables_1, d.before a0 Z = true) (ws : List Jvm.Cond) (p0 : Int64) (p1 : Int64) (p2 : Int32) (h0 : Heap) (n0 : Nat) (Z0 : n0 ≤ h0.size)  :
    MetFree l (⟨"com/example/cullprint/cullprint/maintext/Block", "isLinkList", "(JJZ)Z"⟩ : MethodName) (head1 (Jvm.Cond.code (⟨"com/example/cullprint/cullprint/maintext/Block", "isLinkList", "(JJZ)Z"⟩ : MethodName) prog_16_method_2_code 5 (some .boolean) :: ws) ({ frames := 0, cells := 0, slots := 0, locals := 0 } : Room)) (fun a U => a = #[(.long p0), (.long p1), (.int p2)] ∧ Z.Warmed39 U.vm ∧ U.heap = h0) (fun _ _ _ _ _ => True) (fun _ U o U' => ∃ v L, o = .returned v ∧ Q1 Z p0 p1 p2 h0 n0 v U'.heap L ∧ FrameEnd U o U' L ({ frames := 0, cells := 0, slots := 0, locals := 0 } : Room).cells ({ frames := 0, cells := 0, slots := 0, locals := 0 } : Room).slots) := by
  refine MetFree.of_bodySF (plainFor_of_name pn_1) hisR ?_
  intro p e s m args below meth c s₁ Bd hml0 hP hK
  obtain ⟨rfl, hZ, hh⟩ := hP
  have hx := Bd.exec
  have hby := Bd.bytes
  have hml : c.maxLocals = 5 := hml0
  have hown : s.vm.findClass "com/example/cullprint/cullprint/maintext/Block" = some m.cls := findClass_of_methodNamed Bd.named
  have hnm := (name_of_methodNamed Bd.named Bd.method).1
  have X0 : Stand p l e ({ frames := 0, cells := 0, slots := 0, locals := 0 } : Room) s m #[(.long p0), (.long p1), (.int p2)] below meth c s₁ [] 0 0 := Stand.of_body Bd
  have e0 : s₁.heap = h0 := by rw [← hh, Bd.state]; rfl
  have N0 := Fr.nil n0
  have hlk := Bd.notSynchronized
  refine own_in (Q := Q1 Z p0 p1 p2 h0 n0) (ef_1 m p0 p1 p2) ?_
  refine own_st (T' := s₁) (g' := (mkF m 1 #[.val (.long p0), .second, .val (.long p1), .second, .val (.int p2)] [(.long p0)])) ?_ fun _ k => XS.lloadN X0.here hx rfl (hb hby d1_0) rfl k
  refine own_st (T' := s₁) (g' := (mkF m 2 #[.val (.long p0), .second, .val (.long p1), .second, .val (.int p2)] [(.long (0 : Int64)), (.long p0)])) ?_ fun _ k => XS.lconst X0.here hx rfl (hb hby d1_1) k
  refine own_st (T' := s₁) (g' := (mkF m 3 #[.val (.long p0), .second, .val (.long p1), .second, .val (.int p2)] [(.int (lcmpW p0 (0 : Int64)))])) ?_ fun _ k => XS.lcmp X0.here hx rfl (hb hby d1_2) rfl k
  by_cases hc1 : (0 : Int32) < (lcmpW p0 (0 : Int64))
  · refine own_st (T' := s₁) (g' := (mkF m 6 #[.val (.long p0), .second, .val (.long p1), .second, .val (.int p2)] [])) ?_ fun _ k => XS.ifNo X0.here hx rfl (hb hby d1_3) rfl ((if0 _ _).trans (tlt hc1).2.2.2) k
    refine own_st (T' := s₁) (g' := (mkF m 9 #[.val (.long p0), .second, .val (.long p1), .second, .val (.int p2)] [(.long (2 : Int64))])) ?_ fun _ k => X0.ldc2Long hx hown (mvT hZ (hw _ (List.mem_of_getElem? (i := 7) rfl))) (g := (mkF m 6 #[.val (.long p0), .second, .val (.long p1), .second, .val (.int p2)] [])) rfl (hb hby d1_6) _ k
    refine own_st (T' := s₁) (g' := (mkF m 10 #[.val (.long p0), .second, .val (.long p1), .second, .val (.int p2)] [(.long p1), (.long (2 : Int64))])) ?_ fun _ k => XS.lloadN X0.here hx rfl (hb hby d1_9) rfl k
    refine own_st (T' := s₁) (g' := (mkF m 11 #[.val (.long p0), .second, .val (.long p1), .second, .val (.int p2)] [(.long ((2 : Int64) * p1))])) ?_ fun _ k => XS.lmul X0.here hx rfl (hb hby d1_10) rfl k
    refine own_st (T' := s₁) (g' := (mkF m 12 #[.val (.long p0), .second, .val (.long p1), .second, .val (.int p2)] [(.long p0), (.long ((2 : Int64) * p1))])) ?_ fun _ k => XS.lloadN X0.here hx rfl (hb hby d1_11) rfl k
    refine own_st (T' := s₁) (g' := (mkF m 13 #[.val (.long p0), .second, .val (.long p1), .second, .val (.int p2)] [(.int (lcmpW ((2 : Int64) * p1) p0))])) ?_ fun _ k => XS.lcmp X0.here hx rfl (hb hby d1_12) rfl k
    by_cases hc2 : (lcmpW ((2 : Int64) * p1) p0) < (0 : Int32)
    · refine own_st (T' := s₁) (g' := (mkF m 25 #[.val (.long p0), .second, .val (.long p1), .second, .val (.int p2)] [])) ?_ fun _ k => XS.ifYes X0.here hx rfl (pc0 := 13) (pc' := 25) rfl (hb hby d1_13) rfl ((if0 _ _).trans (tlt hc2).1) (by decide) (by decide) k
      refine own_st (T' := s₁) (g' := (mkF m 26 #[.val (.long p0), .second, .val (.long p1), .second, .val (.int p2)] [(.int (0 : Int32))])) ?_ fun _ k => XS.iconst X0.here hx rfl (hb hby d1_25) k
      refine own_retZ X0 hx hlk Bd.returns (hb hby d1_26) (Q := (Q1 Z p0 p1 p2 h0 n0)) (by decide) (by decide) (by decide) ?_
      exact ⟨by simp [own_b, hc1, hc2], N0, e0⟩
    · refine own_st (T' := s₁) (g' := (mkF m 16 #[.val (.long p0), .second, .val (.long p1), .second, .val (.int p2)] [])) ?_ fun _ k => XS.ifNo X0.here hx rfl (hb hby d1_13) rfl ((if0 _ _).trans (flt hc2).1) k
      refine own_st (T' := s₁) (g' := (mkF m 18 #[.val (.long p0), .second, .val (.long p1), .second, .val (.int p2)] [(.int p2)])) ?_ fun _ k => XS.iload X0.here hx rfl (hb hby d1_16) rfl k
      by_cases hc3 : p2 = (0 : Int32)
      · refine own_st (T' := s₁) (g' := (mkF m 21 #[.val (.long p0), .second, .val (.long p1), .second, .val (.int p2)] [])) ?_ fun _ k => XS.ifNo X0.here hx rfl (hb hby d1_18) rfl ((if0 _ _).trans (teq hc3).2) k
        refine own_st (T' := s₁) (g' := (mkF m 22 #[.val (.long p0), .second, .val (.long p1), .second, .val (.int p2)] [(.int (1 : Int32))])) ?_ fun _ k => XS.iconst X0.here hx rfl (hb hby d1_21) k
        refine own_st (T' := s₁) (g' := (mkF m 26 #[.val (.long p0), .second, .val (.long p1), .second, .val (.int p2)] [(.int (1 : Int32))])) ?_ fun _ k => XS.goto X0.here hx rfl (pc0 := 22) (pc' := 26) rfl (hb hby d1_22) (by decide) (by decide) k
        refine own_retZ X0 hx hlk Bd.returns (hb hby d1_26) (Q := (Q1 Z p0 p1 p2 h0 n0)) (by decide) (by decide) (by decide) ?_
        exact ⟨by simp [own_b, hc1, hc2, hc3], N0, e0⟩
      · refine own_st (T' := s₁) (g' := (mkF m 25 #[.val (.long p0), .second, .val (.long p1), .second, .val (.int p2)] [])) ?_ fun _ k => XS.ifYes X0.here hx rfl (pc0 := 18) (pc' := 25) rfl (hb hby d1_18) rfl ((if0 _ _).trans (feq hc3).2) (by decide) (by decide) k
        refine own_st (T' := s₁) (g' := (mkF m 26 #[.val (.long p0), .second, .val (.long p1), .second, .val (.int p2)] [(.int (0 : Int32))])) ?_ fun _ k => XS.iconst X0.here hx rfl (hb hby d1_25) k
        refine own_retZ X0 hx hlk Bd.returns (hb hby d1_26) (Q := (Q1 Z p0 p1 p2 h0 n0)) (by decide) (by decide) (by decide) ?_
        exact ⟨by simp [own_b, hc1, hc2, hc3], N0, e0⟩
  · refine own_st (T' := s₁) (g' := (mkF m 25 #[.val (.long p0), .second, .val (.long p1), .second, .val (.int p2)] [])) ?_ fun _ k => XS.ifYes X0.here hx rfl (pc0 := 3) (pc' := 25) rfl (hb hby d1_3) rfl ((if0 _ _).trans (flt hc1).2.2.2) (by decide) (by decide) k
    refine own_st (T' := s₁) (g' := (mkF m 26 #[.val (.long p0), .second, .val (.long p1), .second, .val (.int p2)] [(.int (0 : Int32))])) ?_ fun _ k => XS.iconst X0.here hx rfl (hb hby d1_25) k
    refine own_retZ X0 hx hlk Bd.returns (hb hby d1_26) (Q := (Q1 Z p0 p1 p2 h0 n0)) (by decide) (by decide) (by decide) ?_
    exact ⟨by simp [own_b, hc1], N0, e0⟩
theorem own_law {c l : Int64} {z5 z10 : Int32} (hc0 : 0 ≤ c.toInt) (hc1 : c.toInt < 4611686018427387904) (hl0 : -1 ≤ l.toInt) (hl1 : l.toInt < 4611686018427387904)
    (h5 : z5 = 0 ∨ z5 = 1) (hz : z10 = own_b (decide (z5 = 0 ∧ ¬ lcmpW c 0 = 0 ∧ ¬ lcmpW l ((c + 1) / 2) < 0))) : (own_b (decide ((0 : Int32) < lcmpW c (0 : Int64) ∧ ¬ lcmpW ((2 : Int64) * l) c < (0 : Int32) ∧ z5 = (0 : Int32)))) = z10 := by
  rw [hz, own_binj, decide_eq_decide, lw_gt, lw_lt, lw_eq, lw_lt]
  have e0 : (0 : Int64).toInt = 0 := by decide +kernel
  have e1 : (1 : Int64).toInt = 1 := by decide +kernel
  have e2 : (2 : Int64).toInt = 2 := by decide +kernel
  have m1 : ((2 : Int64) * l).toInt = 2 * l.toInt := by have := c_lmul 2 l; have := rng64 ((2 : Int64) * l); rw [e2] at *; omega
  have a1 : (c + 1).toInt = c.toInt + 1 := by have := c_ladd c 1; have := rng64 (c + 1); rw [e1] at *; omega
  have d1 : ((c + 1) / 2).toInt = (c.toInt + 1) / 2 := by have := (c_ldiv (c + 1) 2 2 e2 (by decide +kernel)).1; rw [a1] at this; exact this (by omega)
  rw [Int64.lt_iff_toInt_lt, Int64.lt_iff_toInt_lt, Int64.lt_iff_toInt_lt, ← Int64.toInt_inj, m1, d1, e0]
  constructor
  · rintro ⟨q1, q2, q3⟩
    exact ⟨q3, by omega, by omega⟩
  · rintro ⟨q1, q2, q3⟩
    exact ⟨by omega, by omega, q1⟩
theorem own_c1 (a : Int64) : 0 ≤ (a &&& (7 : Int64)).toInt ∧ (a &&& (7 : Int64)).toInt < 4611686018427387904 := by
  have := c_maskL a 7 3 (by decide) (by decide +kernel)
  omega
theorem own_c2 (a : Int64) : 0 ≤ (a &&& (4611686018427387903 : Int64)).toInt ∧ (a &&& (4611686018427387903 : Int64)).toInt < 4611686018427387904 := by
  have := c_maskL a 4611686018427387903 62 (by decide) (by decide +kernel)
  omega
theorem own_c3 (a : Int64) : -1 ≤ (a &&& (4611686018427387903 : Int64)).toInt ∧ (a &&& (4611686018427387903 : Int64)).toInt < 4611686018427387904 := by
  have := own_c2 a
  omega
theorem own_c4 {c : Int64} (hc0 : 0 ≤ c.toInt) (hc1 : c.toInt < 4611686018427387904) (b : Int64) : -1 ≤ ((c / (2 : Int64)) + ((b &&& (3 : Int64)) - (1 : Int64))).toInt ∧ ((c / (2 : Int64)) + ((b &&& (3 : Int64)) - (1 : Int64))).toInt < 4611686018427387904 := by
  have e1 : (1 : Int64).toInt = 1 := by decide +kernel
  have e2 : (2 : Int64).toInt = 2 := by decide +kernel
  have h3 := c_maskL b 3 2 (by decide) (by decide +kernel)
  have hd := (c_ldiv c 2 2 e2 (by decide +kernel)).1 hc0
  have hs := c_lsub (b &&& (3 : Int64)) 1
  have rs := rng64 ((b &&& (3 : Int64)) - (1 : Int64))
  have ha := c_ladd (c / (2 : Int64)) ((b &&& (3 : Int64)) - (1 : Int64))
  have ra := rng64 ((c / (2 : Int64)) + ((b &&& (3 : Int64)) - (1 : Int64)))
  omega
theorem pd0_0 : parseMethodDescriptor "(JJZ)Z" = some ⟨[.long, .long, .boolean], some .boolean⟩ := by decide +kernel
theorem pn_0 : plainName "com/example/cullprint/cullprint/maintext/BlockIsLinkListPinLaw" = true := by first | (simp [plainName, overriddenIn]; done) | decide +kernel
theorem ef_0 (m : MethodId) (p0 : Int64) (p1 : Int64) (p2 : Int32) : entryFrame m #[(.long p0), (.long p1), (.int p2)] maxLocals = mkF m 0 #[.val (.long p0), .second, .val (.long p1), .second, .val (.int p2), .unset, .unset, .unset, .unset, .unset, .unset] [] := by first | (simp [entryFrame, mkF, argsToLocals, Value.category, maxLocals]; done) | rfl
def Q0 (Z : State) (p0 : Int64) (p1 : Int64) (p2 : Int32) (h0 : Heap) (n0 : Nat) (v : Option Value) (h : Heap) (L : List Loc) : Prop := v = some (.int 1) ∧ Fr n0 L
set_option maxRecDepth 65536 in
set_option maxHeartbeats 40000000 in
theorem rm0 (l : Launch) (Z : State) (a0 : Array Value) (hw : ∀ d ∈ tables_1, d.before a0 Z = true) (ws : List Jvm.Cond) (p0 : Int64) (p1 : Int64) (p2 : Int32) (h0 : Heap) (n0 : Nat) (Z0 : n0 ≤ h0.size)  :
    MetFree l x (head1 (Jvm.Cond.code x code maxLocals ret :: ws) room_1) (fun a U => a = #[(.long p0), (.long p1), (.int p2)] ∧ Z.Warmed39 U.vm ∧ U.heap = h0) (fun _ _ _ _ _ => True) (fun _ U o U' => ∃ v L, o = .returned v ∧ Q0 Z p0 p1 p2 h0 n0 v U'.heap L ∧ FrameEnd U o U' L 0 0) := by
  refine MetFree.of_bodySF (plainFor_of_name pn_0) hisR ?_
  intro p e s m args below meth c s₁ Bd hml0 hP hK
  obtain ⟨rfl, hZ, hh⟩ := hP
  have hx := Bd.exec
  have hby := Bd.bytes
  have hml : c.maxLocals = 11 := hml0
  have hown : s.vm.findClass "com/example/cullprint/cullprint/maintext/BlockIsLinkListPinLaw" = some m.cls := findClass_of_methodNamed Bd.named
  have hnm := (name_of_methodNamed Bd.named Bd.method).1
  have X0 : Stand p l e room_1 s m #[(.long p0), (.long p1), (.int p2)] below meth c s₁ [] 0 0 := Stand.of_body Bd
  have e0 : s₁.heap = h0 := by rw [← hh, Bd.state]; rfl
  have N0 := Fr.nil n0
  have hlk := Bd.notSynchronized
  refine own_in (Q := Q0 Z p0 p1 p2 h0 n0) (ef_0 m p0 p1 p2) ?_
  have k12 : ∀ (z12 : Int32) (hz12 : z12 = 0 ∨ z12 = 1), own_Go p.tables e below s₁ (mkF m 12 #[.val (.long p0), .second, .val (.long p1), .second, .val (.int p2), .unset, .unset, .unset, .unset, .unset, .unset] [(.int z12)]) (own_End s (Q0 Z p0 p1 p2 h0 n0) 0 0) := by
    intro z12 hz12
    refine own_st (T' := s₁) (g' := (mkF m 14 #[.val (.long p0), .second, .val (.long p1), .second, .val (.int p2), .val (.int z12), .unset, .unset, .unset, .unset, .unset] [])) ?_ fun _ k => XS.istore X0.here hx rfl (hb hby at_12) rfl (l' := #[.val (.long p0), .second, .val (.long p1), .second, .val (.int p2), .val (.int z12), .unset, .unset, .unset, .unset, .unset]) rfl k
    have k34 : ∀ (cc : Int64) (hz34 : 0 ≤ cc.toInt ∧ cc.toInt < 4611686018427387904), own_Go p.tables e below s₁ (mkF m 34 #[.val (.long p0), .second, .val (.long p1), .second, .val (.int p2), .val (.int z12), .unset, .unset, .unset, .unset, .unset] [(.long cc)]) (own_End s (Q0 Z p0 p1 p2 h0 n0) 0 0) := by
      intro cc hz34
      refine own_st (T' := s₁) (g' := (mkF m 36 #[.val (.long p0), .second, .val (.long p1), .second, .val (.int p2), .val (.int z12), .val (.long cc), .second, .unset, .unset, .unset] [])) ?_ fun _ k => XS.lstore X0.here hx rfl (hb hby at_34) rfl (l' := #[.val (.long p0), .second, .val (.long p1), .second, .val (.int p2), .val (.int z12), .val (.long cc), .second, .unset, .unset, .unset]) rfl k
      have k65 : ∀ (d : Int64) (hz65 : -1 ≤ d.toInt ∧ d.toInt < 4611686018427387904), own_Go p.tables e below s₁ (mkF m 65 #[.val (.long p0), .second, .val (.long p1), .second, .val (.int p2), .val (.int z12), .val (.long cc), .second, .unset, .unset, .unset] [(.long d)]) (own_End s (Q0 Z p0 p1 p2 h0 n0) 0 0) := by
        intro d hz65
        refine own_st (T' := s₁) (g' := (mkF m 67 #[.val (.long p0), .second, .val (.long p1), .second, .val (.int p2), .val (.int z12), .val (.long cc), .second, .val (.long d), .second, .unset] [])) ?_ fun _ k => XS.lstore X0.here hx rfl (hb hby at_65) rfl (l' := #[.val (.long p0), .second, .val (.long p1), .second, .val (.int p2), .val (.int z12), .val (.long cc), .second, .val (.long d), .second, .unset]) rfl k
        have k112 : ∀ (z110 : Int32) (hz110 : z110 = own_b (decide (z12 = 0 ∧ ¬ lcmpW cc 0 = 0 ∧ ¬ lcmpW d ((cc + 1) / 2) < 0))), own_Go p.tables e below s₁ (mkF m 112 #[.val (.long p0), .second, .val (.long p1), .second, .val (.int p2), .val (.int z12), .val (.long cc), .second, .val (.long d), .second, .val (.int z110)] []) (own_End s (Q0 Z p0 p1 p2 h0 n0) 0 0) := by
          intro z110 hz110
          refine own_st (T' := s₁) (g' := (mkF m 114 #[.val (.long p0), .second, .val (.long p1), .second, .val (.int p2), .val (.int z12), .val (.long cc), .second, .val (.long d), .second, .val (.int z110)] [(.long cc)])) ?_ fun _ k => XS.lload X0.here hx rfl (hb hby at_112) rfl k
          refine own_st (T' := s₁) (g' := (mkF m 116 #[.val (.long p0), .second, .val (.long p1), .second, .val (.int p2), .val (.int z12), .val (.long cc), .second, .val (.long d), .second, .val (.int z110)] [(.long d), (.long cc)])) ?_ fun _ k => XS.lload X0.here hx rfl (hb hby at_114) rfl k
          refine own_st (T' := s₁) (g' := (mkF m 118 #[.val (.long p0), .second, .val (.long p1), .second, .val (.int p2), .val (.int z12), .val (.long cc), .second, .val (.long d), .second, .val (.int z110)] [(.int z12), (.long d), (.long cc)])) ?_ fun _ k => XS.iload X0.here hx rfl (hb hby at_116) rfl k
          obtain ⟨_, _, ⟨T1, L1, k1, n1⟩, -, X1, ⟨Lc1, hQ1, l1, y1, z1⟩, st1⟩ := Jvm.LawKit.callS X0 hx (y := (⟨"com/example/cullprint/cullprint/maintext/Block", "isLinkList", "(JJZ)Z"⟩ : MethodName)) hown (mvT hZ (hw _ (List.mem_of_getElem? (i := 3) rfl))) (mvT hZ (hw _ (List.mem_of_getElem? (i := 4) rfl))) (mvT hZ (hw _ (List.mem_of_getElem? (i := 5) rfl))) (mvT hZ (hw _ (List.mem_of_getElem? (i := 6) rfl))) (by decide) (backOf (W := 0) (rm1 l Z a0 hw [] cc d z12 h0 n0 Z0 ) hZ (hw _ (List.mem_of_getElem? (i := 6) rfl)) (hw _ (List.mem_of_getElem? (i := 5) rfl)) (by decide) (by decide)) (g := (mkF m 118 #[.val (.long p0), .second, .val (.long p1), .second, .val (.int p2), .val (.int z12), .val (.long cc), .second, .val (.long d), .second, .val (.int z110)] [(.int z12), (.long d), (.long cc)])) rfl (by rw [hml]; rfl) (argsL := [(.long cc), (.long d), (.int z12)]) (rest := []) (lenOf pd0_0 rfl) rfl (by show 2 * 0 + _ ≤ _; exact Nat.le_of_eq rfl) (hb hby at_118) (fun _ _ => ⟨rfl, e0, (by decide : 0 + 0 ≤ _), (by decide : 0 + 0 ≤ _)⟩)
          dsimp only [Pt.U, Pt.locs, Pt.cells, Pt.slots] at X1 l1 y1 z1 st1 hQ1
          subst l1 y1 z1
          obtain ⟨rfl, Nq1, e1⟩ := hQ1
          have N1 := Fr.app N0 Nq1
          refine own_st (T' := T1) (g' := (mkF m 121 #[.val (.long p0), .second, .val (.long p1), .second, .val (.int p2), .val (.int z12), .val (.long cc), .second, .val (.long d), .second, .val (.int z110)] [(.int (own_b (decide ((0 : Int32) < lcmpW cc (0 : Int64) ∧ ¬ lcmpW ((2 : Int64) * d) cc < (0 : Int32) ∧ z12 = (0 : Int32)))))])) ?_ fun _ k => st1 _ k
          refine own_st (T' := T1) (g' := (mkF m 123 #[.val (.long p0), .second, .val (.long p1), .second, .val (.int p2), .val (.int z12), .val (.long cc), .second, .val (.long d), .second, .val (.int z110)] [(.int z110), (.int (own_b (decide ((0 : Int32) < lcmpW cc (0 : Int64) ∧ ¬ lcmpW ((2 : Int64) * d) cc < (0 : Int32) ∧ z12 = (0 : Int32)))))])) ?_ fun _ k => XS.iload X1.here hx rfl (hb hby at_121) rfl k
          refine own_st (T' := T1) (g' := (mkF m 126 #[.val (.long p0), .second, .val (.long p1), .second, .val (.int p2), .val (.int z12), .val (.long cc), .second, .val (.long d), .second, .val (.int z110)] [])) ?_ fun _ k => XS.icmpNo X1.here hx rfl (hb hby at_123) rfl ((teq (own_law hz34.1 hz34.2 hz65.1 hz65.2 hz12 hz110)).2) k
          refine own_st (T' := T1) (g' := (mkF m 127 #[.val (.long p0), .second, .val (.long p1), .second, .val (.int p2), .val (.int z12), .val (.long cc), .second, .val (.long d), .second, .val (.int z110)] [(.int (1 : Int32))])) ?_ fun _ k => XS.iconst X1.here hx rfl (hb hby at_126) k
          refine own_st (T' := T1) (g' := (mkF m 131 #[.val (.long p0), .second, .val (.long p1), .second, .val (.int p2), .val (.int z12), .val (.long cc), .second, .val (.long d), .second, .val (.int z110)] [(.int (1 : Int32))])) ?_ fun _ k => XS.goto X1.here hx rfl (pc0 := 127) (pc' := 131) rfl (hb hby at_127) (by decide) (by decide) k
          refine own_retZ X1 hx hlk Bd.returns (hb hby at_131) (Q := (Q0 Z p0 p1 p2 h0 n0)) (by decide) (by decide) (by decide) ?_
          exact ⟨rfl, N1⟩
        refine own_st (T' := s₁) (g' := (mkF m 69 #[.val (.long p0), .second, .val (.long p1), .second, .val (.int p2), .val (.int z12), .val (.long cc), .second, .val (.long d), .second, .unset] [(.int z12)])) ?_ fun _ k => XS.iload X0.here hx rfl (hb hby at_67) rfl k
        by_cases hc2 : z12 = (0 : Int32)
        · refine own_st (T' := s₁) (g' := (mkF m 78 #[.val (.long p0), .second, .val (.long p1), .second, .val (.int p2), .val (.int z12), .val (.long cc), .second, .val (.long d), .second, .unset] [])) ?_ fun _ k => XS.ifYes X0.here hx rfl (pc0 := 69) (pc' := 78) rfl (hb hby at_69) rfl ((if0 _ _).trans (teq hc2).1) (by decide) (by decide) k
          refine own_st (T' := s₁) (g' := (mkF m 80 #[.val (.long p0), .second, .val (.long p1), .second, .val (.int p2), .val (.int z12), .val (.long cc), .second, .val (.long d), .second, .unset] [(.long cc)])) ?_ fun _ k => XS.lload X0.here hx rfl (hb hby at_78) rfl k
          refine own_st (T' := s₁) (g' := (mkF m 81 #[.val (.long p0), .second, .val (.long p1), .second, .val (.int p2), .val (.int z12), .val (.long cc), .second, .val (.long d), .second, .unset] [(.long (0 : Int64)), (.long cc)])) ?_ fun _ k => XS.lconst X0.here hx rfl (hb hby at_80) k
          refine own_st (T' := s₁) (g' := (mkF m 82 #[.val (.long p0), .second, .val (.long p1), .second, .val (.int p2), .val (.int z12), .val (.long cc), .second, .val (.long d), .second, .unset] [(.int (lcmpW cc (0 : Int64)))])) ?_ fun _ k => XS.lcmp X0.here hx rfl (hb hby at_81) rfl k
          by_cases hc3 : (lcmpW cc (0 : Int64)) = (0 : Int32)
          · refine own_st (T' := s₁) (g' := (mkF m 85 #[.val (.long p0), .second, .val (.long p1), .second, .val (.int p2), .val (.int z12), .val (.long cc), .second, .val (.long d), .second, .unset] [])) ?_ fun _ k => XS.ifNo X0.here hx rfl (hb hby at_82) rfl ((if0 _ _).trans (teq hc3).2) k
            refine own_st (T' := s₁) (g' := (mkF m 86 #[.val (.long p0), .second, .val (.long p1), .second, .val (.int p2), .val (.int z12), .val (.long cc), .second, .val (.long d), .second, .unset] [(.int (0 : Int32))])) ?_ fun _ k => XS.iconst X0.here hx rfl (hb hby at_85) k
            refine own_st (T' := s₁) (g' := (mkF m 88 #[.val (.long p0), .second, .val (.long p1), .second, .val (.int p2), .val (.int z12), .val (.long cc), .second, .val (.long d), .second, .val (.int (0 : Int32))] [])) ?_ fun _ k => XS.istore X0.here hx rfl (hb hby at_86) rfl (l' := #[.val (.long p0), .second, .val (.long p1), .second, .val (.int p2), .val (.int z12), .val (.long cc), .second, .val (.long d), .second, .val (.int (0 : Int32))]) rfl k
            refine own_st (T' := s₁) (g' := (mkF m 112 #[.val (.long p0), .second, .val (.long p1), .second, .val (.int p2), .val (.int z12), .val (.long cc), .second, .val (.long d), .second, .val (.int (0 : Int32))] [])) ?_ fun _ k => XS.goto X0.here hx rfl (pc0 := 88) (pc' := 112) rfl (hb hby at_88) (by decide) (by decide) k
            exact k112 _ (by simp [own_b, hc2, hc3])
          · refine own_st (T' := s₁) (g' := (mkF m 91 #[.val (.long p0), .second, .val (.long p1), .second, .val (.int p2), .val (.int z12), .val (.long cc), .second, .val (.long d), .second, .unset] [])) ?_ fun _ k => XS.ifYes X0.here hx rfl (pc0 := 82) (pc' := 91) rfl (hb hby at_82) rfl ((if0 _ _).trans (feq hc3).2) (by decide) (by decide) k
            refine own_st (T' := s₁) (g' := (mkF m 93 #[.val (.long p0), .second, .val (.long p1), .second, .val (.int p2), .val (.int z12), .val (.long cc), .second, .val (.long d), .second, .unset] [(.long d)])) ?_ fun _ k => XS.lload X0.here hx rfl (hb hby at_91) rfl k
            refine own_st (T' := s₁) (g' := (mkF m 95 #[.val (.long p0), .second, .val (.long p1), .second, .val (.int p2), .val (.int z12), .val (.long cc), .second, .val (.long d), .second, .unset] [(.long cc), (.long d)])) ?_ fun _ k => XS.lload X0.here hx rfl (hb hby at_93) rfl k
            refine own_st (T' := s₁) (g' := (mkF m 96 #[.val (.long p0), .second, .val (.long p1), .second, .val (.int p2), .val (.int z12), .val (.long cc), .second, .val (.long d), .second, .unset] [(.long (1 : Int64)), (.long cc), (.long d)])) ?_ fun _ k => XS.lconst X0.here hx rfl (hb hby at_95) k
            refine own_st (T' := s₁) (g' := (mkF m 97 #[.val (.long p0), .second, .val (.long p1), .second, .val (.int p2), .val (.int z12), .val (.long cc), .second, .val (.long d), .second, .unset] [(.long (cc + (1 : Int64))), (.long d)])) ?_ fun _ k => XS.ladd X0.here hx rfl (hb hby at_96) rfl k
            refine own_st (T' := s₁) (g' := (mkF m 100 #[.val (.long p0), .second, .val (.long p1), .second, .val (.int p2), .val (.int z12), .val (.long cc), .second, .val (.long d), .second, .unset] [(.long (2 : Int64)), (.long (cc + (1 : Int64))), (.long d)])) ?_ fun _ k => X0.ldc2Long hx hown (mvT hZ (hw _ (List.mem_of_getElem? (i := 1) rfl))) (g := (mkF m 97 #[.val (.long p0), .second, .val (.long p1), .second, .val (.int p2), .val (.int z12), .val (.long cc), .second, .val (.long d), .second, .unset] [(.long (cc + (1 : Int64))), (.long d)])) rfl (hb hby at_97) _ k
            refine own_st (T' := s₁) (g' := (mkF m 101 #[.val (.long p0), .second, .val (.long p1), .second, .val (.int p2), .val (.int z12), .val (.long cc), .second, .val (.long d), .second, .unset] [(.long ((cc + (1 : Int64)) / (2 : Int64))), (.long d)])) ?_ fun _ k => XS.ldiv X0.here hx rfl (hb hby at_100) rfl (by decide) k
            refine own_st (T' := s₁) (g' := (mkF m 102 #[.val (.long p0), .second, .val (.long p1), .second, .val (.int p2), .val (.int z12), .val (.long cc), .second, .val (.long d), .second, .unset] [(.int (lcmpW d ((cc + (1 : Int64)) / (2 : Int64))))])) ?_ fun _ k => XS.lcmp X0.here hx rfl (hb hby at_101) rfl k
            by_cases hc4 : (lcmpW d ((cc + (1 : Int64)) / (2 : Int64))) < (0 : Int32)
            · refine own_st (T' := s₁) (g' := (mkF m 109 #[.val (.long p0), .second, .val (.long p1), .second, .val (.int p2), .val (.int z12), .val (.long cc), .second, .val (.long d), .second, .unset] [])) ?_ fun _ k => XS.ifYes X0.here hx rfl (pc0 := 102) (pc' := 109) rfl (hb hby at_102) rfl ((if0 _ _).trans (tlt hc4).1) (by decide) (by decide) k
              refine own_st (T' := s₁) (g' := (mkF m 110 #[.val (.long p0), .second, .val (.long p1), .second, .val (.int p2), .val (.int z12), .val (.long cc), .second, .val (.long d), .second, .unset] [(.int (0 : Int32))])) ?_ fun _ k => XS.iconst X0.here hx rfl (hb hby at_109) k
              refine own_st (T' := s₁) (g' := (mkF m 112 #[.val (.long p0), .second, .val (.long p1), .second, .val (.int p2), .val (.int z12), .val (.long cc), .second, .val (.long d), .second, .val (.int (0 : Int32))] [])) ?_ fun _ k => XS.istore X0.here hx rfl (hb hby at_110) rfl (l' := #[.val (.long p0), .second, .val (.long p1), .second, .val (.int p2), .val (.int z12), .val (.long cc), .second, .val (.long d), .second, .val (.int (0 : Int32))]) rfl k
              exact k112 _ (by simp [own_b, hc2, hc3, hc4])
            · refine own_st (T' := s₁) (g' := (mkF m 105 #[.val (.long p0), .second, .val (.long p1), .second, .val (.int p2), .val (.int z12), .val (.long cc), .second, .val (.long d), .second, .unset] [])) ?_ fun _ k => XS.ifNo X0.here hx rfl (hb hby at_102) rfl ((if0 _ _).trans (flt hc4).1) k
              refine own_st (T' := s₁) (g' := (mkF m 106 #[.val (.long p0), .second, .val (.long p1), .second, .val (.int p2), .val (.int z12), .val (.long cc), .second, .val (.long d), .second, .unset] [(.int (1 : Int32))])) ?_ fun _ k => XS.iconst X0.here hx rfl (hb hby at_105) k
              refine own_st (T' := s₁) (g' := (mkF m 110 #[.val (.long p0), .second, .val (.long p1), .second, .val (.int p2), .val (.int z12), .val (.long cc), .second, .val (.long d), .second, .unset] [(.int (1 : Int32))])) ?_ fun _ k => XS.goto X0.here hx rfl (pc0 := 106) (pc' := 110) rfl (hb hby at_106) (by decide) (by decide) k
              refine own_st (T' := s₁) (g' := (mkF m 112 #[.val (.long p0), .second, .val (.long p1), .second, .val (.int p2), .val (.int z12), .val (.long cc), .second, .val (.long d), .second, .val (.int (1 : Int32))] [])) ?_ fun _ k => XS.istore X0.here hx rfl (hb hby at_110) rfl (l' := #[.val (.long p0), .second, .val (.long p1), .second, .val (.int p2), .val (.int z12), .val (.long cc), .second, .val (.long d), .second, .val (.int (1 : Int32))]) rfl k
              exact k112 _ (by simp [own_b, hc2, hc3, hc4])
        · refine own_st (T' := s₁) (g' := (mkF m 72 #[.val (.long p0), .second, .val (.long p1), .second, .val (.int p2), .val (.int z12), .val (.long cc), .second, .val (.long d), .second, .unset] [])) ?_ fun _ k => XS.ifNo X0.here hx rfl (hb hby at_69) rfl ((if0 _ _).trans (feq hc2).1) k
          refine own_st (T' := s₁) (g' := (mkF m 73 #[.val (.long p0), .second, .val (.long p1), .second, .val (.int p2), .val (.int z12), .val (.long cc), .second, .val (.long d), .second, .unset] [(.int (0 : Int32))])) ?_ fun _ k => XS.iconst X0.here hx rfl (hb hby at_72) k
          refine own_st (T' := s₁) (g' := (mkF m 75 #[.val (.long p0), .second, .val (.long p1), .second, .val (.int p2), .val (.int z12), .val (.long cc), .second, .val (.long d), .second, .val (.int (0 : Int32))] [])) ?_ fun _ k => XS.istore X0.here hx rfl (hb hby at_73) rfl (l' := #[.val (.long p0), .second, .val (.long p1), .second, .val (.int p2), .val (.int z12), .val (.long cc), .second, .val (.long d), .second, .val (.int (0 : Int32))]) rfl k
          refine own_st (T' := s₁) (g' := (mkF m 112 #[.val (.long p0), .second, .val (.long p1), .second, .val (.int p2), .val (.int z12), .val (.long cc), .second, .val (.long d), .second, .val (.int (0 : Int32))] [])) ?_ fun _ k => XS.goto X0.here hx rfl (pc0 := 75) (pc' := 112) rfl (hb hby at_75) (by decide) (by decide) k
          exact k112 _ (by simp [own_b, hc2])
      refine own_st (T' := s₁) (g' := (mkF m 38 #[.val (.long p0), .second, .val (.long p1), .second, .val (.int p2), .val (.int z12), .val (.long cc), .second, .unset, .unset, .unset] [(.int p2)])) ?_ fun _ k => XS.iload X0.here hx rfl (hb hby at_36) rfl k
      refine own_st (T' := s₁) (g' := (mkF m 39 #[.val (.long p0), .second, .val (.long p1), .second, .val (.int p2), .val (.int z12), .val (.long cc), .second, .unset, .unset, .unset] [(.int (2 : Int32)), (.int p2)])) ?_ fun _ k => XS.iconst X0.here hx rfl (hb hby at_38) k
      refine own_st (T' := s₁) (g' := (mkF m 40 #[.val (.long p0), .second, .val (.long p1), .second, .val (.int p2), .val (.int z12), .val (.long cc), .second, .unset, .unset, .unset] [(.int (p2 &&& (2 : Int32)))])) ?_ fun _ k => XS.iand X0.here hx rfl (hb hby at_39) rfl k
      by_cases hc5 : (p2 &&& (2 : Int32)) = (0 : Int32)
      · refine own_st (T' := s₁) (g' := (mkF m 51 #[.val (.long p0), .second, .val (.long p1), .second, .val (.int p2), .val (.int z12), .val (.long cc), .second, .unset, .unset, .unset] [])) ?_ fun _ k => XS.ifYes X0.here hx rfl (pc0 := 40) (pc' := 51) rfl (hb hby at_40) rfl ((if0 _ _).trans (teq hc5).1) (by decide) (by decide) k
        refine own_st (T' := s₁) (g' := (mkF m 53 #[.val (.long p0), .second, .val (.long p1), .second, .val (.int p2), .val (.int z12), .val (.long cc), .second, .unset, .unset, .unset] [(.long cc)])) ?_ fun _ k => XS.lload X0.here hx rfl (hb hby at_51) rfl k
        refine own_st (T' := s₁) (g' := (mkF m 56 #[.val (.long p0), .second, .val (.long p1), .second, .val (.int p2), .val (.int z12), .val (.long cc), .second, .unset, .unset, .unset] [(.long (2 : Int64)), (.long cc)])) ?_ fun _ k => X0.ldc2Long hx hown (mvT hZ (hw _ (List.mem_of_getElem? (i := 1) rfl))) (g := (mkF m 53 #[.val (.long p0), .second, .val (.long p1), .second, .val (.int p2), .val (.int z12), .val (.long cc), .second, .unset, .unset, .unset] [(.long cc)])) rfl (hb hby at_53) _ k
        refine own_st (T' := s₁) (g' := (mkF m 57 #[.val (.long p0), .second, .val (.long p1), .second, .val (.int p2), .val (.int z12), .val (.long cc), .second, .unset, .unset, .unset] [(.long (cc / (2 : Int64)))])) ?_ fun _ k => XS.ldiv X0.here hx rfl (hb hby at_56) rfl (by decide) k
        refine own_st (T' := s₁) (g' := (mkF m 58 #[.val (.long p0), .second, .val (.long p1), .second, .val (.int p2), .val (.int z12), .val (.long cc), .second, .unset, .unset, .unset] [(.long p1), (.long (cc / (2 : Int64)))])) ?_ fun _ k => XS.lloadN X0.here hx rfl (hb hby at_57) rfl k
        refine own_st (T' := s₁) (g' := (mkF m 61 #[.val (.long p0), .second, .val (.long p1), .second, .val (.int p2), .val (.int z12), .val (.long cc), .second, .unset, .unset, .unset] [(.long (3 : Int64)), (.long p1), (.long (cc / (2 : Int64)))])) ?_ fun _ k => X0.ldc2Long hx hown (mvT hZ (hw _ (List.mem_of_getElem? (i := 2) rfl))) (g := (mkF m 58 #[.val (.long p0), .second, .val (.long p1), .second, .val (.int p2), .val (.int z12), .val (.long cc), .second, .unset, .unset, .unset] [(.long p1), (.long (cc / (2 : Int64)))])) rfl (hb hby at_58) _ k
        refine own_st (T' := s₁) (g' := (mkF m 62 #[.val (.long p0), .second, .val (.long p1), .second, .val (.int p2), .val (.int z12), .val (.long cc), .second, .unset, .unset, .unset] [(.long (p1 &&& (3 : Int64))), (.long (cc / (2 : Int64)))])) ?_ fun _ k => XS.land X0.here hx rfl (hb hby at_61) rfl k
        refine own_st (T' := s₁) (g' := (mkF m 63 #[.val (.long p0), .second, .val (.long p1), .second, .val (.int p2), .val (.int z12), .val (.long cc), .second, .unset, .unset, .unset] [(.long (1 : Int64)), (.long (p1 &&& (3 : Int64))), (.long (cc / (2 : Int64)))])) ?_ fun _ k => XS.lconst X0.here hx rfl (hb hby at_62) k
        refine own_st (T' := s₁) (g' := (mkF m 64 #[.val (.long p0), .second, .val (.long p1), .second, .val (.int p2), .val (.int z12), .val (.long cc), .second, .unset, .unset, .unset] [(.long ((p1 &&& (3 : Int64)) - (1 : Int64))), (.long (cc / (2 : Int64)))])) ?_ fun _ k => XS.lsub X0.here hx rfl (hb hby at_63) rfl k
        refine own_st (T' := s₁) (g' := (mkF m 65 #[.val (.long p0), .second, .val (.long p1), .second, .val (.int p2), .val (.int z12), .val (.long cc), .second, .unset, .unset, .unset] [(.long ((cc / (2 : Int64)) + ((p1 &&& (3 : Int64)) - (1 : Int64))))])) ?_ fun _ k => XS.ladd X0.here hx rfl (hb hby at_64) rfl k
        exact k65 _ (own_c4 hz34.1 hz34.2 p1)
      · refine own_st (T' := s₁) (g' := (mkF m 43 #[.val (.long p0), .second, .val (.long p1), .second, .val (.int p2), .val (.int z12), .val (.long cc), .second, .unset, .unset, .unset] [])) ?_ fun _ k => XS.ifNo X0.here hx rfl (hb hby at_40) rfl ((if0 _ _).trans (feq hc5).1) k
        refine own_st (T' := s₁) (g' := (mkF m 44 #[.val (.long p0), .second, .val (.long p1), .second, .val (.int p2), .val (.int z12), .val (.long cc), .second, .unset, .unset, .unset] [(.long p1)])) ?_ fun _ k => XS.lloadN X0.here hx rfl (hb hby at_43) rfl k
        refine own_st (T' := s₁) (g' := (mkF m 47 #[.val (.long p0), .second, .val (.long p1), .second, .val (.int p2), .val (.int z12), .val (.long cc), .second, .unset, .unset, .unset] [(.long (4611686018427387903 : Int64)), (.long p1)])) ?_ fun _ k => X0.ldc2Long hx hown (mvT hZ (hw _ (List.mem_of_getElem? (i := 0) rfl))) (g := (mkF m 44 #[.val (.long p0), .second, .val (.long p1), .second, .val (.int p2), .val (.int z12), .val (.long cc), .second, .unset, .unset, .unset] [(.long p1)])) rfl (hb hby at_44) _ k
        refine own_st (T' := s₁) (g' := (mkF m 48 #[.val (.long p0), .second, .val (.long p1), .second, .val (.int p2), .val (.int z12), .val (.long cc), .second, .unset, .unset, .unset] [(.long (p1 &&& (4611686018427387903 : Int64)))])) ?_ fun _ k => XS.land X0.here hx rfl (hb hby at_47) rfl k
        refine own_st (T' := s₁) (g' := (mkF m 65 #[.val (.long p0), .second, .val (.long p1), .second, .val (.int p2), .val (.int z12), .val (.long cc), .second, .unset, .unset, .unset] [(.long (p1 &&& (4611686018427387903 : Int64)))])) ?_ fun _ k => XS.goto X0.here hx rfl (pc0 := 48) (pc' := 65) rfl (hb hby at_48) (by decide) (by decide) k
        exact k65 _ (own_c3 p1)
    refine own_st (T' := s₁) (g' := (mkF m 16 #[.val (.long p0), .second, .val (.long p1), .second, .val (.int p2), .val (.int z12), .unset, .unset, .unset, .unset, .unset] [(.int p2)])) ?_ fun _ k => XS.iload X0.here hx rfl (hb hby at_14) rfl k
    refine own_st (T' := s₁) (g' := (mkF m 17 #[.val (.long p0), .second, .val (.long p1), .second, .val (.int p2), .val (.int z12), .unset, .unset, .unset, .unset, .unset] [(.int (4 : Int32)), (.int p2)])) ?_ fun _ k => XS.iconst X0.here hx rfl (hb hby at_16) k
    refine own_st (T' := s₁) (g' := (mkF m 18 #[.val (.long p0), .second, .val (.long p1), .second, .val (.int p2), .val (.int z12), .unset, .unset, .unset, .unset, .unset] [(.int (p2 &&& (4 : Int32)))])) ?_ fun _ k => XS.iand X0.here hx rfl (hb hby at_17) rfl k
    by_cases hc6 : (p2 &&& (4 : Int32)) = (0 : Int32)
    · refine own_st (T' := s₁) (g' := (mkF m 29 #[.val (.long p0), .second, .val (.long p1), .second, .val (.int p2), .val (.int z12), .unset, .unset, .unset, .unset, .unset] [])) ?_ fun _ k => XS.ifYes X0.here hx rfl (pc0 := 18) (pc' := 29) rfl (hb hby at_18) rfl ((if0 _ _).trans (teq hc6).1) (by decide) (by decide) k
      refine own_st (T' := s₁) (g' := (mkF m 30 #[.val (.long p0), .second, .val (.long p1), .second, .val (.int p2), .val (.int z12), .unset, .unset, .unset, .unset, .unset] [(.long p0)])) ?_ fun _ k => XS.lloadN X0.here hx rfl (hb hby at_29) rfl k
      refine own_st (T' := s₁) (g' := (mkF m 33 #[.val (.long p0), .second, .val (.long p1), .second, .val (.int p2), .val (.int z12), .unset, .unset, .unset, .unset, .unset] [(.long (4611686018427387903 : Int64)), (.long p0)])) ?_ fun _ k => X0.ldc2Long hx hown (mvT hZ (hw _ (List.mem_of_getElem? (i := 0) rfl))) (g := (mkF m 30 #[.val (.long p0), .second, .val (.long p1), .second, .val (.int p2), .val (.int z12), .unset, .unset, .unset, .unset, .unset] [(.long p0)])) rfl (hb hby at_30) _ k
      refine own_st (T' := s₁) (g' := (mkF m 34 #[.val (.long p0), .second, .val (.long p1), .second, .val (.int p2), .val (.int z12), .unset, .unset, .unset, .unset, .unset] [(.long (p0 &&& (4611686018427387903 : Int64)))])) ?_ fun _ k => XS.land X0.here hx rfl (hb hby at_33) rfl k
      exact k34 _ (own_c2 p0)
    · refine own_st (T' := s₁) (g' := (mkF m 21 #[.val (.long p0), .second, .val (.long p1), .second, .val (.int p2), .val (.int z12), .unset, .unset, .unset, .unset, .unset] [])) ?_ fun _ k => XS.ifNo X0.here hx rfl (hb hby at_18) rfl ((if0 _ _).trans (feq hc6).1) k
      refine own_st (T' := s₁) (g' := (mkF m 22 #[.val (.long p0), .second, .val (.long p1), .second, .val (.int p2), .val (.int z12), .unset, .unset, .unset, .unset, .unset] [(.long p0)])) ?_ fun _ k => XS.lloadN X0.here hx rfl (hb hby at_21) rfl k
      refine own_st (T' := s₁) (g' := (mkF m 25 #[.val (.long p0), .second, .val (.long p1), .second, .val (.int p2), .val (.int z12), .unset, .unset, .unset, .unset, .unset] [(.long (7 : Int64)), (.long p0)])) ?_ fun _ k => X0.ldc2Long hx hown (mvT hZ (hw _ (List.mem_of_getElem? (i := 8) rfl))) (g := (mkF m 22 #[.val (.long p0), .second, .val (.long p1), .second, .val (.int p2), .val (.int z12), .unset, .unset, .unset, .unset, .unset] [(.long p0)])) rfl (hb hby at_22) _ k
      refine own_st (T' := s₁) (g' := (mkF m 26 #[.val (.long p0), .second, .val (.long p1), .second, .val (.int p2), .val (.int z12), .unset, .unset, .unset, .unset, .unset] [(.long (p0 &&& (7 : Int64)))])) ?_ fun _ k => XS.land X0.here hx rfl (hb hby at_25) rfl k
      refine own_st (T' := s₁) (g' := (mkF m 34 #[.val (.long p0), .second, .val (.long p1), .second, .val (.int p2), .val (.int z12), .unset, .unset, .unset, .unset, .unset] [(.long (p0 &&& (7 : Int64)))])) ?_ fun _ k => XS.goto X0.here hx rfl (pc0 := 26) (pc' := 34) rfl (hb hby at_26) (by decide) (by decide) k
      exact k34 _ (own_c1 p0)
  refine own_st (T' := s₁) (g' := (mkF m 2 #[.val (.long p0), .second, .val (.long p1), .second, .val (.int p2), .unset, .unset, .unset, .unset, .unset, .unset] [(.int p2)])) ?_ fun _ k => XS.iload X0.here hx rfl (hb hby at_0) rfl k
  refine own_st (T' := s₁) (g' := (mkF m 3 #[.val (.long p0), .second, .val (.long p1), .second, .val (.int p2), .unset, .unset, .unset, .unset, .unset, .unset] [(.int (1 : Int32)), (.int p2)])) ?_ fun _ k => XS.iconst X0.here hx rfl (hb hby at_2) k
  refine own_st (T' := s₁) (g' := (mkF m 4 #[.val (.long p0), .second, .val (.long p1), .second, .val (.int p2), .unset, .unset, .unset, .unset, .unset, .unset] [(.int (p2 &&& (1 : Int32)))])) ?_ fun _ k => XS.iand X0.here hx rfl (hb hby at_3) rfl k
  by_cases hc7 : (p2 &&& (1 : Int32)) = (0 : Int32)
  · refine own_st (T' := s₁) (g' := (mkF m 11 #[.val (.long p0), .second, .val (.long p1), .second, .val (.int p2), .unset, .unset, .unset, .unset, .unset, .unset] [])) ?_ fun _ k => XS.ifYes X0.here hx rfl (pc0 := 4) (pc' := 11) rfl (hb hby at_4) rfl ((if0 _ _).trans (teq hc7).1) (by decide) (by decide) k
    refine own_st (T' := s₁) (g' := (mkF m 12 #[.val (.long p0), .second, .val (.long p1), .second, .val (.int p2), .unset, .unset, .unset, .unset, .unset, .unset] [(.int (0 : Int32))])) ?_ fun _ k => XS.iconst X0.here hx rfl (hb hby at_11) k
    exact k12 _ (by first | exact Or.inl rfl | exact Or.inr rfl)
  · refine own_st (T' := s₁) (g' := (mkF m 7 #[.val (.long p0), .second, .val (.long p1), .second, .val (.int p2), .unset, .unset, .unset, .unset, .unset, .unset] [])) ?_ fun _ k => XS.ifNo X0.here hx rfl (hb hby at_4) rfl ((if0 _ _).trans (feq hc7).1) k
    refine own_st (T' := s₁) (g' := (mkF m 8 #[.val (.long p0), .second, .val (.long p1), .second, .val (.int p2), .unset, .unset, .unset, .unset, .unset, .unset] [(.int (1 : Int32))])) ?_ fun _ k => XS.iconst X0.here hx rfl (hb hby at_7) k
    refine own_st (T' := s₁) (g' := (mkF m 12 #[.val (.long p0), .second, .val (.long p1), .second, .val (.int p2), .unset, .unset, .unset, .unset, .unset, .unset] [(.int (1 : Int32))])) ?_ fun _ k => XS.goto X0.here hx rfl (pc0 := 8) (pc' := 12) rfl (hb hby at_8) (by decide) (by decide) k
    exact k12 _ (by first | exact Or.inl rfl | exact Or.inr rfl)
set_option maxRecDepth 65536 in
set_option maxHeartbeats 40000000 in
theorem comes_1 {Post : Tables → Env → Array Value → State → Outcome → State → Prop} (hpost : ∀ tb e args s v u, (limb_1_1.after args s (.returned v) u = true ∧ limb_1_2.after args s (.returned v) u = true ∧ True) → FrameEnd s (.returned v) u (Jvm.fieldLocs frame_1_writes args s ++ Jvm.arrayLocs frame_1_arrays args s ++ Jvm.staticLocs frame_1_statics s) 0 0 → Post tb e args s (.returned v) u) :
    ArmFor flags0 classFile x code maxLocals ret World_1 tables_1 room_1 Calls_1 rest_1 Pre_1 Post := by
  intro l hfl _ _ p e ha hc hk s m args below hf hA hF happ hP
  obtain ⟨hcalls, hrest, hpre⟩ := hP
  obtain ⟨-, -, -, hnamed, -, -, -, hat⟩ := (Spec.applies_iff hf).mp happ
  obtain ⟨hg, hn⟩ := and_e (Cond.before_iff.mp (show (Jvm.Cond.and given_1 narrow_1).before args s = true from hpre))
  obtain ⟨g1, g2⟩ := and_e hg
  obtain ⟨g3, g4⟩ := and_e g2
  obtain ⟨g5, g6⟩ := and_e g4
  obtain ⟨w0, w1, w2, rfl⟩ : ∃ w0 w1 w2 : Value, args = #[w0, w1, w2] := by
    have hs : args.size = 3 := by simpa [Cond.value, given_1] using g1
    obtain ⟨L⟩ := args
    match L, hs with
    | [w0, w1, w2], _ => exact ⟨w0, w1, w2, rfl⟩
  have hw := fun d (hd : d ∈ tables_1) => atoms_spec (ws := Jvm.Cond.code x code maxLocals ret :: tables_1) hat d (List.mem_cons_of_mem _ hd)
  obtain ⟨i0, ei0⟩ := isL_v g3
  obtain rfl : w0 = (.long i0) := Option.some.inj ei0
  obtain ⟨i1, ei1⟩ := isL_v g5
  obtain rfl : w1 = (.long i1) := Option.some.inj ei1
  obtain ⟨i2, ei2⟩ := is_v g6
  obtain rfl : w2 = (.int i2) := Option.some.inj ei2
  obtain ⟨n, o, h1, h2, h3, _, L, rfl, ⟨rfl, N⟩, hq⟩ := rm0 l s _ hw tables_1 i0 i1 i2 s.heap s.heap.size (Nat.le_refl _) p e ha hc hk s m _ below hf ((Spec.applies_iff_loose hf).mp happ).1 ⟨rfl, State.Warmed39.refl s, rfl⟩ trivial
  refine ⟨n, _, h1, h2, h3, hpost _ _ _ _ _ _ ⟨Cond.after_iff.mpr rfl, Cond.after_iff.mpr (eq_i res_at (Term.int_eval (1)) rfl), trivial⟩ ⟨hq.1, hq.2.1, (hq.2.2.sift fun y hy => Or.inr (N y hy)).mono (by decide) (by decide)⟩⟩
theorem main_1_1 : Claimed_1_1 := comes_1 fun _ _ _ _ _ _ h hF => ⟨h.1, hF⟩
theorem main_1_2 : Claimed_1_2 := comes_1 fun _ _ _ _ _ _ h hF => ⟨h.2.1, hF⟩
end Jvm.Pilot.@@N@@
namespace Jvm.Pilot.@@N@@
open Jvm Jvm.ClassFile Sem Op Lib Jvm.Free Jvm.Stand Jvm.Pilot.@@N@@.Jvm.D
/-! MADE BY PROGRAM (witnessworld.py) out of the Statement's table words and the real class files: 9 classes; the members and pool entries that the words name. The judged class is class 1, her method 1. -/
namespace start1
open Jvm.ClassFile
def u (s : String) : CpInfo := .utf8 (stringToUtf16 s)
/-- a pool by its gaps: so many unusable entries, then the entry; so many at the end -/
def gap : Nat → List CpInfo → List CpInfo
  | 0, r => r
  | n + 1, r => .unusable :: gap n r
def poolList (es : List (Nat × CpInfo)) (last : Nat) : List CpInfo := es.foldr (fun e r => gap e.1 (e.2 :: r)) (gap last [])
def pool (es : List (Nat × CpInfo)) (last : Nat) : Array CpInfo := ⟨poolList es last⟩
def fileOf (pool : Array CpInfo) (this : Nat) (attrs : Array Attribute := #[]) (ms : Array MethodInfo := #[]) (fl : Nat := 33) (sup : Nat := 0) (ifs : Array Nat := #[]) (fds : Array FieldInfo := #[]) : ClassFile where
  minorVersion := 0
  majorVersion := 65
  constantPool := pool
  accessFlags := fl
  thisClass := this
  superClass := sup
  interfaces := ifs
  fields := fds
  methods := ms
  attributes := attrs
def plain (name : String) (sup : Option ClassId) : Class where
  name := name
  kind := .ordinary
  loader := none
  accessFlags := 33
  super := sup
  interfaces := #[]
  cf := none
  fields := #[]
  methods := #[]
  instanceTypes := #[]
  staticTypes := #[]
  resolved := #[]
  callSites := []
  init := .initialized
  statics := none
  mirror := none

def pool0 : Array CpInfo := pool [(5, u "<init>"), (0, u "()V"), (1, .class_ 10), (1, u "java/lang/Object")] 113

def k0m0 : Method := { name := "<init>", desc := "()V", sig := { parameters := [], returnType := none }, accessFlags := 1, code := none }
/-- java/lang/Object -/
def k0 : Class := { plain "java/lang/Object" none with
  accessFlags := 33
  interfaces := #[]
  cf := some (fileOf pool0 8 #[] #[{ accessFlags := 1, nameIndex := 5, descriptorIndex := 6, attributes := #[] }] 33 0 #[] #[])
  fields := #[]
  methods := #[k0m0]
  instanceTypes := #[]
  staticTypes := #[]
  resolved := Array.replicate 124 none
  statics := none }

def pool1 : Array CpInfo := pool [(2, .class_ 4), (1, u "java/lang/Object"), (0, u "<init>"), (0, u "()V"), (0, .long 7), (1, .long 4611686018427387903), (1, .long 2), (1, .long 3), (1, .methodref 16 17), (0, .class_ 18), (0, .nameAndType 19 20), (0, u "com/example/cullprint/cullprint/maintext/Block"), (0, u "isLinkList"), (0, u "(JJZ)Z"), (0, .class_ 22), (0, u "com/example/cullprint/cullprint/maintext/BlockIsLinkListPinLaw"), (2, u "law"), (0, u "(JJI)Z")] 3

def k1m0 : Method := { name := "<init>", desc := "()V", sig := { parameters := [], returnType := none }, accessFlags := 1, code := none }
def k1c1 : Code := { maxStack := 6, maxLocals := 11, code := code, exceptionTable := #[], attributes := #[] }
def k1m1 : Method := { name := "law", desc := "(JJI)Z", sig := { parameters := [.long, .long, .int], returnType := some .boolean }, accessFlags := 9, code := some k1c1 }
/-- com/example/cullprint/cullprint/maintext/BlockIsLinkListPinLaw -/
def k1 : Class := { plain "com/example/cullprint/cullprint/maintext/BlockIsLinkListPinLaw" (some 0) with
  accessFlags := 49
  interfaces := #[]
  cf := some (fileOf pool1 21 #[] #[{ accessFlags := 1, nameIndex := 5, descriptorIndex := 6, attributes := #[] }, { accessFlags := 9, nameIndex := 25, descriptorIndex := 26, attributes := #[] }] 49 2 #[] #[])
  fields := #[]
  methods := #[k1m0, k1m1]
  instanceTypes := #[]
  staticTypes := #[]
  resolved := Array.replicate 30 none
  statics := none }

def pool2 : Array CpInfo := pool [(2, .class_ 4), (1, u "java/lang/Object"), (3, .class_ 10), (1, u "com/example/cullprint/cullprint/maintext/Block"), (0, u "box"), (0, u "Lcom/example/cullprint/cullprint/maintext/Box;"), (2, u "text"), (0, u "Ljava/lang/String;"), (2, u "chars"), (0, u "I"), (2, u "linked"), (2, u "sentence"), (0, u "Z"), (0, .long 2), (9, u "isLinkList"), (0, u "(JJZ)Z")] 18

def k2c0 : Code := { maxStack := 4, maxLocals := 5, code := prog_16_method_2_code, exceptionTable := #[], attributes := #[] }
def k2m0 : Method := { name := "isLinkList", desc := "(JJZ)Z", sig := { parameters := [.long, .long, .boolean], returnType := some .boolean }, accessFlags := 8, code := some k2c0 }
/-- com/example/cullprint/cullprint/maintext/Block -/
def k2 : Class := { plain "com/example/cullprint/cullprint/maintext/Block" (some 0) with
  accessFlags := 48
  interfaces := #[]
  cf := some (fileOf pool2 8 #[] #[{ accessFlags := 8, nameIndex := 38, descriptorIndex := 39, attributes := #[] }] 48 2 #[] #[{ accessFlags := 18, nameIndex := 11, descriptorIndex := 12, attributes := #[] }, { accessFlags := 18, nameIndex := 15, descriptorIndex := 16, attributes := #[] }, { accessFlags := 18, nameIndex := 19, descriptorIndex := 20, attributes := #[] }, { accessFlags := 18, nameIndex := 23, descriptorIndex := 20, attributes := #[] }, { accessFlags := 18, nameIndex := 26, descriptorIndex := 27, attributes := #[] }])
  fields := #[{ name := "box", type := (.object "com/example/cullprint/cullprint/maintext/Box"), accessFlags := 18, slot := 0, constantValue := 0 }, { name := "text", type := (.object "java/lang/String"), accessFlags := 18, slot := 1, constantValue := 0 }, { name := "chars", type := .int, accessFlags := 18, slot := 2, constantValue := 0 }, { name := "linked", type := .int, accessFlags := 18, slot := 3, constantValue := 0 }, { name := "sentence", type := .boolean, accessFlags := 18, slot := 4, constantValue := 0 }]
  methods := #[k2m0]
  instanceTypes := #[(.object "com/example/cullprint/cullprint/maintext/Box"), (.object "java/lang/String"), .int, .int, .boolean]
  staticTypes := #[]
  resolved := Array.replicate 58 none
  statics := none }

def pool3 : Array CpInfo := pool [(1, u "java/lang/Cloneable"), (0, .class_ 1), (0, u "java/lang/Object"), (0, .class_ 3)] 3

/-- java/lang/Cloneable -/
def k3 : Class := { plain "java/lang/Cloneable" (some 0) with
  accessFlags := 1537
  interfaces := #[]
  cf := some (fileOf pool3 2 #[] #[] 1537 4 #[] #[])
  fields := #[]
  methods := #[]
  instanceTypes := #[]
  staticTypes := #[]
  resolved := Array.replicate 8 none
  statics := none }

def pool4 : Array CpInfo := pool [(1, u "java/io/Serializable"), (0, .class_ 1), (0, u "java/lang/Object"), (0, .class_ 3)] 3

/-- java/io/Serializable -/
def k4 : Class := { plain "java/io/Serializable" (some 0) with
  accessFlags := 1537
  interfaces := #[]
  cf := some (fileOf pool4 2 #[] #[] 1537 4 #[] #[])
  fields := #[]
  methods := #[]
  instanceTypes := #[]
  staticTypes := #[]
  resolved := Array.replicate 8 none
  statics := none }

/-- the primitive byte -/
def k5 : Class := { plain "byte" none with kind := .primitive 'B', accessFlags := 0x411 }
/-- [B -/
def k6 : Class := { plain "[B" (some 0) with kind := .array 5 .byte, interfaces := #[3, 4], accessFlags := 1041 }

/-- the primitive int -/
def k7 : Class := { plain "int" none with kind := .primitive 'I', accessFlags := 0x411 }
/-- [I -/
def k8 : Class := { plain "[I" (some 0) with kind := .array 7 .int, interfaces := #[3, 4], accessFlags := 1041 }

def heap : Heap := #[]
def classes : Array Class := #[k0, k1, k2, k3, k4, k5, k6, k7, k8]
def interned : List (Array UInt16 × Addr) := []
def slotsUsed : Nat := 0
def theMethod : MethodId := ⟨1, 1⟩
def args0 : Array Value := #[.long 5, .long 9, .int 3]
def aboutOver (below : List Frame) : State where
  vm := { classes := classes, interned := interned.toArray }
  heap := heap
  slotsUsed := slotsUsed
  threads := #[{ frames := .invoking theMethod args0 :: below }]
def below0 : List Frame := [.native { method := ⟨0, 0⟩, args := #[] }]
def about1 : State := aboutOver below0
def p0 : Program := .bare "" "" ""
def e0 : Env := launch0.env 0 0 0
theorem w_frames : about1.frames = Frame.invoking theMethod args0 :: below0 := rfl
set_option maxRecDepth 65536 in
theorem w_args : argsFit about1.vm theMethod args0 = true := by decide +kernel
set_option maxRecDepth 65536 in
theorem w_heap : heapFits about1 = true := by decide +kernel
set_option maxRecDepth 65536 in
theorem w_runnable : about1.curStatus? = some .runnable := by decide +kernel
set_option maxRecDepth 65536 in
theorem w_alone : about1.alone = true := by decide +kernel
set_option maxRecDepth 65536 in
theorem w_named : about1.methodNamed? x = some theMethod := by decide +kernel
set_option maxRecDepth 65536 in
theorem w_hears : about1.hears theMethod below0 = true := by decide +kernel
set_option maxRecDepth 65536 in
theorem w_ripe : about1.ripe theMethod args0 below0 = true := by decide +kernel
theorem w_running : about1.status = .running := rfl
set_option maxRecDepth 65536 in
theorem w_room : about1.hasRoom e0.platform room_1 = true :=
  launch0.hasRoom_least _ room_1 (by decide +kernel) (by decide +kernel) (by decide +kernel) (by decide +kernel) (by decide +kernel) (by decide +kernel)
theorem allAtoms_all (ts : List Jvm.Cond) (a : Array Jvm.Value) (st : Jvm.State) : (allAtoms ts).before a st = ts.all (fun c => c.before a st) := by
  induction ts with
  | nil => rfl
  | cons c t ih =>
    show (Jvm.Cond.and c (allAtoms t)).before a st = _
    rw [Jvm.Cond.before_and, ih, List.all_cons]
def words1 : List Jvm.Cond := Jvm.Cond.code x code maxLocals ret :: tables_1
/-- a 'code' word, met by the world's own term for the bytes: nothing is compared byte by byte -/
theorem code_word {y : MethodName} {bytes : ByteArray} {mx : Nat} {rt : Option FieldType} {a : Array Value} {s : State} {m : MethodId} {meth : Method} {c : Code} (h1 : s.methodNamed? y = some m) (h2 : s.vm.method? m = some meth) (h3 : meth.code = some c) (h4 : c.code = bytes)
    (h5 : (c.maxLocals == mx && c.exceptionTable.isEmpty && decide (c.maxStack ≤ mostOperands) && decide (meth.sig.returnType = rt) && !meth.locks && decide (parseMethodDescriptor y.desc = some meth.sig)) = true) : (Jvm.Cond.code y bytes mx rt).before a s = true := by
  simp only [Bool.and_eq_true, beq_iff_eq, Bool.not_eq_true', decide_eq_true_eq] at h5
  obtain ⟨⟨⟨⟨⟨g1, g2⟩, g3⟩, g4⟩, g5⟩, g6⟩ := h5
  simp [Cond.before, Cond.holds, Cond.value, h1, h2, h3, h4, g1, g2, g3, g4, g5, g6]
def isCode : Jvm.Cond → Bool
  | .code _ _ _ _ => true
  | _ => false
theorem all_split {L : List Jvm.Cond} {P : Jvm.Cond → Bool} (h1 : L.all (fun c => isCode c || P c) = true) (h2 : ∀ c ∈ L.filter isCode, P c = true) : L.all P = true := by
  refine List.all_eq_true.mpr fun c hc => ?_
  have h := List.all_eq_true.mp h1 c hc
  rcases Bool.eq_false_or_eq_true (isCode c) with hi | hi
  · exact h2 c (List.mem_filter.mpr ⟨hc, hi⟩)
  · simpa [hi] using h
set_option maxRecDepth 65536 in
theorem w_c0 : (Jvm.Cond.code x code maxLocals ret).before args0 about1 = true := code_word (m := ⟨1, 1⟩) (meth := k1m1) (c := k1c1) (by decide +kernel) rfl rfl rfl (by decide +kernel)
set_option maxRecDepth 65536 in
theorem w_c1 : (Jvm.Cond.code ({ cls := "com/example/cullprint/cullprint/maintext/Block", name := "isLinkList", desc := "(JJZ)Z" } : Jvm.MethodName) prog_16_method_2_code (5 : Nat) (Option.some Jvm.ClassFile.FieldType.boolean)).before args0 about1 = true := code_word (m := ⟨2, 0⟩) (meth := k2m0) (c := k2c0) (by decide +kernel) rfl rfl rfl (by decide +kernel)
def codes1 : List Jvm.Cond := [Jvm.Cond.code x code maxLocals ret, Jvm.Cond.code ({ cls := "com/example/cullprint/cullprint/maintext/Block", name := "isLinkList", desc := "(JJZ)Z" } : Jvm.MethodName) prog_16_method_2_code (5 : Nat) (Option.some Jvm.ClassFile.FieldType.boolean)]
set_option maxRecDepth 65536 in
theorem codes_eq : words1.filter isCode = codes1 := rfl
theorem w_codes : ∀ c ∈ words1.filter isCode, c.before args0 about1 = true := by
  rw [codes_eq]
  intro c hc
  simp only [codes1, List.mem_cons, List.not_mem_nil, or_false] at hc
  rcases hc with rfl | rfl
  · exact w_c0
  · exact w_c1
set_option maxRecDepth 65536 in
theorem w_t1 : words1.all (fun c => isCode c || c.before args0 about1) = true := by decide +kernel
theorem w_tables : (allAtoms (Jvm.Cond.code x code maxLocals ret :: tables_1)).before args0 about1 = true := by
  rw [allAtoms_all]
  show words1.all (fun c => c.before args0 about1) = true
  refine all_split ?_ w_codes
  rw [w_t1]
set_option maxRecDepth 65536 in
theorem w_case : (Jvm.Cond.and given_1 narrow_1).before args0 about1 = true := by decide +kernel
theorem w_applies : (headSpec (Jvm.Cond.code x code maxLocals ret :: tables_1) room_1).applies x e0.platform about1 = true :=
  (Spec.applies_iff w_frames).mpr ⟨w_running, w_runnable, w_alone, w_named, w_hears, w_ripe, w_room, w_tables⟩
theorem atStart : AtStart classFile x code maxLocals ret World_1 tables_1 room_1 Calls_1 rest_1 Pre_1 launch0 p0 e0 about1 theMethod args0 below0 :=
  ⟨lists_1, trivial, launch0.admits_env _ _ _, launch0.least_env, fairChoices_fair.cas, fairChoices_fair.clock, w_frames, w_args, w_heap, w_applies, trivial, trivial, w_case⟩
end start1
theorem witness_1 : WitnessClaimed_1 := ⟨start1.p0, start1.e0, start1.about1, start1.theMethod, start1.args0, start1.below0, start1.atStart⟩
end Jvm.Pilot.@@N@@
