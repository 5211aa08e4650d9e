import JvmDerived
import JvmDerived.Pilot.@@N@@Statement
import JvmDerived.Pilot.@@N@@Code
set_option linter.unusedVariables false
set_option linter.unusedSimpArgs false
@@BLOCK:NumsL.lean.txt@@
namespace Jvm.Pilot.@@N@@
open Jvm Jvm.ClassFile Sem Op Lib Jvm.Free Jvm.Stand Jvm.LawKit Jvm.RoadKit Bundle Jvm.Pilot.@@N@@.Jvm.D
/-! ## The walk, forwards: from here the method comes to its end as Q says -/
section OwnFin
variable {p : Program} {l : Launch} {e : Env} {R : Room} {s : State} {m : MethodId} {args : Array Value} {below : List Frame} {meth : Method} {c : Code} {T T' : State} {locs : List Loc} {cells slots K N : Nat} {Q : Option Value → Heap → List Loc → Prop}
def own_Fin (p : Program) (e : Env) (below : List Frame) (s : State) (K N : Nat) (Q : Option Value → Heap → List Loc → Prop) (T : State) (g : JFrame) : Prop :=
  ∃ t o, Steps p.tables e below (T.setTop g) t ∧ t.status = .running ∧ Ended t below o ∧ ∃ v L, o = .returned v ∧ Q v t.heap L ∧ FrameEnd s o t L K N
theorem own_in {g g' : JFrame} (q : g = g') (h : own_Fin p e below s K N Q T g') : ∃ t o, Steps p.tables e below (T.setTop g) t ∧ t.status = .running ∧ Ended t below o ∧ ∃ v L, o = .returned v ∧ Q v t.heap L ∧ FrameEnd s o t L K N := q ▸ h
theorem own_st {g g' : JFrame} (h : ∀ t, Steps p.tables e below (T'.setTop g') t → Steps p.tables e below (T.setTop g) t) (k : own_Fin p e below s K N Q T' g') : own_Fin p e below s K N Q T g := by
  obtain ⟨t, o, h1, h2⟩ := k; exact ⟨t, o, h t h1, h2⟩
theorem own_end {g : JFrame} {v : Option Value} (X : Stand p l e R s m args below meth c T locs cells slots) (hl : meth.locks = false) (hv : meth.sig.returnType = none → v = none)
    (h : ∀ fs, (∀ (f : JFrame) (acts : List Action), f.method = m → f.locked = none → f.entered = [] → (doReturn e (T.setTop f) acts v).1 = T.setFrames fs) → Steps p.tables e below (T.setTop g) (T.setFrames fs)) (hQ : Q v T.heap locs) (hc : cells ≤ K) (hs : slots ≤ N) : own_Fin p e below s K N Q T g := by
  obtain ⟨fs, hr, hrun, hended, hW, hsame⟩ := X.leave (v := v) hv hl
  exact ⟨_, _, h fs hr, hrun, hended, _, _, rfl, hQ, ⟨_, rfl⟩, hW, hsame.mono hc hs⟩
theorem own_retI {pc : Nat} {Ls : Array Slot} {z : Int32} {rest : List Value} (X : Stand p l e R s m args below meth c T locs cells slots) (hx : p.tables.exec = Jvm.exec) (hret : meth.sig.returnType = some .int) (hl : meth.locks = false) (hd : decode c.code pc = .ok (.ireturn, 1)) (hQ : Q (some (.int z)) T.heap locs) (hc : cells ≤ K) (hs : slots ≤ N) :
    own_Fin p e below s K N Q T (mkF m pc Ls (.int z :: rest)) :=
  own_end X hl (fun h => by rw [hret] at h; cases h) (fun fs hr => retOut X hx hret rfl (Or.inl ⟨rfl, Or.inl rfl, z, rfl⟩) hd hr) hQ hc hs
theorem own_retN {pc : Nat} {Ls : Array Slot} {z : Int32} {t : FieldType} {rest : List Value} (X : Stand p l e R s m args below meth c T locs cells slots) (hx : p.tables.exec = Jvm.exec) (hret : meth.sig.returnType = some t) (hl : meth.locks = false) (ht : t = .boolean ∨ t = .byte ∨ t = .char ∨ t = .short) (hd : decode c.code pc = .ok (.ireturn, 1)) (hQ : Q (some (.int (nar t z))) T.heap locs) (hc : cells ≤ K) (hs : slots ≤ N) :
    own_Fin p e below s K N Q T (mkF m pc Ls (.int z :: rest)) :=
  own_end X hl (fun h => by rw [hret] at h; cases h) (fun fs hr => retN X hx hret ht hd hr) hQ hc hs
theorem own_retJ {pc : Nat} {Ls : Array Slot} {z : Int64} {rest : List Value} (X : Stand p l e R s m args below meth c T locs cells slots) (hx : p.tables.exec = Jvm.exec) (hret : meth.sig.returnType = some .long) (hl : meth.locks = false) (hd : decode c.code pc = .ok (.lreturn, 1)) (hQ : Q (some (.long z)) T.heap locs) (hc : cells ≤ K) (hs : slots ≤ N) :
    own_Fin p e below s K N Q T (mkF m pc Ls (.long z :: rest)) :=
  own_end X hl (fun h => by rw [hret] at h; cases h) (fun fs hr => retOut X hx hret rfl (Or.inr (Or.inl ⟨rfl, rfl, z, rfl⟩)) hd hr) hQ hc hs
theorem own_retA {pc : Nat} {Ls : Array Slot} {a : Addr} {t : FieldType} {rest : List Value} (X : Stand p l e R s m args below meth c T locs cells slots) (hx : p.tables.exec = Jvm.exec) (hret : meth.sig.returnType = some t) (hl : meth.locks = false) (ht : t.isReference = true) (hd : decode c.code pc = .ok (.areturn, 1)) (hQ : Q (some (.ref a)) T.heap locs) (hc : cells ≤ K) (hs : slots ≤ N) :
    own_Fin p e below s K N Q T (mkF m pc Ls (.ref a :: rest)) :=
  own_end X hl (fun h => by rw [hret] at h; cases h) (fun fs hr => retOut X hx hret (by cases t <;> first | rfl | cases ht) (Or.inr (Or.inr (Or.inr (Or.inr ⟨rfl, ht, rfl⟩)))) hd hr) hQ hc hs
theorem own_retV {pc : Nat} {Ls : Array Slot} (X : Stand p l e R s m args below meth c T locs cells slots) (hx : p.tables.exec = Jvm.exec) (hret : meth.sig.returnType = none) (hl : meth.locks = false) (hd : decode c.code pc = .ok (.return_, 1)) (hQ : Q none T.heap locs) (hc : cells ≤ K) (hs : slots ≤ N) :
    own_Fin p e below s K N Q T (mkF m pc Ls []) :=
  own_end X hl (fun _ => rfl) (fun fs hr => X.returnOut hx hret hd hr) hQ hc hs
theorem own_lremM {g : JFrame} {target : State} (X : Stand p l e R s m args below meth c T locs cells slots) (hx : p.tables.exec = Jvm.exec) (hg : g.method = m) {x y : Int64} {rest : List Value} (hd : decode c.code g.pc = .ok (.lrem, 1)) (hs : g.stack = .long y :: .long x :: rest) (hy : y ≠ 0)
    (hr : Steps p.tables e below (T.setTop { g with pc := g.pc + 1, stack := .long (x % y) :: rest }) target) : Steps p.tables e below (T.setTop g) target := by
  have q : x - x / y * y = x % y := lrem_mod x y
  exact XS.lrem X.here hx hg hd hs hy (by rw [q]; exact hr)
end OwnFin
/-- a private method is selected by its own class -/
theorem own_selp {s : State} {args : Array Value} {n : Nat} {y : MethodName} (hy : y.cls ≠ "java/lang/invoke/MethodHandle" ∧ y.cls ≠ "java/lang/invoke/VarHandle") (hins : (Jvm.Cond.instantiable y.cls n).before args s = true) (hpriv : (Jvm.Cond.privateMethod y).before args s = true) (hinst : (Jvm.Cond.instanceMethod y).before args s = true) : (Jvm.Cond.selects y.cls y y).before args s = true := by
  obtain ⟨c, k, hc, hk, -, hniab, -, -⟩ := Cond.instantiable_spec hins
  have hni : k.isInterface = false := (Bool.or_eq_false_iff.mp hniab).1
  obtain ⟨mk, methM, hnamed, hmethM, -, -⟩ := Cond.instanceMethod_spec hinst
  have hfound : s.methodFound? y.cls y.name y.desc = some mk := State.methodFound?_of_named hnamed hy
  have hcls : mk.cls = c := Option.some.inj ((findClass_of_methodNamed hnamed).symm.trans hc)
  have hsel : selectMethod {} s.vm c mk = .method mk := selectMethod_private hmethM (Cond.privateMethod_at hpriv mk methM hnamed hmethM)
  simp only [Cond.before, Cond.holds, Cond.value, hc, hfound, hnamed, hsel, hcls, hk]
  simp; exact hni

def own_f1_10 (p0 : Int32) (p1 : Int32) (t0_10 : Int32) : Int32 := t0_10
theorem own_f1_10_eq (p0 : Int32) (p1 : Int32) (t0_10 : Int32) : own_f1_10 p0 p1 t0_10 = t0_10 := rfl
def own_F1 (p0 : Int32) (p1 : Int32) : Int32 := (if p0 < p1 then (own_f1_10 p0 p1 p1) else (own_f1_10 p0 p1 p0))
theorem own_F1_eq (p0 : Int32) (p1 : Int32) : own_F1 p0 p1 = (if p0 < p1 then (own_f1_10 p0 p1 p1) else (own_f1_10 p0 p1 p0)) := rfl
theorem d1_0 : decode jdk_29_method_65_code 0 = .ok (.iload_n 0, 1) := by decide +kernel
theorem d1_1 : decode jdk_29_method_65_code 1 = .ok (.iload_n 1, 1) := by decide +kernel
theorem d1_2 : decode jdk_29_method_65_code 2 = .ok (.if_icmp .lt 7, 3) := by decide +kernel
theorem d1_5 : decode jdk_29_method_65_code 5 = .ok (.iload_n 0, 1) := by decide +kernel
theorem d1_6 : decode jdk_29_method_65_code 6 = .ok (.goto 4, 3) := by decide +kernel
theorem d1_9 : decode jdk_29_method_65_code 9 = .ok (.iload_n 1, 1) := by decide +kernel
theorem d1_10 : decode jdk_29_method_65_code 10 = .ok (.ireturn, 1) := by decide +kernel
theorem ef_1 (m : MethodId) (x0 : Int32) (x1 : Int32) : entryFrame m #[(.int x0), (.int x1)] 2 = mkF m 0 #[.val (.int x0), .val (.int x1)] [] := by first | (simp [entryFrame, mkF, argsToLocals, Value.category]; done) | rfl
def Q1 (Z : State) (p0 : Int32) (p1 : Int32) (h0 : Heap) (n0 : Nat) (v : Option Value) (h : Heap) (L : List Loc) : Prop := v = some (.int (own_F1 p0 p1)) ∧ Fr n0 L ∧ h = h0
set_option maxRecDepth 65536 in
set_option maxHeartbeats 40000000 in
theorem rm1 (l : Launch) (Z : State) (a0 : Array Value) (hw : ∀ d ∈ tables_1, d.before a0 Z = true) (ws : List Jvm.Cond) (p0 : Int32) (p1 : Int32) (h0 : Heap) (n0 : Nat) (Z0 : n0 ≤ h0.size) :
    MetFree l (⟨"java/lang/Math", "max", "(II)I"⟩ : MethodName) (head1 (Jvm.Cond.code (⟨"java/lang/Math", "max", "(II)I"⟩ : MethodName) jdk_29_method_65_code 2 (some .int) :: ws) ({ frames := 0, cells := 0, slots := 0, locals := 0 } : Room)) (fun a U => a = #[(.int p0), (.int p1)] ∧ Z.Warmed39 U.vm ∧ U.heap = h0) (fun _ _ _ _ _ => True) (fun _ U o U' => ∃ v L, o = .returned v ∧ Q1 Z p0 p1 h0 n0 v U'.heap L ∧ FrameEnd U o U' L ({ frames := 0, cells := 0, slots := 0, locals := 0 } : Room).cells ({ frames := 0, cells := 0, slots := 0, locals := 0 } : Room).slots) := by
  refine MetFree.of_bodySF (Jvm.Free.JP.mathPlain rfl (by decide +kernel)) hisR ?_
  intro p e s m args below meth c s₁ Bd hml0 hP hK
  obtain ⟨rfl, hZ, hh⟩ := hP
  have hx := Bd.exec
  have hby := Bd.bytes
  have hml : c.maxLocals = 2 := hml0
  have hown : s.vm.findClass "java/lang/Math" = some m.cls := findClass_of_methodNamed Bd.named
  have hnm := (name_of_methodNamed Bd.named Bd.method).1
  have X0 : Stand p l e ({ frames := 0, cells := 0, slots := 0, locals := 0 } : Room) s m #[(.int p0), (.int p1)] below meth c s₁ [] 0 0 := Stand.of_body Bd
  have e0 : s₁.heap = h0 := by rw [← hh, Bd.state]; rfl
  have N0 := Fr.nil n0
  refine own_in (ef_1 m p0 p1) ?_
  have hr0 := (own_F1_eq p0 p1).symm
  refine own_st (g' := (mkF m 1 #[.val (.int p0), .val (.int p1)] [(.int p0)])) (fun t k => XS.iloadN X0.here hx rfl (hb hby d1_0) rfl  k) ?_
  refine own_st (g' := (mkF m 2 #[.val (.int p0), .val (.int p1)] [(.int p1), (.int p0)])) (fun t k => XS.iloadN X0.here hx rfl (hb hby d1_1) rfl  k) ?_
  have J10 : ∀ (T : State) (locs : List Loc) (t0_10 : Int32), Stand p l e ({ frames := 0, cells := 0, slots := 0, locals := 0 } : Room) s m #[(.int p0), (.int p1)] below meth c T locs 0 0 → T.heap = h0 → Fr n0 locs → own_f1_10 p0 p1 t0_10 = own_F1 p0 p1 → own_Fin p e below s ({ frames := 0, cells := 0, slots := 0, locals := 0 } : Room).cells ({ frames := 0, cells := 0, slots := 0, locals := 0 } : Room).slots (Q1 Z p0 p1 h0 n0) T (mkF m 10 #[.val (.int p0), .val (.int p1)] [(.int t0_10)]) := by
    intro T3 locs3 t0_10  X3 e3 N3 hr3
    have hr3a := (own_f1_10_eq (p0) (p1) (t0_10)).symm.trans hr3
    exact own_retI X3 hx Bd.returns Bd.notSynchronized (hb hby d1_10) ⟨congrArg (fun q => some (Value.int q)) hr3a, N3, e3⟩ (by decide) (by decide)
  by_cases hc2_4 : p0 < p1
  · have hr5 := (if_pos hc2_4).symm.trans hr0
    refine own_st (g' := (mkF m 9 #[.val (.int p0), .val (.int p1)] [])) (fun t k => XS.icmpYes X0.here hx rfl (pc0 := 2) (pc' := 9) rfl (hb hby d1_2) rfl (tlt hc2_4).1 (by decide) (by decide) k) ?_
    refine own_st (g' := (mkF m 10 #[.val (.int p0), .val (.int p1)] [(.int p1)])) (fun t k => XS.iloadN X0.here hx rfl (hb hby d1_9) rfl  k) ?_
    exact J10 s₁ _ p1  X0 e0 N0 hr5
  · have hr6 := (if_neg hc2_4).symm.trans hr0
    refine own_st (g' := (mkF m 5 #[.val (.int p0), .val (.int p1)] [])) (fun t k => XS.icmpNo X0.here hx rfl (hb hby d1_2) rfl (flt hc2_4).1 k) ?_
    refine own_st (g' := (mkF m 6 #[.val (.int p0), .val (.int p1)] [(.int p0)])) (fun t k => XS.iloadN X0.here hx rfl (hb hby d1_5) rfl  k) ?_
    refine own_st (g' := (mkF m 10 #[.val (.int p0), .val (.int p1)] [(.int p0)])) (fun t k => XS.goto X0.here hx rfl (pc0 := 6) (pc' := 10) rfl (hb hby d1_6) (by decide) (by decide) k) ?_
    exact J10 s₁ _ p0  X0 e0 N0 hr6
def own_f2_11 (q0 : Int64) (q1 : Int64) (t0_11 : Int64) : Int64 := t0_11
theorem own_f2_11_eq (q0 : Int64) (q1 : Int64) (t0_11 : Int64) : own_f2_11 q0 q1 t0_11 = t0_11 := rfl
def own_F2 (q0 : Int64) (q1 : Int64) : Int64 := (if q1 < q0 then (own_f2_11 q0 q1 q1) else (own_f2_11 q0 q1 q0))
theorem own_F2_eq (q0 : Int64) (q1 : Int64) : own_F2 q0 q1 = (if q1 < q0 then (own_f2_11 q0 q1 q1) else (own_f2_11 q0 q1 q0)) := rfl
theorem d2_0 : decode jdk_29_method_70_code 0 = .ok (.lload_n 0, 1) := by decide +kernel
theorem d2_1 : decode jdk_29_method_70_code 1 = .ok (.lload_n 2, 1) := by decide +kernel
theorem d2_2 : decode jdk_29_method_70_code 2 = .ok (.lcmp, 1) := by decide +kernel
theorem d2_3 : decode jdk_29_method_70_code 3 = .ok (.ifCond .gt 7, 3) := by decide +kernel
theorem d2_6 : decode jdk_29_method_70_code 6 = .ok (.lload_n 0, 1) := by decide +kernel
theorem d2_7 : decode jdk_29_method_70_code 7 = .ok (.goto 4, 3) := by decide +kernel
theorem d2_10 : decode jdk_29_method_70_code 10 = .ok (.lload_n 2, 1) := by decide +kernel
theorem d2_11 : decode jdk_29_method_70_code 11 = .ok (.lreturn, 1) := by decide +kernel
theorem ef_2 (m : MethodId) (x0 : Int64) (x1 : Int64) : entryFrame m #[(.long x0), (.long x1)] 4 = mkF m 0 #[.val (.long x0), .second, .val (.long x1), .second] [] := by first | (simp [entryFrame, mkF, argsToLocals, Value.category]; done) | rfl
def Q2 (Z : State) (q0 : Int64) (q1 : Int64) (h0 : Heap) (n0 : Nat) (v : Option Value) (h : Heap) (L : List Loc) : Prop := v = some (.long (own_F2 q0 q1)) ∧ Fr n0 L ∧ h = h0
set_option maxRecDepth 65536 in
set_option maxHeartbeats 40000000 in
theorem rm2 (l : Launch) (Z : State) (a0 : Array Value) (hw : ∀ d ∈ tables_1, d.before a0 Z = true) (ws : List Jvm.Cond) (q0 : Int64) (q1 : Int64) (h0 : Heap) (n0 : Nat) (Z0 : n0 ≤ h0.size) :
    MetFree l (⟨"java/lang/Math", "min", "(JJ)J"⟩ : MethodName) (head1 (Jvm.Cond.code (⟨"java/lang/Math", "min", "(JJ)J"⟩ : MethodName) jdk_29_method_70_code 4 (some .long) :: ws) ({ frames := 0, cells := 0, slots := 0, locals := 0 } : Room)) (fun a U => a = #[(.long q0), (.long q1)] ∧ Z.Warmed39 U.vm ∧ U.heap = h0) (fun _ _ _ _ _ => True) (fun _ U o U' => ∃ v L, o = .returned v ∧ Q2 Z q0 q1 h0 n0 v U'.heap L ∧ FrameEnd U o U' L ({ frames := 0, cells := 0, slots := 0, locals := 0 } : Room).cells ({ frames := 0, cells := 0, slots := 0, locals := 0 } : Room).slots) := by
  refine MetFree.of_bodySF (Jvm.Free.JP.mathPlain rfl (by decide +kernel)) hisR ?_
  intro p e s m args below meth c s₁ Bd hml0 hP hK
  obtain ⟨rfl, hZ, hh⟩ := hP
  have hx := Bd.exec
  have hby := Bd.bytes
  have hml : c.maxLocals = 4 := hml0
  have hown : s.vm.findClass "java/lang/Math" = some m.cls := findClass_of_methodNamed Bd.named
  have hnm := (name_of_methodNamed Bd.named Bd.method).1
  have X0 : Stand p l e ({ frames := 0, cells := 0, slots := 0, locals := 0 } : Room) s m #[(.long q0), (.long q1)] below meth c s₁ [] 0 0 := Stand.of_body Bd
  have e0 : s₁.heap = h0 := by rw [← hh, Bd.state]; rfl
  have N0 := Fr.nil n0
  refine own_in (ef_2 m q0 q1) ?_
  have hr0 := (own_F2_eq q0 q1).symm
  refine own_st (g' := (mkF m 1 #[.val (.long q0), .second, .val (.long q1), .second] [(.long q0)])) (fun t k => XS.lloadN X0.here hx rfl (hb hby d2_0) rfl  k) ?_
  refine own_st (g' := (mkF m 2 #[.val (.long q0), .second, .val (.long q1), .second] [(.long q1), (.long q0)])) (fun t k => XS.lloadN X0.here hx rfl (hb hby d2_1) rfl  k) ?_
  refine own_st (g' := (mkF m 3 #[.val (.long q0), .second, .val (.long q1), .second] [(.int (lcmpW q0 q1))])) (fun t k => XS.lcmp X0.here hx rfl (hb hby d2_2) rfl k) ?_
  have J11 : ∀ (T : State) (locs : List Loc) (t0_11 : Int64), Stand p l e ({ frames := 0, cells := 0, slots := 0, locals := 0 } : Room) s m #[(.long q0), (.long q1)] below meth c T locs 0 0 → T.heap = h0 → Fr n0 locs → own_f2_11 q0 q1 t0_11 = own_F2 q0 q1 → own_Fin p e below s ({ frames := 0, cells := 0, slots := 0, locals := 0 } : Room).cells ({ frames := 0, cells := 0, slots := 0, locals := 0 } : Room).slots (Q2 Z q0 q1 h0 n0) T (mkF m 11 #[.val (.long q0), .second, .val (.long q1), .second] [(.long t0_11)]) := by
    intro T3 locs3 t0_11  X3 e3 N3 hr3
    have hr3a := (own_f2_11_eq (q0) (q1) (t0_11)).symm.trans hr3
    exact own_retJ X3 hx Bd.returns Bd.notSynchronized (hb hby d2_11) ⟨congrArg (fun q => some (Value.long q)) hr3a, N3, e3⟩ (by decide) (by decide)
  by_cases hc3_4 : q1 < q0
  · have hr5 := (if_pos hc3_4).symm.trans hr0
    refine own_st (g' := (mkF m 10 #[.val (.long q0), .second, .val (.long q1), .second] [])) (fun t k => XS.ifYes X0.here hx rfl (pc0 := 3) (pc' := 10) rfl (hb hby d2_3) rfl ((if0 _ _).trans (tlt ((lw_gt _ _).mpr hc3_4)).2.2.1) (by decide) (by decide) k) ?_
    refine own_st (g' := (mkF m 11 #[.val (.long q0), .second, .val (.long q1), .second] [(.long q1)])) (fun t k => XS.lloadN X0.here hx rfl (hb hby d2_10) rfl  k) ?_
    exact J11 s₁ _ q1  X0 e0 N0 hr5
  · have hr6 := (if_neg hc3_4).symm.trans hr0
    refine own_st (g' := (mkF m 6 #[.val (.long q0), .second, .val (.long q1), .second] [])) (fun t k => XS.ifNo X0.here hx rfl (hb hby d2_3) rfl ((if0 _ _).trans (flt (fun q => hc3_4 ((lw_gt _ _).mp q))).2.2.1) k) ?_
    refine own_st (g' := (mkF m 7 #[.val (.long q0), .second, .val (.long q1), .second] [(.long q0)])) (fun t k => XS.lloadN X0.here hx rfl (hb hby d2_6) rfl  k) ?_
    refine own_st (g' := (mkF m 11 #[.val (.long q0), .second, .val (.long q1), .second] [(.long q0)])) (fun t k => XS.goto X0.here hx rfl (pc0 := 7) (pc' := 11) rfl (hb hby d2_7) (by decide) (by decide) k) ?_
    exact J11 s₁ _ q0  X0 e0 N0 hr6
def own_F4 (p0 : Int32) : Int32 := (p0 &&& ((-p0)))
theorem own_F4_eq (p0 : Int32) : own_F4 p0 = (p0 &&& ((-p0))) := rfl
theorem d4_0 : decode jdk_33_method_46_code 0 = .ok (.iload_n 0, 1) := by decide +kernel
theorem d4_1 : decode jdk_33_method_46_code 1 = .ok (.iload_n 0, 1) := by decide +kernel
theorem d4_2 : decode jdk_33_method_46_code 2 = .ok (.ineg, 1) := by decide +kernel
theorem d4_3 : decode jdk_33_method_46_code 3 = .ok (.iand, 1) := by decide +kernel
theorem d4_4 : decode jdk_33_method_46_code 4 = .ok (.ireturn, 1) := by decide +kernel
theorem pn_4 : plainName "java/lang/Integer" = true := by first | (simp [plainName, overriddenIn]; done) | decide +kernel
theorem ef_4 (m : MethodId) (x0 : Int32) : entryFrame m #[(.int x0)] 1 = mkF m 0 #[.val (.int x0)] [] := by first | (simp [entryFrame, mkF, argsToLocals, Value.category]; done) | rfl
def Q4 (Z : State) (p0 : Int32) (h0 : Heap) (n0 : Nat) (v : Option Value) (h : Heap) (L : List Loc) : Prop := v = some (.int (own_F4 p0)) ∧ Fr n0 L ∧ h = h0
set_option maxRecDepth 65536 in
set_option maxHeartbeats 40000000 in
theorem rm4 (l : Launch) (Z : State) (a0 : Array Value) (hw : ∀ d ∈ tables_1, d.before a0 Z = true) (ws : List Jvm.Cond) (p0 : Int32) (h0 : Heap) (n0 : Nat) (Z0 : n0 ≤ h0.size) :
    MetFree l (⟨"java/lang/Integer", "lowestOneBit", "(I)I"⟩ : MethodName) (head1 (Jvm.Cond.code (⟨"java/lang/Integer", "lowestOneBit", "(I)I"⟩ : MethodName) jdk_33_method_46_code 1 (some .int) :: ws) ({ frames := 0, cells := 0, slots := 0, locals := 0 } : Room)) (fun a U => a = #[(.int p0)] ∧ Z.Warmed39 U.vm ∧ U.heap = h0) (fun _ _ _ _ _ => True) (fun _ U o U' => ∃ v L, o = .returned v ∧ Q4 Z p0 h0 n0 v U'.heap L ∧ FrameEnd U o U' L ({ frames := 0, cells := 0, slots := 0, locals := 0 } : Room).cells ({ frames := 0, cells := 0, slots := 0, locals := 0 } : Room).slots) := by
  refine MetFree.of_bodySF (plainFor_of_name pn_4) hisR ?_
  intro p e s m args below meth c s₁ Bd hml0 hP hK
  obtain ⟨rfl, hZ, hh⟩ := hP
  have hx := Bd.exec
  have hby := Bd.bytes
  have hml : c.maxLocals = 1 := hml0
  have hown : s.vm.findClass "java/lang/Integer" = some m.cls := findClass_of_methodNamed Bd.named
  have hnm := (name_of_methodNamed Bd.named Bd.method).1
  have X0 : Stand p l e ({ frames := 0, cells := 0, slots := 0, locals := 0 } : Room) s m #[(.int p0)] below meth c s₁ [] 0 0 := Stand.of_body Bd
  have e0 : s₁.heap = h0 := by rw [← hh, Bd.state]; rfl
  have N0 := Fr.nil n0
  refine own_in (ef_4 m p0) ?_
  have hr0 := (own_F4_eq p0).symm
  refine own_st (g' := (mkF m 1 #[.val (.int p0)] [(.int p0)])) (fun t k => XS.iloadN X0.here hx rfl (hb hby d4_0) rfl  k) ?_
  refine own_st (g' := (mkF m 2 #[.val (.int p0)] [(.int p0), (.int p0)])) (fun t k => XS.iloadN X0.here hx rfl (hb hby d4_1) rfl  k) ?_
  refine own_st (g' := (mkF m 3 #[.val (.int p0)] [(.int ((-p0))), (.int p0)])) (fun t k => XS.ineg X0.here hx rfl (hb hby d4_2) rfl k) ?_
  refine own_st (g' := (mkF m 4 #[.val (.int p0)] [(.int (p0 &&& ((-p0))))])) (fun t k => XS.iand X0.here hx rfl (hb hby d4_3) rfl k) ?_
  exact own_retI X0 hx Bd.returns Bd.notSynchronized (hb hby d4_4) ⟨congrArg (fun q => some (Value.int q)) hr0, N0, e0⟩ (by decide) (by decide)
def own_f5_10 (p0 : Int32) (p1 : Int32) (t0_10 : Int32) : Int32 := t0_10
theorem own_f5_10_eq (p0 : Int32) (p1 : Int32) (t0_10 : Int32) : own_f5_10 p0 p1 t0_10 = t0_10 := rfl
def own_F5 (p0 : Int32) (p1 : Int32) : Int32 := (if p1 < p0 then (own_f5_10 p0 p1 p1) else (own_f5_10 p0 p1 p0))
theorem own_F5_eq (p0 : Int32) (p1 : Int32) : own_F5 p0 p1 = (if p1 < p0 then (own_f5_10 p0 p1 p1) else (own_f5_10 p0 p1 p0)) := rfl
theorem d5_0 : decode jdk_29_method_69_code 0 = .ok (.iload_n 0, 1) := by decide +kernel
theorem d5_1 : decode jdk_29_method_69_code 1 = .ok (.iload_n 1, 1) := by decide +kernel
theorem d5_2 : decode jdk_29_method_69_code 2 = .ok (.if_icmp .gt 7, 3) := by decide +kernel
theorem d5_5 : decode jdk_29_method_69_code 5 = .ok (.iload_n 0, 1) := by decide +kernel
theorem d5_6 : decode jdk_29_method_69_code 6 = .ok (.goto 4, 3) := by decide +kernel
theorem d5_9 : decode jdk_29_method_69_code 9 = .ok (.iload_n 1, 1) := by decide +kernel
theorem d5_10 : decode jdk_29_method_69_code 10 = .ok (.ireturn, 1) := by decide +kernel
theorem ef_5 (m : MethodId) (x0 : Int32) (x1 : Int32) : entryFrame m #[(.int x0), (.int x1)] 2 = mkF m 0 #[.val (.int x0), .val (.int x1)] [] := by first | (simp [entryFrame, mkF, argsToLocals, Value.category]; done) | rfl
def Q5 (Z : State) (p0 : Int32) (p1 : Int32) (h0 : Heap) (n0 : Nat) (v : Option Value) (h : Heap) (L : List Loc) : Prop := v = some (.int (own_F5 p0 p1)) ∧ Fr n0 L ∧ h = h0
set_option maxRecDepth 65536 in
set_option maxHeartbeats 40000000 in
theorem rm5 (l : Launch) (Z : State) (a0 : Array Value) (hw : ∀ d ∈ tables_1, d.before a0 Z = true) (ws : List Jvm.Cond) (p0 : Int32) (p1 : Int32) (h0 : Heap) (n0 : Nat) (Z0 : n0 ≤ h0.size) :
    MetFree l (⟨"java/lang/Math", "min", "(II)I"⟩ : MethodName) (head1 (Jvm.Cond.code (⟨"java/lang/Math", "min", "(II)I"⟩ : MethodName) jdk_29_method_69_code 2 (some .int) :: ws) ({ frames := 0, cells := 0, slots := 0, locals := 0 } : Room)) (fun a U => a = #[(.int p0), (.int p1)] ∧ Z.Warmed39 U.vm ∧ U.heap = h0) (fun _ _ _ _ _ => True) (fun _ U o U' => ∃ v L, o = .returned v ∧ Q5 Z p0 p1 h0 n0 v U'.heap L ∧ FrameEnd U o U' L ({ frames := 0, cells := 0, slots := 0, locals := 0 } : Room).cells ({ frames := 0, cells := 0, slots := 0, locals := 0 } : Room).slots) := by
  refine MetFree.of_bodySF (Jvm.Free.JP.mathPlain rfl (by decide +kernel)) hisR ?_
  intro p e s m args below meth c s₁ Bd hml0 hP hK
  obtain ⟨rfl, hZ, hh⟩ := hP
  have hx := Bd.exec
  have hby := Bd.bytes
  have hml : c.maxLocals = 2 := hml0
  have hown : s.vm.findClass "java/lang/Math" = some m.cls := findClass_of_methodNamed Bd.named
  have hnm := (name_of_methodNamed Bd.named Bd.method).1
  have X0 : Stand p l e ({ frames := 0, cells := 0, slots := 0, locals := 0 } : Room) s m #[(.int p0), (.int p1)] below meth c s₁ [] 0 0 := Stand.of_body Bd
  have e0 : s₁.heap = h0 := by rw [← hh, Bd.state]; rfl
  have N0 := Fr.nil n0
  refine own_in (ef_5 m p0 p1) ?_
  have hr0 := (own_F5_eq p0 p1).symm
  refine own_st (g' := (mkF m 1 #[.val (.int p0), .val (.int p1)] [(.int p0)])) (fun t k => XS.iloadN X0.here hx rfl (hb hby d5_0) rfl  k) ?_
  refine own_st (g' := (mkF m 2 #[.val (.int p0), .val (.int p1)] [(.int p1), (.int p0)])) (fun t k => XS.iloadN X0.here hx rfl (hb hby d5_1) rfl  k) ?_
  have J10 : ∀ (T : State) (locs : List Loc) (t0_10 : Int32), Stand p l e ({ frames := 0, cells := 0, slots := 0, locals := 0 } : Room) s m #[(.int p0), (.int p1)] below meth c T locs 0 0 → T.heap = h0 → Fr n0 locs → own_f5_10 p0 p1 t0_10 = own_F5 p0 p1 → own_Fin p e below s ({ frames := 0, cells := 0, slots := 0, locals := 0 } : Room).cells ({ frames := 0, cells := 0, slots := 0, locals := 0 } : Room).slots (Q5 Z p0 p1 h0 n0) T (mkF m 10 #[.val (.int p0), .val (.int p1)] [(.int t0_10)]) := by
    intro T3 locs3 t0_10  X3 e3 N3 hr3
    have hr3a := (own_f5_10_eq (p0) (p1) (t0_10)).symm.trans hr3
    exact own_retI X3 hx Bd.returns Bd.notSynchronized (hb hby d5_10) ⟨congrArg (fun q => some (Value.int q)) hr3a, N3, e3⟩ (by decide) (by decide)
  by_cases hc2_4 : p1 < p0
  · have hr5 := (if_pos hc2_4).symm.trans hr0
    refine own_st (g' := (mkF m 9 #[.val (.int p0), .val (.int p1)] [])) (fun t k => XS.icmpYes X0.here hx rfl (pc0 := 2) (pc' := 9) rfl (hb hby d5_2) rfl (tlt hc2_4).2.2.1 (by decide) (by decide) k) ?_
    refine own_st (g' := (mkF m 10 #[.val (.int p0), .val (.int p1)] [(.int p1)])) (fun t k => XS.iloadN X0.here hx rfl (hb hby d5_9) rfl  k) ?_
    exact J10 s₁ _ p1  X0 e0 N0 hr5
  · have hr6 := (if_neg hc2_4).symm.trans hr0
    refine own_st (g' := (mkF m 5 #[.val (.int p0), .val (.int p1)] [])) (fun t k => XS.icmpNo X0.here hx rfl (hb hby d5_2) rfl (flt hc2_4).2.2.1 k) ?_
    refine own_st (g' := (mkF m 6 #[.val (.int p0), .val (.int p1)] [(.int p0)])) (fun t k => XS.iloadN X0.here hx rfl (hb hby d5_5) rfl  k) ?_
    refine own_st (g' := (mkF m 10 #[.val (.int p0), .val (.int p1)] [(.int p0)])) (fun t k => XS.goto X0.here hx rfl (pc0 := 6) (pc' := 10) rfl (hb hby d5_6) (by decide) (by decide) k) ?_
    exact J10 s₁ _ p0  X0 e0 N0 hr6
def own_F3 (p0 : Int32) (p1 : Int32) (p2 : Int32) : Int32 := (((own_F2 (((p0).toInt64) / (((own_F5 (own_F4 p0) p1)).toInt64)) (((p2 / p1)).toInt64))).toInt32)
theorem own_F3_eq (p0 : Int32) (p1 : Int32) (p2 : Int32) : own_F3 p0 p1 p2 = (((own_F2 (((p0).toInt64) / (((own_F5 (own_F4 p0) p1)).toInt64)) (((p2 / p1)).toInt64))).toInt32) := rfl
theorem d3_0 : decode prog_29_method_2_code 0 = .ok (.iload_n 0, 1) := by decide +kernel
theorem d3_1 : decode prog_29_method_2_code 1 = .ok (.invokestatic 38, 3) := by decide +kernel
theorem d3_4 : decode prog_29_method_2_code 4 = .ok (.iload_n 1, 1) := by decide +kernel
theorem d3_5 : decode prog_29_method_2_code 5 = .ok (.invokestatic 44, 3) := by decide +kernel
theorem d3_8 : decode prog_29_method_2_code 8 = .ok (.istore_n 3, 1) := by decide +kernel
theorem d3_9 : decode prog_29_method_2_code 9 = .ok (.iload_n 0, 1) := by decide +kernel
theorem d3_10 : decode prog_29_method_2_code 10 = .ok (.i2l, 1) := by decide +kernel
theorem d3_11 : decode prog_29_method_2_code 11 = .ok (.iload_n 3, 1) := by decide +kernel
theorem d3_12 : decode prog_29_method_2_code 12 = .ok (.i2l, 1) := by decide +kernel
theorem d3_13 : decode prog_29_method_2_code 13 = .ok (.ldiv, 1) := by decide +kernel
theorem d3_14 : decode prog_29_method_2_code 14 = .ok (.lstore 4, 2) := by decide +kernel
theorem d3_16 : decode prog_29_method_2_code 16 = .ok (.lload 4, 2) := by decide +kernel
theorem d3_18 : decode prog_29_method_2_code 18 = .ok (.iload_n 2, 1) := by decide +kernel
theorem d3_19 : decode prog_29_method_2_code 19 = .ok (.iload_n 1, 1) := by decide +kernel
theorem d3_20 : decode prog_29_method_2_code 20 = .ok (.idiv, 1) := by decide +kernel
theorem d3_21 : decode prog_29_method_2_code 21 = .ok (.i2l, 1) := by decide +kernel
theorem d3_22 : decode prog_29_method_2_code 22 = .ok (.invokestatic 50, 3) := by decide +kernel
theorem d3_25 : decode prog_29_method_2_code 25 = .ok (.l2i, 1) := by decide +kernel
theorem d3_26 : decode prog_29_method_2_code 26 = .ok (.ireturn, 1) := by decide +kernel
theorem pn_3 : plainName "com/example/pagerun/pagerun/SmallRun" = true := by first | (simp [plainName, overriddenIn]; done) | decide +kernel
theorem pd_3_0 : parseMethodDescriptor "(I)I" = some ⟨[.int], some .int⟩ := by decide +kernel
theorem pd_3_1 : parseMethodDescriptor "(II)I" = some ⟨[.int, .int], some .int⟩ := by decide +kernel
theorem pd_3_2 : parseMethodDescriptor "(JJ)J" = some ⟨[.long, .long], some .long⟩ := by decide +kernel
theorem ef_3 (m : MethodId) (x0 : Int32) (x1 : Int32) (x2 : Int32) : entryFrame m #[(.int x0), (.int x1), (.int x2)] 6 = mkF m 0 #[.val (.int x0), .val (.int x1), .val (.int x2), .unset, .unset, .unset] [] := by first | (simp [entryFrame, mkF, argsToLocals, Value.category]; done) | rfl
def Q3 (Z : State) (p0 : Int32) (p1 : Int32) (p2 : Int32) (h0 : Heap) (n0 : Nat) (v : Option Value) (h : Heap) (L : List Loc) : Prop := v = some (.int (own_F3 p0 p1 p2)) ∧ Fr n0 L ∧ h = h0
set_option maxRecDepth 65536 in
set_option maxHeartbeats 40000000 in
theorem rm3 (l : Launch) (Z : State) (a0 : Array Value) (hw : ∀ d ∈ tables_1, d.before a0 Z = true) (ws : List Jvm.Cond) (p0 : Int32) (p1 : Int32) (p2 : Int32) (h0 : Heap) (n0 : Nat) (Z0 : n0 ≤ h0.size) (hp1 : ((own_F5 (own_F4 p0) p1)).toInt64 ≠ 0) (hp2 : p1 ≠ 0) :
    MetFree l (⟨"com/example/pagerun/pagerun/SmallRun", "pagesFor", "(III)I"⟩ : MethodName) (head1 (Jvm.Cond.code (⟨"com/example/pagerun/pagerun/SmallRun", "pagesFor", "(III)I"⟩ : MethodName) prog_29_method_2_code 6 (some .int) :: ws) ({ frames := 1, cells := 0, slots := 0, locals := 15 } : Room)) (fun a U => a = #[(.int p0), (.int p1), (.int p2)] ∧ Z.Warmed39 U.vm ∧ U.heap = h0) (fun _ _ _ _ _ => True) (fun _ U o U' => ∃ v L, o = .returned v ∧ Q3 Z p0 p1 p2 h0 n0 v U'.heap L ∧ FrameEnd U o U' L ({ frames := 1, cells := 0, slots := 0, locals := 15 } : Room).cells ({ frames := 1, cells := 0, slots := 0, locals := 15 } : Room).slots) := by
  refine MetFree.of_bodySF (plainFor_of_name pn_3) hisR ?_
  intro p e s m args below meth c s₁ Bd hml0 hP hK
  obtain ⟨rfl, hZ, hh⟩ := hP
  have hx := Bd.exec
  have hby := Bd.bytes
  have hml : c.maxLocals = 6 := hml0
  have hown : s.vm.findClass "com/example/pagerun/pagerun/SmallRun" = some m.cls := findClass_of_methodNamed Bd.named
  have hnm := (name_of_methodNamed Bd.named Bd.method).1
  have X0 : Stand p l e ({ frames := 1, cells := 0, slots := 0, locals := 15 } : Room) s m #[(.int p0), (.int p1), (.int p2)] below meth c s₁ [] 0 0 := Stand.of_body Bd
  have e0 : s₁.heap = h0 := by rw [← hh, Bd.state]; rfl
  have N0 := Fr.nil n0
  refine own_in (ef_3 m p0 p1 p2) ?_
  have hr0 := (own_F3_eq p0 p1 p2).symm
  refine own_st (g' := (mkF m 1 #[.val (.int p0), .val (.int p1), .val (.int p2), .unset, .unset, .unset] [(.int p0)])) (fun t k => XS.iloadN X0.here hx rfl (hb hby d3_0) rfl  k) ?_
  obtain ⟨_, _, ⟨T7, L7, k7, n7⟩, -, X7, ⟨Lc7, hQ7, l7, y7, z7⟩, st7⟩ := Jvm.LawKit.callS X0 hx (y := (⟨"java/lang/Integer", "lowestOneBit", "(I)I"⟩ : MethodName)) hown (mvT hZ (hw _ (List.mem_of_getElem? (i := 13) rfl))) (mvT hZ (hw _ (List.mem_of_getElem? (i := 14) rfl))) (mvT hZ (hw _ (List.mem_of_getElem? (i := 15) rfl))) (mvT hZ (hw _ (List.mem_of_getElem? (i := 16) rfl))) (by decide) (backOf (W := 0) (rm4 l Z a0 hw [] p0 h0 n0 Z0  ) hZ (hw _ (List.mem_of_getElem? (i := 16) rfl)) (hw _ (List.mem_of_getElem? (i := 15) rfl)) (by decide) (by decide)) (g := (mkF m 1 #[.val (.int p0), .val (.int p1), .val (.int p2), .unset, .unset, .unset] [(.int p0)])) rfl (by rw [hml]; rfl) (argsL := [(.int p0)]) (rest := []) (lenOf pd_3_0 rfl) rfl (by show 2 * 0 + _ ≤ _; exact Nat.le_of_eq rfl) (hb hby d3_1) (fun _ _ => ⟨rfl, e0, (by decide : 0 + 0 ≤ _), (by decide : 0 + 0 ≤ _)⟩)
  dsimp only [Pt.U, Pt.locs, Pt.cells, Pt.slots] at X7 l7 y7 z7 st7 hQ7
  subst l7 y7 z7
  obtain ⟨rfl, N7q, e7⟩ := hQ7
  have N7 := Fr.app N0 N7q
  refine own_st (g' := (mkF m 4 #[.val (.int p0), .val (.int p1), .val (.int p2), .unset, .unset, .unset] [(.int (own_F4 p0))])) (fun t k => st7 t k) ?_
  refine own_st (g' := (mkF m 5 #[.val (.int p0), .val (.int p1), .val (.int p2), .unset, .unset, .unset] [(.int p1), (.int (own_F4 p0))])) (fun t k => XS.iloadN X7.here hx rfl (hb hby d3_4) rfl  k) ?_
  obtain ⟨_, _, ⟨T8, L8, k8, n8⟩, -, X8, ⟨Lc8, hQ8, l8, y8, z8⟩, st8⟩ := Jvm.LawKit.callS X7 hx (y := (⟨"java/lang/Math", "min", "(II)I"⟩ : MethodName)) hown (mvT hZ (hw _ (List.mem_of_getElem? (i := 17) rfl))) (mvT hZ (hw _ (List.mem_of_getElem? (i := 18) rfl))) (mvT hZ (hw _ (List.mem_of_getElem? (i := 4) rfl))) (mvT hZ (hw _ (List.mem_of_getElem? (i := 19) rfl))) (by decide) (backOf (W := 0) (rm5 l Z a0 hw [] (own_F4 p0) p1 h0 n0 Z0  ) hZ (hw _ (List.mem_of_getElem? (i := 19) rfl)) (hw _ (List.mem_of_getElem? (i := 4) rfl)) (by decide) (by decide)) (g := (mkF m 5 #[.val (.int p0), .val (.int p1), .val (.int p2), .unset, .unset, .unset] [(.int p1), (.int (own_F4 p0))])) rfl (by rw [hml]; rfl) (argsL := [(.int (own_F4 p0)), (.int p1)]) (rest := []) (lenOf pd_3_1 rfl) rfl (by show 2 * 0 + _ ≤ _; exact Nat.le_of_eq rfl) (hb hby d3_5) (fun _ _ => ⟨rfl, e7, (by decide : 0 + 0 ≤ _), (by decide : 0 + 0 ≤ _)⟩)
  dsimp only [Pt.U, Pt.locs, Pt.cells, Pt.slots] at X8 l8 y8 z8 st8 hQ8
  subst l8 y8 z8
  obtain ⟨rfl, N8q, e8⟩ := hQ8
  have N8 := Fr.app N7 N8q
  refine own_st (g' := (mkF m 8 #[.val (.int p0), .val (.int p1), .val (.int p2), .unset, .unset, .unset] [(.int (own_F5 (own_F4 p0) p1))])) (fun t k => st8 t k) ?_
  refine own_st (g' := (mkF m 9 #[.val (.int p0), .val (.int p1), .val (.int p2), .val (.int (own_F5 (own_F4 p0) p1)), .unset, .unset] [])) (fun t k => XS.istoreN X8.here hx rfl (hb hby d3_8) rfl (l' := #[.val (.int p0), .val (.int p1), .val (.int p2), .val (.int (own_F5 (own_F4 p0) p1)), .unset, .unset]) rfl k) ?_
  refine own_st (g' := (mkF m 10 #[.val (.int p0), .val (.int p1), .val (.int p2), .val (.int (own_F5 (own_F4 p0) p1)), .unset, .unset] [(.int p0)])) (fun t k => XS.iloadN X8.here hx rfl (hb hby d3_9) rfl  k) ?_
  refine own_st (g' := (mkF m 11 #[.val (.int p0), .val (.int p1), .val (.int p2), .val (.int (own_F5 (own_F4 p0) p1)), .unset, .unset] [(.long ((p0).toInt64))])) (fun t k => XS.i2l X8.here hx rfl (hb hby d3_10) rfl k) ?_
  refine own_st (g' := (mkF m 12 #[.val (.int p0), .val (.int p1), .val (.int p2), .val (.int (own_F5 (own_F4 p0) p1)), .unset, .unset] [(.int (own_F5 (own_F4 p0) p1)), (.long ((p0).toInt64))])) (fun t k => XS.iloadN X8.here hx rfl (hb hby d3_11) rfl  k) ?_
  refine own_st (g' := (mkF m 13 #[.val (.int p0), .val (.int p1), .val (.int p2), .val (.int (own_F5 (own_F4 p0) p1)), .unset, .unset] [(.long (((own_F5 (own_F4 p0) p1)).toInt64)), (.long ((p0).toInt64))])) (fun t k => XS.i2l X8.here hx rfl (hb hby d3_12) rfl k) ?_
  refine own_st (g' := (mkF m 14 #[.val (.int p0), .val (.int p1), .val (.int p2), .val (.int (own_F5 (own_F4 p0) p1)), .unset, .unset] [(.long (((p0).toInt64) / (((own_F5 (own_F4 p0) p1)).toInt64)))])) (fun t k => XS.ldiv X8.here hx rfl (hb hby d3_13) rfl hp1 k) ?_
  refine own_st (g' := (mkF m 16 #[.val (.int p0), .val (.int p1), .val (.int p2), .val (.int (own_F5 (own_F4 p0) p1)), .val (.long (((p0).toInt64) / (((own_F5 (own_F4 p0) p1)).toInt64))), .second] [])) (fun t k => XS.lstore X8.here hx rfl (hb hby d3_14) rfl (l' := #[.val (.int p0), .val (.int p1), .val (.int p2), .val (.int (own_F5 (own_F4 p0) p1)), .val (.long (((p0).toInt64) / (((own_F5 (own_F4 p0) p1)).toInt64))), .second]) rfl k) ?_
  refine own_st (g' := (mkF m 18 #[.val (.int p0), .val (.int p1), .val (.int p2), .val (.int (own_F5 (own_F4 p0) p1)), .val (.long (((p0).toInt64) / (((own_F5 (own_F4 p0) p1)).toInt64))), .second] [(.long (((p0).toInt64) / (((own_F5 (own_F4 p0) p1)).toInt64)))])) (fun t k => XS.lload X8.here hx rfl (hb hby d3_16) rfl  k) ?_
  refine own_st (g' := (mkF m 19 #[.val (.int p0), .val (.int p1), .val (.int p2), .val (.int (own_F5 (own_F4 p0) p1)), .val (.long (((p0).toInt64) / (((own_F5 (own_F4 p0) p1)).toInt64))), .second] [(.int p2), (.long (((p0).toInt64) / (((own_F5 (own_F4 p0) p1)).toInt64)))])) (fun t k => XS.iloadN X8.here hx rfl (hb hby d3_18) rfl  k) ?_
  refine own_st (g' := (mkF m 20 #[.val (.int p0), .val (.int p1), .val (.int p2), .val (.int (own_F5 (own_F4 p0) p1)), .val (.long (((p0).toInt64) / (((own_F5 (own_F4 p0) p1)).toInt64))), .second] [(.int p1), (.int p2), (.long (((p0).toInt64) / (((own_F5 (own_F4 p0) p1)).toInt64)))])) (fun t k => XS.iloadN X8.here hx rfl (hb hby d3_19) rfl  k) ?_
  refine own_st (g' := (mkF m 21 #[.val (.int p0), .val (.int p1), .val (.int p2), .val (.int (own_F5 (own_F4 p0) p1)), .val (.long (((p0).toInt64) / (((own_F5 (own_F4 p0) p1)).toInt64))), .second] [(.int (p2 / p1)), (.long (((p0).toInt64) / (((own_F5 (own_F4 p0) p1)).toInt64)))])) (fun t k => XS.idiv X8.here hx rfl (hb hby d3_20) rfl hp2 k) ?_
  refine own_st (g' := (mkF m 22 #[.val (.int p0), .val (.int p1), .val (.int p2), .val (.int (own_F5 (own_F4 p0) p1)), .val (.long (((p0).toInt64) / (((own_F5 (own_F4 p0) p1)).toInt64))), .second] [(.long (((p2 / p1)).toInt64)), (.long (((p0).toInt64) / (((own_F5 (own_F4 p0) p1)).toInt64)))])) (fun t k => XS.i2l X8.here hx rfl (hb hby d3_21) rfl k) ?_
  obtain ⟨_, _, ⟨T9, L9, k9, n9⟩, -, X9, ⟨Lc9, hQ9, l9, y9, z9⟩, st9⟩ := Jvm.LawKit.callS X8 hx (y := (⟨"java/lang/Math", "min", "(JJ)J"⟩ : MethodName)) hown (mvT hZ (hw _ (List.mem_of_getElem? (i := 20) rfl))) (mvT hZ (hw _ (List.mem_of_getElem? (i := 7) rfl))) (mvT hZ (hw _ (List.mem_of_getElem? (i := 4) rfl))) (mvT hZ (hw _ (List.mem_of_getElem? (i := 8) rfl))) (by decide) (backOf (W := 0) (rm2 l Z a0 hw [] (((p0).toInt64) / (((own_F5 (own_F4 p0) p1)).toInt64)) (((p2 / p1)).toInt64) h0 n0 Z0  ) hZ (hw _ (List.mem_of_getElem? (i := 8) rfl)) (hw _ (List.mem_of_getElem? (i := 4) rfl)) (by decide) (by decide)) (g := (mkF m 22 #[.val (.int p0), .val (.int p1), .val (.int p2), .val (.int (own_F5 (own_F4 p0) p1)), .val (.long (((p0).toInt64) / (((own_F5 (own_F4 p0) p1)).toInt64))), .second] [(.long (((p2 / p1)).toInt64)), (.long (((p0).toInt64) / (((own_F5 (own_F4 p0) p1)).toInt64)))])) rfl (by rw [hml]; rfl) (argsL := [(.long (((p0).toInt64) / (((own_F5 (own_F4 p0) p1)).toInt64))), (.long (((p2 / p1)).toInt64))]) (rest := []) (lenOf pd_3_2 rfl) rfl (by show 2 * 0 + _ ≤ _; exact Nat.le_of_eq rfl) (hb hby d3_22) (fun _ _ => ⟨rfl, e8, (by decide : 0 + 0 ≤ _), (by decide : 0 + 0 ≤ _)⟩)
  dsimp only [Pt.U, Pt.locs, Pt.cells, Pt.slots] at X9 l9 y9 z9 st9 hQ9
  subst l9 y9 z9
  obtain ⟨rfl, N9q, e9⟩ := hQ9
  have N9 := Fr.app N8 N9q
  refine own_st (g' := (mkF m 25 #[.val (.int p0), .val (.int p1), .val (.int p2), .val (.int (own_F5 (own_F4 p0) p1)), .val (.long (((p0).toInt64) / (((own_F5 (own_F4 p0) p1)).toInt64))), .second] [(.long (own_F2 (((p0).toInt64) / (((own_F5 (own_F4 p0) p1)).toInt64)) (((p2 / p1)).toInt64)))])) (fun t k => st9 t k) ?_
  refine own_st (g' := (mkF m 26 #[.val (.int p0), .val (.int p1), .val (.int p2), .val (.int (own_F5 (own_F4 p0) p1)), .val (.long (((p0).toInt64) / (((own_F5 (own_F4 p0) p1)).toInt64))), .second] [(.int (((own_F2 (((p0).toInt64) / (((own_F5 (own_F4 p0) p1)).toInt64)) (((p2 / p1)).toInt64))).toInt32))])) (fun t k => XS.l2i X9.here hx rfl (hb hby d3_25) rfl k) ?_
  exact own_retI X9 hx Bd.returns Bd.notSynchronized (hb hby d3_26) ⟨congrArg (fun q => some (Value.int q)) hr0, N9, e9⟩ (by decide) (by decide)
def own_w0_7 (p0 : Int32) (p1 : Int32) (p2 : Int32) (p3 : Int32) : Int32 := ((p0 &&& (2147483647 : Int32)) % (31 : Int32))
theorem own_w0_7_eq (p0 : Int32) (p1 : Int32) (p2 : Int32) (p3 : Int32) : own_w0_7 p0 p1 p2 p3 = ((p0 &&& (2147483647 : Int32)) % (31 : Int32)) := rfl
def own_w0_16 (p0 : Int32) (p1 : Int32) (p2 : Int32) (p3 : Int32) : Int32 := ((p1 &&& (2147483647 : Int32)) % (31 : Int32))
theorem own_w0_16_eq (p0 : Int32) (p1 : Int32) (p2 : Int32) (p3 : Int32) : own_w0_16 p0 p1 p2 p3 = ((p1 &&& (2147483647 : Int32)) % (31 : Int32)) := rfl
def own_w0_27 (p0 : Int32) (p1 : Int32) (p2 : Int32) (p3 : Int32) : Int32 := (((((p2 &&& (2147483647 : Int32))).toUInt32 >>> ((own_w0_16 p0 p1 p2 p3) &&& 31).toUInt32).toInt32) ||| (1 : Int32))
theorem own_w0_27_eq (p0 : Int32) (p1 : Int32) (p2 : Int32) (p3 : Int32) : own_w0_27 p0 p1 p2 p3 = (((((p2 &&& (2147483647 : Int32))).toUInt32 >>> ((own_w0_16 p0 p1 p2 p3) &&& 31).toUInt32).toInt32) ||| (1 : Int32)) := rfl
def own_w0_35 (p0 : Int32) (p1 : Int32) (p2 : Int32) (p3 : Int32) : Int64 := (((((own_w0_27 p0 p1 p2 p3)).toInt64) <<< ((own_w0_16 p0 p1 p2 p3) &&& 0x3f).toInt64))
theorem own_w0_35_eq (p0 : Int32) (p1 : Int32) (p2 : Int32) (p3 : Int32) : own_w0_35 p0 p1 p2 p3 = (((((own_w0_27 p0 p1 p2 p3)).toInt64) <<< ((own_w0_16 p0 p1 p2 p3) &&& 0x3f).toInt64)) := rfl
def own_w0_41 (p0 : Int32) (p1 : Int32) (p2 : Int32) (p3 : Int32) : Int64 := (((1 : Int64) <<< ((own_w0_7 p0 p1 p2 p3) &&& 0x3f).toInt64))
theorem own_w0_41_eq (p0 : Int32) (p1 : Int32) (p2 : Int32) (p3 : Int32) : own_w0_41 p0 p1 p2 p3 = (((1 : Int64) <<< ((own_w0_7 p0 p1 p2 p3) &&& 0x3f).toInt64)) := rfl
def own_w0_53 (p0 : Int32) (p1 : Int32) (p2 : Int32) (p3 : Int32) : Int64 := ((((own_w0_35 p0 p1 p2 p3) + (own_w0_41 p0 p1 p2 p3)) - (1 : Int64)) / (own_w0_41 p0 p1 p2 p3))
theorem own_w0_53_eq (p0 : Int32) (p1 : Int32) (p2 : Int32) (p3 : Int32) : own_w0_53 p0 p1 p2 p3 = ((((own_w0_35 p0 p1 p2 p3) + (own_w0_41 p0 p1 p2 p3)) - (1 : Int64)) / (own_w0_41 p0 p1 p2 p3)) := rfl
def own_w0_61 (p0 : Int32) (p1 : Int32) (p2 : Int32) (p3 : Int32) : Int64 := ((2147483647 : Int64) / (own_w0_41 p0 p1 p2 p3))
theorem own_w0_61_eq (p0 : Int32) (p1 : Int32) (p2 : Int32) (p3 : Int32) : own_w0_61 p0 p1 p2 p3 = ((2147483647 : Int64) / (own_w0_41 p0 p1 p2 p3)) := rfl
def own_w0_80 (p0 : Int32) (p1 : Int32) (p2 : Int32) (p3 : Int32) : Int64 := (((own_w0_61 p0 p1 p2 p3) - (own_w0_53 p0 p1 p2 p3)) + (1 : Int64))
theorem own_w0_80_eq (p0 : Int32) (p1 : Int32) (p2 : Int32) (p3 : Int32) : own_w0_80 p0 p1 p2 p3 = (((own_w0_61 p0 p1 p2 p3) - (own_w0_53 p0 p1 p2 p3)) + (1 : Int64)) := rfl
def own_w0_93 (p0 : Int32) (p1 : Int32) (p2 : Int32) (p3 : Int32) : Int64 := ((own_w0_53 p0 p1 p2 p3) + ((((p3 &&& (2147483647 : Int32))).toInt64) % (own_w0_80 p0 p1 p2 p3)))
theorem own_w0_93_eq (p0 : Int32) (p1 : Int32) (p2 : Int32) (p3 : Int32) : own_w0_93 p0 p1 p2 p3 = ((own_w0_53 p0 p1 p2 p3) + ((((p3 &&& (2147483647 : Int32))).toInt64) % (own_w0_80 p0 p1 p2 p3))) := rfl
def own_w0_98 (p0 : Int32) (p1 : Int32) (p2 : Int32) (p3 : Int32) : Int32 := (((own_w0_35 p0 p1 p2 p3)).toInt32)
theorem own_w0_98_eq (p0 : Int32) (p1 : Int32) (p2 : Int32) (p3 : Int32) : own_w0_98 p0 p1 p2 p3 = (((own_w0_35 p0 p1 p2 p3)).toInt32) := rfl
def own_w0_103 (p0 : Int32) (p1 : Int32) (p2 : Int32) (p3 : Int32) : Int32 := (((own_w0_41 p0 p1 p2 p3)).toInt32)
theorem own_w0_103_eq (p0 : Int32) (p1 : Int32) (p2 : Int32) (p3 : Int32) : own_w0_103 p0 p1 p2 p3 = (((own_w0_41 p0 p1 p2 p3)).toInt32) := rfl
def own_w0_111 (p0 : Int32) (p1 : Int32) (p2 : Int32) (p3 : Int32) : Int32 := ((((own_w0_93 p0 p1 p2 p3) * (own_w0_41 p0 p1 p2 p3))).toInt32)
theorem own_w0_111_eq (p0 : Int32) (p1 : Int32) (p2 : Int32) (p3 : Int32) : own_w0_111 p0 p1 p2 p3 = ((((own_w0_93 p0 p1 p2 p3) * (own_w0_41 p0 p1 p2 p3))).toInt32) := rfl
def own_w0_126 (p0 : Int32) (p1 : Int32) (p2 : Int32) (p3 : Int32) : Int64 := (((((own_w0_27 p0 p1 p2 p3)).toInt64) <<< ((own_F1 ((own_w0_16 p0 p1 p2 p3) - (own_w0_7 p0 p1 p2 p3)) (0 : Int32)) &&& 0x3f).toInt64))
theorem own_w0_126_eq (p0 : Int32) (p1 : Int32) (p2 : Int32) (p3 : Int32) : own_w0_126 p0 p1 p2 p3 = (((((own_w0_27 p0 p1 p2 p3)).toInt64) <<< ((own_F1 ((own_w0_16 p0 p1 p2 p3) - (own_w0_7 p0 p1 p2 p3)) (0 : Int32)) &&& 0x3f).toInt64)) := rfl
def own_w0_135 (p0 : Int32) (p1 : Int32) (p2 : Int32) (p3 : Int32) : Int64 := (own_F2 (own_w0_126 p0 p1 p2 p3) (own_w0_93 p0 p1 p2 p3))
theorem own_w0_135_eq (p0 : Int32) (p1 : Int32) (p2 : Int32) (p3 : Int32) : own_w0_135 p0 p1 p2 p3 = (own_F2 (own_w0_126 p0 p1 p2 p3) (own_w0_93 p0 p1 p2 p3)) := rfl
def own_f0_158 (p0 : Int32) (p1 : Int32) (p2 : Int32) (p3 : Int32) (t0_158 : Int32) : Int32 := (nar .boolean t0_158)
theorem own_f0_158_eq (p0 : Int32) (p1 : Int32) (p2 : Int32) (p3 : Int32) (t0_158 : Int32) : own_f0_158 p0 p1 p2 p3 t0_158 = (nar .boolean t0_158) := rfl
def own_F0 (p0 : Int32) (p1 : Int32) (p2 : Int32) (p3 : Int32) : Int32 := (if (own_w0_61 p0 p1 p2 p3) < (own_w0_53 p0 p1 p2 p3) then (nar .boolean (1 : Int32)) else (if (((own_F3 (own_w0_98 p0 p1 p2 p3) (own_w0_103 p0 p1 p2 p3) (own_w0_111 p0 p1 p2 p3))).toInt64) = (own_w0_135 p0 p1 p2 p3) then (own_f0_158 p0 p1 p2 p3 (1 : Int32)) else (own_f0_158 p0 p1 p2 p3 (0 : Int32))))
theorem own_F0_eq (p0 : Int32) (p1 : Int32) (p2 : Int32) (p3 : Int32) : own_F0 p0 p1 p2 p3 = (if (own_w0_61 p0 p1 p2 p3) < (own_w0_53 p0 p1 p2 p3) then (nar .boolean (1 : Int32)) else (if (((own_F3 (own_w0_98 p0 p1 p2 p3) (own_w0_103 p0 p1 p2 p3) (own_w0_111 p0 p1 p2 p3))).toInt64) = (own_w0_135 p0 p1 p2 p3) then (own_f0_158 p0 p1 p2 p3 (1 : Int32)) else (own_f0_158 p0 p1 p2 p3 (0 : Int32)))) := rfl
/-! ## What the law's own numbers are -/
theorem own_natI {x : Int32} {k : Nat} (h : x.toInt = k) : x.toBitVec.toNat = k := by
  have e : x.toBitVec.toInt = k := h
  rw [BitVec.toInt_eq_toNat_cond] at e
  have := x.toBitVec.isLt
  split at e <;> omega
theorem own_natL {x : Int64} {k : Nat} (h : x.toInt = k) : x.toBitVec.toNat = k := by
  have e : x.toBitVec.toInt = k := h
  rw [BitVec.toInt_eq_toNat_cond] at e
  have := x.toBitVec.isLt
  split at e <;> omega
theorem own_intI {x : Int32} {k : Nat} (h : x.toBitVec.toNat = k) (hk : k < 2147483648) : x.toInt = k := by
  show x.toBitVec.toInt = k
  rw [BitVec.toInt_eq_toNat_cond, if_pos (by omega), h]
theorem own_rem31 (x : Int32) : ∃ p : Nat, p ≤ 30 ∧ ((x &&& (2147483647 : Int32)) % (31 : Int32)).toInt = p := by
  have e1 := c_mask x (2147483647 : Int32) 31 (by decide) (by decide)
  have e2 := (c_irem (x &&& (2147483647 : Int32)) (31 : Int32) 31 (by decide)).1 (by omega)
  exact ⟨((x &&& (2147483647 : Int32)) % (31 : Int32)).toInt.toNat, by omega, by omega⟩
theorem own_shl {x : Int64} {q : Int32} {X k : Nat} (hx : x.toInt = X) (hq : q.toInt = k) (hk : k ≤ 30) (hb : X * 2 ^ k < 2 ^ 62) : (x <<< (q &&& 0x3f).toInt64).toInt = ((X * 2 ^ k : Nat) : Int) := by
  have e := c_lshl x q k (by rw [own_natI hq]; omega)
  have b1 := Int64.toInt_lt (x <<< (q &&& 0x3f).toInt64)
  have b2 := Int64.le_toInt (x <<< (q &&& 0x3f).toInt64)
  rw [hx, ← Int.natCast_mul] at e
  generalize X * 2 ^ k = M at *
  omega
theorem own_facts (p0 p1 p2 p3 : Int32) : ∃ p k O : Nat, p ≤ 30 ∧ k ≤ 30 ∧ O % 2 = 1 ∧ O * 2 ^ k < 2147483648 ∧ (own_w0_7 p0 p1 p2 p3).toInt = p ∧ (own_w0_16 p0 p1 p2 p3).toInt = k ∧ (own_w0_27 p0 p1 p2 p3).toInt = O ∧ (own_w0_35 p0 p1 p2 p3).toInt = ((O * 2 ^ k : Nat) : Int) ∧ (own_w0_41 p0 p1 p2 p3).toInt = ((2 ^ p : Nat) : Int) := by
  obtain ⟨p, hp, ep⟩ := own_rem31 p0
  obtain ⟨k, hk, ek⟩ := own_rem31 p1
  have ep' : (own_w0_7 p0 p1 p2 p3).toInt = p := ep
  have ek' : (own_w0_16 p0 p1 p2 p3).toInt = k := ek
  have e1 := c_mask p2 (2147483647 : Int32) 31 (by decide) (by decide)
  obtain ⟨C, hC, eC⟩ : ∃ C : Nat, C < 2 ^ 31 ∧ (p2 &&& (2147483647 : Int32)).toInt = C := ⟨(p2 &&& (2147483647 : Int32)).toInt.toNat, by omega, by omega⟩
  have hm : ((own_w0_16 p0 p1 p2 p3) &&& 31).toUInt32.toNat = k := by
    have q := c_mask (own_w0_16 p0 p1 p2 p3) (31 : Int32) 5 (by decide) (by decide)
    rw [ek'] at q
    exact own_natI (k := k) (by rw [q]; omega)
  have hs : (((p2 &&& (2147483647 : Int32)).toUInt32 >>> ((own_w0_16 p0 p1 p2 p3) &&& 31).toUInt32).toInt32).toInt = ((C / 2 ^ k : Nat) : Int) := by
    rw [Jvm.Kit.i32_iushr (Jvm.Kit.i32_nonneg.mpr (by omega)) hm (by omega), eC]
    rw [Int.natCast_ediv, Int.natCast_pow]; rfl
  have hY : C / 2 ^ k < 2 ^ (31 - k) := by
    rw [Nat.div_lt_iff_lt_mul (Nat.two_pow_pos k), ← Nat.pow_add]; rw [show 31 - k + k = 31 by omega]; exact hC
  have h1 : 1 < 2 ^ (31 - k) := Nat.one_lt_two_pow (by omega)
  have hO := Nat.or_lt_two_pow hY h1
  have hb : ((C / 2 ^ k) ||| 1) * 2 ^ k < 2 ^ 31 := by
    have := (Nat.mul_lt_mul_right (Nat.two_pow_pos k)).mpr hO
    rw [← Nat.pow_add, show 31 - k + k = 31 by omega] at this; exact this
  have hO' : ((C / 2 ^ k) ||| 1) < 2147483648 := Nat.lt_of_lt_of_le hO (by rw [show (2147483648 : Nat) = 2 ^ 31 by decide]; exact Nat.pow_le_pow_right (by decide) (by omega))
  have e27 : (own_w0_27 p0 p1 p2 p3).toInt = (((C / 2 ^ k) ||| 1 : Nat) : Int) := by
    refine own_intI ?_ hO'
    show (_ ||| (1 : Int32)).toBitVec.toNat = _
    rw [Int32.toBitVec_or, BitVec.toNat_or, own_natI hs]; rfl
  have e35 : (own_w0_35 p0 p1 p2 p3).toInt = (((((C / 2 ^ k) ||| 1) * 2 ^ k : Nat)) : Int) :=
    own_shl (x := (own_w0_27 p0 p1 p2 p3).toInt64) (by rw [c_i2l]; exact e27) ek' hk (by omega)
  have e41 : (own_w0_41 p0 p1 p2 p3).toInt = ((2 ^ p : Nat) : Int) := by
    have := own_shl (x := (1 : Int64)) (X := 1) (by decide) ep' hp (by
      have : 2 ^ p ≤ 2 ^ 30 := Nat.pow_le_pow_right (by decide) hp
      omega)
    rw [Nat.one_mul] at this; exact this
  exact ⟨p, k, _, hp, hk, Nat.or_mod_two_eq_one.mpr (Or.inr rfl), hb, ep', ek', e27, e35, e41⟩
theorem own_pow (p : Nat) (hp : p ≤ 30) : 1 ≤ 2 ^ p ∧ 2 ^ p ≤ 1073741824 := ⟨Nat.one_le_two_pow, by rw [show (1073741824 : Nat) = 2 ^ 30 by decide]; exact Nat.pow_le_pow_right (by decide) hp⟩
theorem own_page (p0 p1 p2 p3 : Int32) : own_w0_41 p0 p1 p2 p3 ≠ 0 := by
  obtain ⟨p, k, O, hp, -, -, -, -, -, -, -, e41⟩ := own_facts p0 p1 p2 p3
  intro q; rw [q] at e41; have := own_pow p hp
  rw [show (0 : Int64).toInt = 0 from rfl] at e41; omega
theorem own_divs (p0 p1 p2 p3 : Int32) (p : Nat) (B : Nat) (hp : p ≤ 30) (hB : B < 2147483648) (e35 : (own_w0_35 p0 p1 p2 p3).toInt = (B : Int)) (e41 : (own_w0_41 p0 p1 p2 p3).toInt = ((2 ^ p : Nat) : Int)) :
    (own_w0_53 p0 p1 p2 p3).toInt = (((B + 2 ^ p - 1) / 2 ^ p : Nat) : Int) ∧ (own_w0_61 p0 p1 p2 p3).toInt = ((2147483647 / 2 ^ p : Nat) : Int) := by
  obtain ⟨hP1, hP2⟩ := own_pow p hp
  have f1 := c_ladd (own_w0_35 p0 p1 p2 p3) (own_w0_41 p0 p1 p2 p3)
  have f2 := c_lsub (own_w0_35 p0 p1 p2 p3 + own_w0_41 p0 p1 p2 p3) (1 : Int64)
  have b1 := Int64.toInt_lt (own_w0_35 p0 p1 p2 p3 + own_w0_41 p0 p1 p2 p3)
  have b2 := Int64.le_toInt (own_w0_35 p0 p1 p2 p3 + own_w0_41 p0 p1 p2 p3)
  have b3 := Int64.toInt_lt (own_w0_35 p0 p1 p2 p3 + own_w0_41 p0 p1 p2 p3 - 1)
  have b4 := Int64.le_toInt (own_w0_35 p0 p1 p2 p3 + own_w0_41 p0 p1 p2 p3 - 1)
  rw [show (1 : Int64).toInt = 1 from by decide] at f2
  have hn : own_w0_41 p0 p1 p2 p3 ≠ -1 := fun q => by rw [q, show (-1 : Int64).toInt = -1 from by decide] at e41; omega
  have g1 := (c_ldiv (own_w0_35 p0 p1 p2 p3 + own_w0_41 p0 p1 p2 p3 - 1) (own_w0_41 p0 p1 p2 p3) _ e41 hn).1
  have g2 := (c_ldiv (2147483647 : Int64) (own_w0_41 p0 p1 p2 p3) _ e41 hn).1 (by decide)
  constructor
  · show ((own_w0_35 p0 p1 p2 p3 + own_w0_41 p0 p1 p2 p3 - 1) / own_w0_41 p0 p1 p2 p3).toInt = _
    rw [g1 (by omega), Int.natCast_ediv]
    congr 1; omega
  · show ((2147483647 : Int64) / own_w0_41 p0 p1 p2 p3).toInt = _
    rw [g2, Int.natCast_ediv]; rfl
theorem own_span (p0 p1 p2 p3 : Int32) (h : ¬ own_w0_61 p0 p1 p2 p3 < own_w0_53 p0 p1 p2 p3) : own_w0_80 p0 p1 p2 p3 ≠ 0 := by
  obtain ⟨p, k, O, hp, -, -, hB, -, -, -, e35, e41⟩ := own_facts p0 p1 p2 p3
  obtain ⟨d1, d2⟩ := own_divs p0 p1 p2 p3 p _ hp hB e35 e41
  have h' : ¬ (own_w0_61 p0 p1 p2 p3).toInt < (own_w0_53 p0 p1 p2 p3).toInt := fun z => h (Int64.lt_iff_toInt_lt.mpr z)
  have f1 := c_lsub (own_w0_61 p0 p1 p2 p3) (own_w0_53 p0 p1 p2 p3)
  have f2 := c_ladd (own_w0_61 p0 p1 p2 p3 - own_w0_53 p0 p1 p2 p3) (1 : Int64)
  have b1 := Int64.toInt_lt (own_w0_61 p0 p1 p2 p3 - own_w0_53 p0 p1 p2 p3)
  have b2 := Int64.le_toInt (own_w0_61 p0 p1 p2 p3 - own_w0_53 p0 p1 p2 p3)
  have b3 : (2147483647 / 2 ^ p : Nat) ≤ 2147483647 := Nat.div_le_self _ _
  rw [show (1 : Int64).toInt = 1 from by decide] at f2
  intro q
  have q' : (own_w0_61 p0 p1 p2 p3 - own_w0_53 p0 p1 p2 p3 + 1).toInt = 0 := by
    have : own_w0_61 p0 p1 p2 p3 - own_w0_53 p0 p1 p2 p3 + 1 = 0 := q
    rw [this]; rfl
  generalize 2147483647 / 2 ^ p = M at *
  generalize (O * 2 ^ k + 2 ^ p - 1) / 2 ^ p = M' at *
  omega
theorem own_lowbit {x : Int32} {O k : Nat} (hO : O % 2 = 1) (hk : k ≤ 30) (hx : x.toInt = ((O * 2 ^ k : Nat) : Int)) : (x &&& -x).toInt = ((2 ^ k : Nat) : Int) := by
  have hn := own_natI hx
  refine own_intI ?_ (by have := own_pow k hk; omega)
  have hlt := x.toBitVec.isLt
  have hbit : ∀ i, x.toBitVec.getLsbD i = (decide (k ≤ i) && O.testBit (i - k)) := fun i => by
    rw [← BitVec.testBit_toNat, hn, Nat.testBit_mul_two_pow]
  have h0 : O.testBit 0 = true := by rw [Nat.testBit_zero]; simpa using hO
  have key : x.toBitVec &&& -x.toBitVec = BitVec.ofNat 32 (2 ^ k) := by
    apply BitVec.eq_of_getLsbD_eq
    intro i hi
    rw [BitVec.getLsbD_and, BitVec.getLsbD_neg, BitVec.getLsbD_ofNat, Nat.testBit_two_pow]
    by_cases h1 : i < k
    · have e : x.toBitVec.getLsbD i = false := by rw [hbit]; simp; omega
      rw [e]; simp; omega
    · by_cases h2 : i = k
      · subst h2
        have e : x.toBitVec.getLsbD i = true := by rw [hbit]; simp [h0]
        have e2 : ¬ ∃ j, j < i ∧ x.toBitVec.getLsbD j = true := by
          rintro ⟨j, hj, q⟩; rw [hbit] at q; simp at q; omega
        rw [e]; simp [e2, hi]
      · have e2 : ∃ j, j < i ∧ x.toBitVec.getLsbD j = true := ⟨k, by omega, by rw [hbit]; simp [h0]⟩
        have e3 : decide (∃ j, j < i ∧ x.toBitVec.getLsbD j = true) = true := decide_eq_true e2
        rw [e3]
        cases x.toBitVec.getLsbD i <;> simp [hi] <;> omega
  show (x &&& -x).toBitVec.toNat = _
  rw [Int32.toBitVec_and, Int32.toBitVec_neg, key, BitVec.toNat_ofNat, Nat.mod_eq_of_lt]
  have := own_pow k hk; omega
theorem own_ints (p0 p1 p2 p3 : Int32) (p : Nat) (B : Nat) (hp : p ≤ 30) (hB : B < 2147483648) (e35 : (own_w0_35 p0 p1 p2 p3).toInt = (B : Int)) (e41 : (own_w0_41 p0 p1 p2 p3).toInt = ((2 ^ p : Nat) : Int)) :
    (own_w0_98 p0 p1 p2 p3).toInt = (B : Int) ∧ (own_w0_103 p0 p1 p2 p3).toInt = ((2 ^ p : Nat) : Int) := by
  obtain ⟨hP1, hP2⟩ := own_pow p hp
  have f1 := c_l2i (own_w0_35 p0 p1 p2 p3)
  have f2 := c_l2i (own_w0_41 p0 p1 p2 p3)
  have b1 := Int32.toInt_lt (own_w0_35 p0 p1 p2 p3).toInt32
  have b2 := Int32.le_toInt (own_w0_35 p0 p1 p2 p3).toInt32
  have b3 := Int32.toInt_lt (own_w0_41 p0 p1 p2 p3).toInt32
  have b4 := Int32.le_toInt (own_w0_41 p0 p1 p2 p3).toInt32
  constructor
  · show (own_w0_35 p0 p1 p2 p3).toInt32.toInt = _; omega
  · show (own_w0_41 p0 p1 p2 p3).toInt32.toInt = _; omega
theorem own_minI {a b : Int32} {A B : Nat} (ha : a.toInt = A) (hb : b.toInt = B) : (own_F5 a b).toInt = ((min A B : Nat) : Int) := by
  rw [own_F5_eq]; split
  · rename_i h; have := Int32.lt_iff_toInt_lt.mp h; rw [own_f5_10_eq, hb]; omega
  · rename_i h; have := mt Int32.lt_iff_toInt_lt.mpr h; rw [own_f5_10_eq, ha]; omega
theorem own_minL {a b : Int64} {A B : Nat} (ha : a.toInt = A) (hb : b.toInt = B) : (own_F2 a b).toInt = ((min A B : Nat) : Int) := by
  rw [own_F2_eq]; split
  · rename_i h; have := Int64.lt_iff_toInt_lt.mp h; rw [own_f2_11_eq, hb]; omega
  · rename_i h; have := mt Int64.lt_iff_toInt_lt.mpr h; rw [own_f2_11_eq, ha]; omega
theorem own_gcd (p0 p1 p2 p3 : Int32) : ∃ p k O : Nat, p ≤ 30 ∧ k ≤ 30 ∧ O % 2 = 1 ∧ O * 2 ^ k < 2147483648 ∧ (own_w0_7 p0 p1 p2 p3).toInt = p ∧ (own_w0_16 p0 p1 p2 p3).toInt = k ∧ (own_w0_27 p0 p1 p2 p3).toInt = O ∧ (own_w0_35 p0 p1 p2 p3).toInt = ((O * 2 ^ k : Nat) : Int) ∧ (own_w0_41 p0 p1 p2 p3).toInt = ((2 ^ p : Nat) : Int) ∧
    (own_w0_98 p0 p1 p2 p3).toInt = ((O * 2 ^ k : Nat) : Int) ∧ (own_w0_103 p0 p1 p2 p3).toInt = ((2 ^ p : Nat) : Int) ∧ (own_F5 (own_F4 (own_w0_98 p0 p1 p2 p3)) (own_w0_103 p0 p1 p2 p3)).toInt = ((2 ^ (min k p) : Nat) : Int) := by
  obtain ⟨p, k, O, hp, hk, hO, hB, e7, e16, e27, e35, e41⟩ := own_facts p0 p1 p2 p3
  obtain ⟨e98, e103⟩ := own_ints p0 p1 p2 p3 p _ hp hB e35 e41
  refine ⟨p, k, O, hp, hk, hO, hB, e7, e16, e27, e35, e41, e98, e103, ?_⟩
  rw [own_minI (a := own_F4 (own_w0_98 p0 p1 p2 p3)) (A := 2 ^ k) (B := 2 ^ p) (own_lowbit hO hk e98) e103]
  congr 1
  rcases Nat.le_total k p with q | q
  · rw [Nat.min_eq_left (Nat.pow_le_pow_right (by decide) q), Nat.min_eq_left q]
  · rw [Nat.min_eq_right (Nat.pow_le_pow_right (by decide) q), Nat.min_eq_right q]
theorem own_pr1 (p0 p1 p2 p3 : Int32) : ((own_F5 (own_F4 (own_w0_98 p0 p1 p2 p3)) (own_w0_103 p0 p1 p2 p3))).toInt64 ≠ 0 := by
  obtain ⟨p, k, O, hp, hk, -, -, -, -, -, -, -, -, -, e⟩ := own_gcd p0 p1 p2 p3
  intro q
  have q' := congrArg Int64.toInt q
  rw [c_i2l, e, show (0 : Int64).toInt = 0 from rfl] at q'
  have := own_pow (min k p) (by omega); omega
theorem own_pr2 (p0 p1 p2 p3 : Int32) : own_w0_103 p0 p1 p2 p3 ≠ 0 := by
  obtain ⟨p, k, O, hp, hk, -, -, -, -, -, -, -, -, e, -⟩ := own_gcd p0 p1 p2 p3
  intro q; rw [q, show (0 : Int32).toInt = 0 from rfl] at e
  have := own_pow p hp; omega

theorem pn_0 : plainName "com/example/pagerun/pagerun/SmallRunPagesForPinLaw" = true := by first | (simp [plainName, overriddenIn]; done) | decide +kernel
theorem pd_0_1 : parseMethodDescriptor "(II)I" = some ⟨[.int, .int], some .int⟩ := by decide +kernel
theorem pd_0_2 : parseMethodDescriptor "(JJ)J" = some ⟨[.long, .long], some .long⟩ := by decide +kernel
theorem pd_0_3 : parseMethodDescriptor "(III)I" = some ⟨[.int, .int, .int], some .int⟩ := by decide +kernel
theorem ef_0 (m : MethodId) (x0 : Int32) (x1 : Int32) (x2 : Int32) (x3 : Int32) : entryFrame m #[(.int x0), (.int x1), (.int x2), (.int x3)] maxLocals = mkF m 0 #[.val (.int x0), .val (.int x1), .val (.int x2), .val (.int x3), .unset, .unset, .unset, .unset, .unset, .unset, .unset, .unset, .unset, .unset, .unset, .unset, .unset, .unset, .unset, .unset, .unset, .unset, .unset, .unset, .unset, .unset] [] := by first | (simp [entryFrame, mkF, argsToLocals, Value.category, maxLocals]; done) | rfl
def Q0 (Z : State) (p0 : Int32) (p1 : Int32) (p2 : Int32) (p3 : Int32) (h0 : Heap) (n0 : Nat) (v : Option Value) (h : Heap) (L : List Loc) : Prop := v = some (.int 1) ∧ Fr n0 L
set_option maxRecDepth 65536 in
set_option maxHeartbeats 40000000 in
theorem rm0 (l : Launch) (Z : State) (a0 : Array Value) (hw : ∀ d ∈ tables_1, d.before a0 Z = true) (ws : List Jvm.Cond) (p0 : Int32) (p1 : Int32) (p2 : Int32) (p3 : Int32) (h0 : Heap) (n0 : Nat) (Z0 : n0 ≤ h0.size) (hlaw : own_F0 p0 p1 p2 p3 = 1) :
    MetFree l x (head1 (Jvm.Cond.code x code maxLocals ret :: ws) room_1) (fun a U => a = #[(.int p0), (.int p1), (.int p2), (.int p3)] ∧ Z.Warmed39 U.vm ∧ U.heap = h0) (fun _ _ _ _ _ => True) (fun _ U o U' => ∃ v L, o = .returned v ∧ Q0 Z p0 p1 p2 p3 h0 n0 v U'.heap L ∧ FrameEnd U o U' L 0 0) := by
  refine MetFree.of_bodySF (plainFor_of_name pn_0) hisR ?_
  intro p e s m args below meth c s₁ Bd hml0 hP hK
  obtain ⟨rfl, hZ, hh⟩ := hP
  have hx := Bd.exec
  have hby := Bd.bytes
  have hml : c.maxLocals = 26 := hml0
  have hown : s.vm.findClass "com/example/pagerun/pagerun/SmallRunPagesForPinLaw" = some m.cls := findClass_of_methodNamed Bd.named
  have hnm := (name_of_methodNamed Bd.named Bd.method).1
  have X0 : Stand p l e room_1 s m #[(.int p0), (.int p1), (.int p2), (.int p3)] below meth c s₁ [] 0 0 := Stand.of_body Bd
  have e0 : s₁.heap = h0 := by rw [← hh, Bd.state]; rfl
  have N0 := Fr.nil n0
  refine own_in (ef_0 m p0 p1 p2 p3) ?_
  have hr0 := (own_F0_eq p0 p1 p2 p3).symm.trans hlaw
  refine own_st (g' := (mkF m 1 #[.val (.int p0), .val (.int p1), .val (.int p2), .val (.int p3), .unset, .unset, .unset, .unset, .unset, .unset, .unset, .unset, .unset, .unset, .unset, .unset, .unset, .unset, .unset, .unset, .unset, .unset, .unset, .unset, .unset, .unset] [(.int p0)])) (fun t k => XS.iloadN X0.here hx rfl (hb hby at_0) rfl  k) ?_
  refine own_st (g' := (mkF m 3 #[.val (.int p0), .val (.int p1), .val (.int p2), .val (.int p3), .unset, .unset, .unset, .unset, .unset, .unset, .unset, .unset, .unset, .unset, .unset, .unset, .unset, .unset, .unset, .unset, .unset, .unset, .unset, .unset, .unset, .unset] [(.int (2147483647 : Int32)), (.int p0)])) (fun t k => X0.ldcInt hx hown (mvT hZ (hw _ (List.mem_of_getElem? (i := 0) rfl))) (g := (mkF m 1 #[.val (.int p0), .val (.int p1), .val (.int p2), .val (.int p3), .unset, .unset, .unset, .unset, .unset, .unset, .unset, .unset, .unset, .unset, .unset, .unset, .unset, .unset, .unset, .unset, .unset, .unset, .unset, .unset, .unset, .unset] [(.int p0)])) rfl (hb hby at_1) t k) ?_
  refine own_st (g' := (mkF m 4 #[.val (.int p0), .val (.int p1), .val (.int p2), .val (.int p3), .unset, .unset, .unset, .unset, .unset, .unset, .unset, .unset, .unset, .unset, .unset, .unset, .unset, .unset, .unset, .unset, .unset, .unset, .unset, .unset, .unset, .unset] [(.int (p0 &&& (2147483647 : Int32)))])) (fun t k => XS.iand X0.here hx rfl (hb hby at_3) rfl k) ?_
  refine own_st (g' := (mkF m 6 #[.val (.int p0), .val (.int p1), .val (.int p2), .val (.int p3), .unset, .unset, .unset, .unset, .unset, .unset, .unset, .unset, .unset, .unset, .unset, .unset, .unset, .unset, .unset, .unset, .unset, .unset, .unset, .unset, .unset, .unset] [(.int (31 : Int32)), (.int (p0 &&& (2147483647 : Int32)))])) (fun t k => XS.bipush X0.here hx rfl (hb hby at_4) k) ?_
  refine own_st (g' := (mkF m 7 #[.val (.int p0), .val (.int p1), .val (.int p2), .val (.int p3), .unset, .unset, .unset, .unset, .unset, .unset, .unset, .unset, .unset, .unset, .unset, .unset, .unset, .unset, .unset, .unset, .unset, .unset, .unset, .unset, .unset, .unset] [(.int ((p0 &&& (2147483647 : Int32)) % (31 : Int32)))])) (fun t k => iremM X0 hx rfl (hb hby at_6) rfl (by decide) k) ?_
  refine own_st (g' := (mkF m 9 #[.val (.int p0), .val (.int p1), .val (.int p2), .val (.int p3), .val (.int (own_w0_7 p0 p1 p2 p3)), .unset, .unset, .unset, .unset, .unset, .unset, .unset, .unset, .unset, .unset, .unset, .unset, .unset, .unset, .unset, .unset, .unset, .unset, .unset, .unset, .unset] [])) (fun t k => XS.istore X0.here hx rfl (hb hby at_7) rfl (l' := #[.val (.int p0), .val (.int p1), .val (.int p2), .val (.int p3), .val (.int (own_w0_7 p0 p1 p2 p3)), .unset, .unset, .unset, .unset, .unset, .unset, .unset, .unset, .unset, .unset, .unset, .unset, .unset, .unset, .unset, .unset, .unset, .unset, .unset, .unset, .unset]) rfl k) ?_
  refine own_st (g' := (mkF m 10 #[.val (.int p0), .val (.int p1), .val (.int p2), .val (.int p3), .val (.int (own_w0_7 p0 p1 p2 p3)), .unset, .unset, .unset, .unset, .unset, .unset, .unset, .unset, .unset, .unset, .unset, .unset, .unset, .unset, .unset, .unset, .unset, .unset, .unset, .unset, .unset] [(.int p1)])) (fun t k => XS.iloadN X0.here hx rfl (hb hby at_9) rfl  k) ?_
  refine own_st (g' := (mkF m 12 #[.val (.int p0), .val (.int p1), .val (.int p2), .val (.int p3), .val (.int (own_w0_7 p0 p1 p2 p3)), .unset, .unset, .unset, .unset, .unset, .unset, .unset, .unset, .unset, .unset, .unset, .unset, .unset, .unset, .unset, .unset, .unset, .unset, .unset, .unset, .unset] [(.int (2147483647 : Int32)), (.int p1)])) (fun t k => X0.ldcInt hx hown (mvT hZ (hw _ (List.mem_of_getElem? (i := 0) rfl))) (g := (mkF m 10 #[.val (.int p0), .val (.int p1), .val (.int p2), .val (.int p3), .val (.int (own_w0_7 p0 p1 p2 p3)), .unset, .unset, .unset, .unset, .unset, .unset, .unset, .unset, .unset, .unset, .unset, .unset, .unset, .unset, .unset, .unset, .unset, .unset, .unset, .unset, .unset] [(.int p1)])) rfl (hb hby at_10) t k) ?_
  refine own_st (g' := (mkF m 13 #[.val (.int p0), .val (.int p1), .val (.int p2), .val (.int p3), .val (.int (own_w0_7 p0 p1 p2 p3)), .unset, .unset, .unset, .unset, .unset, .unset, .unset, .unset, .unset, .unset, .unset, .unset, .unset, .unset, .unset, .unset, .unset, .unset, .unset, .unset, .unset] [(.int (p1 &&& (2147483647 : Int32)))])) (fun t k => XS.iand X0.here hx rfl (hb hby at_12) rfl k) ?_
  refine own_st (g' := (mkF m 15 #[.val (.int p0), .val (.int p1), .val (.int p2), .val (.int p3), .val (.int (own_w0_7 p0 p1 p2 p3)), .unset, .unset, .unset, .unset, .unset, .unset, .unset, .unset, .unset, .unset, .unset, .unset, .unset, .unset, .unset, .unset, .unset, .unset, .unset, .unset, .unset] [(.int (31 : Int32)), (.int (p1 &&& (2147483647 : Int32)))])) (fun t k => XS.bipush X0.here hx rfl (hb hby at_13) k) ?_
  refine own_st (g' := (mkF m 16 #[.val (.int p0), .val (.int p1), .val (.int p2), .val (.int p3), .val (.int (own_w0_7 p0 p1 p2 p3)), .unset, .unset, .unset, .unset, .unset, .unset, .unset, .unset, .unset, .unset, .unset, .unset, .unset, .unset, .unset, .unset, .unset, .unset, .unset, .unset, .unset] [(.int ((p1 &&& (2147483647 : Int32)) % (31 : Int32)))])) (fun t k => iremM X0 hx rfl (hb hby at_15) rfl (by decide) k) ?_
  refine own_st (g' := (mkF m 18 #[.val (.int p0), .val (.int p1), .val (.int p2), .val (.int p3), .val (.int (own_w0_7 p0 p1 p2 p3)), .val (.int (own_w0_16 p0 p1 p2 p3)), .unset, .unset, .unset, .unset, .unset, .unset, .unset, .unset, .unset, .unset, .unset, .unset, .unset, .unset, .unset, .unset, .unset, .unset, .unset, .unset] [])) (fun t k => XS.istore X0.here hx rfl (hb hby at_16) rfl (l' := #[.val (.int p0), .val (.int p1), .val (.int p2), .val (.int p3), .val (.int (own_w0_7 p0 p1 p2 p3)), .val (.int (own_w0_16 p0 p1 p2 p3)), .unset, .unset, .unset, .unset, .unset, .unset, .unset, .unset, .unset, .unset, .unset, .unset, .unset, .unset, .unset, .unset, .unset, .unset, .unset, .unset]) rfl k) ?_
  refine own_st (g' := (mkF m 19 #[.val (.int p0), .val (.int p1), .val (.int p2), .val (.int p3), .val (.int (own_w0_7 p0 p1 p2 p3)), .val (.int (own_w0_16 p0 p1 p2 p3)), .unset, .unset, .unset, .unset, .unset, .unset, .unset, .unset, .unset, .unset, .unset, .unset, .unset, .unset, .unset, .unset, .unset, .unset, .unset, .unset] [(.int p2)])) (fun t k => XS.iloadN X0.here hx rfl (hb hby at_18) rfl  k) ?_
  refine own_st (g' := (mkF m 21 #[.val (.int p0), .val (.int p1), .val (.int p2), .val (.int p3), .val (.int (own_w0_7 p0 p1 p2 p3)), .val (.int (own_w0_16 p0 p1 p2 p3)), .unset, .unset, .unset, .unset, .unset, .unset, .unset, .unset, .unset, .unset, .unset, .unset, .unset, .unset, .unset, .unset, .unset, .unset, .unset, .unset] [(.int (2147483647 : Int32)), (.int p2)])) (fun t k => X0.ldcInt hx hown (mvT hZ (hw _ (List.mem_of_getElem? (i := 0) rfl))) (g := (mkF m 19 #[.val (.int p0), .val (.int p1), .val (.int p2), .val (.int p3), .val (.int (own_w0_7 p0 p1 p2 p3)), .val (.int (own_w0_16 p0 p1 p2 p3)), .unset, .unset, .unset, .unset, .unset, .unset, .unset, .unset, .unset, .unset, .unset, .unset, .unset, .unset, .unset, .unset, .unset, .unset, .unset, .unset] [(.int p2)])) rfl (hb hby at_19) t k) ?_
  refine own_st (g' := (mkF m 22 #[.val (.int p0), .val (.int p1), .val (.int p2), .val (.int p3), .val (.int (own_w0_7 p0 p1 p2 p3)), .val (.int (own_w0_16 p0 p1 p2 p3)), .unset, .unset, .unset, .unset, .unset, .unset, .unset, .unset, .unset, .unset, .unset, .unset, .unset, .unset, .unset, .unset, .unset, .unset, .unset, .unset] [(.int (p2 &&& (2147483647 : Int32)))])) (fun t k => XS.iand X0.here hx rfl (hb hby at_21) rfl k) ?_
  refine own_st (g' := (mkF m 24 #[.val (.int p0), .val (.int p1), .val (.int p2), .val (.int p3), .val (.int (own_w0_7 p0 p1 p2 p3)), .val (.int (own_w0_16 p0 p1 p2 p3)), .unset, .unset, .unset, .unset, .unset, .unset, .unset, .unset, .unset, .unset, .unset, .unset, .unset, .unset, .unset, .unset, .unset, .unset, .unset, .unset] [(.int (own_w0_16 p0 p1 p2 p3)), (.int (p2 &&& (2147483647 : Int32)))])) (fun t k => XS.iload X0.here hx rfl (hb hby at_22) rfl  k) ?_
  refine own_st (g' := (mkF m 25 #[.val (.int p0), .val (.int p1), .val (.int p2), .val (.int p3), .val (.int (own_w0_7 p0 p1 p2 p3)), .val (.int (own_w0_16 p0 p1 p2 p3)), .unset, .unset, .unset, .unset, .unset, .unset, .unset, .unset, .unset, .unset, .unset, .unset, .unset, .unset, .unset, .unset, .unset, .unset, .unset, .unset] [(.int ((((p2 &&& (2147483647 : Int32))).toUInt32 >>> ((own_w0_16 p0 p1 p2 p3) &&& 31).toUInt32).toInt32))])) (fun t k => XS.iushr X0.here hx rfl (hb hby at_24) rfl k) ?_
  refine own_st (g' := (mkF m 26 #[.val (.int p0), .val (.int p1), .val (.int p2), .val (.int p3), .val (.int (own_w0_7 p0 p1 p2 p3)), .val (.int (own_w0_16 p0 p1 p2 p3)), .unset, .unset, .unset, .unset, .unset, .unset, .unset, .unset, .unset, .unset, .unset, .unset, .unset, .unset, .unset, .unset, .unset, .unset, .unset, .unset] [(.int (1 : Int32)), (.int ((((p2 &&& (2147483647 : Int32))).toUInt32 >>> ((own_w0_16 p0 p1 p2 p3) &&& 31).toUInt32).toInt32))])) (fun t k => XS.iconst X0.here hx rfl (hb hby at_25) k) ?_
  refine own_st (g' := (mkF m 27 #[.val (.int p0), .val (.int p1), .val (.int p2), .val (.int p3), .val (.int (own_w0_7 p0 p1 p2 p3)), .val (.int (own_w0_16 p0 p1 p2 p3)), .unset, .unset, .unset, .unset, .unset, .unset, .unset, .unset, .unset, .unset, .unset, .unset, .unset, .unset, .unset, .unset, .unset, .unset, .unset, .unset] [(.int (((((p2 &&& (2147483647 : Int32))).toUInt32 >>> ((own_w0_16 p0 p1 p2 p3) &&& 31).toUInt32).toInt32) ||| (1 : Int32)))])) (fun t k => XS.ior X0.here hx rfl (hb hby at_26) rfl k) ?_
  refine own_st (g' := (mkF m 29 #[.val (.int p0), .val (.int p1), .val (.int p2), .val (.int p3), .val (.int (own_w0_7 p0 p1 p2 p3)), .val (.int (own_w0_16 p0 p1 p2 p3)), .val (.int (own_w0_27 p0 p1 p2 p3)), .unset, .unset, .unset, .unset, .unset, .unset, .unset, .unset, .unset, .unset, .unset, .unset, .unset, .unset, .unset, .unset, .unset, .unset, .unset] [])) (fun t k => XS.istore X0.here hx rfl (hb hby at_27) rfl (l' := #[.val (.int p0), .val (.int p1), .val (.int p2), .val (.int p3), .val (.int (own_w0_7 p0 p1 p2 p3)), .val (.int (own_w0_16 p0 p1 p2 p3)), .val (.int (own_w0_27 p0 p1 p2 p3)), .unset, .unset, .unset, .unset, .unset, .unset, .unset, .unset, .unset, .unset, .unset, .unset, .unset, .unset, .unset, .unset, .unset, .unset, .unset]) rfl k) ?_
  refine own_st (g' := (mkF m 31 #[.val (.int p0), .val (.int p1), .val (.int p2), .val (.int p3), .val (.int (own_w0_7 p0 p1 p2 p3)), .val (.int (own_w0_16 p0 p1 p2 p3)), .val (.int (own_w0_27 p0 p1 p2 p3)), .unset, .unset, .unset, .unset, .unset, .unset, .unset, .unset, .unset, .unset, .unset, .unset, .unset, .unset, .unset, .unset, .unset, .unset, .unset] [(.int (own_w0_27 p0 p1 p2 p3))])) (fun t k => XS.iload X0.here hx rfl (hb hby at_29) rfl  k) ?_
  refine own_st (g' := (mkF m 32 #[.val (.int p0), .val (.int p1), .val (.int p2), .val (.int p3), .val (.int (own_w0_7 p0 p1 p2 p3)), .val (.int (own_w0_16 p0 p1 p2 p3)), .val (.int (own_w0_27 p0 p1 p2 p3)), .unset, .unset, .unset, .unset, .unset, .unset, .unset, .unset, .unset, .unset, .unset, .unset, .unset, .unset, .unset, .unset, .unset, .unset, .unset] [(.long (((own_w0_27 p0 p1 p2 p3)).toInt64))])) (fun t k => XS.i2l X0.here hx rfl (hb hby at_31) rfl k) ?_
  refine own_st (g' := (mkF m 34 #[.val (.int p0), .val (.int p1), .val (.int p2), .val (.int p3), .val (.int (own_w0_7 p0 p1 p2 p3)), .val (.int (own_w0_16 p0 p1 p2 p3)), .val (.int (own_w0_27 p0 p1 p2 p3)), .unset, .unset, .unset, .unset, .unset, .unset, .unset, .unset, .unset, .unset, .unset, .unset, .unset, .unset, .unset, .unset, .unset, .unset, .unset] [(.int (own_w0_16 p0 p1 p2 p3)), (.long (((own_w0_27 p0 p1 p2 p3)).toInt64))])) (fun t k => XS.iload X0.here hx rfl (hb hby at_32) rfl  k) ?_
  refine own_st (g' := (mkF m 35 #[.val (.int p0), .val (.int p1), .val (.int p2), .val (.int p3), .val (.int (own_w0_7 p0 p1 p2 p3)), .val (.int (own_w0_16 p0 p1 p2 p3)), .val (.int (own_w0_27 p0 p1 p2 p3)), .unset, .unset, .unset, .unset, .unset, .unset, .unset, .unset, .unset, .unset, .unset, .unset, .unset, .unset, .unset, .unset, .unset, .unset, .unset] [(.long (((((own_w0_27 p0 p1 p2 p3)).toInt64) <<< ((own_w0_16 p0 p1 p2 p3) &&& 0x3f).toInt64)))])) (fun t k => XS.lshl X0.here hx rfl (hb hby at_34) rfl k) ?_
  refine own_st (g' := (mkF m 37 #[.val (.int p0), .val (.int p1), .val (.int p2), .val (.int p3), .val (.int (own_w0_7 p0 p1 p2 p3)), .val (.int (own_w0_16 p0 p1 p2 p3)), .val (.int (own_w0_27 p0 p1 p2 p3)), .val (.long (own_w0_35 p0 p1 p2 p3)), .second, .unset, .unset, .unset, .unset, .unset, .unset, .unset, .unset, .unset, .unset, .unset, .unset, .unset, .unset, .unset, .unset, .unset] [])) (fun t k => XS.lstore X0.here hx rfl (hb hby at_35) rfl (l' := #[.val (.int p0), .val (.int p1), .val (.int p2), .val (.int p3), .val (.int (own_w0_7 p0 p1 p2 p3)), .val (.int (own_w0_16 p0 p1 p2 p3)), .val (.int (own_w0_27 p0 p1 p2 p3)), .val (.long (own_w0_35 p0 p1 p2 p3)), .second, .unset, .unset, .unset, .unset, .unset, .unset, .unset, .unset, .unset, .unset, .unset, .unset, .unset, .unset, .unset, .unset, .unset]) rfl k) ?_
  refine own_st (g' := (mkF m 38 #[.val (.int p0), .val (.int p1), .val (.int p2), .val (.int p3), .val (.int (own_w0_7 p0 p1 p2 p3)), .val (.int (own_w0_16 p0 p1 p2 p3)), .val (.int (own_w0_27 p0 p1 p2 p3)), .val (.long (own_w0_35 p0 p1 p2 p3)), .second, .unset, .unset, .unset, .unset, .unset, .unset, .unset, .unset, .unset, .unset, .unset, .unset, .unset, .unset, .unset, .unset, .unset] [(.long (1 : Int64))])) (fun t k => XS.lconst X0.here hx rfl (hb hby at_37) k) ?_
  refine own_st (g' := (mkF m 40 #[.val (.int p0), .val (.int p1), .val (.int p2), .val (.int p3), .val (.int (own_w0_7 p0 p1 p2 p3)), .val (.int (own_w0_16 p0 p1 p2 p3)), .val (.int (own_w0_27 p0 p1 p2 p3)), .val (.long (own_w0_35 p0 p1 p2 p3)), .second, .unset, .unset, .unset, .unset, .unset, .unset, .unset, .unset, .unset, .unset, .unset, .unset, .unset, .unset, .unset, .unset, .unset] [(.int (own_w0_7 p0 p1 p2 p3)), (.long (1 : Int64))])) (fun t k => XS.iload X0.here hx rfl (hb hby at_38) rfl  k) ?_
  refine own_st (g' := (mkF m 41 #[.val (.int p0), .val (.int p1), .val (.int p2), .val (.int p3), .val (.int (own_w0_7 p0 p1 p2 p3)), .val (.int (own_w0_16 p0 p1 p2 p3)), .val (.int (own_w0_27 p0 p1 p2 p3)), .val (.long (own_w0_35 p0 p1 p2 p3)), .second, .unset, .unset, .unset, .unset, .unset, .unset, .unset, .unset, .unset, .unset, .unset, .unset, .unset, .unset, .unset, .unset, .unset] [(.long (((1 : Int64) <<< ((own_w0_7 p0 p1 p2 p3) &&& 0x3f).toInt64)))])) (fun t k => XS.lshl X0.here hx rfl (hb hby at_40) rfl k) ?_
  refine own_st (g' := (mkF m 43 #[.val (.int p0), .val (.int p1), .val (.int p2), .val (.int p3), .val (.int (own_w0_7 p0 p1 p2 p3)), .val (.int (own_w0_16 p0 p1 p2 p3)), .val (.int (own_w0_27 p0 p1 p2 p3)), .val (.long (own_w0_35 p0 p1 p2 p3)), .second, .val (.long (own_w0_41 p0 p1 p2 p3)), .second, .unset, .unset, .unset, .unset, .unset, .unset, .unset, .unset, .unset, .unset, .unset, .unset, .unset, .unset, .unset] [])) (fun t k => XS.lstore X0.here hx rfl (hb hby at_41) rfl (l' := #[.val (.int p0), .val (.int p1), .val (.int p2), .val (.int p3), .val (.int (own_w0_7 p0 p1 p2 p3)), .val (.int (own_w0_16 p0 p1 p2 p3)), .val (.int (own_w0_27 p0 p1 p2 p3)), .val (.long (own_w0_35 p0 p1 p2 p3)), .second, .val (.long (own_w0_41 p0 p1 p2 p3)), .second, .unset, .unset, .unset, .unset, .unset, .unset, .unset, .unset, .unset, .unset, .unset, .unset, .unset, .unset, .unset]) rfl k) ?_
  refine own_st (g' := (mkF m 45 #[.val (.int p0), .val (.int p1), .val (.int p2), .val (.int p3), .val (.int (own_w0_7 p0 p1 p2 p3)), .val (.int (own_w0_16 p0 p1 p2 p3)), .val (.int (own_w0_27 p0 p1 p2 p3)), .val (.long (own_w0_35 p0 p1 p2 p3)), .second, .val (.long (own_w0_41 p0 p1 p2 p3)), .second, .unset, .unset, .unset, .unset, .unset, .unset, .unset, .unset, .unset, .unset, .unset, .unset, .unset, .unset, .unset] [(.long (own_w0_35 p0 p1 p2 p3))])) (fun t k => XS.lload X0.here hx rfl (hb hby at_43) rfl  k) ?_
  refine own_st (g' := (mkF m 47 #[.val (.int p0), .val (.int p1), .val (.int p2), .val (.int p3), .val (.int (own_w0_7 p0 p1 p2 p3)), .val (.int (own_w0_16 p0 p1 p2 p3)), .val (.int (own_w0_27 p0 p1 p2 p3)), .val (.long (own_w0_35 p0 p1 p2 p3)), .second, .val (.long (own_w0_41 p0 p1 p2 p3)), .second, .unset, .unset, .unset, .unset, .unset, .unset, .unset, .unset, .unset, .unset, .unset, .unset, .unset, .unset, .unset] [(.long (own_w0_41 p0 p1 p2 p3)), (.long (own_w0_35 p0 p1 p2 p3))])) (fun t k => XS.lload X0.here hx rfl (hb hby at_45) rfl  k) ?_
  refine own_st (g' := (mkF m 48 #[.val (.int p0), .val (.int p1), .val (.int p2), .val (.int p3), .val (.int (own_w0_7 p0 p1 p2 p3)), .val (.int (own_w0_16 p0 p1 p2 p3)), .val (.int (own_w0_27 p0 p1 p2 p3)), .val (.long (own_w0_35 p0 p1 p2 p3)), .second, .val (.long (own_w0_41 p0 p1 p2 p3)), .second, .unset, .unset, .unset, .unset, .unset, .unset, .unset, .unset, .unset, .unset, .unset, .unset, .unset, .unset, .unset] [(.long ((own_w0_35 p0 p1 p2 p3) + (own_w0_41 p0 p1 p2 p3)))])) (fun t k => XS.ladd X0.here hx rfl (hb hby at_47) rfl k) ?_
  refine own_st (g' := (mkF m 49 #[.val (.int p0), .val (.int p1), .val (.int p2), .val (.int p3), .val (.int (own_w0_7 p0 p1 p2 p3)), .val (.int (own_w0_16 p0 p1 p2 p3)), .val (.int (own_w0_27 p0 p1 p2 p3)), .val (.long (own_w0_35 p0 p1 p2 p3)), .second, .val (.long (own_w0_41 p0 p1 p2 p3)), .second, .unset, .unset, .unset, .unset, .unset, .unset, .unset, .unset, .unset, .unset, .unset, .unset, .unset, .unset, .unset] [(.long (1 : Int64)), (.long ((own_w0_35 p0 p1 p2 p3) + (own_w0_41 p0 p1 p2 p3)))])) (fun t k => XS.lconst X0.here hx rfl (hb hby at_48) k) ?_
  refine own_st (g' := (mkF m 50 #[.val (.int p0), .val (.int p1), .val (.int p2), .val (.int p3), .val (.int (own_w0_7 p0 p1 p2 p3)), .val (.int (own_w0_16 p0 p1 p2 p3)), .val (.int (own_w0_27 p0 p1 p2 p3)), .val (.long (own_w0_35 p0 p1 p2 p3)), .second, .val (.long (own_w0_41 p0 p1 p2 p3)), .second, .unset, .unset, .unset, .unset, .unset, .unset, .unset, .unset, .unset, .unset, .unset, .unset, .unset, .unset, .unset] [(.long (((own_w0_35 p0 p1 p2 p3) + (own_w0_41 p0 p1 p2 p3)) - (1 : Int64)))])) (fun t k => XS.lsub X0.here hx rfl (hb hby at_49) rfl k) ?_
  refine own_st (g' := (mkF m 52 #[.val (.int p0), .val (.int p1), .val (.int p2), .val (.int p3), .val (.int (own_w0_7 p0 p1 p2 p3)), .val (.int (own_w0_16 p0 p1 p2 p3)), .val (.int (own_w0_27 p0 p1 p2 p3)), .val (.long (own_w0_35 p0 p1 p2 p3)), .second, .val (.long (own_w0_41 p0 p1 p2 p3)), .second, .unset, .unset, .unset, .unset, .unset, .unset, .unset, .unset, .unset, .unset, .unset, .unset, .unset, .unset, .unset] [(.long (own_w0_41 p0 p1 p2 p3)), (.long (((own_w0_35 p0 p1 p2 p3) + (own_w0_41 p0 p1 p2 p3)) - (1 : Int64)))])) (fun t k => XS.lload X0.here hx rfl (hb hby at_50) rfl  k) ?_
  refine own_st (g' := (mkF m 53 #[.val (.int p0), .val (.int p1), .val (.int p2), .val (.int p3), .val (.int (own_w0_7 p0 p1 p2 p3)), .val (.int (own_w0_16 p0 p1 p2 p3)), .val (.int (own_w0_27 p0 p1 p2 p3)), .val (.long (own_w0_35 p0 p1 p2 p3)), .second, .val (.long (own_w0_41 p0 p1 p2 p3)), .second, .unset, .unset, .unset, .unset, .unset, .unset, .unset, .unset, .unset, .unset, .unset, .unset, .unset, .unset, .unset] [(.long ((((own_w0_35 p0 p1 p2 p3) + (own_w0_41 p0 p1 p2 p3)) - (1 : Int64)) / (own_w0_41 p0 p1 p2 p3)))])) (fun t k => XS.ldiv X0.here hx rfl (hb hby at_52) rfl (own_page p0 p1 p2 p3) k) ?_
  refine own_st (g' := (mkF m 55 #[.val (.int p0), .val (.int p1), .val (.int p2), .val (.int p3), .val (.int (own_w0_7 p0 p1 p2 p3)), .val (.int (own_w0_16 p0 p1 p2 p3)), .val (.int (own_w0_27 p0 p1 p2 p3)), .val (.long (own_w0_35 p0 p1 p2 p3)), .second, .val (.long (own_w0_41 p0 p1 p2 p3)), .second, .val (.long (own_w0_53 p0 p1 p2 p3)), .second, .unset, .unset, .unset, .unset, .unset, .unset, .unset, .unset, .unset, .unset, .unset, .unset, .unset] [])) (fun t k => XS.lstore X0.here hx rfl (hb hby at_53) rfl (l' := #[.val (.int p0), .val (.int p1), .val (.int p2), .val (.int p3), .val (.int (own_w0_7 p0 p1 p2 p3)), .val (.int (own_w0_16 p0 p1 p2 p3)), .val (.int (own_w0_27 p0 p1 p2 p3)), .val (.long (own_w0_35 p0 p1 p2 p3)), .second, .val (.long (own_w0_41 p0 p1 p2 p3)), .second, .val (.long (own_w0_53 p0 p1 p2 p3)), .second, .unset, .unset, .unset, .unset, .unset, .unset, .unset, .unset, .unset, .unset, .unset, .unset, .unset]) rfl k) ?_
  refine own_st (g' := (mkF m 58 #[.val (.int p0), .val (.int p1), .val (.int p2), .val (.int p3), .val (.int (own_w0_7 p0 p1 p2 p3)), .val (.int (own_w0_16 p0 p1 p2 p3)), .val (.int (own_w0_27 p0 p1 p2 p3)), .val (.long (own_w0_35 p0 p1 p2 p3)), .second, .val (.long (own_w0_41 p0 p1 p2 p3)), .second, .val (.long (own_w0_53 p0 p1 p2 p3)), .second, .unset, .unset, .unset, .unset, .unset, .unset, .unset, .unset, .unset, .unset, .unset, .unset, .unset] [(.long (2147483647 : Int64))])) (fun t k => X0.ldc2Long hx hown (mvT hZ (hw _ (List.mem_of_getElem? (i := 1) rfl))) (g := (mkF m 55 #[.val (.int p0), .val (.int p1), .val (.int p2), .val (.int p3), .val (.int (own_w0_7 p0 p1 p2 p3)), .val (.int (own_w0_16 p0 p1 p2 p3)), .val (.int (own_w0_27 p0 p1 p2 p3)), .val (.long (own_w0_35 p0 p1 p2 p3)), .second, .val (.long (own_w0_41 p0 p1 p2 p3)), .second, .val (.long (own_w0_53 p0 p1 p2 p3)), .second, .unset, .unset, .unset, .unset, .unset, .unset, .unset, .unset, .unset, .unset, .unset, .unset, .unset] [])) rfl (hb hby at_55) t k) ?_
  refine own_st (g' := (mkF m 60 #[.val (.int p0), .val (.int p1), .val (.int p2), .val (.int p3), .val (.int (own_w0_7 p0 p1 p2 p3)), .val (.int (own_w0_16 p0 p1 p2 p3)), .val (.int (own_w0_27 p0 p1 p2 p3)), .val (.long (own_w0_35 p0 p1 p2 p3)), .second, .val (.long (own_w0_41 p0 p1 p2 p3)), .second, .val (.long (own_w0_53 p0 p1 p2 p3)), .second, .unset, .unset, .unset, .unset, .unset, .unset, .unset, .unset, .unset, .unset, .unset, .unset, .unset] [(.long (own_w0_41 p0 p1 p2 p3)), (.long (2147483647 : Int64))])) (fun t k => XS.lload X0.here hx rfl (hb hby at_58) rfl  k) ?_
  refine own_st (g' := (mkF m 61 #[.val (.int p0), .val (.int p1), .val (.int p2), .val (.int p3), .val (.int (own_w0_7 p0 p1 p2 p3)), .val (.int (own_w0_16 p0 p1 p2 p3)), .val (.int (own_w0_27 p0 p1 p2 p3)), .val (.long (own_w0_35 p0 p1 p2 p3)), .second, .val (.long (own_w0_41 p0 p1 p2 p3)), .second, .val (.long (own_w0_53 p0 p1 p2 p3)), .second, .unset, .unset, .unset, .unset, .unset, .unset, .unset, .unset, .unset, .unset, .unset, .unset, .unset] [(.long ((2147483647 : Int64) / (own_w0_41 p0 p1 p2 p3)))])) (fun t k => XS.ldiv X0.here hx rfl (hb hby at_60) rfl (own_page p0 p1 p2 p3) k) ?_
  refine own_st (g' := (mkF m 63 #[.val (.int p0), .val (.int p1), .val (.int p2), .val (.int p3), .val (.int (own_w0_7 p0 p1 p2 p3)), .val (.int (own_w0_16 p0 p1 p2 p3)), .val (.int (own_w0_27 p0 p1 p2 p3)), .val (.long (own_w0_35 p0 p1 p2 p3)), .second, .val (.long (own_w0_41 p0 p1 p2 p3)), .second, .val (.long (own_w0_53 p0 p1 p2 p3)), .second, .val (.long (own_w0_61 p0 p1 p2 p3)), .second, .unset, .unset, .unset, .unset, .unset, .unset, .unset, .unset, .unset, .unset, .unset] [])) (fun t k => XS.lstore X0.here hx rfl (hb hby at_61) rfl (l' := #[.val (.int p0), .val (.int p1), .val (.int p2), .val (.int p3), .val (.int (own_w0_7 p0 p1 p2 p3)), .val (.int (own_w0_16 p0 p1 p2 p3)), .val (.int (own_w0_27 p0 p1 p2 p3)), .val (.long (own_w0_35 p0 p1 p2 p3)), .second, .val (.long (own_w0_41 p0 p1 p2 p3)), .second, .val (.long (own_w0_53 p0 p1 p2 p3)), .second, .val (.long (own_w0_61 p0 p1 p2 p3)), .second, .unset, .unset, .unset, .unset, .unset, .unset, .unset, .unset, .unset, .unset, .unset]) rfl k) ?_
  refine own_st (g' := (mkF m 65 #[.val (.int p0), .val (.int p1), .val (.int p2), .val (.int p3), .val (.int (own_w0_7 p0 p1 p2 p3)), .val (.int (own_w0_16 p0 p1 p2 p3)), .val (.int (own_w0_27 p0 p1 p2 p3)), .val (.long (own_w0_35 p0 p1 p2 p3)), .second, .val (.long (own_w0_41 p0 p1 p2 p3)), .second, .val (.long (own_w0_53 p0 p1 p2 p3)), .second, .val (.long (own_w0_61 p0 p1 p2 p3)), .second, .unset, .unset, .unset, .unset, .unset, .unset, .unset, .unset, .unset, .unset, .unset] [(.long (own_w0_53 p0 p1 p2 p3))])) (fun t k => XS.lload X0.here hx rfl (hb hby at_63) rfl  k) ?_
  refine own_st (g' := (mkF m 67 #[.val (.int p0), .val (.int p1), .val (.int p2), .val (.int p3), .val (.int (own_w0_7 p0 p1 p2 p3)), .val (.int (own_w0_16 p0 p1 p2 p3)), .val (.int (own_w0_27 p0 p1 p2 p3)), .val (.long (own_w0_35 p0 p1 p2 p3)), .second, .val (.long (own_w0_41 p0 p1 p2 p3)), .second, .val (.long (own_w0_53 p0 p1 p2 p3)), .second, .val (.long (own_w0_61 p0 p1 p2 p3)), .second, .unset, .unset, .unset, .unset, .unset, .unset, .unset, .unset, .unset, .unset, .unset] [(.long (own_w0_61 p0 p1 p2 p3)), (.long (own_w0_53 p0 p1 p2 p3))])) (fun t k => XS.lload X0.here hx rfl (hb hby at_65) rfl  k) ?_
  refine own_st (g' := (mkF m 68 #[.val (.int p0), .val (.int p1), .val (.int p2), .val (.int p3), .val (.int (own_w0_7 p0 p1 p2 p3)), .val (.int (own_w0_16 p0 p1 p2 p3)), .val (.int (own_w0_27 p0 p1 p2 p3)), .val (.long (own_w0_35 p0 p1 p2 p3)), .second, .val (.long (own_w0_41 p0 p1 p2 p3)), .second, .val (.long (own_w0_53 p0 p1 p2 p3)), .second, .val (.long (own_w0_61 p0 p1 p2 p3)), .second, .unset, .unset, .unset, .unset, .unset, .unset, .unset, .unset, .unset, .unset, .unset] [(.int (lcmpW (own_w0_53 p0 p1 p2 p3) (own_w0_61 p0 p1 p2 p3)))])) (fun t k => XS.lcmp X0.here hx rfl (hb hby at_67) rfl k) ?_
  have J158 : ∀ (T : State) (locs : List Loc) (l15_158 : Int64) (l17_158 : Int64) (l19_158 : Int32) (l20_158 : Int32) (l21_158 : Int32) (l22_158 : Int64) (l24_158 : Int64) (t0_158 : Int32), Stand p l e room_1 s m #[(.int p0), (.int p1), (.int p2), (.int p3)] below meth c T locs 0 0 → T.heap = h0 → Fr n0 locs → own_f0_158 p0 p1 p2 p3 t0_158 = (1 : Int32) → own_Fin p e below s 0 0 (Q0 Z p0 p1 p2 p3 h0 n0) T (mkF m 158 #[.val (.int p0), .val (.int p1), .val (.int p2), .val (.int p3), .val (.int (own_w0_7 p0 p1 p2 p3)), .val (.int (own_w0_16 p0 p1 p2 p3)), .val (.int (own_w0_27 p0 p1 p2 p3)), .val (.long (own_w0_35 p0 p1 p2 p3)), .second, .val (.long (own_w0_41 p0 p1 p2 p3)), .second, .val (.long (own_w0_53 p0 p1 p2 p3)), .second, .val (.long (own_w0_61 p0 p1 p2 p3)), .second, .val (.long l15_158), .second, .val (.long l17_158), .second, .val (.int l19_158), .val (.int l20_158), .val (.int l21_158), .val (.long l22_158), .second, .val (.long l24_158), .second] [(.int t0_158)]) := by
    intro T11 locs11 l15_158 l17_158 l19_158 l20_158 l21_158 l22_158 l24_158 t0_158  X11 e11 N11 hr11
    have hr11a := (own_f0_158_eq (p0) (p1) (p2) (p3) (t0_158)).symm.trans hr11
    exact own_retN (t := .boolean) X11 hx Bd.returns Bd.notSynchronized (by simp) (hb hby at_158) ⟨congrArg (fun q => some (Value.int q)) hr11a, N11⟩ (by decide) (by decide)
  by_cases hc68_12 : (own_w0_61 p0 p1 p2 p3) < (own_w0_53 p0 p1 p2 p3)
  · have hr13 := (if_pos hc68_12).symm.trans hr0
    refine own_st (g' := (mkF m 71 #[.val (.int p0), .val (.int p1), .val (.int p2), .val (.int p3), .val (.int (own_w0_7 p0 p1 p2 p3)), .val (.int (own_w0_16 p0 p1 p2 p3)), .val (.int (own_w0_27 p0 p1 p2 p3)), .val (.long (own_w0_35 p0 p1 p2 p3)), .second, .val (.long (own_w0_41 p0 p1 p2 p3)), .second, .val (.long (own_w0_53 p0 p1 p2 p3)), .second, .val (.long (own_w0_61 p0 p1 p2 p3)), .second, .unset, .unset, .unset, .unset, .unset, .unset, .unset, .unset, .unset, .unset, .unset] [])) (fun t k => XS.ifNo X0.here hx rfl (hb hby at_68) rfl ((if0 _ _).trans (tlt ((lw_gt _ _).mpr hc68_12)).2.2.2) k) ?_
    refine own_st (g' := (mkF m 72 #[.val (.int p0), .val (.int p1), .val (.int p2), .val (.int p3), .val (.int (own_w0_7 p0 p1 p2 p3)), .val (.int (own_w0_16 p0 p1 p2 p3)), .val (.int (own_w0_27 p0 p1 p2 p3)), .val (.long (own_w0_35 p0 p1 p2 p3)), .second, .val (.long (own_w0_41 p0 p1 p2 p3)), .second, .val (.long (own_w0_53 p0 p1 p2 p3)), .second, .val (.long (own_w0_61 p0 p1 p2 p3)), .second, .unset, .unset, .unset, .unset, .unset, .unset, .unset, .unset, .unset, .unset, .unset] [(.int (1 : Int32))])) (fun t k => XS.iconst X0.here hx rfl (hb hby at_71) k) ?_
    exact own_retN (t := .boolean) X0 hx Bd.returns Bd.notSynchronized (by simp) (hb hby at_72) ⟨congrArg (fun q => some (Value.int q)) hr13, N0⟩ (by decide) (by decide)
  · have hr14 := (if_neg hc68_12).symm.trans hr0
    refine own_st (g' := (mkF m 73 #[.val (.int p0), .val (.int p1), .val (.int p2), .val (.int p3), .val (.int (own_w0_7 p0 p1 p2 p3)), .val (.int (own_w0_16 p0 p1 p2 p3)), .val (.int (own_w0_27 p0 p1 p2 p3)), .val (.long (own_w0_35 p0 p1 p2 p3)), .second, .val (.long (own_w0_41 p0 p1 p2 p3)), .second, .val (.long (own_w0_53 p0 p1 p2 p3)), .second, .val (.long (own_w0_61 p0 p1 p2 p3)), .second, .unset, .unset, .unset, .unset, .unset, .unset, .unset, .unset, .unset, .unset, .unset] [])) (fun t k => XS.ifYes X0.here hx rfl (pc0 := 68) (pc' := 73) rfl (hb hby at_68) rfl ((if0 _ _).trans (flt (fun q => hc68_12 ((lw_gt _ _).mp q))).2.2.2) (by decide) (by decide) k) ?_
    refine own_st (g' := (mkF m 75 #[.val (.int p0), .val (.int p1), .val (.int p2), .val (.int p3), .val (.int (own_w0_7 p0 p1 p2 p3)), .val (.int (own_w0_16 p0 p1 p2 p3)), .val (.int (own_w0_27 p0 p1 p2 p3)), .val (.long (own_w0_35 p0 p1 p2 p3)), .second, .val (.long (own_w0_41 p0 p1 p2 p3)), .second, .val (.long (own_w0_53 p0 p1 p2 p3)), .second, .val (.long (own_w0_61 p0 p1 p2 p3)), .second, .unset, .unset, .unset, .unset, .unset, .unset, .unset, .unset, .unset, .unset, .unset] [(.long (own_w0_61 p0 p1 p2 p3))])) (fun t k => XS.lload X0.here hx rfl (hb hby at_73) rfl  k) ?_
    refine own_st (g' := (mkF m 77 #[.val (.int p0), .val (.int p1), .val (.int p2), .val (.int p3), .val (.int (own_w0_7 p0 p1 p2 p3)), .val (.int (own_w0_16 p0 p1 p2 p3)), .val (.int (own_w0_27 p0 p1 p2 p3)), .val (.long (own_w0_35 p0 p1 p2 p3)), .second, .val (.long (own_w0_41 p0 p1 p2 p3)), .second, .val (.long (own_w0_53 p0 p1 p2 p3)), .second, .val (.long (own_w0_61 p0 p1 p2 p3)), .second, .unset, .unset, .unset, .unset, .unset, .unset, .unset, .unset, .unset, .unset, .unset] [(.long (own_w0_53 p0 p1 p2 p3)), (.long (own_w0_61 p0 p1 p2 p3))])) (fun t k => XS.lload X0.here hx rfl (hb hby at_75) rfl  k) ?_
    refine own_st (g' := (mkF m 78 #[.val (.int p0), .val (.int p1), .val (.int p2), .val (.int p3), .val (.int (own_w0_7 p0 p1 p2 p3)), .val (.int (own_w0_16 p0 p1 p2 p3)), .val (.int (own_w0_27 p0 p1 p2 p3)), .val (.long (own_w0_35 p0 p1 p2 p3)), .second, .val (.long (own_w0_41 p0 p1 p2 p3)), .second, .val (.long (own_w0_53 p0 p1 p2 p3)), .second, .val (.long (own_w0_61 p0 p1 p2 p3)), .second, .unset, .unset, .unset, .unset, .unset, .unset, .unset, .unset, .unset, .unset, .unset] [(.long ((own_w0_61 p0 p1 p2 p3) - (own_w0_53 p0 p1 p2 p3)))])) (fun t k => XS.lsub X0.here hx rfl (hb hby at_77) rfl k) ?_
    refine own_st (g' := (mkF m 79 #[.val (.int p0), .val (.int p1), .val (.int p2), .val (.int p3), .val (.int (own_w0_7 p0 p1 p2 p3)), .val (.int (own_w0_16 p0 p1 p2 p3)), .val (.int (own_w0_27 p0 p1 p2 p3)), .val (.long (own_w0_35 p0 p1 p2 p3)), .second, .val (.long (own_w0_41 p0 p1 p2 p3)), .second, .val (.long (own_w0_53 p0 p1 p2 p3)), .second, .val (.long (own_w0_61 p0 p1 p2 p3)), .second, .unset, .unset, .unset, .unset, .unset, .unset, .unset, .unset, .unset, .unset, .unset] [(.long (1 : Int64)), (.long ((own_w0_61 p0 p1 p2 p3) - (own_w0_53 p0 p1 p2 p3)))])) (fun t k => XS.lconst X0.here hx rfl (hb hby at_78) k) ?_
    refine own_st (g' := (mkF m 80 #[.val (.int p0), .val (.int p1), .val (.int p2), .val (.int p3), .val (.int (own_w0_7 p0 p1 p2 p3)), .val (.int (own_w0_16 p0 p1 p2 p3)), .val (.int (own_w0_27 p0 p1 p2 p3)), .val (.long (own_w0_35 p0 p1 p2 p3)), .second, .val (.long (own_w0_41 p0 p1 p2 p3)), .second, .val (.long (own_w0_53 p0 p1 p2 p3)), .second, .val (.long (own_w0_61 p0 p1 p2 p3)), .second, .unset, .unset, .unset, .unset, .unset, .unset, .unset, .unset, .unset, .unset, .unset] [(.long (((own_w0_61 p0 p1 p2 p3) - (own_w0_53 p0 p1 p2 p3)) + (1 : Int64)))])) (fun t k => XS.ladd X0.here hx rfl (hb hby at_79) rfl k) ?_
    refine own_st (g' := (mkF m 82 #[.val (.int p0), .val (.int p1), .val (.int p2), .val (.int p3), .val (.int (own_w0_7 p0 p1 p2 p3)), .val (.int (own_w0_16 p0 p1 p2 p3)), .val (.int (own_w0_27 p0 p1 p2 p3)), .val (.long (own_w0_35 p0 p1 p2 p3)), .second, .val (.long (own_w0_41 p0 p1 p2 p3)), .second, .val (.long (own_w0_53 p0 p1 p2 p3)), .second, .val (.long (own_w0_61 p0 p1 p2 p3)), .second, .val (.long (own_w0_80 p0 p1 p2 p3)), .second, .unset, .unset, .unset, .unset, .unset, .unset, .unset, .unset, .unset] [])) (fun t k => XS.lstore X0.here hx rfl (hb hby at_80) rfl (l' := #[.val (.int p0), .val (.int p1), .val (.int p2), .val (.int p3), .val (.int (own_w0_7 p0 p1 p2 p3)), .val (.int (own_w0_16 p0 p1 p2 p3)), .val (.int (own_w0_27 p0 p1 p2 p3)), .val (.long (own_w0_35 p0 p1 p2 p3)), .second, .val (.long (own_w0_41 p0 p1 p2 p3)), .second, .val (.long (own_w0_53 p0 p1 p2 p3)), .second, .val (.long (own_w0_61 p0 p1 p2 p3)), .second, .val (.long (own_w0_80 p0 p1 p2 p3)), .second, .unset, .unset, .unset, .unset, .unset, .unset, .unset, .unset, .unset]) rfl k) ?_
    refine own_st (g' := (mkF m 84 #[.val (.int p0), .val (.int p1), .val (.int p2), .val (.int p3), .val (.int (own_w0_7 p0 p1 p2 p3)), .val (.int (own_w0_16 p0 p1 p2 p3)), .val (.int (own_w0_27 p0 p1 p2 p3)), .val (.long (own_w0_35 p0 p1 p2 p3)), .second, .val (.long (own_w0_41 p0 p1 p2 p3)), .second, .val (.long (own_w0_53 p0 p1 p2 p3)), .second, .val (.long (own_w0_61 p0 p1 p2 p3)), .second, .val (.long (own_w0_80 p0 p1 p2 p3)), .second, .unset, .unset, .unset, .unset, .unset, .unset, .unset, .unset, .unset] [(.long (own_w0_53 p0 p1 p2 p3))])) (fun t k => XS.lload X0.here hx rfl (hb hby at_82) rfl  k) ?_
    refine own_st (g' := (mkF m 85 #[.val (.int p0), .val (.int p1), .val (.int p2), .val (.int p3), .val (.int (own_w0_7 p0 p1 p2 p3)), .val (.int (own_w0_16 p0 p1 p2 p3)), .val (.int (own_w0_27 p0 p1 p2 p3)), .val (.long (own_w0_35 p0 p1 p2 p3)), .second, .val (.long (own_w0_41 p0 p1 p2 p3)), .second, .val (.long (own_w0_53 p0 p1 p2 p3)), .second, .val (.long (own_w0_61 p0 p1 p2 p3)), .second, .val (.long (own_w0_80 p0 p1 p2 p3)), .second, .unset, .unset, .unset, .unset, .unset, .unset, .unset, .unset, .unset] [(.int p3), (.long (own_w0_53 p0 p1 p2 p3))])) (fun t k => XS.iloadN X0.here hx rfl (hb hby at_84) rfl  k) ?_
    refine own_st (g' := (mkF m 87 #[.val (.int p0), .val (.int p1), .val (.int p2), .val (.int p3), .val (.int (own_w0_7 p0 p1 p2 p3)), .val (.int (own_w0_16 p0 p1 p2 p3)), .val (.int (own_w0_27 p0 p1 p2 p3)), .val (.long (own_w0_35 p0 p1 p2 p3)), .second, .val (.long (own_w0_41 p0 p1 p2 p3)), .second, .val (.long (own_w0_53 p0 p1 p2 p3)), .second, .val (.long (own_w0_61 p0 p1 p2 p3)), .second, .val (.long (own_w0_80 p0 p1 p2 p3)), .second, .unset, .unset, .unset, .unset, .unset, .unset, .unset, .unset, .unset] [(.int (2147483647 : Int32)), (.int p3), (.long (own_w0_53 p0 p1 p2 p3))])) (fun t k => X0.ldcInt hx hown (mvT hZ (hw _ (List.mem_of_getElem? (i := 0) rfl))) (g := (mkF m 85 #[.val (.int p0), .val (.int p1), .val (.int p2), .val (.int p3), .val (.int (own_w0_7 p0 p1 p2 p3)), .val (.int (own_w0_16 p0 p1 p2 p3)), .val (.int (own_w0_27 p0 p1 p2 p3)), .val (.long (own_w0_35 p0 p1 p2 p3)), .second, .val (.long (own_w0_41 p0 p1 p2 p3)), .second, .val (.long (own_w0_53 p0 p1 p2 p3)), .second, .val (.long (own_w0_61 p0 p1 p2 p3)), .second, .val (.long (own_w0_80 p0 p1 p2 p3)), .second, .unset, .unset, .unset, .unset, .unset, .unset, .unset, .unset, .unset] [(.int p3), (.long (own_w0_53 p0 p1 p2 p3))])) rfl (hb hby at_85) t k) ?_
    refine own_st (g' := (mkF m 88 #[.val (.int p0), .val (.int p1), .val (.int p2), .val (.int p3), .val (.int (own_w0_7 p0 p1 p2 p3)), .val (.int (own_w0_16 p0 p1 p2 p3)), .val (.int (own_w0_27 p0 p1 p2 p3)), .val (.long (own_w0_35 p0 p1 p2 p3)), .second, .val (.long (own_w0_41 p0 p1 p2 p3)), .second, .val (.long (own_w0_53 p0 p1 p2 p3)), .second, .val (.long (own_w0_61 p0 p1 p2 p3)), .second, .val (.long (own_w0_80 p0 p1 p2 p3)), .second, .unset, .unset, .unset, .unset, .unset, .unset, .unset, .unset, .unset] [(.int (p3 &&& (2147483647 : Int32))), (.long (own_w0_53 p0 p1 p2 p3))])) (fun t k => XS.iand X0.here hx rfl (hb hby at_87) rfl k) ?_
    refine own_st (g' := (mkF m 89 #[.val (.int p0), .val (.int p1), .val (.int p2), .val (.int p3), .val (.int (own_w0_7 p0 p1 p2 p3)), .val (.int (own_w0_16 p0 p1 p2 p3)), .val (.int (own_w0_27 p0 p1 p2 p3)), .val (.long (own_w0_35 p0 p1 p2 p3)), .second, .val (.long (own_w0_41 p0 p1 p2 p3)), .second, .val (.long (own_w0_53 p0 p1 p2 p3)), .second, .val (.long (own_w0_61 p0 p1 p2 p3)), .second, .val (.long (own_w0_80 p0 p1 p2 p3)), .second, .unset, .unset, .unset, .unset, .unset, .unset, .unset, .unset, .unset] [(.long (((p3 &&& (2147483647 : Int32))).toInt64)), (.long (own_w0_53 p0 p1 p2 p3))])) (fun t k => XS.i2l X0.here hx rfl (hb hby at_88) rfl k) ?_
    refine own_st (g' := (mkF m 91 #[.val (.int p0), .val (.int p1), .val (.int p2), .val (.int p3), .val (.int (own_w0_7 p0 p1 p2 p3)), .val (.int (own_w0_16 p0 p1 p2 p3)), .val (.int (own_w0_27 p0 p1 p2 p3)), .val (.long (own_w0_35 p0 p1 p2 p3)), .second, .val (.long (own_w0_41 p0 p1 p2 p3)), .second, .val (.long (own_w0_53 p0 p1 p2 p3)), .second, .val (.long (own_w0_61 p0 p1 p2 p3)), .second, .val (.long (own_w0_80 p0 p1 p2 p3)), .second, .unset, .unset, .unset, .unset, .unset, .unset, .unset, .unset, .unset] [(.long (own_w0_80 p0 p1 p2 p3)), (.long (((p3 &&& (2147483647 : Int32))).toInt64)), (.long (own_w0_53 p0 p1 p2 p3))])) (fun t k => XS.lload X0.here hx rfl (hb hby at_89) rfl  k) ?_
    refine own_st (g' := (mkF m 92 #[.val (.int p0), .val (.int p1), .val (.int p2), .val (.int p3), .val (.int (own_w0_7 p0 p1 p2 p3)), .val (.int (own_w0_16 p0 p1 p2 p3)), .val (.int (own_w0_27 p0 p1 p2 p3)), .val (.long (own_w0_35 p0 p1 p2 p3)), .second, .val (.long (own_w0_41 p0 p1 p2 p3)), .second, .val (.long (own_w0_53 p0 p1 p2 p3)), .second, .val (.long (own_w0_61 p0 p1 p2 p3)), .second, .val (.long (own_w0_80 p0 p1 p2 p3)), .second, .unset, .unset, .unset, .unset, .unset, .unset, .unset, .unset, .unset] [(.long ((((p3 &&& (2147483647 : Int32))).toInt64) % (own_w0_80 p0 p1 p2 p3))), (.long (own_w0_53 p0 p1 p2 p3))])) (fun t k => own_lremM X0 hx rfl (hb hby at_91) rfl (own_span p0 p1 p2 p3 (by assumption)) k) ?_
    refine own_st (g' := (mkF m 93 #[.val (.int p0), .val (.int p1), .val (.int p2), .val (.int p3), .val (.int (own_w0_7 p0 p1 p2 p3)), .val (.int (own_w0_16 p0 p1 p2 p3)), .val (.int (own_w0_27 p0 p1 p2 p3)), .val (.long (own_w0_35 p0 p1 p2 p3)), .second, .val (.long (own_w0_41 p0 p1 p2 p3)), .second, .val (.long (own_w0_53 p0 p1 p2 p3)), .second, .val (.long (own_w0_61 p0 p1 p2 p3)), .second, .val (.long (own_w0_80 p0 p1 p2 p3)), .second, .unset, .unset, .unset, .unset, .unset, .unset, .unset, .unset, .unset] [(.long ((own_w0_53 p0 p1 p2 p3) + ((((p3 &&& (2147483647 : Int32))).toInt64) % (own_w0_80 p0 p1 p2 p3))))])) (fun t k => XS.ladd X0.here hx rfl (hb hby at_92) rfl k) ?_
    refine own_st (g' := (mkF m 95 #[.val (.int p0), .val (.int p1), .val (.int p2), .val (.int p3), .val (.int (own_w0_7 p0 p1 p2 p3)), .val (.int (own_w0_16 p0 p1 p2 p3)), .val (.int (own_w0_27 p0 p1 p2 p3)), .val (.long (own_w0_35 p0 p1 p2 p3)), .second, .val (.long (own_w0_41 p0 p1 p2 p3)), .second, .val (.long (own_w0_53 p0 p1 p2 p3)), .second, .val (.long (own_w0_61 p0 p1 p2 p3)), .second, .val (.long (own_w0_80 p0 p1 p2 p3)), .second, .val (.long (own_w0_93 p0 p1 p2 p3)), .second, .unset, .unset, .unset, .unset, .unset, .unset, .unset] [])) (fun t k => XS.lstore X0.here hx rfl (hb hby at_93) rfl (l' := #[.val (.int p0), .val (.int p1), .val (.int p2), .val (.int p3), .val (.int (own_w0_7 p0 p1 p2 p3)), .val (.int (own_w0_16 p0 p1 p2 p3)), .val (.int (own_w0_27 p0 p1 p2 p3)), .val (.long (own_w0_35 p0 p1 p2 p3)), .second, .val (.long (own_w0_41 p0 p1 p2 p3)), .second, .val (.long (own_w0_53 p0 p1 p2 p3)), .second, .val (.long (own_w0_61 p0 p1 p2 p3)), .second, .val (.long (own_w0_80 p0 p1 p2 p3)), .second, .val (.long (own_w0_93 p0 p1 p2 p3)), .second, .unset, .unset, .unset, .unset, .unset, .unset, .unset]) rfl k) ?_
    refine own_st (g' := (mkF m 97 #[.val (.int p0), .val (.int p1), .val (.int p2), .val (.int p3), .val (.int (own_w0_7 p0 p1 p2 p3)), .val (.int (own_w0_16 p0 p1 p2 p3)), .val (.int (own_w0_27 p0 p1 p2 p3)), .val (.long (own_w0_35 p0 p1 p2 p3)), .second, .val (.long (own_w0_41 p0 p1 p2 p3)), .second, .val (.long (own_w0_53 p0 p1 p2 p3)), .second, .val (.long (own_w0_61 p0 p1 p2 p3)), .second, .val (.long (own_w0_80 p0 p1 p2 p3)), .second, .val (.long (own_w0_93 p0 p1 p2 p3)), .second, .unset, .unset, .unset, .unset, .unset, .unset, .unset] [(.long (own_w0_35 p0 p1 p2 p3))])) (fun t k => XS.lload X0.here hx rfl (hb hby at_95) rfl  k) ?_
    refine own_st (g' := (mkF m 98 #[.val (.int p0), .val (.int p1), .val (.int p2), .val (.int p3), .val (.int (own_w0_7 p0 p1 p2 p3)), .val (.int (own_w0_16 p0 p1 p2 p3)), .val (.int (own_w0_27 p0 p1 p2 p3)), .val (.long (own_w0_35 p0 p1 p2 p3)), .second, .val (.long (own_w0_41 p0 p1 p2 p3)), .second, .val (.long (own_w0_53 p0 p1 p2 p3)), .second, .val (.long (own_w0_61 p0 p1 p2 p3)), .second, .val (.long (own_w0_80 p0 p1 p2 p3)), .second, .val (.long (own_w0_93 p0 p1 p2 p3)), .second, .unset, .unset, .unset, .unset, .unset, .unset, .unset] [(.int (((own_w0_35 p0 p1 p2 p3)).toInt32))])) (fun t k => XS.l2i X0.here hx rfl (hb hby at_97) rfl k) ?_
    refine own_st (g' := (mkF m 100 #[.val (.int p0), .val (.int p1), .val (.int p2), .val (.int p3), .val (.int (own_w0_7 p0 p1 p2 p3)), .val (.int (own_w0_16 p0 p1 p2 p3)), .val (.int (own_w0_27 p0 p1 p2 p3)), .val (.long (own_w0_35 p0 p1 p2 p3)), .second, .val (.long (own_w0_41 p0 p1 p2 p3)), .second, .val (.long (own_w0_53 p0 p1 p2 p3)), .second, .val (.long (own_w0_61 p0 p1 p2 p3)), .second, .val (.long (own_w0_80 p0 p1 p2 p3)), .second, .val (.long (own_w0_93 p0 p1 p2 p3)), .second, .val (.int (own_w0_98 p0 p1 p2 p3)), .unset, .unset, .unset, .unset, .unset, .unset] [])) (fun t k => XS.istore X0.here hx rfl (hb hby at_98) rfl (l' := #[.val (.int p0), .val (.int p1), .val (.int p2), .val (.int p3), .val (.int (own_w0_7 p0 p1 p2 p3)), .val (.int (own_w0_16 p0 p1 p2 p3)), .val (.int (own_w0_27 p0 p1 p2 p3)), .val (.long (own_w0_35 p0 p1 p2 p3)), .second, .val (.long (own_w0_41 p0 p1 p2 p3)), .second, .val (.long (own_w0_53 p0 p1 p2 p3)), .second, .val (.long (own_w0_61 p0 p1 p2 p3)), .second, .val (.long (own_w0_80 p0 p1 p2 p3)), .second, .val (.long (own_w0_93 p0 p1 p2 p3)), .second, .val (.int (own_w0_98 p0 p1 p2 p3)), .unset, .unset, .unset, .unset, .unset, .unset]) rfl k) ?_
    refine own_st (g' := (mkF m 102 #[.val (.int p0), .val (.int p1), .val (.int p2), .val (.int p3), .val (.int (own_w0_7 p0 p1 p2 p3)), .val (.int (own_w0_16 p0 p1 p2 p3)), .val (.int (own_w0_27 p0 p1 p2 p3)), .val (.long (own_w0_35 p0 p1 p2 p3)), .second, .val (.long (own_w0_41 p0 p1 p2 p3)), .second, .val (.long (own_w0_53 p0 p1 p2 p3)), .second, .val (.long (own_w0_61 p0 p1 p2 p3)), .second, .val (.long (own_w0_80 p0 p1 p2 p3)), .second, .val (.long (own_w0_93 p0 p1 p2 p3)), .second, .val (.int (own_w0_98 p0 p1 p2 p3)), .unset, .unset, .unset, .unset, .unset, .unset] [(.long (own_w0_41 p0 p1 p2 p3))])) (fun t k => XS.lload X0.here hx rfl (hb hby at_100) rfl  k) ?_
    refine own_st (g' := (mkF m 103 #[.val (.int p0), .val (.int p1), .val (.int p2), .val (.int p3), .val (.int (own_w0_7 p0 p1 p2 p3)), .val (.int (own_w0_16 p0 p1 p2 p3)), .val (.int (own_w0_27 p0 p1 p2 p3)), .val (.long (own_w0_35 p0 p1 p2 p3)), .second, .val (.long (own_w0_41 p0 p1 p2 p3)), .second, .val (.long (own_w0_53 p0 p1 p2 p3)), .second, .val (.long (own_w0_61 p0 p1 p2 p3)), .second, .val (.long (own_w0_80 p0 p1 p2 p3)), .second, .val (.long (own_w0_93 p0 p1 p2 p3)), .second, .val (.int (own_w0_98 p0 p1 p2 p3)), .unset, .unset, .unset, .unset, .unset, .unset] [(.int (((own_w0_41 p0 p1 p2 p3)).toInt32))])) (fun t k => XS.l2i X0.here hx rfl (hb hby at_102) rfl k) ?_
    refine own_st (g' := (mkF m 105 #[.val (.int p0), .val (.int p1), .val (.int p2), .val (.int p3), .val (.int (own_w0_7 p0 p1 p2 p3)), .val (.int (own_w0_16 p0 p1 p2 p3)), .val (.int (own_w0_27 p0 p1 p2 p3)), .val (.long (own_w0_35 p0 p1 p2 p3)), .second, .val (.long (own_w0_41 p0 p1 p2 p3)), .second, .val (.long (own_w0_53 p0 p1 p2 p3)), .second, .val (.long (own_w0_61 p0 p1 p2 p3)), .second, .val (.long (own_w0_80 p0 p1 p2 p3)), .second, .val (.long (own_w0_93 p0 p1 p2 p3)), .second, .val (.int (own_w0_98 p0 p1 p2 p3)), .val (.int (own_w0_103 p0 p1 p2 p3)), .unset, .unset, .unset, .unset, .unset] [])) (fun t k => XS.istore X0.here hx rfl (hb hby at_103) rfl (l' := #[.val (.int p0), .val (.int p1), .val (.int p2), .val (.int p3), .val (.int (own_w0_7 p0 p1 p2 p3)), .val (.int (own_w0_16 p0 p1 p2 p3)), .val (.int (own_w0_27 p0 p1 p2 p3)), .val (.long (own_w0_35 p0 p1 p2 p3)), .second, .val (.long (own_w0_41 p0 p1 p2 p3)), .second, .val (.long (own_w0_53 p0 p1 p2 p3)), .second, .val (.long (own_w0_61 p0 p1 p2 p3)), .second, .val (.long (own_w0_80 p0 p1 p2 p3)), .second, .val (.long (own_w0_93 p0 p1 p2 p3)), .second, .val (.int (own_w0_98 p0 p1 p2 p3)), .val (.int (own_w0_103 p0 p1 p2 p3)), .unset, .unset, .unset, .unset, .unset]) rfl k) ?_
    refine own_st (g' := (mkF m 107 #[.val (.int p0), .val (.int p1), .val (.int p2), .val (.int p3), .val (.int (own_w0_7 p0 p1 p2 p3)), .val (.int (own_w0_16 p0 p1 p2 p3)), .val (.int (own_w0_27 p0 p1 p2 p3)), .val (.long (own_w0_35 p0 p1 p2 p3)), .second, .val (.long (own_w0_41 p0 p1 p2 p3)), .second, .val (.long (own_w0_53 p0 p1 p2 p3)), .second, .val (.long (own_w0_61 p0 p1 p2 p3)), .second, .val (.long (own_w0_80 p0 p1 p2 p3)), .second, .val (.long (own_w0_93 p0 p1 p2 p3)), .second, .val (.int (own_w0_98 p0 p1 p2 p3)), .val (.int (own_w0_103 p0 p1 p2 p3)), .unset, .unset, .unset, .unset, .unset] [(.long (own_w0_93 p0 p1 p2 p3))])) (fun t k => XS.lload X0.here hx rfl (hb hby at_105) rfl  k) ?_
    refine own_st (g' := (mkF m 109 #[.val (.int p0), .val (.int p1), .val (.int p2), .val (.int p3), .val (.int (own_w0_7 p0 p1 p2 p3)), .val (.int (own_w0_16 p0 p1 p2 p3)), .val (.int (own_w0_27 p0 p1 p2 p3)), .val (.long (own_w0_35 p0 p1 p2 p3)), .second, .val (.long (own_w0_41 p0 p1 p2 p3)), .second, .val (.long (own_w0_53 p0 p1 p2 p3)), .second, .val (.long (own_w0_61 p0 p1 p2 p3)), .second, .val (.long (own_w0_80 p0 p1 p2 p3)), .second, .val (.long (own_w0_93 p0 p1 p2 p3)), .second, .val (.int (own_w0_98 p0 p1 p2 p3)), .val (.int (own_w0_103 p0 p1 p2 p3)), .unset, .unset, .unset, .unset, .unset] [(.long (own_w0_41 p0 p1 p2 p3)), (.long (own_w0_93 p0 p1 p2 p3))])) (fun t k => XS.lload X0.here hx rfl (hb hby at_107) rfl  k) ?_
    refine own_st (g' := (mkF m 110 #[.val (.int p0), .val (.int p1), .val (.int p2), .val (.int p3), .val (.int (own_w0_7 p0 p1 p2 p3)), .val (.int (own_w0_16 p0 p1 p2 p3)), .val (.int (own_w0_27 p0 p1 p2 p3)), .val (.long (own_w0_35 p0 p1 p2 p3)), .second, .val (.long (own_w0_41 p0 p1 p2 p3)), .second, .val (.long (own_w0_53 p0 p1 p2 p3)), .second, .val (.long (own_w0_61 p0 p1 p2 p3)), .second, .val (.long (own_w0_80 p0 p1 p2 p3)), .second, .val (.long (own_w0_93 p0 p1 p2 p3)), .second, .val (.int (own_w0_98 p0 p1 p2 p3)), .val (.int (own_w0_103 p0 p1 p2 p3)), .unset, .unset, .unset, .unset, .unset] [(.long ((own_w0_93 p0 p1 p2 p3) * (own_w0_41 p0 p1 p2 p3)))])) (fun t k => XS.lmul X0.here hx rfl (hb hby at_109) rfl k) ?_
    refine own_st (g' := (mkF m 111 #[.val (.int p0), .val (.int p1), .val (.int p2), .val (.int p3), .val (.int (own_w0_7 p0 p1 p2 p3)), .val (.int (own_w0_16 p0 p1 p2 p3)), .val (.int (own_w0_27 p0 p1 p2 p3)), .val (.long (own_w0_35 p0 p1 p2 p3)), .second, .val (.long (own_w0_41 p0 p1 p2 p3)), .second, .val (.long (own_w0_53 p0 p1 p2 p3)), .second, .val (.long (own_w0_61 p0 p1 p2 p3)), .second, .val (.long (own_w0_80 p0 p1 p2 p3)), .second, .val (.long (own_w0_93 p0 p1 p2 p3)), .second, .val (.int (own_w0_98 p0 p1 p2 p3)), .val (.int (own_w0_103 p0 p1 p2 p3)), .unset, .unset, .unset, .unset, .unset] [(.int ((((own_w0_93 p0 p1 p2 p3) * (own_w0_41 p0 p1 p2 p3))).toInt32))])) (fun t k => XS.l2i X0.here hx rfl (hb hby at_110) rfl k) ?_
    refine own_st (g' := (mkF m 113 #[.val (.int p0), .val (.int p1), .val (.int p2), .val (.int p3), .val (.int (own_w0_7 p0 p1 p2 p3)), .val (.int (own_w0_16 p0 p1 p2 p3)), .val (.int (own_w0_27 p0 p1 p2 p3)), .val (.long (own_w0_35 p0 p1 p2 p3)), .second, .val (.long (own_w0_41 p0 p1 p2 p3)), .second, .val (.long (own_w0_53 p0 p1 p2 p3)), .second, .val (.long (own_w0_61 p0 p1 p2 p3)), .second, .val (.long (own_w0_80 p0 p1 p2 p3)), .second, .val (.long (own_w0_93 p0 p1 p2 p3)), .second, .val (.int (own_w0_98 p0 p1 p2 p3)), .val (.int (own_w0_103 p0 p1 p2 p3)), .val (.int (own_w0_111 p0 p1 p2 p3)), .unset, .unset, .unset, .unset] [])) (fun t k => XS.istore X0.here hx rfl (hb hby at_111) rfl (l' := #[.val (.int p0), .val (.int p1), .val (.int p2), .val (.int p3), .val (.int (own_w0_7 p0 p1 p2 p3)), .val (.int (own_w0_16 p0 p1 p2 p3)), .val (.int (own_w0_27 p0 p1 p2 p3)), .val (.long (own_w0_35 p0 p1 p2 p3)), .second, .val (.long (own_w0_41 p0 p1 p2 p3)), .second, .val (.long (own_w0_53 p0 p1 p2 p3)), .second, .val (.long (own_w0_61 p0 p1 p2 p3)), .second, .val (.long (own_w0_80 p0 p1 p2 p3)), .second, .val (.long (own_w0_93 p0 p1 p2 p3)), .second, .val (.int (own_w0_98 p0 p1 p2 p3)), .val (.int (own_w0_103 p0 p1 p2 p3)), .val (.int (own_w0_111 p0 p1 p2 p3)), .unset, .unset, .unset, .unset]) rfl k) ?_
    refine own_st (g' := (mkF m 115 #[.val (.int p0), .val (.int p1), .val (.int p2), .val (.int p3), .val (.int (own_w0_7 p0 p1 p2 p3)), .val (.int (own_w0_16 p0 p1 p2 p3)), .val (.int (own_w0_27 p0 p1 p2 p3)), .val (.long (own_w0_35 p0 p1 p2 p3)), .second, .val (.long (own_w0_41 p0 p1 p2 p3)), .second, .val (.long (own_w0_53 p0 p1 p2 p3)), .second, .val (.long (own_w0_61 p0 p1 p2 p3)), .second, .val (.long (own_w0_80 p0 p1 p2 p3)), .second, .val (.long (own_w0_93 p0 p1 p2 p3)), .second, .val (.int (own_w0_98 p0 p1 p2 p3)), .val (.int (own_w0_103 p0 p1 p2 p3)), .val (.int (own_w0_111 p0 p1 p2 p3)), .unset, .unset, .unset, .unset] [(.int (own_w0_27 p0 p1 p2 p3))])) (fun t k => XS.iload X0.here hx rfl (hb hby at_113) rfl  k) ?_
    refine own_st (g' := (mkF m 116 #[.val (.int p0), .val (.int p1), .val (.int p2), .val (.int p3), .val (.int (own_w0_7 p0 p1 p2 p3)), .val (.int (own_w0_16 p0 p1 p2 p3)), .val (.int (own_w0_27 p0 p1 p2 p3)), .val (.long (own_w0_35 p0 p1 p2 p3)), .second, .val (.long (own_w0_41 p0 p1 p2 p3)), .second, .val (.long (own_w0_53 p0 p1 p2 p3)), .second, .val (.long (own_w0_61 p0 p1 p2 p3)), .second, .val (.long (own_w0_80 p0 p1 p2 p3)), .second, .val (.long (own_w0_93 p0 p1 p2 p3)), .second, .val (.int (own_w0_98 p0 p1 p2 p3)), .val (.int (own_w0_103 p0 p1 p2 p3)), .val (.int (own_w0_111 p0 p1 p2 p3)), .unset, .unset, .unset, .unset] [(.long (((own_w0_27 p0 p1 p2 p3)).toInt64))])) (fun t k => XS.i2l X0.here hx rfl (hb hby at_115) rfl k) ?_
    refine own_st (g' := (mkF m 118 #[.val (.int p0), .val (.int p1), .val (.int p2), .val (.int p3), .val (.int (own_w0_7 p0 p1 p2 p3)), .val (.int (own_w0_16 p0 p1 p2 p3)), .val (.int (own_w0_27 p0 p1 p2 p3)), .val (.long (own_w0_35 p0 p1 p2 p3)), .second, .val (.long (own_w0_41 p0 p1 p2 p3)), .second, .val (.long (own_w0_53 p0 p1 p2 p3)), .second, .val (.long (own_w0_61 p0 p1 p2 p3)), .second, .val (.long (own_w0_80 p0 p1 p2 p3)), .second, .val (.long (own_w0_93 p0 p1 p2 p3)), .second, .val (.int (own_w0_98 p0 p1 p2 p3)), .val (.int (own_w0_103 p0 p1 p2 p3)), .val (.int (own_w0_111 p0 p1 p2 p3)), .unset, .unset, .unset, .unset] [(.int (own_w0_16 p0 p1 p2 p3)), (.long (((own_w0_27 p0 p1 p2 p3)).toInt64))])) (fun t k => XS.iload X0.here hx rfl (hb hby at_116) rfl  k) ?_
    refine own_st (g' := (mkF m 120 #[.val (.int p0), .val (.int p1), .val (.int p2), .val (.int p3), .val (.int (own_w0_7 p0 p1 p2 p3)), .val (.int (own_w0_16 p0 p1 p2 p3)), .val (.int (own_w0_27 p0 p1 p2 p3)), .val (.long (own_w0_35 p0 p1 p2 p3)), .second, .val (.long (own_w0_41 p0 p1 p2 p3)), .second, .val (.long (own_w0_53 p0 p1 p2 p3)), .second, .val (.long (own_w0_61 p0 p1 p2 p3)), .second, .val (.long (own_w0_80 p0 p1 p2 p3)), .second, .val (.long (own_w0_93 p0 p1 p2 p3)), .second, .val (.int (own_w0_98 p0 p1 p2 p3)), .val (.int (own_w0_103 p0 p1 p2 p3)), .val (.int (own_w0_111 p0 p1 p2 p3)), .unset, .unset, .unset, .unset] [(.int (own_w0_7 p0 p1 p2 p3)), (.int (own_w0_16 p0 p1 p2 p3)), (.long (((own_w0_27 p0 p1 p2 p3)).toInt64))])) (fun t k => XS.iload X0.here hx rfl (hb hby at_118) rfl  k) ?_
    refine own_st (g' := (mkF m 121 #[.val (.int p0), .val (.int p1), .val (.int p2), .val (.int p3), .val (.int (own_w0_7 p0 p1 p2 p3)), .val (.int (own_w0_16 p0 p1 p2 p3)), .val (.int (own_w0_27 p0 p1 p2 p3)), .val (.long (own_w0_35 p0 p1 p2 p3)), .second, .val (.long (own_w0_41 p0 p1 p2 p3)), .second, .val (.long (own_w0_53 p0 p1 p2 p3)), .second, .val (.long (own_w0_61 p0 p1 p2 p3)), .second, .val (.long (own_w0_80 p0 p1 p2 p3)), .second, .val (.long (own_w0_93 p0 p1 p2 p3)), .second, .val (.int (own_w0_98 p0 p1 p2 p3)), .val (.int (own_w0_103 p0 p1 p2 p3)), .val (.int (own_w0_111 p0 p1 p2 p3)), .unset, .unset, .unset, .unset] [(.int ((own_w0_16 p0 p1 p2 p3) - (own_w0_7 p0 p1 p2 p3))), (.long (((own_w0_27 p0 p1 p2 p3)).toInt64))])) (fun t k => XS.isub X0.here hx rfl (hb hby at_120) rfl k) ?_
    refine own_st (g' := (mkF m 122 #[.val (.int p0), .val (.int p1), .val (.int p2), .val (.int p3), .val (.int (own_w0_7 p0 p1 p2 p3)), .val (.int (own_w0_16 p0 p1 p2 p3)), .val (.int (own_w0_27 p0 p1 p2 p3)), .val (.long (own_w0_35 p0 p1 p2 p3)), .second, .val (.long (own_w0_41 p0 p1 p2 p3)), .second, .val (.long (own_w0_53 p0 p1 p2 p3)), .second, .val (.long (own_w0_61 p0 p1 p2 p3)), .second, .val (.long (own_w0_80 p0 p1 p2 p3)), .second, .val (.long (own_w0_93 p0 p1 p2 p3)), .second, .val (.int (own_w0_98 p0 p1 p2 p3)), .val (.int (own_w0_103 p0 p1 p2 p3)), .val (.int (own_w0_111 p0 p1 p2 p3)), .unset, .unset, .unset, .unset] [(.int (0 : Int32)), (.int ((own_w0_16 p0 p1 p2 p3) - (own_w0_7 p0 p1 p2 p3))), (.long (((own_w0_27 p0 p1 p2 p3)).toInt64))])) (fun t k => XS.iconst X0.here hx rfl (hb hby at_121) k) ?_
    obtain ⟨_, _, ⟨T15, L15, k15, n15⟩, -, X15, ⟨Lc15, hQ15, l15, y15, z15⟩, st15⟩ := Jvm.LawKit.callS X0 hx (y := (⟨"java/lang/Math", "max", "(II)I"⟩ : MethodName)) hown (mvT hZ (hw _ (List.mem_of_getElem? (i := 2) rfl))) (mvT hZ (hw _ (List.mem_of_getElem? (i := 3) rfl))) (mvT hZ (hw _ (List.mem_of_getElem? (i := 4) rfl))) (mvT hZ (hw _ (List.mem_of_getElem? (i := 5) rfl))) (by decide) (backOf (W := 2) (rm1 l Z a0 hw [] ((own_w0_16 p0 p1 p2 p3) - (own_w0_7 p0 p1 p2 p3)) (0 : Int32) h0 n0 Z0  ) hZ (hw _ (List.mem_of_getElem? (i := 5) rfl)) (hw _ (List.mem_of_getElem? (i := 4) rfl)) (by decide) (by decide)) (g := (mkF m 122 #[.val (.int p0), .val (.int p1), .val (.int p2), .val (.int p3), .val (.int (own_w0_7 p0 p1 p2 p3)), .val (.int (own_w0_16 p0 p1 p2 p3)), .val (.int (own_w0_27 p0 p1 p2 p3)), .val (.long (own_w0_35 p0 p1 p2 p3)), .second, .val (.long (own_w0_41 p0 p1 p2 p3)), .second, .val (.long (own_w0_53 p0 p1 p2 p3)), .second, .val (.long (own_w0_61 p0 p1 p2 p3)), .second, .val (.long (own_w0_80 p0 p1 p2 p3)), .second, .val (.long (own_w0_93 p0 p1 p2 p3)), .second, .val (.int (own_w0_98 p0 p1 p2 p3)), .val (.int (own_w0_103 p0 p1 p2 p3)), .val (.int (own_w0_111 p0 p1 p2 p3)), .unset, .unset, .unset, .unset] [(.int (0 : Int32)), (.int ((own_w0_16 p0 p1 p2 p3) - (own_w0_7 p0 p1 p2 p3))), (.long (((own_w0_27 p0 p1 p2 p3)).toInt64))])) rfl (by rw [hml]; rfl) (argsL := [(.int ((own_w0_16 p0 p1 p2 p3) - (own_w0_7 p0 p1 p2 p3))), (.int (0 : Int32))]) (rest := [(.long (((own_w0_27 p0 p1 p2 p3)).toInt64))]) (lenOf pd_0_1 rfl) rfl (by show 2 * 0 + _ ≤ _; exact Nat.le_of_eq rfl) (hb hby at_122) (fun _ _ => ⟨rfl, e0, (by decide : 0 + 0 ≤ _), (by decide : 0 + 0 ≤ _)⟩)
    dsimp only [Pt.U, Pt.locs, Pt.cells, Pt.slots] at X15 l15 y15 z15 st15 hQ15
    subst l15 y15 z15
    obtain ⟨rfl, N15q, e15⟩ := hQ15
    have N15 := Fr.app N0 N15q
    refine own_st (g' := (mkF m 125 #[.val (.int p0), .val (.int p1), .val (.int p2), .val (.int p3), .val (.int (own_w0_7 p0 p1 p2 p3)), .val (.int (own_w0_16 p0 p1 p2 p3)), .val (.int (own_w0_27 p0 p1 p2 p3)), .val (.long (own_w0_35 p0 p1 p2 p3)), .second, .val (.long (own_w0_41 p0 p1 p2 p3)), .second, .val (.long (own_w0_53 p0 p1 p2 p3)), .second, .val (.long (own_w0_61 p0 p1 p2 p3)), .second, .val (.long (own_w0_80 p0 p1 p2 p3)), .second, .val (.long (own_w0_93 p0 p1 p2 p3)), .second, .val (.int (own_w0_98 p0 p1 p2 p3)), .val (.int (own_w0_103 p0 p1 p2 p3)), .val (.int (own_w0_111 p0 p1 p2 p3)), .unset, .unset, .unset, .unset] [(.int (own_F1 ((own_w0_16 p0 p1 p2 p3) - (own_w0_7 p0 p1 p2 p3)) (0 : Int32))), (.long (((own_w0_27 p0 p1 p2 p3)).toInt64))])) (fun t k => st15 t k) ?_
    refine own_st (g' := (mkF m 126 #[.val (.int p0), .val (.int p1), .val (.int p2), .val (.int p3), .val (.int (own_w0_7 p0 p1 p2 p3)), .val (.int (own_w0_16 p0 p1 p2 p3)), .val (.int (own_w0_27 p0 p1 p2 p3)), .val (.long (own_w0_35 p0 p1 p2 p3)), .second, .val (.long (own_w0_41 p0 p1 p2 p3)), .second, .val (.long (own_w0_53 p0 p1 p2 p3)), .second, .val (.long (own_w0_61 p0 p1 p2 p3)), .second, .val (.long (own_w0_80 p0 p1 p2 p3)), .second, .val (.long (own_w0_93 p0 p1 p2 p3)), .second, .val (.int (own_w0_98 p0 p1 p2 p3)), .val (.int (own_w0_103 p0 p1 p2 p3)), .val (.int (own_w0_111 p0 p1 p2 p3)), .unset, .unset, .unset, .unset] [(.long (((((own_w0_27 p0 p1 p2 p3)).toInt64) <<< ((own_F1 ((own_w0_16 p0 p1 p2 p3) - (own_w0_7 p0 p1 p2 p3)) (0 : Int32)) &&& 0x3f).toInt64)))])) (fun t k => XS.lshl X15.here hx rfl (hb hby at_125) rfl k) ?_
    refine own_st (g' := (mkF m 128 #[.val (.int p0), .val (.int p1), .val (.int p2), .val (.int p3), .val (.int (own_w0_7 p0 p1 p2 p3)), .val (.int (own_w0_16 p0 p1 p2 p3)), .val (.int (own_w0_27 p0 p1 p2 p3)), .val (.long (own_w0_35 p0 p1 p2 p3)), .second, .val (.long (own_w0_41 p0 p1 p2 p3)), .second, .val (.long (own_w0_53 p0 p1 p2 p3)), .second, .val (.long (own_w0_61 p0 p1 p2 p3)), .second, .val (.long (own_w0_80 p0 p1 p2 p3)), .second, .val (.long (own_w0_93 p0 p1 p2 p3)), .second, .val (.int (own_w0_98 p0 p1 p2 p3)), .val (.int (own_w0_103 p0 p1 p2 p3)), .val (.int (own_w0_111 p0 p1 p2 p3)), .val (.long (own_w0_126 p0 p1 p2 p3)), .second, .unset, .unset] [])) (fun t k => XS.lstore X15.here hx rfl (hb hby at_126) rfl (l' := #[.val (.int p0), .val (.int p1), .val (.int p2), .val (.int p3), .val (.int (own_w0_7 p0 p1 p2 p3)), .val (.int (own_w0_16 p0 p1 p2 p3)), .val (.int (own_w0_27 p0 p1 p2 p3)), .val (.long (own_w0_35 p0 p1 p2 p3)), .second, .val (.long (own_w0_41 p0 p1 p2 p3)), .second, .val (.long (own_w0_53 p0 p1 p2 p3)), .second, .val (.long (own_w0_61 p0 p1 p2 p3)), .second, .val (.long (own_w0_80 p0 p1 p2 p3)), .second, .val (.long (own_w0_93 p0 p1 p2 p3)), .second, .val (.int (own_w0_98 p0 p1 p2 p3)), .val (.int (own_w0_103 p0 p1 p2 p3)), .val (.int (own_w0_111 p0 p1 p2 p3)), .val (.long (own_w0_126 p0 p1 p2 p3)), .second, .unset, .unset]) rfl k) ?_
    refine own_st (g' := (mkF m 130 #[.val (.int p0), .val (.int p1), .val (.int p2), .val (.int p3), .val (.int (own_w0_7 p0 p1 p2 p3)), .val (.int (own_w0_16 p0 p1 p2 p3)), .val (.int (own_w0_27 p0 p1 p2 p3)), .val (.long (own_w0_35 p0 p1 p2 p3)), .second, .val (.long (own_w0_41 p0 p1 p2 p3)), .second, .val (.long (own_w0_53 p0 p1 p2 p3)), .second, .val (.long (own_w0_61 p0 p1 p2 p3)), .second, .val (.long (own_w0_80 p0 p1 p2 p3)), .second, .val (.long (own_w0_93 p0 p1 p2 p3)), .second, .val (.int (own_w0_98 p0 p1 p2 p3)), .val (.int (own_w0_103 p0 p1 p2 p3)), .val (.int (own_w0_111 p0 p1 p2 p3)), .val (.long (own_w0_126 p0 p1 p2 p3)), .second, .unset, .unset] [(.long (own_w0_126 p0 p1 p2 p3))])) (fun t k => XS.lload X15.here hx rfl (hb hby at_128) rfl  k) ?_
    refine own_st (g' := (mkF m 132 #[.val (.int p0), .val (.int p1), .val (.int p2), .val (.int p3), .val (.int (own_w0_7 p0 p1 p2 p3)), .val (.int (own_w0_16 p0 p1 p2 p3)), .val (.int (own_w0_27 p0 p1 p2 p3)), .val (.long (own_w0_35 p0 p1 p2 p3)), .second, .val (.long (own_w0_41 p0 p1 p2 p3)), .second, .val (.long (own_w0_53 p0 p1 p2 p3)), .second, .val (.long (own_w0_61 p0 p1 p2 p3)), .second, .val (.long (own_w0_80 p0 p1 p2 p3)), .second, .val (.long (own_w0_93 p0 p1 p2 p3)), .second, .val (.int (own_w0_98 p0 p1 p2 p3)), .val (.int (own_w0_103 p0 p1 p2 p3)), .val (.int (own_w0_111 p0 p1 p2 p3)), .val (.long (own_w0_126 p0 p1 p2 p3)), .second, .unset, .unset] [(.long (own_w0_93 p0 p1 p2 p3)), (.long (own_w0_126 p0 p1 p2 p3))])) (fun t k => XS.lload X15.here hx rfl (hb hby at_130) rfl  k) ?_
    obtain ⟨_, _, ⟨T16, L16, k16, n16⟩, -, X16, ⟨Lc16, hQ16, l16, y16, z16⟩, st16⟩ := Jvm.LawKit.callS X15 hx (y := (⟨"java/lang/Math", "min", "(JJ)J"⟩ : MethodName)) hown (mvT hZ (hw _ (List.mem_of_getElem? (i := 6) rfl))) (mvT hZ (hw _ (List.mem_of_getElem? (i := 7) rfl))) (mvT hZ (hw _ (List.mem_of_getElem? (i := 4) rfl))) (mvT hZ (hw _ (List.mem_of_getElem? (i := 8) rfl))) (by decide) (backOf (W := 0) (rm2 l Z a0 hw [] (own_w0_126 p0 p1 p2 p3) (own_w0_93 p0 p1 p2 p3) h0 n0 Z0  ) hZ (hw _ (List.mem_of_getElem? (i := 8) rfl)) (hw _ (List.mem_of_getElem? (i := 4) rfl)) (by decide) (by decide)) (g := (mkF m 132 #[.val (.int p0), .val (.int p1), .val (.int p2), .val (.int p3), .val (.int (own_w0_7 p0 p1 p2 p3)), .val (.int (own_w0_16 p0 p1 p2 p3)), .val (.int (own_w0_27 p0 p1 p2 p3)), .val (.long (own_w0_35 p0 p1 p2 p3)), .second, .val (.long (own_w0_41 p0 p1 p2 p3)), .second, .val (.long (own_w0_53 p0 p1 p2 p3)), .second, .val (.long (own_w0_61 p0 p1 p2 p3)), .second, .val (.long (own_w0_80 p0 p1 p2 p3)), .second, .val (.long (own_w0_93 p0 p1 p2 p3)), .second, .val (.int (own_w0_98 p0 p1 p2 p3)), .val (.int (own_w0_103 p0 p1 p2 p3)), .val (.int (own_w0_111 p0 p1 p2 p3)), .val (.long (own_w0_126 p0 p1 p2 p3)), .second, .unset, .unset] [(.long (own_w0_93 p0 p1 p2 p3)), (.long (own_w0_126 p0 p1 p2 p3))])) rfl (by rw [hml]; rfl) (argsL := [(.long (own_w0_126 p0 p1 p2 p3)), (.long (own_w0_93 p0 p1 p2 p3))]) (rest := []) (lenOf pd_0_2 rfl) rfl (by show 2 * 0 + _ ≤ _; exact Nat.le_of_eq rfl) (hb hby at_132) (fun _ _ => ⟨rfl, e15, (by decide : 0 + 0 ≤ _), (by decide : 0 + 0 ≤ _)⟩)
    dsimp only [Pt.U, Pt.locs, Pt.cells, Pt.slots] at X16 l16 y16 z16 st16 hQ16
    subst l16 y16 z16
    obtain ⟨rfl, N16q, e16⟩ := hQ16
    have N16 := Fr.app N15 N16q
    refine own_st (g' := (mkF m 135 #[.val (.int p0), .val (.int p1), .val (.int p2), .val (.int p3), .val (.int (own_w0_7 p0 p1 p2 p3)), .val (.int (own_w0_16 p0 p1 p2 p3)), .val (.int (own_w0_27 p0 p1 p2 p3)), .val (.long (own_w0_35 p0 p1 p2 p3)), .second, .val (.long (own_w0_41 p0 p1 p2 p3)), .second, .val (.long (own_w0_53 p0 p1 p2 p3)), .second, .val (.long (own_w0_61 p0 p1 p2 p3)), .second, .val (.long (own_w0_80 p0 p1 p2 p3)), .second, .val (.long (own_w0_93 p0 p1 p2 p3)), .second, .val (.int (own_w0_98 p0 p1 p2 p3)), .val (.int (own_w0_103 p0 p1 p2 p3)), .val (.int (own_w0_111 p0 p1 p2 p3)), .val (.long (own_w0_126 p0 p1 p2 p3)), .second, .unset, .unset] [(.long (own_F2 (own_w0_126 p0 p1 p2 p3) (own_w0_93 p0 p1 p2 p3)))])) (fun t k => st16 t k) ?_
    refine own_st (g' := (mkF m 137 #[.val (.int p0), .val (.int p1), .val (.int p2), .val (.int p3), .val (.int (own_w0_7 p0 p1 p2 p3)), .val (.int (own_w0_16 p0 p1 p2 p3)), .val (.int (own_w0_27 p0 p1 p2 p3)), .val (.long (own_w0_35 p0 p1 p2 p3)), .second, .val (.long (own_w0_41 p0 p1 p2 p3)), .second, .val (.long (own_w0_53 p0 p1 p2 p3)), .second, .val (.long (own_w0_61 p0 p1 p2 p3)), .second, .val (.long (own_w0_80 p0 p1 p2 p3)), .second, .val (.long (own_w0_93 p0 p1 p2 p3)), .second, .val (.int (own_w0_98 p0 p1 p2 p3)), .val (.int (own_w0_103 p0 p1 p2 p3)), .val (.int (own_w0_111 p0 p1 p2 p3)), .val (.long (own_w0_126 p0 p1 p2 p3)), .second, .val (.long (own_w0_135 p0 p1 p2 p3)), .second] [])) (fun t k => XS.lstore X16.here hx rfl (hb hby at_135) rfl (l' := #[.val (.int p0), .val (.int p1), .val (.int p2), .val (.int p3), .val (.int (own_w0_7 p0 p1 p2 p3)), .val (.int (own_w0_16 p0 p1 p2 p3)), .val (.int (own_w0_27 p0 p1 p2 p3)), .val (.long (own_w0_35 p0 p1 p2 p3)), .second, .val (.long (own_w0_41 p0 p1 p2 p3)), .second, .val (.long (own_w0_53 p0 p1 p2 p3)), .second, .val (.long (own_w0_61 p0 p1 p2 p3)), .second, .val (.long (own_w0_80 p0 p1 p2 p3)), .second, .val (.long (own_w0_93 p0 p1 p2 p3)), .second, .val (.int (own_w0_98 p0 p1 p2 p3)), .val (.int (own_w0_103 p0 p1 p2 p3)), .val (.int (own_w0_111 p0 p1 p2 p3)), .val (.long (own_w0_126 p0 p1 p2 p3)), .second, .val (.long (own_w0_135 p0 p1 p2 p3)), .second]) rfl k) ?_
    refine own_st (g' := (mkF m 139 #[.val (.int p0), .val (.int p1), .val (.int p2), .val (.int p3), .val (.int (own_w0_7 p0 p1 p2 p3)), .val (.int (own_w0_16 p0 p1 p2 p3)), .val (.int (own_w0_27 p0 p1 p2 p3)), .val (.long (own_w0_35 p0 p1 p2 p3)), .second, .val (.long (own_w0_41 p0 p1 p2 p3)), .second, .val (.long (own_w0_53 p0 p1 p2 p3)), .second, .val (.long (own_w0_61 p0 p1 p2 p3)), .second, .val (.long (own_w0_80 p0 p1 p2 p3)), .second, .val (.long (own_w0_93 p0 p1 p2 p3)), .second, .val (.int (own_w0_98 p0 p1 p2 p3)), .val (.int (own_w0_103 p0 p1 p2 p3)), .val (.int (own_w0_111 p0 p1 p2 p3)), .val (.long (own_w0_126 p0 p1 p2 p3)), .second, .val (.long (own_w0_135 p0 p1 p2 p3)), .second] [(.int (own_w0_98 p0 p1 p2 p3))])) (fun t k => XS.iload X16.here hx rfl (hb hby at_137) rfl  k) ?_
    refine own_st (g' := (mkF m 141 #[.val (.int p0), .val (.int p1), .val (.int p2), .val (.int p3), .val (.int (own_w0_7 p0 p1 p2 p3)), .val (.int (own_w0_16 p0 p1 p2 p3)), .val (.int (own_w0_27 p0 p1 p2 p3)), .val (.long (own_w0_35 p0 p1 p2 p3)), .second, .val (.long (own_w0_41 p0 p1 p2 p3)), .second, .val (.long (own_w0_53 p0 p1 p2 p3)), .second, .val (.long (own_w0_61 p0 p1 p2 p3)), .second, .val (.long (own_w0_80 p0 p1 p2 p3)), .second, .val (.long (own_w0_93 p0 p1 p2 p3)), .second, .val (.int (own_w0_98 p0 p1 p2 p3)), .val (.int (own_w0_103 p0 p1 p2 p3)), .val (.int (own_w0_111 p0 p1 p2 p3)), .val (.long (own_w0_126 p0 p1 p2 p3)), .second, .val (.long (own_w0_135 p0 p1 p2 p3)), .second] [(.int (own_w0_103 p0 p1 p2 p3)), (.int (own_w0_98 p0 p1 p2 p3))])) (fun t k => XS.iload X16.here hx rfl (hb hby at_139) rfl  k) ?_
    refine own_st (g' := (mkF m 143 #[.val (.int p0), .val (.int p1), .val (.int p2), .val (.int p3), .val (.int (own_w0_7 p0 p1 p2 p3)), .val (.int (own_w0_16 p0 p1 p2 p3)), .val (.int (own_w0_27 p0 p1 p2 p3)), .val (.long (own_w0_35 p0 p1 p2 p3)), .second, .val (.long (own_w0_41 p0 p1 p2 p3)), .second, .val (.long (own_w0_53 p0 p1 p2 p3)), .second, .val (.long (own_w0_61 p0 p1 p2 p3)), .second, .val (.long (own_w0_80 p0 p1 p2 p3)), .second, .val (.long (own_w0_93 p0 p1 p2 p3)), .second, .val (.int (own_w0_98 p0 p1 p2 p3)), .val (.int (own_w0_103 p0 p1 p2 p3)), .val (.int (own_w0_111 p0 p1 p2 p3)), .val (.long (own_w0_126 p0 p1 p2 p3)), .second, .val (.long (own_w0_135 p0 p1 p2 p3)), .second] [(.int (own_w0_111 p0 p1 p2 p3)), (.int (own_w0_103 p0 p1 p2 p3)), (.int (own_w0_98 p0 p1 p2 p3))])) (fun t k => XS.iload X16.here hx rfl (hb hby at_141) rfl  k) ?_
    obtain ⟨_, _, ⟨T17, L17, k17, n17⟩, -, X17, ⟨Lc17, hQ17, l17, y17, z17⟩, st17⟩ := Jvm.LawKit.callS X16 hx (y := (⟨"com/example/pagerun/pagerun/SmallRun", "pagesFor", "(III)I"⟩ : MethodName)) hown (mvT hZ (hw _ (List.mem_of_getElem? (i := 9) rfl))) (mvT hZ (hw _ (List.mem_of_getElem? (i := 10) rfl))) (mvT hZ (hw _ (List.mem_of_getElem? (i := 11) rfl))) (mvT hZ (hw _ (List.mem_of_getElem? (i := 12) rfl))) (by decide) (backOf (W := 0) (rm3 l Z a0 hw [] (own_w0_98 p0 p1 p2 p3) (own_w0_103 p0 p1 p2 p3) (own_w0_111 p0 p1 p2 p3) h0 n0 Z0  (own_pr1 p0 p1 p2 p3) (own_pr2 p0 p1 p2 p3)) hZ (hw _ (List.mem_of_getElem? (i := 12) rfl)) (hw _ (List.mem_of_getElem? (i := 11) rfl)) (by decide) (by decide)) (g := (mkF m 143 #[.val (.int p0), .val (.int p1), .val (.int p2), .val (.int p3), .val (.int (own_w0_7 p0 p1 p2 p3)), .val (.int (own_w0_16 p0 p1 p2 p3)), .val (.int (own_w0_27 p0 p1 p2 p3)), .val (.long (own_w0_35 p0 p1 p2 p3)), .second, .val (.long (own_w0_41 p0 p1 p2 p3)), .second, .val (.long (own_w0_53 p0 p1 p2 p3)), .second, .val (.long (own_w0_61 p0 p1 p2 p3)), .second, .val (.long (own_w0_80 p0 p1 p2 p3)), .second, .val (.long (own_w0_93 p0 p1 p2 p3)), .second, .val (.int (own_w0_98 p0 p1 p2 p3)), .val (.int (own_w0_103 p0 p1 p2 p3)), .val (.int (own_w0_111 p0 p1 p2 p3)), .val (.long (own_w0_126 p0 p1 p2 p3)), .second, .val (.long (own_w0_135 p0 p1 p2 p3)), .second] [(.int (own_w0_111 p0 p1 p2 p3)), (.int (own_w0_103 p0 p1 p2 p3)), (.int (own_w0_98 p0 p1 p2 p3))])) rfl (by rw [hml]; rfl) (argsL := [(.int (own_w0_98 p0 p1 p2 p3)), (.int (own_w0_103 p0 p1 p2 p3)), (.int (own_w0_111 p0 p1 p2 p3))]) (rest := []) (lenOf pd_0_3 rfl) rfl (by show 2 * 0 + _ ≤ _; exact Nat.le_of_eq rfl) (hb hby at_143) (fun _ _ => ⟨rfl, e16, (by decide : 0 + 0 ≤ _), (by decide : 0 + 0 ≤ _)⟩)
    dsimp only [Pt.U, Pt.locs, Pt.cells, Pt.slots] at X17 l17 y17 z17 st17 hQ17
    subst l17 y17 z17
    obtain ⟨rfl, N17q, e17⟩ := hQ17
    have N17 := Fr.app N16 N17q
    refine own_st (g' := (mkF m 146 #[.val (.int p0), .val (.int p1), .val (.int p2), .val (.int p3), .val (.int (own_w0_7 p0 p1 p2 p3)), .val (.int (own_w0_16 p0 p1 p2 p3)), .val (.int (own_w0_27 p0 p1 p2 p3)), .val (.long (own_w0_35 p0 p1 p2 p3)), .second, .val (.long (own_w0_41 p0 p1 p2 p3)), .second, .val (.long (own_w0_53 p0 p1 p2 p3)), .second, .val (.long (own_w0_61 p0 p1 p2 p3)), .second, .val (.long (own_w0_80 p0 p1 p2 p3)), .second, .val (.long (own_w0_93 p0 p1 p2 p3)), .second, .val (.int (own_w0_98 p0 p1 p2 p3)), .val (.int (own_w0_103 p0 p1 p2 p3)), .val (.int (own_w0_111 p0 p1 p2 p3)), .val (.long (own_w0_126 p0 p1 p2 p3)), .second, .val (.long (own_w0_135 p0 p1 p2 p3)), .second] [(.int (own_F3 (own_w0_98 p0 p1 p2 p3) (own_w0_103 p0 p1 p2 p3) (own_w0_111 p0 p1 p2 p3)))])) (fun t k => st17 t k) ?_
    refine own_st (g' := (mkF m 147 #[.val (.int p0), .val (.int p1), .val (.int p2), .val (.int p3), .val (.int (own_w0_7 p0 p1 p2 p3)), .val (.int (own_w0_16 p0 p1 p2 p3)), .val (.int (own_w0_27 p0 p1 p2 p3)), .val (.long (own_w0_35 p0 p1 p2 p3)), .second, .val (.long (own_w0_41 p0 p1 p2 p3)), .second, .val (.long (own_w0_53 p0 p1 p2 p3)), .second, .val (.long (own_w0_61 p0 p1 p2 p3)), .second, .val (.long (own_w0_80 p0 p1 p2 p3)), .second, .val (.long (own_w0_93 p0 p1 p2 p3)), .second, .val (.int (own_w0_98 p0 p1 p2 p3)), .val (.int (own_w0_103 p0 p1 p2 p3)), .val (.int (own_w0_111 p0 p1 p2 p3)), .val (.long (own_w0_126 p0 p1 p2 p3)), .second, .val (.long (own_w0_135 p0 p1 p2 p3)), .second] [(.long (((own_F3 (own_w0_98 p0 p1 p2 p3) (own_w0_103 p0 p1 p2 p3) (own_w0_111 p0 p1 p2 p3))).toInt64))])) (fun t k => XS.i2l X17.here hx rfl (hb hby at_146) rfl k) ?_
    refine own_st (g' := (mkF m 149 #[.val (.int p0), .val (.int p1), .val (.int p2), .val (.int p3), .val (.int (own_w0_7 p0 p1 p2 p3)), .val (.int (own_w0_16 p0 p1 p2 p3)), .val (.int (own_w0_27 p0 p1 p2 p3)), .val (.long (own_w0_35 p0 p1 p2 p3)), .second, .val (.long (own_w0_41 p0 p1 p2 p3)), .second, .val (.long (own_w0_53 p0 p1 p2 p3)), .second, .val (.long (own_w0_61 p0 p1 p2 p3)), .second, .val (.long (own_w0_80 p0 p1 p2 p3)), .second, .val (.long (own_w0_93 p0 p1 p2 p3)), .second, .val (.int (own_w0_98 p0 p1 p2 p3)), .val (.int (own_w0_103 p0 p1 p2 p3)), .val (.int (own_w0_111 p0 p1 p2 p3)), .val (.long (own_w0_126 p0 p1 p2 p3)), .second, .val (.long (own_w0_135 p0 p1 p2 p3)), .second] [(.long (own_w0_135 p0 p1 p2 p3)), (.long (((own_F3 (own_w0_98 p0 p1 p2 p3) (own_w0_103 p0 p1 p2 p3) (own_w0_111 p0 p1 p2 p3))).toInt64))])) (fun t k => XS.lload X17.here hx rfl (hb hby at_147) rfl  k) ?_
    refine own_st (g' := (mkF m 150 #[.val (.int p0), .val (.int p1), .val (.int p2), .val (.int p3), .val (.int (own_w0_7 p0 p1 p2 p3)), .val (.int (own_w0_16 p0 p1 p2 p3)), .val (.int (own_w0_27 p0 p1 p2 p3)), .val (.long (own_w0_35 p0 p1 p2 p3)), .second, .val (.long (own_w0_41 p0 p1 p2 p3)), .second, .val (.long (own_w0_53 p0 p1 p2 p3)), .second, .val (.long (own_w0_61 p0 p1 p2 p3)), .second, .val (.long (own_w0_80 p0 p1 p2 p3)), .second, .val (.long (own_w0_93 p0 p1 p2 p3)), .second, .val (.int (own_w0_98 p0 p1 p2 p3)), .val (.int (own_w0_103 p0 p1 p2 p3)), .val (.int (own_w0_111 p0 p1 p2 p3)), .val (.long (own_w0_126 p0 p1 p2 p3)), .second, .val (.long (own_w0_135 p0 p1 p2 p3)), .second] [(.int (lcmpW (((own_F3 (own_w0_98 p0 p1 p2 p3) (own_w0_103 p0 p1 p2 p3) (own_w0_111 p0 p1 p2 p3))).toInt64) (own_w0_135 p0 p1 p2 p3)))])) (fun t k => XS.lcmp X17.here hx rfl (hb hby at_149) rfl k) ?_
    by_cases hc150_18 : (((own_F3 (own_w0_98 p0 p1 p2 p3) (own_w0_103 p0 p1 p2 p3) (own_w0_111 p0 p1 p2 p3))).toInt64) = (own_w0_135 p0 p1 p2 p3)
    · have hr19 := (if_pos hc150_18).symm.trans hr14
      refine own_st (g' := (mkF m 153 #[.val (.int p0), .val (.int p1), .val (.int p2), .val (.int p3), .val (.int (own_w0_7 p0 p1 p2 p3)), .val (.int (own_w0_16 p0 p1 p2 p3)), .val (.int (own_w0_27 p0 p1 p2 p3)), .val (.long (own_w0_35 p0 p1 p2 p3)), .second, .val (.long (own_w0_41 p0 p1 p2 p3)), .second, .val (.long (own_w0_53 p0 p1 p2 p3)), .second, .val (.long (own_w0_61 p0 p1 p2 p3)), .second, .val (.long (own_w0_80 p0 p1 p2 p3)), .second, .val (.long (own_w0_93 p0 p1 p2 p3)), .second, .val (.int (own_w0_98 p0 p1 p2 p3)), .val (.int (own_w0_103 p0 p1 p2 p3)), .val (.int (own_w0_111 p0 p1 p2 p3)), .val (.long (own_w0_126 p0 p1 p2 p3)), .second, .val (.long (own_w0_135 p0 p1 p2 p3)), .second] [])) (fun t k => XS.ifNo X17.here hx rfl (hb hby at_150) rfl ((if0 _ _).trans (teq ((lw_eq _ _).mpr hc150_18)).2) k) ?_
      refine own_st (g' := (mkF m 154 #[.val (.int p0), .val (.int p1), .val (.int p2), .val (.int p3), .val (.int (own_w0_7 p0 p1 p2 p3)), .val (.int (own_w0_16 p0 p1 p2 p3)), .val (.int (own_w0_27 p0 p1 p2 p3)), .val (.long (own_w0_35 p0 p1 p2 p3)), .second, .val (.long (own_w0_41 p0 p1 p2 p3)), .second, .val (.long (own_w0_53 p0 p1 p2 p3)), .second, .val (.long (own_w0_61 p0 p1 p2 p3)), .second, .val (.long (own_w0_80 p0 p1 p2 p3)), .second, .val (.long (own_w0_93 p0 p1 p2 p3)), .second, .val (.int (own_w0_98 p0 p1 p2 p3)), .val (.int (own_w0_103 p0 p1 p2 p3)), .val (.int (own_w0_111 p0 p1 p2 p3)), .val (.long (own_w0_126 p0 p1 p2 p3)), .second, .val (.long (own_w0_135 p0 p1 p2 p3)), .second] [(.int (1 : Int32))])) (fun t k => XS.iconst X17.here hx rfl (hb hby at_153) k) ?_
      refine own_st (g' := (mkF m 158 #[.val (.int p0), .val (.int p1), .val (.int p2), .val (.int p3), .val (.int (own_w0_7 p0 p1 p2 p3)), .val (.int (own_w0_16 p0 p1 p2 p3)), .val (.int (own_w0_27 p0 p1 p2 p3)), .val (.long (own_w0_35 p0 p1 p2 p3)), .second, .val (.long (own_w0_41 p0 p1 p2 p3)), .second, .val (.long (own_w0_53 p0 p1 p2 p3)), .second, .val (.long (own_w0_61 p0 p1 p2 p3)), .second, .val (.long (own_w0_80 p0 p1 p2 p3)), .second, .val (.long (own_w0_93 p0 p1 p2 p3)), .second, .val (.int (own_w0_98 p0 p1 p2 p3)), .val (.int (own_w0_103 p0 p1 p2 p3)), .val (.int (own_w0_111 p0 p1 p2 p3)), .val (.long (own_w0_126 p0 p1 p2 p3)), .second, .val (.long (own_w0_135 p0 p1 p2 p3)), .second] [(.int (1 : Int32))])) (fun t k => XS.goto X17.here hx rfl (pc0 := 154) (pc' := 158) rfl (hb hby at_154) (by decide) (by decide) k) ?_
      exact J158 T17 _ (own_w0_80 p0 p1 p2 p3) (own_w0_93 p0 p1 p2 p3) (own_w0_98 p0 p1 p2 p3) (own_w0_103 p0 p1 p2 p3) (own_w0_111 p0 p1 p2 p3) (own_w0_126 p0 p1 p2 p3) (own_w0_135 p0 p1 p2 p3) (1 : Int32)  X17 e17 N17 hr19
    · have hr20 := (if_neg hc150_18).symm.trans hr14
      refine own_st (g' := (mkF m 157 #[.val (.int p0), .val (.int p1), .val (.int p2), .val (.int p3), .val (.int (own_w0_7 p0 p1 p2 p3)), .val (.int (own_w0_16 p0 p1 p2 p3)), .val (.int (own_w0_27 p0 p1 p2 p3)), .val (.long (own_w0_35 p0 p1 p2 p3)), .second, .val (.long (own_w0_41 p0 p1 p2 p3)), .second, .val (.long (own_w0_53 p0 p1 p2 p3)), .second, .val (.long (own_w0_61 p0 p1 p2 p3)), .second, .val (.long (own_w0_80 p0 p1 p2 p3)), .second, .val (.long (own_w0_93 p0 p1 p2 p3)), .second, .val (.int (own_w0_98 p0 p1 p2 p3)), .val (.int (own_w0_103 p0 p1 p2 p3)), .val (.int (own_w0_111 p0 p1 p2 p3)), .val (.long (own_w0_126 p0 p1 p2 p3)), .second, .val (.long (own_w0_135 p0 p1 p2 p3)), .second] [])) (fun t k => XS.ifYes X17.here hx rfl (pc0 := 150) (pc' := 157) rfl (hb hby at_150) rfl ((if0 _ _).trans (feq (fun q => hc150_18 ((lw_eq _ _).mp q))).2) (by decide) (by decide) k) ?_
      refine own_st (g' := (mkF m 158 #[.val (.int p0), .val (.int p1), .val (.int p2), .val (.int p3), .val (.int (own_w0_7 p0 p1 p2 p3)), .val (.int (own_w0_16 p0 p1 p2 p3)), .val (.int (own_w0_27 p0 p1 p2 p3)), .val (.long (own_w0_35 p0 p1 p2 p3)), .second, .val (.long (own_w0_41 p0 p1 p2 p3)), .second, .val (.long (own_w0_53 p0 p1 p2 p3)), .second, .val (.long (own_w0_61 p0 p1 p2 p3)), .second, .val (.long (own_w0_80 p0 p1 p2 p3)), .second, .val (.long (own_w0_93 p0 p1 p2 p3)), .second, .val (.int (own_w0_98 p0 p1 p2 p3)), .val (.int (own_w0_103 p0 p1 p2 p3)), .val (.int (own_w0_111 p0 p1 p2 p3)), .val (.long (own_w0_126 p0 p1 p2 p3)), .second, .val (.long (own_w0_135 p0 p1 p2 p3)), .second] [(.int (0 : Int32))])) (fun t k => XS.iconst X17.here hx rfl (hb hby at_157) k) ?_
      exact J158 T17 _ (own_w0_80 p0 p1 p2 p3) (own_w0_93 p0 p1 p2 p3) (own_w0_98 p0 p1 p2 p3) (own_w0_103 p0 p1 p2 p3) (own_w0_111 p0 p1 p2 p3) (own_w0_126 p0 p1 p2 p3) (own_w0_135 p0 p1 p2 p3) (0 : Int32)  X17 e17 N17 hr20
/-! ## The plain law -/
theorem own_n1 : nar .boolean (1 : Int32) = 1 := by decide
theorem own_law (p0 p1 p2 p3 : Int32) : own_F0 p0 p1 p2 p3 = 1 := by
  obtain ⟨p, k, O, hp, hk, hO, hB, e7, e16, e27, e35, e41, e98, e103, eg⟩ := own_gcd p0 p1 p2 p3
  obtain ⟨d1, d2⟩ := own_divs p0 p1 p2 p3 p _ hp hB e35 e41
  obtain ⟨hP1, hP2⟩ := own_pow p hp
  rw [own_F0_eq]
  by_cases h : own_w0_61 p0 p1 p2 p3 < own_w0_53 p0 p1 p2 p3
  · rw [if_pos h, own_n1]
  rw [if_neg h]
  have h' : ¬ (own_w0_61 p0 p1 p2 p3).toInt < (own_w0_53 p0 p1 p2 p3).toInt := fun z => h (Int64.lt_iff_toInt_lt.mpr z)
  obtain ⟨M0, hM0⟩ : ∃ M0, M0 = (O * 2 ^ k + 2 ^ p - 1) / 2 ^ p := ⟨_, rfl⟩
  obtain ⟨MX, hMX⟩ : ∃ MX, MX = 2147483647 / 2 ^ p := ⟨_, rfl⟩
  have hMXb : MX * 2 ^ p ≤ 2147483647 := by rw [hMX]; exact Nat.div_mul_le_self _ _
  have hMXc : MX ≤ 2147483647 := by rw [hMX]; exact Nat.div_le_self _ _
  rw [← hM0] at d1
  rw [← hMX] at d2
  -- the span, and m
  have f1 := c_lsub (own_w0_61 p0 p1 p2 p3) (own_w0_53 p0 p1 p2 p3)
  have f2 := c_ladd (own_w0_61 p0 p1 p2 p3 - own_w0_53 p0 p1 p2 p3) (1 : Int64)
  have b1 := Int64.toInt_lt (own_w0_61 p0 p1 p2 p3 - own_w0_53 p0 p1 p2 p3)
  have b2 := Int64.le_toInt (own_w0_61 p0 p1 p2 p3 - own_w0_53 p0 p1 p2 p3)
  have b3 := Int64.toInt_lt (own_w0_61 p0 p1 p2 p3 - own_w0_53 p0 p1 p2 p3 + 1)
  have b4 := Int64.le_toInt (own_w0_61 p0 p1 p2 p3 - own_w0_53 p0 p1 p2 p3 + 1)
  rw [show (1 : Int64).toInt = 1 from by decide] at f2
  have e80 : (own_w0_80 p0 p1 p2 p3).toInt = ((MX - M0 + 1 : Nat) : Int) := by
    show (own_w0_61 p0 p1 p2 p3 - own_w0_53 p0 p1 p2 p3 + 1).toInt = _; omega
  have em := c_mask p3 (2147483647 : Int32) 31 (by decide) (by decide)
  have er : ((p3 &&& (2147483647 : Int32)).toInt64 % own_w0_80 p0 p1 p2 p3).toInt = (p3 &&& (2147483647 : Int32)).toInt % ((MX - M0 + 1 : Nat) : Int) := by
    rw [Int64.toInt_mod, e80, c_i2l, Int.tmod_eq_emod_of_nonneg (by omega)]
  have r1 := Int.emod_nonneg (p3 &&& (2147483647 : Int32)).toInt (show ((MX - M0 + 1 : Nat) : Int) ≠ 0 by omega)
  have r2 := Int.emod_lt_of_pos (p3 &&& (2147483647 : Int32)).toInt (show (0 : Int) < ((MX - M0 + 1 : Nat) : Int) by omega)
  rw [← er] at r1 r2
  have f3 := c_ladd (own_w0_53 p0 p1 p2 p3) ((p3 &&& (2147483647 : Int32)).toInt64 % own_w0_80 p0 p1 p2 p3)
  have b5 := Int64.toInt_lt (own_w0_53 p0 p1 p2 p3 + (p3 &&& (2147483647 : Int32)).toInt64 % own_w0_80 p0 p1 p2 p3)
  have b6 := Int64.le_toInt (own_w0_53 p0 p1 p2 p3 + (p3 &&& (2147483647 : Int32)).toInt64 % own_w0_80 p0 p1 p2 p3)
  obtain ⟨M, hM1, hM2, e93⟩ : ∃ M : Nat, M0 ≤ M ∧ M ≤ MX ∧ (own_w0_93 p0 p1 p2 p3).toInt = M := by
    refine ⟨(own_w0_53 p0 p1 p2 p3 + (p3 &&& (2147483647 : Int32)).toInt64 % own_w0_80 p0 p1 p2 p3).toInt.toNat, by omega, by omega, ?_⟩
    show (own_w0_53 p0 p1 p2 p3 + (p3 &&& (2147483647 : Int32)).toInt64 % own_w0_80 p0 p1 p2 p3).toInt = _
    omega
  have hMb : M * 2 ^ p ≤ 2147483647 := Nat.le_trans (Nat.mul_le_mul_right _ hM2) hMXb
  -- the chunk
  have f4 := c_lmul (own_w0_93 p0 p1 p2 p3) (own_w0_41 p0 p1 p2 p3)
  have b7 := Int64.toInt_lt (own_w0_93 p0 p1 p2 p3 * own_w0_41 p0 p1 p2 p3)
  have b8 := Int64.le_toInt (own_w0_93 p0 p1 p2 p3 * own_w0_41 p0 p1 p2 p3)
  have f5 := c_l2i (own_w0_93 p0 p1 p2 p3 * own_w0_41 p0 p1 p2 p3)
  have b9 := Int32.toInt_lt (own_w0_93 p0 p1 p2 p3 * own_w0_41 p0 p1 p2 p3).toInt32
  have c1 := Int32.le_toInt (own_w0_93 p0 p1 p2 p3 * own_w0_41 p0 p1 p2 p3).toInt32
  have e111 : (own_w0_111 p0 p1 p2 p3).toInt = ((M * 2 ^ p : Nat) : Int) := by
    show (own_w0_93 p0 p1 p2 p3 * own_w0_41 p0 p1 p2 p3).toInt32.toInt = _
    rw [e93, e41, ← Int.natCast_mul] at f4
    generalize M * 2 ^ p = A at *
    omega
  have hn1 : own_w0_103 p0 p1 p2 p3 ≠ -1 := fun q => by rw [q, show (-1 : Int32).toInt = -1 from by decide] at e103; omega
  have edv : (own_w0_111 p0 p1 p2 p3 / own_w0_103 p0 p1 p2 p3).toInt = M := by
    rw [(c_idiv _ _ _ e103 hn1).1 (by rw [e111]; exact Int.natCast_nonneg _), e111, ← Int.natCast_ediv, Nat.mul_div_cancel _ (Nat.two_pow_pos p)]
  -- the pages
  have hn2 : (own_F5 (own_F4 (own_w0_98 p0 p1 p2 p3)) (own_w0_103 p0 p1 p2 p3)).toInt64 ≠ -1 := fun q => by
    have q' := congrArg Int64.toInt q
    rw [c_i2l, eg, show (-1 : Int64).toInt = -1 from by decide] at q'
    have := Int.natCast_nonneg (2 ^ (min k p)); omega
  have epg : ((own_w0_98 p0 p1 p2 p3).toInt64 / (own_F5 (own_F4 (own_w0_98 p0 p1 p2 p3)) (own_w0_103 p0 p1 p2 p3)).toInt64).toInt = ((O * 2 ^ (k - p) : Nat) : Int) := by
    rw [(c_ldiv _ _ ((2 ^ (min k p) : Nat) : Int) ((c_i2l _).trans eg) hn2).1 (by rw [c_i2l, e98]; exact Int.natCast_nonneg _), c_i2l, e98, ← Int.natCast_ediv]
    congr 1
    rw [show 2 ^ k = 2 ^ (k - p) * 2 ^ (min k p) by rw [← Nat.pow_add]; congr 1; omega, ← Nat.mul_assoc, Nat.mul_div_cancel _ (Nat.two_pow_pos _)]
  -- the expected pages
  have f6 := c_isub (own_w0_16 p0 p1 p2 p3) (own_w0_7 p0 p1 p2 p3)
  have c2 := Int32.toInt_lt (own_w0_16 p0 p1 p2 p3 - own_w0_7 p0 p1 p2 p3)
  have c3 := Int32.le_toInt (own_w0_16 p0 p1 p2 p3 - own_w0_7 p0 p1 p2 p3)
  have emx : (own_F1 (own_w0_16 p0 p1 p2 p3 - own_w0_7 p0 p1 p2 p3) (0 : Int32)).toInt = ((k - p : Nat) : Int) := by
    rw [own_F1_eq]; split
    · rename_i z; have := Int32.lt_iff_toInt_lt.mp z; rw [show (0 : Int32).toInt = 0 from rfl] at this; rw [own_f1_10_eq, show (0 : Int32).toInt = 0 from rfl]; omega
    · rename_i z; have := mt Int32.lt_iff_toInt_lt.mpr z; rw [show (0 : Int32).toInt = 0 from rfl] at this; rw [own_f1_10_eq]; omega
  have hle : O * 2 ^ (k - p) ≤ O * 2 ^ k := Nat.mul_le_mul_left _ (Nat.pow_le_pow_right (by decide) (by omega))
  have e126 : (own_w0_126 p0 p1 p2 p3).toInt = ((O * 2 ^ (k - p) : Nat) : Int) :=
    own_shl (x := (own_w0_27 p0 p1 p2 p3).toInt64) (by rw [c_i2l]; exact e27) emx (by omega) (by omega)
  have e135 : (own_w0_135 p0 p1 p2 p3).toInt = ((min (O * 2 ^ (k - p)) M : Nat) : Int) := own_minL e126 e93
  -- the answer
  have e3 : (own_F2 ((own_w0_98 p0 p1 p2 p3).toInt64 / (own_F5 (own_F4 (own_w0_98 p0 p1 p2 p3)) (own_w0_103 p0 p1 p2 p3)).toInt64) (own_w0_111 p0 p1 p2 p3 / own_w0_103 p0 p1 p2 p3).toInt64).toInt = ((min (O * 2 ^ (k - p)) M : Nat) : Int) := own_minL epg (by rw [c_i2l]; exact edv)
  have hans : (own_F3 (own_w0_98 p0 p1 p2 p3) (own_w0_103 p0 p1 p2 p3) (own_w0_111 p0 p1 p2 p3)).toInt64 = own_w0_135 p0 p1 p2 p3 := by
    apply Int64.toInt_inj.mp
    rw [c_i2l, e135, own_F3_eq]
    have f7 := c_l2i (own_F2 ((own_w0_98 p0 p1 p2 p3).toInt64 / (own_F5 (own_F4 (own_w0_98 p0 p1 p2 p3)) (own_w0_103 p0 p1 p2 p3)).toInt64) (own_w0_111 p0 p1 p2 p3 / own_w0_103 p0 p1 p2 p3).toInt64)
    rw [e3] at f7
    have c4 := Int32.toInt_lt (own_F2 ((own_w0_98 p0 p1 p2 p3).toInt64 / (own_F5 (own_F4 (own_w0_98 p0 p1 p2 p3)) (own_w0_103 p0 p1 p2 p3)).toInt64) (own_w0_111 p0 p1 p2 p3 / own_w0_103 p0 p1 p2 p3).toInt64).toInt32
    have c5 := Int32.le_toInt (own_F2 ((own_w0_98 p0 p1 p2 p3).toInt64 / (own_F5 (own_F4 (own_w0_98 p0 p1 p2 p3)) (own_w0_103 p0 p1 p2 p3)).toInt64) (own_w0_111 p0 p1 p2 p3 / own_w0_103 p0 p1 p2 p3).toInt64).toInt32
    have : min (O * 2 ^ (k - p)) M ≤ M := Nat.min_le_right _ _
    generalize min (O * 2 ^ (k - p)) M = A at *
    omega
  rw [if_pos hans, own_f0_158_eq, own_n1]

set_option maxRecDepth 65536 in
set_option maxHeartbeats 40000000 in
theorem comes_1 {Post : Tables → Env → Array Value → State → Outcome → State → Prop} (hpost : ∀ tb e args s v u, (limb_1_1.after args s (.returned v) u = true ∧ limb_1_2.after args s (.returned v) u = true ∧ True) → FrameEnd s (.returned v) u (Jvm.fieldLocs frame_1_writes args s ++ Jvm.arrayLocs frame_1_arrays args s ++ Jvm.staticLocs frame_1_statics s) 0 0 → Post tb e args s (.returned v) u) :
    ArmFor flags0 classFile x code maxLocals ret World_1 tables_1 room_1 Calls_1 rest_1 Pre_1 Post := by
  intro l hfl _ _ p e ha hc hk s m args below hf hA hF happ hP
  obtain ⟨hcalls, hrest, hpre⟩ := hP
  obtain ⟨-, -, -, hnamed, -, -, -, hat⟩ := (Spec.applies_iff hf).mp happ
  obtain ⟨hg, hn⟩ := and_e (Cond.before_iff.mp (show (Jvm.Cond.and given_1 narrow_1).before args s = true from hpre))
  obtain ⟨hg0, hq0⟩ := and_e hg
  obtain ⟨ha0, hq1⟩ := and_e hq0
  obtain ⟨ha1, hq2⟩ := and_e hq1
  obtain ⟨ha2, hq3⟩ := and_e hq2
  have ha3 := hq3
  obtain ⟨w0, w1, w2, w3, rfl⟩ : ∃ w0 w1 w2 w3 : Value, args = #[w0, w1, w2, w3] := by
    have hs : args.size = 4 := by simpa [Cond.value, given_1] using hg0
    obtain ⟨L⟩ := args
    match L, hs with
    | [w0, w1, w2, w3], _ => exact ⟨w0, w1, w2, w3, rfl⟩
  have hw := fun d (hd : d ∈ tables_1) => atoms_spec (ws := Jvm.Cond.code x code maxLocals ret :: tables_1) hat d (List.mem_cons_of_mem _ hd)
  obtain ⟨i0, ei0⟩ := is_v ha0
  obtain rfl : w0 = (.int i0) := Option.some.inj ei0
  obtain ⟨i1, ei1⟩ := is_v ha1
  obtain rfl : w1 = (.int i1) := Option.some.inj ei1
  obtain ⟨i2, ei2⟩ := is_v ha2
  obtain rfl : w2 = (.int i2) := Option.some.inj ei2
  obtain ⟨i3, ei3⟩ := is_v ha3
  obtain rfl : w3 = (.int i3) := Option.some.inj ei3
  obtain ⟨n, o, h1, h2, h3, _, L, rfl, ⟨rfl, N⟩, hq⟩ := rm0 l s _ hw tables_1 i0 i1 i2 i3 s.heap s.heap.size (Nat.le_refl _) (own_law i0 i1 i2 i3) p e ha hc hk s m _ below hf ((Spec.applies_iff_loose hf).mp happ).1 ⟨rfl, State.Warmed39.refl s, rfl⟩ trivial
  refine ⟨n, _, h1, h2, h3, hpost _ _ _ _ _ _ ⟨Cond.after_iff.mpr rfl, Cond.after_iff.mpr (eq_i res_at (Term.int_eval (1)) rfl), trivial⟩ ⟨hq.1, hq.2.1, (hq.2.2.sift fun y hy => Or.inr (N y hy)).mono (by decide) (by decide)⟩⟩
theorem main_1_1 : Claimed_1_1 := comes_1 fun _ _ _ _ _ _ h hF => ⟨h.1, hF⟩
theorem main_1_2 : Claimed_1_2 := comes_1 fun _ _ _ _ _ _ h hF => ⟨h.2.1, hF⟩
end Jvm.Pilot.@@N@@
namespace Jvm.Pilot.@@N@@
open Jvm Jvm.ClassFile Sem Op Lib Jvm.Free Jvm.Stand Jvm.Pilot.@@N@@.Jvm.D
/-! MADE BY PROGRAM (witnessworld.py) out of the Statement's table words and the real class files: 15 classes; the members and pool entries that the words name. The judged class is class 1, her method 1. -/
namespace start1
open Jvm.ClassFile
def u (s : String) : CpInfo := .utf8 (stringToUtf16 s)
/-- a pool by its gaps: so many unusable entries, then the entry; so many at the end -/
def gap : Nat → List CpInfo → List CpInfo
  | 0, r => r
  | n + 1, r => .unusable :: gap n r
def poolList (es : List (Nat × CpInfo)) (last : Nat) : List CpInfo := es.foldr (fun e r => gap e.1 (e.2 :: r)) (gap last [])
def pool (es : List (Nat × CpInfo)) (last : Nat) : Array CpInfo := ⟨poolList es last⟩
def fileOf (pool : Array CpInfo) (this : Nat) (attrs : Array Attribute := #[]) (ms : Array MethodInfo := #[]) (fl : Nat := 33) (sup : Nat := 0) (ifs : Array Nat := #[]) (fds : Array FieldInfo := #[]) : ClassFile where
  minorVersion := 0
  majorVersion := 65
  constantPool := pool
  accessFlags := fl
  thisClass := this
  superClass := sup
  interfaces := ifs
  fields := fds
  methods := ms
  attributes := attrs
def plain (name : String) (sup : Option ClassId) : Class where
  name := name
  kind := .ordinary
  loader := none
  accessFlags := 33
  super := sup
  interfaces := #[]
  cf := none
  fields := #[]
  methods := #[]
  instanceTypes := #[]
  staticTypes := #[]
  resolved := #[]
  callSites := []
  init := .initialized
  statics := none
  mirror := none

def pool0 : Array CpInfo := pool [(5, u "<init>"), (0, u "()V"), (1, .class_ 10), (1, u "java/lang/Object")] 113

def k0m0 : Method := { name := "<init>", desc := "()V", sig := { parameters := [], returnType := none }, accessFlags := 1, code := none }
/-- java/lang/Object -/
def k0 : Class := { plain "java/lang/Object" none with
  accessFlags := 33
  interfaces := #[]
  cf := some (fileOf pool0 8 #[] #[{ accessFlags := 1, nameIndex := 5, descriptorIndex := 6, attributes := #[] }] 33 0 #[] #[])
  fields := #[]
  methods := #[k0m0]
  instanceTypes := #[]
  staticTypes := #[]
  resolved := Array.replicate 124 none
  statics := none }

def pool1 : Array CpInfo := pool [(2, .class_ 4), (1, u "java/lang/Object"), (0, u "<init>"), (0, u "()V"), (0, .integer 2147483647), (0, .long 2147483647), (1, .methodref 11 12), (0, .class_ 13), (0, .nameAndType 14 15), (0, u "java/lang/Math"), (0, u "max"), (0, u "(II)I"), (0, .methodref 11 17), (0, .nameAndType 18 19), (0, u "min"), (0, u "(JJ)J"), (0, .methodref 21 22), (0, .class_ 23), (0, .nameAndType 24 25), (0, u "com/example/pagerun/pagerun/SmallRun"), (0, u "pagesFor"), (0, u "(III)I"), (0, .class_ 27), (0, u "com/example/pagerun/pagerun/SmallRunPagesForPinLaw"), (2, u "law"), (0, u "(IIII)Z")] 3

def k1m0 : Method := { name := "<init>", desc := "()V", sig := { parameters := [], returnType := none }, accessFlags := 1, code := none }
def k1c1 : Code := { maxStack := 6, maxLocals := 26, code := code, exceptionTable := #[], attributes := #[] }
def k1m1 : Method := { name := "law", desc := "(IIII)Z", sig := { parameters := [.int, .int, .int, .int], returnType := some .boolean }, accessFlags := 9, code := some k1c1 }
/-- com/example/pagerun/pagerun/SmallRunPagesForPinLaw -/
def k1 : Class := { plain "com/example/pagerun/pagerun/SmallRunPagesForPinLaw" (some 0) with
  accessFlags := 49
  interfaces := #[]
  cf := some (fileOf pool1 26 #[] #[{ accessFlags := 1, nameIndex := 5, descriptorIndex := 6, attributes := #[] }, { accessFlags := 9, nameIndex := 30, descriptorIndex := 31, attributes := #[] }] 49 2 #[] #[])
  fields := #[]
  methods := #[k1m0, k1m1]
  instanceTypes := #[]
  staticTypes := #[]
  resolved := Array.replicate 35 none
  statics := none }

def pool2 : Array CpInfo := pool [(1, .class_ 2), (0, u "java/lang/Math"), (1, .class_ 6), (1, u "java/lang/Object"), (0, u "<init>"), (0, u "()V"), (89, .class_ 100), (1, u "java/lang/Math$RandomNumberGeneratorHolder"), (20, u "(JJ)J"), (50, u "negativeZeroFloatBits"), (0, u "J"), (2, u "negativeZeroDoubleBits"), (21, u "max"), (2, u "min"), (43, u "$assertionsDisabled"), (0, u "Z"), (88, u "(II)I"), (2, u "twoToTheDoubleScaleDown"), (0, u "D"), (4, u "twoToTheDoubleScaleUp"), (9, u "E"), (3, u "PI"), (2, u "TAU"), (2, u "DEGREES_TO_RADIANS"), (0, u "RADIANS_TO_DEGREES")] 94

def k2m0 : Method := { name := "<init>", desc := "()V", sig := { parameters := [], returnType := none }, accessFlags := 2, code := none }
def k2c1 : Code := { maxStack := 2, maxLocals := 2, code := jdk_29_method_65_code, exceptionTable := #[], attributes := #[] }
def k2m1 : Method := { name := "max", desc := "(II)I", sig := { parameters := [.int, .int], returnType := some .int }, accessFlags := 9, code := some k2c1 }
def k2c2 : Code := { maxStack := 2, maxLocals := 2, code := jdk_29_method_69_code, exceptionTable := #[], attributes := #[] }
def k2m2 : Method := { name := "min", desc := "(II)I", sig := { parameters := [.int, .int], returnType := some .int }, accessFlags := 9, code := some k2c2 }
def k2c3 : Code := { maxStack := 4, maxLocals := 4, code := jdk_29_method_70_code, exceptionTable := #[], attributes := #[] }
def k2m3 : Method := { name := "min", desc := "(JJ)J", sig := { parameters := [.long, .long], returnType := some .long }, accessFlags := 9, code := some k2c3 }
/-- java/lang/Math -/
def k2 : Class := { plain "java/lang/Math" (some 0) with
  accessFlags := 49
  interfaces := #[]
  cf := some (fileOf pool2 1 #[.nestMembers #[98]] #[{ accessFlags := 2, nameIndex := 7, descriptorIndex := 8, attributes := #[] }, { accessFlags := 9, nameIndex := 198, descriptorIndex := 335, attributes := #[] }, { accessFlags := 9, nameIndex := 201, descriptorIndex := 335, attributes := #[] }, { accessFlags := 9, nameIndex := 201, descriptorIndex := 121, attributes := #[] }] 49 4 #[] #[{ accessFlags := 25, nameIndex := 354, descriptorIndex := 339, attributes := #[] }, { accessFlags := 25, nameIndex := 358, descriptorIndex := 339, attributes := #[] }, { accessFlags := 25, nameIndex := 361, descriptorIndex := 339, attributes := #[] }, { accessFlags := 26, nameIndex := 364, descriptorIndex := 339, attributes := #[] }, { accessFlags := 26, nameIndex := 365, descriptorIndex := 339, attributes := #[] }, { accessFlags := 26, nameIndex := 172, descriptorIndex := 173, attributes := #[] }, { accessFlags := 26, nameIndex := 176, descriptorIndex := 173, attributes := #[] }, { accessFlags := 8, nameIndex := 344, descriptorIndex := 339, attributes := #[] }, { accessFlags := 8, nameIndex := 338, descriptorIndex := 339, attributes := #[] }, { accessFlags := 4120, nameIndex := 245, descriptorIndex := 246, attributes := #[] }])
  fields := #[{ name := "E", type := .double, accessFlags := 25, slot := 0, constantValue := 0 }, { name := "PI", type := .double, accessFlags := 25, slot := 1, constantValue := 0 }, { name := "TAU", type := .double, accessFlags := 25, slot := 2, constantValue := 0 }, { name := "DEGREES_TO_RADIANS", type := .double, accessFlags := 26, slot := 3, constantValue := 0 }, { name := "RADIANS_TO_DEGREES", type := .double, accessFlags := 26, slot := 4, constantValue := 0 }, { name := "negativeZeroFloatBits", type := .long, accessFlags := 26, slot := 5, constantValue := 0 }, { name := "negativeZeroDoubleBits", type := .long, accessFlags := 26, slot := 6, constantValue := 0 }, { name := "twoToTheDoubleScaleUp", type := .double, accessFlags := 8, slot := 7, constantValue := 0 }, { name := "twoToTheDoubleScaleDown", type := .double, accessFlags := 8, slot := 8, constantValue := 0 }, { name := "$assertionsDisabled", type := .boolean, accessFlags := 4120, slot := 9, constantValue := 0 }]
  methods := #[k2m0, k2m1, k2m2, k2m3]
  instanceTypes := #[]
  staticTypes := #[.double, .double, .double, .double, .double, .long, .long, .double, .double, .boolean]
  resolved := Array.replicate 460 none
  statics := none }

def pool3 : Array CpInfo := pool [(2, .class_ 4), (1, u "java/lang/Object"), (3, .class_ 10), (1, u "com/example/pagerun/pagerun/SmallRun"), (0, u "chunk"), (0, u "Lcom/example/pagerun/pagerun/Chunk;"), (2, u "firstPage"), (0, u "I"), (2, u "pages"), (2, u "sizeIndex"), (2, u "bufferSize"), (2, u "buffers"), (2, u "freeBuffers"), (4, u "used"), (0, u "[J"), (0, .methodref 39 40), (0, .class_ 41), (0, .nameAndType 42 43), (0, u "java/lang/Integer"), (0, u "lowestOneBit"), (0, u "(I)I"), (0, .methodref 45 46), (0, .class_ 47), (0, .nameAndType 48 49), (0, u "java/lang/Math"), (0, u "min"), (0, u "(II)I"), (0, .methodref 45 51), (0, .nameAndType 48 52), (0, u "(JJ)J"), (9, u "firstWordWithRoom"), (6, u "prev"), (0, u "Lcom/example/pagerun/pagerun/SmallRun;"), (0, u "next"), (3, u "pagesFor"), (0, u "(III)I")] 12

def k3c0 : Code := { maxStack := 4, maxLocals := 6, code := prog_29_method_2_code, exceptionTable := #[], attributes := #[] }
def k3m0 : Method := { name := "pagesFor", desc := "(III)I", sig := { parameters := [.int, .int, .int], returnType := some .int }, accessFlags := 8, code := some k3c0 }
/-- com/example/pagerun/pagerun/SmallRun -/
def k3 : Class := { plain "com/example/pagerun/pagerun/SmallRun" (some 0) with
  accessFlags := 48
  interfaces := #[]
  cf := some (fileOf pool3 8 #[] #[{ accessFlags := 8, nameIndex := 75, descriptorIndex := 76, attributes := #[] }] 48 2 #[] #[{ accessFlags := 18, nameIndex := 11, descriptorIndex := 12, attributes := #[] }, { accessFlags := 18, nameIndex := 15, descriptorIndex := 16, attributes := #[] }, { accessFlags := 18, nameIndex := 19, descriptorIndex := 16, attributes := #[] }, { accessFlags := 18, nameIndex := 22, descriptorIndex := 16, attributes := #[] }, { accessFlags := 18, nameIndex := 25, descriptorIndex := 16, attributes := #[] }, { accessFlags := 18, nameIndex := 28, descriptorIndex := 16, attributes := #[] }, { accessFlags := 18, nameIndex := 36, descriptorIndex := 37, attributes := #[] }, { accessFlags := 2, nameIndex := 62, descriptorIndex := 16, attributes := #[] }, { accessFlags := 2, nameIndex := 31, descriptorIndex := 16, attributes := #[] }, { accessFlags := 0, nameIndex := 69, descriptorIndex := 70, attributes := #[] }, { accessFlags := 0, nameIndex := 71, descriptorIndex := 70, attributes := #[] }])
  fields := #[{ name := "chunk", type := (.object "com/example/pagerun/pagerun/Chunk"), accessFlags := 18, slot := 0, constantValue := 0 }, { name := "firstPage", type := .int, accessFlags := 18, slot := 1, constantValue := 0 }, { name := "pages", type := .int, accessFlags := 18, slot := 2, constantValue := 0 }, { name := "sizeIndex", type := .int, accessFlags := 18, slot := 3, constantValue := 0 }, { name := "bufferSize", type := .int, accessFlags := 18, slot := 4, constantValue := 0 }, { name := "buffers", type := .int, accessFlags := 18, slot := 5, constantValue := 0 }, { name := "used", type := (.array .long), accessFlags := 18, slot := 6, constantValue := 0 }, { name := "firstWordWithRoom", type := .int, accessFlags := 2, slot := 7, constantValue := 0 }, { name := "freeBuffers", type := .int, accessFlags := 2, slot := 8, constantValue := 0 }, { name := "prev", type := (.object "com/example/pagerun/pagerun/SmallRun"), accessFlags := 0, slot := 9, constantValue := 0 }, { name := "next", type := (.object "com/example/pagerun/pagerun/SmallRun"), accessFlags := 0, slot := 10, constantValue := 0 }]
  methods := #[k3m0]
  instanceTypes := #[(.object "com/example/pagerun/pagerun/Chunk"), .int, .int, .int, .int, .int, (.array .long), .int, .int, (.object "com/example/pagerun/pagerun/SmallRun"), (.object "com/example/pagerun/pagerun/SmallRun")]
  staticTypes := #[]
  resolved := Array.replicate 89 none
  statics := none }

def pool4 : Array CpInfo := pool [(1, .class_ 2), (0, u "java/io/Serializable"), (0, .class_ 4), (0, u "java/lang/Object")] 2

/-- java/io/Serializable -/
def k4 : Class := { plain "java/io/Serializable" (some 0) with
  accessFlags := 1537
  interfaces := #[]
  cf := some (fileOf pool4 1 #[] #[] 1537 3 #[] #[])
  fields := #[]
  methods := #[]
  instanceTypes := #[]
  staticTypes := #[]
  resolved := Array.replicate 7 none
  statics := none }

def pool5 : Array CpInfo := pool [(2, .class_ 4), (1, u "java/lang/Object"), (0, u "<init>"), (0, u "()V"), (1, .class_ 10), (1, u "java/lang/Number"), (2, .class_ 14), (0, u "java/io/Serializable"), (0, u "serialVersionUID"), (0, u "J")] 20

def k5m0 : Method := { name := "<init>", desc := "()V", sig := { parameters := [], returnType := none }, accessFlags := 1, code := none }
/-- java/lang/Number -/
def k5 : Class := { plain "java/lang/Number" (some 0) with
  accessFlags := 1057
  interfaces := #[4]
  cf := some (fileOf pool5 8 #[] #[{ accessFlags := 1, nameIndex := 5, descriptorIndex := 6, attributes := #[] }] 1057 2 #[13] #[{ accessFlags := 26, nameIndex := 15, descriptorIndex := 16, attributes := #[] }])
  fields := #[{ name := "serialVersionUID", type := .long, accessFlags := 26, slot := 0, constantValue := 0 }]
  methods := #[k5m0]
  instanceTypes := #[]
  staticTypes := #[.long]
  resolved := Array.replicate 37 none
  statics := none }

def pool6 : Array CpInfo := pool [(1, .class_ 2), (0, u "java/lang/Comparable"), (0, .class_ 4), (0, u "java/lang/Object")] 7

/-- java/lang/Comparable -/
def k6 : Class := { plain "java/lang/Comparable" (some 0) with
  accessFlags := 1537
  interfaces := #[]
  cf := some (fileOf pool6 1 #[] #[] 1537 3 #[] #[])
  fields := #[]
  methods := #[]
  instanceTypes := #[]
  staticTypes := #[]
  resolved := Array.replicate 12 none
  statics := none }

def pool7 : Array CpInfo := pool [(1, .class_ 2), (0, u "java/lang/constant/Constable"), (0, .class_ 4), (0, u "java/lang/Object")] 6

/-- java/lang/constant/Constable -/
def k7 : Class := { plain "java/lang/constant/Constable" (some 0) with
  accessFlags := 1537
  interfaces := #[]
  cf := some (fileOf pool7 1 #[] #[] 1537 3 #[] #[])
  fields := #[]
  methods := #[]
  instanceTypes := #[]
  staticTypes := #[]
  resolved := Array.replicate 11 none
  statics := none }

def pool8 : Array CpInfo := pool [(1, .class_ 2), (0, u "java/lang/constant/ConstantDesc"), (0, .class_ 4), (0, u "java/lang/Object")] 32

/-- java/lang/constant/ConstantDesc -/
def k8 : Class := { plain "java/lang/constant/ConstantDesc" (some 0) with
  accessFlags := 1537
  interfaces := #[]
  cf := some (fileOf pool8 1 #[] #[] 1537 3 #[] #[])
  fields := #[]
  methods := #[]
  instanceTypes := #[]
  staticTypes := #[]
  resolved := Array.replicate 37 none
  statics := none }

def pool9 : Array CpInfo := pool [(1, .class_ 2), (0, u "java/lang/Integer"), (16, u "digits"), (0, u "[C"), (33, u "(I)I"), (30, u "DigitOnes"), (0, u "[B"), (2, u "DigitTens"), (99, .class_ 190), (0, u "java/lang/Integer$IntegerCache"), (3, u "I"), (8, .class_ 204), (0, u "java/lang/Number"), (2, u "value"), (94, u "TYPE"), (0, u "Ljava/lang/Class;"), (0, .class_ 305), (0, u "java/lang/Comparable"), (0, .class_ 307), (0, u "java/lang/constant/Constable"), (0, .class_ 309), (0, u "java/lang/constant/ConstantDesc"), (0, u "MIN_VALUE"), (1, u "MAX_VALUE"), (3, u "SIZE"), (1, u "BYTES"), (1, u "serialVersionUID"), (0, u "J"), (82, u "lowestOneBit")] 48

def k9c0 : Code := { maxStack := 2, maxLocals := 1, code := jdk_33_method_46_code, exceptionTable := #[], attributes := #[] }
def k9m0 : Method := { name := "lowestOneBit", desc := "(I)I", sig := { parameters := [.int], returnType := some .int }, accessFlags := 9, code := some k9c0 }
/-- java/lang/Integer -/
def k9 : Class := { plain "java/lang/Integer" (some 5) with
  accessFlags := 49
  interfaces := #[6, 7, 8]
  cf := some (fileOf pool9 1 #[.nestMembers #[189]] #[{ accessFlags := 9, nameIndex := 404, descriptorIndex := 54, attributes := #[] }] 49 203 #[304, 306, 308] #[{ accessFlags := 25, nameIndex := 310, descriptorIndex := 194, attributes := #[] }, { accessFlags := 25, nameIndex := 312, descriptorIndex := 194, attributes := #[] }, { accessFlags := 25, nameIndex := 302, descriptorIndex := 303, attributes := #[] }, { accessFlags := 24, nameIndex := 19, descriptorIndex := 20, attributes := #[] }, { accessFlags := 24, nameIndex := 89, descriptorIndex := 86, attributes := #[] }, { accessFlags := 24, nameIndex := 85, descriptorIndex := 86, attributes := #[] }, { accessFlags := 18, nameIndex := 207, descriptorIndex := 194, attributes := #[] }, { accessFlags := 25, nameIndex := 316, descriptorIndex := 194, attributes := #[] }, { accessFlags := 25, nameIndex := 318, descriptorIndex := 194, attributes := #[] }, { accessFlags := 26, nameIndex := 320, descriptorIndex := 321, attributes := #[] }])
  fields := #[{ name := "MIN_VALUE", type := .int, accessFlags := 25, slot := 0, constantValue := 0 }, { name := "MAX_VALUE", type := .int, accessFlags := 25, slot := 1, constantValue := 0 }, { name := "TYPE", type := (.object "java/lang/Class"), accessFlags := 25, slot := 2, constantValue := 0 }, { name := "digits", type := (.array .char), accessFlags := 24, slot := 3, constantValue := 0 }, { name := "DigitTens", type := (.array .byte), accessFlags := 24, slot := 4, constantValue := 0 }, { name := "DigitOnes", type := (.array .byte), accessFlags := 24, slot := 5, constantValue := 0 }, { name := "value", type := .int, accessFlags := 18, slot := 0, constantValue := 0 }, { name := "SIZE", type := .int, accessFlags := 25, slot := 6, constantValue := 0 }, { name := "BYTES", type := .int, accessFlags := 25, slot := 7, constantValue := 0 }, { name := "serialVersionUID", type := .long, accessFlags := 26, slot := 8, constantValue := 0 }]
  methods := #[k9m0]
  instanceTypes := #[.int]
  staticTypes := #[.int, .int, (.object "java/lang/Class"), (.array .char), (.array .byte), (.array .byte), .int, .int, .long]
  resolved := Array.replicate 453 none
  statics := none }

def pool10 : Array CpInfo := pool [(1, u "java/lang/Cloneable"), (0, .class_ 1), (0, u "java/lang/Object"), (0, .class_ 3)] 3

/-- java/lang/Cloneable -/
def k10 : Class := { plain "java/lang/Cloneable" (some 0) with
  accessFlags := 1537
  interfaces := #[]
  cf := some (fileOf pool10 2 #[] #[] 1537 4 #[] #[])
  fields := #[]
  methods := #[]
  instanceTypes := #[]
  staticTypes := #[]
  resolved := Array.replicate 8 none
  statics := none }

/-- the primitive byte -/
def k11 : Class := { plain "byte" none with kind := .primitive 'B', accessFlags := 0x411 }
/-- [B -/
def k12 : Class := { plain "[B" (some 0) with kind := .array 11 .byte, interfaces := #[10, 4], accessFlags := 1041 }

/-- the primitive int -/
def k13 : Class := { plain "int" none with kind := .primitive 'I', accessFlags := 0x411 }
/-- [I -/
def k14 : Class := { plain "[I" (some 0) with kind := .array 13 .int, interfaces := #[10, 4], accessFlags := 1041 }

def heap : Heap := #[]
def classes : Array Class := #[k0, k1, k2, k3, k4, k5, k6, k7, k8, k9, k10, k11, k12, k13, k14]
def interned : List (Array UInt16 × Addr) := []
def slotsUsed : Nat := 0
def theMethod : MethodId := ⟨1, 1⟩
def args0 : Array Value := #[.int 5, .int 5, .int 5, .int 5]
def aboutOver (below : List Frame) : State where
  vm := { classes := classes, interned := interned.toArray }
  heap := heap
  slotsUsed := slotsUsed
  threads := #[{ frames := .invoking theMethod args0 :: below }]
def below0 : List Frame := [.native { method := ⟨0, 0⟩, args := #[] }]
def about1 : State := aboutOver below0
def p0 : Program := .bare "" "" ""
def e0 : Env := launch0.env 0 0 0
theorem w_frames : about1.frames = Frame.invoking theMethod args0 :: below0 := rfl
set_option maxRecDepth 65536 in
theorem w_args : argsFit about1.vm theMethod args0 = true := by decide +kernel
set_option maxRecDepth 65536 in
theorem w_heap : heapFits about1 = true := by decide +kernel
set_option maxRecDepth 65536 in
theorem w_runnable : about1.curStatus? = some .runnable := by decide +kernel
set_option maxRecDepth 65536 in
theorem w_alone : about1.alone = true := by decide +kernel
set_option maxRecDepth 65536 in
theorem w_named : about1.methodNamed? x = some theMethod := by decide +kernel
set_option maxRecDepth 65536 in
theorem w_hears : about1.hears theMethod below0 = true := by decide +kernel
set_option maxRecDepth 65536 in
theorem w_ripe : about1.ripe theMethod args0 below0 = true := by decide +kernel
theorem w_running : about1.status = .running := rfl
set_option maxRecDepth 65536 in
theorem w_room : about1.hasRoom e0.platform room_1 = true :=
  launch0.hasRoom_least _ room_1 (by decide +kernel) (by decide +kernel) (by decide +kernel) (by decide +kernel) (by decide +kernel) (by decide +kernel)
theorem allAtoms_all (ts : List Jvm.Cond) (a : Array Jvm.Value) (st : Jvm.State) : (allAtoms ts).before a st = ts.all (fun c => c.before a st) := by
  induction ts with
  | nil => rfl
  | cons c t ih =>
    show (Jvm.Cond.and c (allAtoms t)).before a st = _
    rw [Jvm.Cond.before_and, ih, List.all_cons]
def words1 : List Jvm.Cond := Jvm.Cond.code x code maxLocals ret :: tables_1
/-- a 'code' word, met by the world's own term for the bytes: nothing is compared byte by byte -/
theorem code_word {y : MethodName} {bytes : ByteArray} {mx : Nat} {rt : Option FieldType} {a : Array Value} {s : State} {m : MethodId} {meth : Method} {c : Code} (h1 : s.methodNamed? y = some m) (h2 : s.vm.method? m = some meth) (h3 : meth.code = some c) (h4 : c.code = bytes)
    (h5 : (c.maxLocals == mx && c.exceptionTable.isEmpty && decide (c.maxStack ≤ mostOperands) && decide (meth.sig.returnType = rt) && !meth.locks && decide (parseMethodDescriptor y.desc = some meth.sig)) = true) : (Jvm.Cond.code y bytes mx rt).before a s = true := by
  simp only [Bool.and_eq_true, beq_iff_eq, Bool.not_eq_true', decide_eq_true_eq] at h5
  obtain ⟨⟨⟨⟨⟨g1, g2⟩, g3⟩, g4⟩, g5⟩, g6⟩ := h5
  simp [Cond.before, Cond.holds, Cond.value, h1, h2, h3, h4, g1, g2, g3, g4, g5, g6]
def isCode : Jvm.Cond → Bool
  | .code _ _ _ _ => true
  | _ => false
theorem all_split {L : List Jvm.Cond} {P : Jvm.Cond → Bool} (h1 : L.all (fun c => isCode c || P c) = true) (h2 : ∀ c ∈ L.filter isCode, P c = true) : L.all P = true := by
  refine List.all_eq_true.mpr fun c hc => ?_
  have h := List.all_eq_true.mp h1 c hc
  rcases Bool.eq_false_or_eq_true (isCode c) with hi | hi
  · exact h2 c (List.mem_filter.mpr ⟨hc, hi⟩)
  · simpa [hi] using h
set_option maxRecDepth 65536 in
theorem w_c0 : (Jvm.Cond.code x code maxLocals ret).before args0 about1 = true := code_word (m := ⟨1, 1⟩) (meth := k1m1) (c := k1c1) (by decide +kernel) rfl rfl rfl (by decide +kernel)
set_option maxRecDepth 65536 in
theorem w_c1 : (Jvm.Cond.code ({ cls := "java/lang/Math", name := "max", desc := "(II)I" } : Jvm.MethodName) jdk_29_method_65_code (2 : Nat) (Option.some Jvm.ClassFile.FieldType.int)).before args0 about1 = true := code_word (m := ⟨2, 1⟩) (meth := k2m1) (c := k2c1) (by decide +kernel) rfl rfl rfl (by decide +kernel)
set_option maxRecDepth 65536 in
theorem w_c2 : (Jvm.Cond.code ({ cls := "java/lang/Math", name := "min", desc := "(JJ)J" } : Jvm.MethodName) jdk_29_method_70_code (4 : Nat) (Option.some Jvm.ClassFile.FieldType.long)).before args0 about1 = true := code_word (m := ⟨2, 3⟩) (meth := k2m3) (c := k2c3) (by decide +kernel) rfl rfl rfl (by decide +kernel)
set_option maxRecDepth 65536 in
theorem w_c3 : (Jvm.Cond.code ({ cls := "com/example/pagerun/pagerun/SmallRun", name := "pagesFor", desc := "(III)I" } : Jvm.MethodName) prog_29_method_2_code (6 : Nat) (Option.some Jvm.ClassFile.FieldType.int)).before args0 about1 = true := code_word (m := ⟨3, 0⟩) (meth := k3m0) (c := k3c0) (by decide +kernel) rfl rfl rfl (by decide +kernel)
set_option maxRecDepth 65536 in
theorem w_c4 : (Jvm.Cond.code ({ cls := "java/lang/Integer", name := "lowestOneBit", desc := "(I)I" } : Jvm.MethodName) jdk_33_method_46_code (1 : Nat) (Option.some Jvm.ClassFile.FieldType.int)).before args0 about1 = true := code_word (m := ⟨9, 0⟩) (meth := k9m0) (c := k9c0) (by decide +kernel) rfl rfl rfl (by decide +kernel)
set_option maxRecDepth 65536 in
theorem w_c5 : (Jvm.Cond.code ({ cls := "java/lang/Math", name := "min", desc := "(II)I" } : Jvm.MethodName) jdk_29_method_69_code (2 : Nat) (Option.some Jvm.ClassFile.FieldType.int)).before args0 about1 = true := code_word (m := ⟨2, 2⟩) (meth := k2m2) (c := k2c2) (by decide +kernel) rfl rfl rfl (by decide +kernel)
def codes1 : List Jvm.Cond := [Jvm.Cond.code x code maxLocals ret, Jvm.Cond.code ({ cls := "java/lang/Math", name := "max", desc := "(II)I" } : Jvm.MethodName) jdk_29_method_65_code (2 : Nat) (Option.some Jvm.ClassFile.FieldType.int), Jvm.Cond.code ({ cls := "java/lang/Math", name := "min", desc := "(JJ)J" } : Jvm.MethodName) jdk_29_method_70_code (4 : Nat) (Option.some Jvm.ClassFile.FieldType.long), Jvm.Cond.code ({ cls := "com/example/pagerun/pagerun/SmallRun", name := "pagesFor", desc := "(III)I" } : Jvm.MethodName) prog_29_method_2_code (6 : Nat) (Option.some Jvm.ClassFile.FieldType.int), Jvm.Cond.code ({ cls := "java/lang/Integer", name := "lowestOneBit", desc := "(I)I" } : Jvm.MethodName) jdk_33_method_46_code (1 : Nat) (Option.some Jvm.ClassFile.FieldType.int), Jvm.Cond.code ({ cls := "java/lang/Math", name := "min", desc := "(II)I" } : Jvm.MethodName) jdk_29_method_69_code (2 : Nat) (Option.some Jvm.ClassFile.FieldType.int)]
set_option maxRecDepth 65536 in
theorem codes_eq : words1.filter isCode = codes1 := rfl
theorem w_codes : ∀ c ∈ words1.filter isCode, c.before args0 about1 = true := by
  rw [codes_eq]
  intro c hc
  simp only [codes1, List.mem_cons, List.not_mem_nil, or_false] at hc
  rcases hc with rfl | rfl | rfl | rfl | rfl | rfl
  · exact w_c0
  · exact w_c1
  · exact w_c2
  · exact w_c3
  · exact w_c4
  · exact w_c5
set_option maxRecDepth 65536 in
theorem w_t1 : words1.all (fun c => isCode c || c.before args0 about1) = true := by decide +kernel
theorem w_tables : (allAtoms (Jvm.Cond.code x code maxLocals ret :: tables_1)).before args0 about1 = true := by
  rw [allAtoms_all]
  show words1.all (fun c => c.before args0 about1) = true
  refine all_split ?_ w_codes
  rw [w_t1]
set_option maxRecDepth 65536 in
theorem w_case : (Jvm.Cond.and given_1 narrow_1).before args0 about1 = true := by decide +kernel
theorem w_applies : (headSpec (Jvm.Cond.code x code maxLocals ret :: tables_1) room_1).applies x e0.platform about1 = true :=
  (Spec.applies_iff w_frames).mpr ⟨w_running, w_runnable, w_alone, w_named, w_hears, w_ripe, w_room, w_tables⟩
theorem atStart : AtStart classFile x code maxLocals ret World_1 tables_1 room_1 Calls_1 rest_1 Pre_1 launch0 p0 e0 about1 theMethod args0 below0 :=
  ⟨lists_1, trivial, launch0.admits_env _ _ _, launch0.least_env, fairChoices_fair.cas, fairChoices_fair.clock, w_frames, w_args, w_heap, w_applies, trivial, trivial, w_case⟩
end start1
theorem witness_1 : WitnessClaimed_1 := ⟨start1.p0, start1.e0, start1.about1, start1.theMethod, start1.args0, start1.below0, start1.atStart⟩
end Jvm.Pilot.@@N@@
