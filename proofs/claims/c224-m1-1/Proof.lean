import JvmDerived
import JvmDerived.Pilot.@@N@@Statement
import JvmDerived.Pilot.@@N@@Code
set_option linter.unusedVariables false
set_option linter.unusedSimpArgs false

namespace Jvm.Pilot.@@N@@
open Jvm Jvm.ClassFile Sem Op Lib Jvm.Free Jvm.Stand Jvm.LawKit Jvm.RoadKit Bundle Jvm.Pilot.@@N@@.Jvm.D
/-! ## The walk, forwards: from here the method comes to its end as Q says -/
section OwnFin
variable {p : Program} {l : Launch} {e : Env} {R : Room} {s : State} {m : MethodId} {args : Array Value} {below : List Frame} {meth : Method} {c : Code} {T T' : State} {locs : List Loc} {cells slots K N : Nat} {Q : Option Value → Heap → List Loc → Prop}
def own_Fin (p : Program) (e : Env) (below : List Frame) (s : State) (K N : Nat) (Q : Option Value → Heap → List Loc → Prop) (T : State) (g : JFrame) : Prop :=
  ∃ t o, Steps p.tables e below (T.setTop g) t ∧ t.status = .running ∧ Ended t below o ∧ ∃ v L, o = .returned v ∧ Q v t.heap L ∧ FrameEnd s o t L K N
theorem own_in {g g' : JFrame} (q : g = g') (h : own_Fin p e below s K N Q T g') : ∃ t o, Steps p.tables e below (T.setTop g) t ∧ t.status = .running ∧ Ended t below o ∧ ∃ v L, o = .returned v ∧ Q v t.heap L ∧ FrameEnd s o t L K N := q ▸ h
theorem own_st {g g' : JFrame} (h : ∀ t, Steps p.tables e below (T'.setTop g') t → Steps p.tables e below (T.setTop g) t) (k : own_Fin p e below s K N Q T' g') : own_Fin p e below s K N Q T g := by
  obtain ⟨t, o, h1, h2⟩ := k; exact ⟨t, o, h t h1, h2⟩
theorem own_end {g : JFrame} {v : Option Value} (X : Stand p l e R s m args below meth c T locs cells slots) (hl : meth.locks = false) (hv : meth.sig.returnType = none → v = none)
    (h : ∀ fs, (∀ (f : JFrame) (acts : List Action), f.method = m → f.locked = none → f.entered = [] → (doReturn e (T.setTop f) acts v).1 = T.setFrames fs) → Steps p.tables e below (T.setTop g) (T.setFrames fs)) (hQ : Q v T.heap locs) (hc : cells ≤ K) (hs : slots ≤ N) : own_Fin p e below s K N Q T g := by
  obtain ⟨fs, hr, hrun, hended, hW, hsame⟩ := X.leave (v := v) hv hl
  exact ⟨_, _, h fs hr, hrun, hended, _, _, rfl, hQ, ⟨_, rfl⟩, hW, hsame.mono hc hs⟩
theorem own_retI {pc : Nat} {Ls : Array Slot} {z : Int32} {rest : List Value} (X : Stand p l e R s m args below meth c T locs cells slots) (hx : p.tables.exec = Jvm.exec) (hret : meth.sig.returnType = some .int) (hl : meth.locks = false) (hd : decode c.code pc = .ok (.ireturn, 1)) (hQ : Q (some (.int z)) T.heap locs) (hc : cells ≤ K) (hs : slots ≤ N) :
    own_Fin p e below s K N Q T (mkF m pc Ls (.int z :: rest)) :=
  own_end X hl (fun h => by rw [hret] at h; cases h) (fun fs hr => retOut X hx hret rfl (Or.inl ⟨rfl, Or.inl rfl, z, rfl⟩) hd hr) hQ hc hs
theorem own_retN {pc : Nat} {Ls : Array Slot} {z : Int32} {t : FieldType} {rest : List Value} (X : Stand p l e R s m args below meth c T locs cells slots) (hx : p.tables.exec = Jvm.exec) (hret : meth.sig.returnType = some t) (hl : meth.locks = false) (ht : t = .boolean ∨ t = .byte ∨ t = .char ∨ t = .short) (hd : decode c.code pc = .ok (.ireturn, 1)) (hQ : Q (some (.int (nar t z))) T.heap locs) (hc : cells ≤ K) (hs : slots ≤ N) :
    own_Fin p e below s K N Q T (mkF m pc Ls (.int z :: rest)) :=
  own_end X hl (fun h => by rw [hret] at h; cases h) (fun fs hr => retN X hx hret ht hd hr) hQ hc hs
theorem own_retJ {pc : Nat} {Ls : Array Slot} {z : Int64} {rest : List Value} (X : Stand p l e R s m args below meth c T locs cells slots) (hx : p.tables.exec = Jvm.exec) (hret : meth.sig.returnType = some .long) (hl : meth.locks = false) (hd : decode c.code pc = .ok (.lreturn, 1)) (hQ : Q (some (.long z)) T.heap locs) (hc : cells ≤ K) (hs : slots ≤ N) :
    own_Fin p e below s K N Q T (mkF m pc Ls (.long z :: rest)) :=
  own_end X hl (fun h => by rw [hret] at h; cases h) (fun fs hr => retOut X hx hret rfl (Or.inr (Or.inl ⟨rfl, rfl, z, rfl⟩)) hd hr) hQ hc hs
theorem own_retA {pc : Nat} {Ls : Array Slot} {a : Addr} {t : FieldType} {rest : List Value} (X : Stand p l e R s m args below meth c T locs cells slots) (hx : p.tables.exec = Jvm.exec) (hret : meth.sig.returnType = some t) (hl : meth.locks = false) (ht : t.isReference = true) (hd : decode c.code pc = .ok (.areturn, 1)) (hQ : Q (some (.ref a)) T.heap locs) (hc : cells ≤ K) (hs : slots ≤ N) :
    own_Fin p e below s K N Q T (mkF m pc Ls (.ref a :: rest)) :=
  own_end X hl (fun h => by rw [hret] at h; cases h) (fun fs hr => retOut X hx hret (by cases t <;> first | rfl | cases ht) (Or.inr (Or.inr (Or.inr (Or.inr ⟨rfl, ht, rfl⟩)))) hd hr) hQ hc hs
theorem own_retV {pc : Nat} {Ls : Array Slot} (X : Stand p l e R s m args below meth c T locs cells slots) (hx : p.tables.exec = Jvm.exec) (hret : meth.sig.returnType = none) (hl : meth.locks = false) (hd : decode c.code pc = .ok (.return_, 1)) (hQ : Q none T.heap locs) (hc : cells ≤ K) (hs : slots ≤ N) :
    own_Fin p e below s K N Q T (mkF m pc Ls []) :=
  own_end X hl (fun _ => rfl) (fun fs hr => X.returnOut hx hret hd hr) hQ hc hs
theorem own_lremM {g : JFrame} {target : State} (X : Stand p l e R s m args below meth c T locs cells slots) (hx : p.tables.exec = Jvm.exec) (hg : g.method = m) {x y : Int64} {rest : List Value} (hd : decode c.code g.pc = .ok (.lrem, 1)) (hs : g.stack = .long y :: .long x :: rest) (hy : y ≠ 0)
    (hr : Steps p.tables e below (T.setTop { g with pc := g.pc + 1, stack := .long (x % y) :: rest }) target) : Steps p.tables e below (T.setTop g) target := by
  have q : x - x / y * y = x % y := lrem_mod x y
  exact XS.lrem X.here hx hg hd hs hy (by rw [q]; exact hr)
end OwnFin
/-- a private method is selected by its own class -/
theorem own_selp {s : State} {args : Array Value} {n : Nat} {y : MethodName} (hy : y.cls ≠ "java/lang/invoke/MethodHandle" ∧ y.cls ≠ "java/lang/invoke/VarHandle") (hins : (Jvm.Cond.instantiable y.cls n).before args s = true) (hpriv : (Jvm.Cond.privateMethod y).before args s = true) (hinst : (Jvm.Cond.instanceMethod y).before args s = true) : (Jvm.Cond.selects y.cls y y).before args s = true := by
  obtain ⟨c, k, hc, hk, -, hniab, -, -⟩ := Cond.instantiable_spec hins
  have hni : k.isInterface = false := (Bool.or_eq_false_iff.mp hniab).1
  obtain ⟨mk, methM, hnamed, hmethM, -, -⟩ := Cond.instanceMethod_spec hinst
  have hfound : s.methodFound? y.cls y.name y.desc = some mk := State.methodFound?_of_named hnamed hy
  have hcls : mk.cls = c := Option.some.inj ((findClass_of_methodNamed hnamed).symm.trans hc)
  have hsel : selectMethod {} s.vm c mk = .method mk := selectMethod_private hmethM (Cond.privateMethod_at hpriv mk methM hnamed hmethM)
  simp only [Cond.before, Cond.holds, Cond.value, hc, hfound, hnamed, hsel, hcls, hk]
  simp; exact hni

def own_F1 (p0 : Int32) : Int32 := (if p0 = (0 : Int32) then (6 : Int32) else (if p0 = (1 : Int32) then (7 : Int32) else (if p0 = (2 : Int32) then (8 : Int32) else (9 : Int32))))
theorem own_F1_eq (p0 : Int32) : own_F1 p0 = (if p0 = (0 : Int32) then (6 : Int32) else (if p0 = (1 : Int32) then (7 : Int32) else (if p0 = (2 : Int32) then (8 : Int32) else (9 : Int32)))) := rfl
theorem d1_0 : decode method_2_code 0 = .ok (.iload_n 0, 1) := by decide +kernel
theorem d1_1 : decode method_2_code 1 = .ok (.ifCond .ne 6, 3) := by decide +kernel
theorem d1_4 : decode method_2_code 4 = .ok (.bipush 6, 2) := by decide +kernel
theorem d1_6 : decode method_2_code 6 = .ok (.ireturn, 1) := by decide +kernel
theorem d1_7 : decode method_2_code 7 = .ok (.iload_n 0, 1) := by decide +kernel
theorem d1_8 : decode method_2_code 8 = .ok (.iconst 1, 1) := by decide +kernel
theorem d1_9 : decode method_2_code 9 = .ok (.if_icmp .ne 6, 3) := by decide +kernel
theorem d1_12 : decode method_2_code 12 = .ok (.bipush 7, 2) := by decide +kernel
theorem d1_14 : decode method_2_code 14 = .ok (.ireturn, 1) := by decide +kernel
theorem d1_15 : decode method_2_code 15 = .ok (.iload_n 0, 1) := by decide +kernel
theorem d1_16 : decode method_2_code 16 = .ok (.iconst 2, 1) := by decide +kernel
theorem d1_17 : decode method_2_code 17 = .ok (.if_icmp .ne 6, 3) := by decide +kernel
theorem d1_20 : decode method_2_code 20 = .ok (.bipush 8, 2) := by decide +kernel
theorem d1_22 : decode method_2_code 22 = .ok (.ireturn, 1) := by decide +kernel
theorem d1_23 : decode method_2_code 23 = .ok (.bipush 9, 2) := by decide +kernel
theorem d1_25 : decode method_2_code 25 = .ok (.ireturn, 1) := by decide +kernel
theorem pn_1 : plainName "com/example/subschema_match/subschemamatch/regex/AssertionAnchoredPinLaw" = true := by first | (simp [plainName, overriddenIn]; done) | decide +kernel
theorem ef_1 (m : MethodId) (x0 : Int32) : entryFrame m #[(.int x0)] 1 = mkF m 0 #[.val (.int x0)] [] := by first | (simp [entryFrame, mkF, argsToLocals, Value.category]; done) | rfl
def Q1 (Z : State) (p0 : Int32) (h0 : Heap) (n0 : Nat) (v : Option Value) (h : Heap) (L : List Loc) : Prop := v = some (.int (own_F1 p0)) ∧ Fr n0 L ∧ h = h0
set_option maxRecDepth 65536 in
set_option maxHeartbeats 40000000 in
theorem rm1 (l : Launch) (Z : State) (a0 : Array Value) (hw : ∀ d ∈ tables_1, d.before a0 Z = true) (ws : List Jvm.Cond) (p0 : Int32) (h0 : Heap) (n0 : Nat) (Z0 : n0 ≤ h0.size) :
    MetFree l (⟨"com/example/subschema_match/subschemamatch/regex/AssertionAnchoredPinLaw", "operationOf", "(I)I"⟩ : MethodName) (head1 (Jvm.Cond.code (⟨"com/example/subschema_match/subschemamatch/regex/AssertionAnchoredPinLaw", "operationOf", "(I)I"⟩ : MethodName) method_2_code 1 (some .int) :: ws) ({ frames := 0, cells := 0, slots := 0, locals := 0 } : Room)) (fun a U => a = #[(.int p0)] ∧ Z.Warmed39 U.vm ∧ U.heap = h0) (fun _ _ _ _ _ => True) (fun _ U o U' => ∃ v L, o = .returned v ∧ Q1 Z p0 h0 n0 v U'.heap L ∧ FrameEnd U o U' L ({ frames := 0, cells := 0, slots := 0, locals := 0 } : Room).cells ({ frames := 0, cells := 0, slots := 0, locals := 0 } : Room).slots) := by
  refine MetFree.of_bodySF (plainFor_of_name pn_1) hisR ?_
  intro p e s m args below meth c s₁ Bd hml0 hP hK
  obtain ⟨rfl, hZ, hh⟩ := hP
  have hx := Bd.exec
  have hby := Bd.bytes
  have hml : c.maxLocals = 1 := hml0
  have hown : s.vm.findClass "com/example/subschema_match/subschemamatch/regex/AssertionAnchoredPinLaw" = some m.cls := findClass_of_methodNamed Bd.named
  have hnm := (name_of_methodNamed Bd.named Bd.method).1
  have X0 : Stand p l e ({ frames := 0, cells := 0, slots := 0, locals := 0 } : Room) s m #[(.int p0)] below meth c s₁ [] 0 0 := Stand.of_body Bd
  have e0 : s₁.heap = h0 := by rw [← hh, Bd.state]; rfl
  have N0 := Fr.nil n0
  refine own_in (ef_1 m p0) ?_
  have hr0 := (own_F1_eq p0).symm
  refine own_st (g' := (mkF m 1 #[.val (.int p0)] [(.int p0)])) (fun t k => XS.iloadN X0.here hx rfl (hb hby d1_0) rfl  k) ?_
  by_cases hc1_7 : p0 = (0 : Int32)
  · have hr8 := (if_pos hc1_7).symm.trans hr0
    refine own_st (g' := (mkF m 4 #[.val (.int p0)] [])) (fun t k => XS.ifNo X0.here hx rfl (hb hby d1_1) rfl ((if0 _ _).trans (teq hc1_7).2) k) ?_
    refine own_st (g' := (mkF m 6 #[.val (.int p0)] [(.int (6 : Int32))])) (fun t k => XS.bipush X0.here hx rfl (hb hby d1_4) k) ?_
    exact own_retI X0 hx Bd.returns Bd.notSynchronized (hb hby d1_6) ⟨congrArg (fun q => some (Value.int q)) hr8, N0, e0⟩ (by decide) (by decide)
  · have hr9 := (if_neg hc1_7).symm.trans hr0
    refine own_st (g' := (mkF m 7 #[.val (.int p0)] [])) (fun t k => XS.ifYes X0.here hx rfl (pc0 := 1) (pc' := 7) rfl (hb hby d1_1) rfl ((if0 _ _).trans (feq hc1_7).2) (by decide) (by decide) k) ?_
    refine own_st (g' := (mkF m 8 #[.val (.int p0)] [(.int p0)])) (fun t k => XS.iloadN X0.here hx rfl (hb hby d1_7) rfl  k) ?_
    refine own_st (g' := (mkF m 9 #[.val (.int p0)] [(.int (1 : Int32)), (.int p0)])) (fun t k => XS.iconst X0.here hx rfl (hb hby d1_8) k) ?_
    by_cases hc9_10 : p0 = (1 : Int32)
    · have hr11 := (if_pos hc9_10).symm.trans hr9
      refine own_st (g' := (mkF m 12 #[.val (.int p0)] [])) (fun t k => XS.icmpNo X0.here hx rfl (hb hby d1_9) rfl (teq hc9_10).2 k) ?_
      refine own_st (g' := (mkF m 14 #[.val (.int p0)] [(.int (7 : Int32))])) (fun t k => XS.bipush X0.here hx rfl (hb hby d1_12) k) ?_
      exact own_retI X0 hx Bd.returns Bd.notSynchronized (hb hby d1_14) ⟨congrArg (fun q => some (Value.int q)) hr11, N0, e0⟩ (by decide) (by decide)
    · have hr12 := (if_neg hc9_10).symm.trans hr9
      refine own_st (g' := (mkF m 15 #[.val (.int p0)] [])) (fun t k => XS.icmpYes X0.here hx rfl (pc0 := 9) (pc' := 15) rfl (hb hby d1_9) rfl (feq hc9_10).2 (by decide) (by decide) k) ?_
      refine own_st (g' := (mkF m 16 #[.val (.int p0)] [(.int p0)])) (fun t k => XS.iloadN X0.here hx rfl (hb hby d1_15) rfl  k) ?_
      refine own_st (g' := (mkF m 17 #[.val (.int p0)] [(.int (2 : Int32)), (.int p0)])) (fun t k => XS.iconst X0.here hx rfl (hb hby d1_16) k) ?_
      by_cases hc17_13 : p0 = (2 : Int32)
      · have hr14 := (if_pos hc17_13).symm.trans hr12
        refine own_st (g' := (mkF m 20 #[.val (.int p0)] [])) (fun t k => XS.icmpNo X0.here hx rfl (hb hby d1_17) rfl (teq hc17_13).2 k) ?_
        refine own_st (g' := (mkF m 22 #[.val (.int p0)] [(.int (8 : Int32))])) (fun t k => XS.bipush X0.here hx rfl (hb hby d1_20) k) ?_
        exact own_retI X0 hx Bd.returns Bd.notSynchronized (hb hby d1_22) ⟨congrArg (fun q => some (Value.int q)) hr14, N0, e0⟩ (by decide) (by decide)
      · have hr15 := (if_neg hc17_13).symm.trans hr12
        refine own_st (g' := (mkF m 23 #[.val (.int p0)] [])) (fun t k => XS.icmpYes X0.here hx rfl (pc0 := 17) (pc' := 23) rfl (hb hby d1_17) rfl (feq hc17_13).2 (by decide) (by decide) k) ?_
        refine own_st (g' := (mkF m 25 #[.val (.int p0)] [(.int (9 : Int32))])) (fun t k => XS.bipush X0.here hx rfl (hb hby d1_23) k) ?_
        exact own_retI X0 hx Bd.returns Bd.notSynchronized (hb hby d1_25) ⟨congrArg (fun q => some (Value.int q)) hr15, N0, e0⟩ (by decide) (by decide)
theorem d3_0 : decode prog_15_method_1_code 0 = .ok (.aload_n 0, 1) := by decide +kernel
theorem d3_1 : decode prog_15_method_1_code 1 = .ok (.invokespecial 1, 3) := by decide +kernel
theorem d3_4 : decode prog_15_method_1_code 4 = .ok (.return_, 1) := by decide +kernel
theorem pn_3 : plainName "com/example/subschema_match/subschemamatch/regex/Node" = true := by first | (simp [plainName, overriddenIn]; done) | decide +kernel
theorem ef_3 (m : MethodId) (x0 : Addr) : entryFrame m #[(.ref x0)] 1 = mkF m 0 #[.val (.ref x0)] [] := by first | (simp [entryFrame, mkF, argsToLocals, Value.category]; done) | rfl
def Q3 (Z : State) (o0 : Addr) (h0 : Heap) (n0 : Nat) (v : Option Value) (h : Heap) (L : List Loc) : Prop := v = none ∧ Fr n0 L ∧ h = h0
set_option maxRecDepth 65536 in
set_option maxHeartbeats 40000000 in
theorem rm3 (l : Launch) (Z : State) (a0 : Array Value) (hw : ∀ d ∈ tables_1, d.before a0 Z = true) (ws : List Jvm.Cond) (o0 : Addr) (h0 : Heap) (n0 : Nat) (Z0 : n0 ≤ h0.size) :
    MetFree l (⟨"com/example/subschema_match/subschemamatch/regex/Node", "<init>", "()V"⟩ : MethodName) (head1 (Jvm.Cond.code (⟨"com/example/subschema_match/subschemamatch/regex/Node", "<init>", "()V"⟩ : MethodName) prog_15_method_1_code 1 none :: ws) ({ frames := 1, cells := 0, slots := 0, locals := 12 } : Room)) (fun a U => a = #[(.ref o0)] ∧ Z.Warmed39 U.vm ∧ U.heap = h0) (fun _ _ _ _ _ => True) (fun _ U o U' => ∃ v L, o = .returned v ∧ Q3 Z o0 h0 n0 v U'.heap L ∧ FrameEnd U o U' L ({ frames := 1, cells := 0, slots := 0, locals := 12 } : Room).cells ({ frames := 1, cells := 0, slots := 0, locals := 12 } : Room).slots) := by
  refine MetFree.of_bodySF (plainFor_of_name pn_3) hisR ?_
  intro p e s m args below meth c s₁ Bd hml0 hP hK
  obtain ⟨rfl, hZ, hh⟩ := hP
  have hx := Bd.exec
  have hby := Bd.bytes
  have hml : c.maxLocals = 1 := hml0
  have hown : s.vm.findClass "com/example/subschema_match/subschemamatch/regex/Node" = some m.cls := findClass_of_methodNamed Bd.named
  have hnm := (name_of_methodNamed Bd.named Bd.method).1
  have X0 : Stand p l e ({ frames := 1, cells := 0, slots := 0, locals := 12 } : Room) s m #[(.ref o0)] below meth c s₁ [] 0 0 := Stand.of_body Bd
  have e0 : s₁.heap = h0 := by rw [← hh, Bd.state]; rfl
  have N0 := Fr.nil n0
  refine own_in (ef_3 m o0) ?_
  refine own_st (g' := (mkF m 1 #[.val (.ref o0)] [(.ref o0)])) (fun t k => XS.aloadN X0.here hx rfl (hb hby d3_0) rfl rfl k) ?_
  obtain ⟨T2, X2, e2, st2⟩ := initO X0 hx hZ hown (hw _ (List.mem_of_getElem? (i := 15) rfl)) (hw _ (List.mem_of_getElem? (i := 16) rfl)) (hw _ (List.mem_of_getElem? (i := 17) rfl)) e0 (g := (mkF m 1 #[.val (.ref o0)] [(.ref o0)])) rfl (by rw [hml]; rfl) rfl (hb hby d3_1) (by decide) (W := 0) (by show 2 * 0 + _ ≤ _; exact Nat.le_of_eq rfl) (by decide)
  refine own_st (g' := (mkF m 4 #[.val (.ref o0)] [])) (fun t k => st2 t k) ?_
  exact own_retV X2 hx Bd.returns Bd.notSynchronized (hb hby d3_4) ⟨rfl, N0, e2⟩ (by decide) (by decide)
theorem d2_0 : decode prog_17_method_1_code 0 = .ok (.aload_n 0, 1) := by decide +kernel
theorem d2_1 : decode prog_17_method_1_code 1 = .ok (.invokespecial 1, 3) := by decide +kernel
theorem d2_4 : decode prog_17_method_1_code 4 = .ok (.aload_n 0, 1) := by decide +kernel
theorem d2_5 : decode prog_17_method_1_code 5 = .ok (.iload_n 1, 1) := by decide +kernel
theorem d2_6 : decode prog_17_method_1_code 6 = .ok (.putfield 7, 3) := by decide +kernel
theorem d2_9 : decode prog_17_method_1_code 9 = .ok (.return_, 1) := by decide +kernel
theorem pn_2 : plainName "com/example/subschema_match/subschemamatch/regex/Node$Assertion" = true := by first | (simp [plainName, overriddenIn]; done) | decide +kernel
theorem pd_2_0 : parseMethodDescriptor "()V" = some ⟨[], none⟩ := by decide +kernel
theorem ef_2 (m : MethodId) (x0 : Addr) (x1 : Int32) : entryFrame m #[(.ref x0), (.int x1)] 2 = mkF m 0 #[.val (.ref x0), .val (.int x1)] [] := by first | (simp [entryFrame, mkF, argsToLocals, Value.category]; done) | rfl
def Q2 (Z : State) (o0 : Addr) (p1 : Int32) (h0 : Heap) (n0 : Nat) (v : Option Value) (h : Heap) (L : List Loc) : Prop := v = none ∧ Fr n0 L ∧ Keep h0 h [o0] ∧ Exa Z h o0 "com/example/subschema_match/subschemamatch/regex/Node$Assertion" ∧ Fld Z h o0 "com/example/subschema_match/subschemamatch/regex/Node$Assertion" "operation" "I" (.int p1)
set_option maxRecDepth 65536 in
set_option maxHeartbeats 40000000 in
theorem rm2 (l : Launch) (Z : State) (a0 : Array Value) (hw : ∀ d ∈ tables_1, d.before a0 Z = true) (ws : List Jvm.Cond) (o0 : Addr) (p1 : Int32) (h0 : Heap) (n0 : Nat) (Z0 : n0 ≤ h0.size) (G0 : Exa Z h0 o0 "com/example/subschema_match/subschemamatch/regex/Node$Assertion") (G1 : Fld Z h0 o0 "com/example/subschema_match/subschemamatch/regex/Node$Assertion" "operation" "I" (.int (0 : Int32))) (g_o0 : n0 ≤ o0) :
    MetFree l (⟨"com/example/subschema_match/subschemamatch/regex/Node$Assertion", "<init>", "(I)V"⟩ : MethodName) (head1 (Jvm.Cond.code (⟨"com/example/subschema_match/subschemamatch/regex/Node$Assertion", "<init>", "(I)V"⟩ : MethodName) prog_17_method_1_code 2 none :: ws) ({ frames := 2, cells := 0, slots := 0, locals := 24 } : Room)) (fun a U => a = #[(.ref o0), (.int p1)] ∧ Z.Warmed39 U.vm ∧ U.heap = h0) (fun _ _ _ _ _ => True) (fun _ U o U' => ∃ v L, o = .returned v ∧ Q2 Z o0 p1 h0 n0 v U'.heap L ∧ FrameEnd U o U' L ({ frames := 2, cells := 0, slots := 0, locals := 24 } : Room).cells ({ frames := 2, cells := 0, slots := 0, locals := 24 } : Room).slots) := by
  refine MetFree.of_bodySF (plainFor_of_name pn_2) hisR ?_
  intro p e s m args below meth c s₁ Bd hml0 hP hK
  obtain ⟨rfl, hZ, hh⟩ := hP
  have hx := Bd.exec
  have hby := Bd.bytes
  have hml : c.maxLocals = 2 := hml0
  have hown : s.vm.findClass "com/example/subschema_match/subschemamatch/regex/Node$Assertion" = some m.cls := findClass_of_methodNamed Bd.named
  have hnm := (name_of_methodNamed Bd.named Bd.method).1
  have X0 : Stand p l e ({ frames := 2, cells := 0, slots := 0, locals := 24 } : Room) s m #[(.ref o0), (.int p1)] below meth c s₁ [] 0 0 := Stand.of_body Bd
  have e0 : s₁.heap = h0 := by rw [← hh, Bd.state]; rfl
  have N0 := Fr.nil n0
  refine own_in (ef_2 m o0 p1) ?_
  have K0 := Keep.refl h0 [o0]
  refine own_st (g' := (mkF m 1 #[.val (.ref o0), .val (.int p1)] [(.ref o0)])) (fun t k => XS.aloadN X0.here hx rfl (hb hby d2_0) rfl rfl k) ?_
  obtain ⟨_, _, ⟨T1, L1, k1, n1⟩, -, X1, ⟨Lc1, hQ1, l1, y1, z1⟩, st1⟩ := X0.specialBack hx (y := (⟨"com/example/subschema_match/subschemamatch/regex/Node", "<init>", "()V"⟩ : MethodName)) rfl hown (mvT hZ (hw _ (List.mem_of_getElem? (i := 10) rfl))) (mvT hZ (hw _ (List.mem_of_getElem? (i := 11) rfl))) (mvT hZ (hw _ (List.mem_of_getElem? (i := 14) rfl))) (by decide) (backOf (W := 0) (rm3 l Z a0 hw [] o0 h0 n0 Z0  ) hZ (hw _ (List.mem_of_getElem? (i := 14) rfl)) (hw _ (List.mem_of_getElem? (i := 13) rfl)) (by decide) (by decide)) (g := (mkF m 1 #[.val (.ref o0), .val (.int p1)] [(.ref o0)])) rfl (by rw [hml]; rfl) (Steps.refl _) (a := o0) (argsL := []) (rest := []) (lenOf pd_2_0 rfl) rfl (by show 2 * 0 + _ ≤ _; exact Nat.le_of_eq rfl) (hb hby d2_1) (fun _ _ => ⟨rfl, e0, (by decide : 0 + 0 ≤ _), (by decide : 0 + 0 ≤ _)⟩)
  dsimp only [Pt.U, Pt.locs, Pt.cells, Pt.slots] at X1 l1 y1 z1 st1 hQ1
  subst l1 y1 z1
  obtain ⟨rfl, N1q, e1⟩ := hQ1
  have N1 := Fr.app N0 N1q
  refine own_st (g' := (mkF m 4 #[.val (.ref o0), .val (.int p1)] [])) (fun t k => st1.trans k) ?_
  refine own_st (g' := (mkF m 5 #[.val (.ref o0), .val (.int p1)] [(.ref o0)])) (fun t k => XS.aloadN X1.here hx rfl (hb hby d2_4) rfl rfl k) ?_
  refine own_st (g' := (mkF m 6 #[.val (.ref o0), .val (.int p1)] [(.int p1), (.ref o0)])) (fun t k => XS.iloadN X1.here hx rfl (hb hby d2_5) rfl  k) ?_
  obtain ⟨T2, h2, X2, e2, W2, st2⟩ := putF X1 hx hZ hown (host := "") (Or.inl (hw _ (List.mem_of_getElem? (i := 18) rfl))) Via.refl e1 G1 G0 (Or.inr ⟨(hw _ (List.mem_of_getElem? (i := 19) rfl)), rfl, hnm⟩) (hw _ (List.mem_of_getElem? (i := 5) rfl)) (ty := .int) (by decide) rfl rfl (g := (mkF m 6 #[.val (.ref o0), .val (.int p1)] [(.int p1), (.ref o0)])) rfl rfl (hb hby d2_6)
  have F2 := G1.same W2
  have N2 := Fr.snoc X2 N1 g_o0
  have K3 : Keep h0 h2 [o0] := K0.wr W2 (Or.inl (List.mem_of_getElem? (i := 0) rfl))
  refine own_st (g' := (mkF m 9 #[.val (.ref o0), .val (.int p1)] [])) (fun t k => st2 t k) ?_
  have f4 := (G0.wr W2)
  exact own_retV X2 hx Bd.returns Bd.notSynchronized (hb hby d2_9) (by rw [e2]; exact ⟨rfl, N2, K3, f4, F2⟩) (by decide) (by decide)
def own_f5_14 (w_operation : Int32) (t0_14 : Int32) : Int32 := (nar .boolean t0_14)
theorem own_f5_14_eq (w_operation : Int32) (t0_14 : Int32) : own_f5_14 w_operation t0_14 = (nar .boolean t0_14) := rfl
def own_F5 (w_operation : Int32) : Int32 := (if w_operation = (6 : Int32) then (own_f5_14 w_operation (1 : Int32)) else (own_f5_14 w_operation (0 : Int32)))
theorem own_F5_eq (w_operation : Int32) : own_F5 w_operation = (if w_operation = (6 : Int32) then (own_f5_14 w_operation (1 : Int32)) else (own_f5_14 w_operation (0 : Int32))) := rfl
theorem d5_0 : decode prog_17_method_3_code 0 = .ok (.aload_n 0, 1) := by decide +kernel
theorem d5_1 : decode prog_17_method_3_code 1 = .ok (.getfield 7, 3) := by decide +kernel
theorem d5_4 : decode prog_17_method_3_code 4 = .ok (.bipush 6, 2) := by decide +kernel
theorem d5_6 : decode prog_17_method_3_code 6 = .ok (.if_icmp .ne 7, 3) := by decide +kernel
theorem d5_9 : decode prog_17_method_3_code 9 = .ok (.iconst 1, 1) := by decide +kernel
theorem d5_10 : decode prog_17_method_3_code 10 = .ok (.goto 4, 3) := by decide +kernel
theorem d5_13 : decode prog_17_method_3_code 13 = .ok (.iconst 0, 1) := by decide +kernel
theorem d5_14 : decode prog_17_method_3_code 14 = .ok (.ireturn, 1) := by decide +kernel
theorem pn_5 : plainName "com/example/subschema_match/subschemamatch/regex/Node$Assertion" = true := by first | (simp [plainName, overriddenIn]; done) | decide +kernel
theorem ef_5 (m : MethodId) (x0 : Addr) : entryFrame m #[(.ref x0)] 1 = mkF m 0 #[.val (.ref x0)] [] := by first | (simp [entryFrame, mkF, argsToLocals, Value.category]; done) | rfl
def Q5 (Z : State) (o0 : Addr) (w_operation : Int32) (h0 : Heap) (n0 : Nat) (v : Option Value) (h : Heap) (L : List Loc) : Prop := v = some (.int (own_F5 w_operation)) ∧ Fr n0 L ∧ h = h0
set_option maxRecDepth 65536 in
set_option maxHeartbeats 40000000 in
theorem rm5 (l : Launch) (Z : State) (a0 : Array Value) (hw : ∀ d ∈ tables_1, d.before a0 Z = true) (ws : List Jvm.Cond) (o0 : Addr) (w_operation : Int32) (h0 : Heap) (n0 : Nat) (Z0 : n0 ≤ h0.size) (F_operation_o0 : Fld Z h0 o0 "com/example/subschema_match/subschemamatch/regex/Node$Assertion" "operation" "I" (.int w_operation)) :
    MetFree l (⟨"com/example/subschema_match/subschemamatch/regex/Node$Assertion", "anchored", "()Z"⟩ : MethodName) (head1 (Jvm.Cond.code (⟨"com/example/subschema_match/subschemamatch/regex/Node$Assertion", "anchored", "()Z"⟩ : MethodName) prog_17_method_3_code 1 (some .boolean) :: ws) ({ frames := 0, cells := 0, slots := 0, locals := 0 } : Room)) (fun a U => a = #[(.ref o0)] ∧ Z.Warmed39 U.vm ∧ U.heap = h0) (fun _ _ _ _ _ => True) (fun _ U o U' => ∃ v L, o = .returned v ∧ Q5 Z o0 w_operation h0 n0 v U'.heap L ∧ FrameEnd U o U' L ({ frames := 0, cells := 0, slots := 0, locals := 0 } : Room).cells ({ frames := 0, cells := 0, slots := 0, locals := 0 } : Room).slots) := by
  refine MetFree.of_bodySF (plainFor_of_name pn_5) hisR ?_
  intro p e s m args below meth c s₁ Bd hml0 hP hK
  obtain ⟨rfl, hZ, hh⟩ := hP
  have hx := Bd.exec
  have hby := Bd.bytes
  have hml : c.maxLocals = 1 := hml0
  have hown : s.vm.findClass "com/example/subschema_match/subschemamatch/regex/Node$Assertion" = some m.cls := findClass_of_methodNamed Bd.named
  have hnm := (name_of_methodNamed Bd.named Bd.method).1
  have X0 : Stand p l e ({ frames := 0, cells := 0, slots := 0, locals := 0 } : Room) s m #[(.ref o0)] below meth c s₁ [] 0 0 := Stand.of_body Bd
  have e0 : s₁.heap = h0 := by rw [← hh, Bd.state]; rfl
  have N0 := Fr.nil n0
  refine own_in (ef_5 m o0) ?_
  have hr0 := (own_F5_eq w_operation).symm
  refine own_st (g' := (mkF m 1 #[.val (.ref o0)] [(.ref o0)])) (fun t k => XS.aloadN X0.here hx rfl (hb hby d5_0) rfl rfl k) ?_
  obtain ⟨T3, X3, e3, st3⟩ := getF X0 hx hZ hown (host := "") (Or.inl (hw _ (List.mem_of_getElem? (i := 18) rfl))) Via.refl e0 F_operation_o0 (g := (mkF m 1 #[.val (.ref o0)] [(.ref o0)])) rfl rfl (hb hby d5_1)
  refine own_st (g' := (mkF m 4 #[.val (.ref o0)] [(.int w_operation)])) (fun t k => st3 t k) ?_
  refine own_st (g' := (mkF m 6 #[.val (.ref o0)] [(.int (6 : Int32)), (.int w_operation)])) (fun t k => XS.bipush X3.here hx rfl (hb hby d5_4) k) ?_
  have J14 : ∀ (T : State) (locs : List Loc) (t0_14 : Int32), Stand p l e ({ frames := 0, cells := 0, slots := 0, locals := 0 } : Room) s m #[(.ref o0)] below meth c T locs 0 0 → T.heap = h0 → Fr n0 locs → own_f5_14 w_operation t0_14 = own_F5 w_operation → own_Fin p e below s ({ frames := 0, cells := 0, slots := 0, locals := 0 } : Room).cells ({ frames := 0, cells := 0, slots := 0, locals := 0 } : Room).slots (Q5 Z o0 w_operation h0 n0) T (mkF m 14 #[.val (.ref o0)] [(.int t0_14)]) := by
    intro T4 locs4 t0_14  X4 e4 N4 hr4
    have hr4a := (own_f5_14_eq (w_operation) (t0_14)).symm.trans hr4
    exact own_retN (t := .boolean) X4 hx Bd.returns Bd.notSynchronized (by simp) (hb hby d5_14) ⟨congrArg (fun q => some (Value.int q)) hr4a, N4, e4⟩ (by decide) (by decide)
  by_cases hc6_5 : w_operation = (6 : Int32)
  · have hr6 := (if_pos hc6_5).symm.trans hr0
    refine own_st (g' := (mkF m 9 #[.val (.ref o0)] [])) (fun t k => XS.icmpNo X3.here hx rfl (hb hby d5_6) rfl (teq hc6_5).2 k) ?_
    refine own_st (g' := (mkF m 10 #[.val (.ref o0)] [(.int (1 : Int32))])) (fun t k => XS.iconst X3.here hx rfl (hb hby d5_9) k) ?_
    refine own_st (g' := (mkF m 14 #[.val (.ref o0)] [(.int (1 : Int32))])) (fun t k => XS.goto X3.here hx rfl (pc0 := 10) (pc' := 14) rfl (hb hby d5_10) (by decide) (by decide) k) ?_
    exact J14 T3 _ (1 : Int32)  X3 e3 N0 hr6
  · have hr7 := (if_neg hc6_5).symm.trans hr0
    refine own_st (g' := (mkF m 13 #[.val (.ref o0)] [])) (fun t k => XS.icmpYes X3.here hx rfl (pc0 := 6) (pc' := 13) rfl (hb hby d5_6) rfl (feq hc6_5).2 (by decide) (by decide) k) ?_
    refine own_st (g' := (mkF m 14 #[.val (.ref o0)] [(.int (0 : Int32))])) (fun t k => XS.iconst X3.here hx rfl (hb hby d5_13) k) ?_
    exact J14 T3 _ (0 : Int32)  X3 e3 N0 hr7
def own_f0_60 (p0 : Int32) (t0_18 : Int32) (t0_60 : Int32) : Int32 := (nar .boolean t0_60)
theorem own_f0_60_eq (p0 : Int32) (t0_18 : Int32) (t0_60 : Int32) : own_f0_60 p0 t0_18 t0_60 = (nar .boolean t0_60) := rfl
def own_f0_18 (p0 : Int32) (t0_18 : Int32) : Int32 := (if (own_F5 (own_F1 (p0 &&& (3 : Int32)))) = t0_18 then (if (own_F5 (own_F1 (p0 &&& (3 : Int32)))) = t0_18 then (own_f0_60 p0 t0_18 (1 : Int32)) else (own_f0_60 p0 t0_18 (0 : Int32))) else (own_f0_60 p0 t0_18 (0 : Int32)))
theorem own_f0_18_eq (p0 : Int32) (t0_18 : Int32) : own_f0_18 p0 t0_18 = (if (own_F5 (own_F1 (p0 &&& (3 : Int32)))) = t0_18 then (if (own_F5 (own_F1 (p0 &&& (3 : Int32)))) = t0_18 then (own_f0_60 p0 t0_18 (1 : Int32)) else (own_f0_60 p0 t0_18 (0 : Int32))) else (own_f0_60 p0 t0_18 (0 : Int32))) := rfl
def own_F0 (p0 : Int32) : Int32 := (if (p0 &&& (3 : Int32)) = (0 : Int32) then (own_f0_18 p0 (1 : Int32)) else (own_f0_18 p0 (0 : Int32)))
theorem own_F0_eq (p0 : Int32) : own_F0 p0 = (if (p0 &&& (3 : Int32)) = (0 : Int32) then (own_f0_18 p0 (1 : Int32)) else (own_f0_18 p0 (0 : Int32))) := rfl
theorem pn_0 : plainName "com/example/subschema_match/subschemamatch/regex/AssertionAnchoredPinLaw" = true := by first | (simp [plainName, overriddenIn]; done) | decide +kernel
theorem pd_0_1 : parseMethodDescriptor "(I)I" = some ⟨[.int], some .int⟩ := by decide +kernel
theorem pd_0_2 : parseMethodDescriptor "(I)V" = some ⟨[.int], none⟩ := by decide +kernel
theorem pd_0_3 : parseMethodDescriptor "()Z" = some ⟨[], some .boolean⟩ := by decide +kernel
theorem ef_0 (m : MethodId) (x0 : Int32) : entryFrame m #[(.int x0)] maxLocals = mkF m 0 #[.val (.int x0), .unset, .unset, .unset, .unset, .unset, .unset] [] := by first | (simp [entryFrame, mkF, argsToLocals, Value.category, maxLocals]; done) | rfl
def Q0 (Z : State) (p0 : Int32) (h0 : Heap) (n0 : Nat) (v : Option Value) (h : Heap) (L : List Loc) : Prop := v = some (.int 1) ∧ Fr n0 L
set_option maxRecDepth 65536 in
set_option maxHeartbeats 40000000 in
theorem rm0 (l : Launch) (Z : State) (a0 : Array Value) (hw : ∀ d ∈ tables_1, d.before a0 Z = true) (ws : List Jvm.Cond) (p0 : Int32) (h0 : Heap) (n0 : Nat) (Z0 : n0 ≤ h0.size) (hlaw : own_F0 p0 = 1) :
    MetFree l x (head1 (Jvm.Cond.code x code maxLocals ret :: ws) room_1) (fun a U => a = #[(.int p0)] ∧ Z.Warmed39 U.vm ∧ U.heap = h0) (fun _ _ _ _ _ => True) (fun _ U o U' => ∃ v L, o = .returned v ∧ Q0 Z p0 h0 n0 v U'.heap L ∧ FrameEnd U o U' L 16 128) := by
  refine MetFree.of_bodySF (plainFor_of_name pn_0) hisR ?_
  intro p e s m args below meth c s₁ Bd hml0 hP hK
  obtain ⟨rfl, hZ, hh⟩ := hP
  have hx := Bd.exec
  have hby := Bd.bytes
  have hml : c.maxLocals = 7 := hml0
  have hown : s.vm.findClass "com/example/subschema_match/subschemamatch/regex/AssertionAnchoredPinLaw" = some m.cls := findClass_of_methodNamed Bd.named
  have hnm := (name_of_methodNamed Bd.named Bd.method).1
  have X0 : Stand p l e room_1 s m #[(.int p0)] below meth c s₁ [] 0 0 := Stand.of_body Bd
  have e0 : s₁.heap = h0 := by rw [← hh, Bd.state]; rfl
  have N0 := Fr.nil n0
  refine own_in (ef_0 m p0) ?_
  have hr0 := (own_F0_eq p0).symm.trans hlaw
  refine own_st (g' := (mkF m 1 #[.val (.int p0), .unset, .unset, .unset, .unset, .unset, .unset] [(.int p0)])) (fun t k => XS.iloadN X0.here hx rfl (hb hby at_0) rfl  k) ?_
  refine own_st (g' := (mkF m 2 #[.val (.int p0), .unset, .unset, .unset, .unset, .unset, .unset] [(.int (3 : Int32)), (.int p0)])) (fun t k => XS.iconst X0.here hx rfl (hb hby at_1) k) ?_
  refine own_st (g' := (mkF m 3 #[.val (.int p0), .unset, .unset, .unset, .unset, .unset, .unset] [(.int (p0 &&& (3 : Int32)))])) (fun t k => XS.iand X0.here hx rfl (hb hby at_2) rfl k) ?_
  refine own_st (g' := (mkF m 4 #[.val (.int p0), .val (.int (p0 &&& (3 : Int32))), .unset, .unset, .unset, .unset, .unset] [])) (fun t k => XS.istoreN X0.here hx rfl (hb hby at_3) rfl (l' := #[.val (.int p0), .val (.int (p0 &&& (3 : Int32))), .unset, .unset, .unset, .unset, .unset]) rfl k) ?_
  refine own_st (g' := (mkF m 5 #[.val (.int p0), .val (.int (p0 &&& (3 : Int32))), .unset, .unset, .unset, .unset, .unset] [(.int (p0 &&& (3 : Int32)))])) (fun t k => XS.iloadN X0.here hx rfl (hb hby at_4) rfl  k) ?_
  obtain ⟨_, _, ⟨T17, L17, k17, n17⟩, -, X17, ⟨Lc17, hQ17, l17, y17, z17⟩, st17⟩ := Jvm.LawKit.callS X0 hx (y := (⟨"com/example/subschema_match/subschemamatch/regex/AssertionAnchoredPinLaw", "operationOf", "(I)I"⟩ : MethodName)) hown (mvT hZ (hw _ (List.mem_of_getElem? (i := 0) rfl))) (mvT hZ (hw _ (List.mem_of_getElem? (i := 1) rfl))) (mvT hZ (hw _ (List.mem_of_getElem? (i := 2) rfl))) (mvT hZ (hw _ (List.mem_of_getElem? (i := 3) rfl))) (by decide) (backOf (W := 0) (rm1 l Z a0 hw [] (p0 &&& (3 : Int32)) h0 n0 Z0  ) hZ (hw _ (List.mem_of_getElem? (i := 3) rfl)) (hw _ (List.mem_of_getElem? (i := 2) rfl)) (by decide) (by decide)) (g := (mkF m 5 #[.val (.int p0), .val (.int (p0 &&& (3 : Int32))), .unset, .unset, .unset, .unset, .unset] [(.int (p0 &&& (3 : Int32)))])) rfl (by rw [hml]; rfl) (argsL := [(.int (p0 &&& (3 : Int32)))]) (rest := []) (lenOf pd_0_1 rfl) rfl (by show 2 * 0 + _ ≤ _; exact Nat.le_of_eq rfl) (hb hby at_5) (fun _ _ => ⟨rfl, e0, (by decide : 0 + 0 ≤ _), (by decide : 0 + 0 ≤ _)⟩)
  dsimp only [Pt.U, Pt.locs, Pt.cells, Pt.slots] at X17 l17 y17 z17 st17 hQ17
  subst l17 y17 z17
  obtain ⟨rfl, N17q, e17⟩ := hQ17
  have N17 := Fr.app N0 N17q
  refine own_st (g' := (mkF m 8 #[.val (.int p0), .val (.int (p0 &&& (3 : Int32))), .unset, .unset, .unset, .unset, .unset] [(.int (own_F1 (p0 &&& (3 : Int32))))])) (fun t k => st17 t k) ?_
  refine own_st (g' := (mkF m 9 #[.val (.int p0), .val (.int (p0 &&& (3 : Int32))), .val (.int (own_F1 (p0 &&& (3 : Int32)))), .unset, .unset, .unset, .unset] [])) (fun t k => XS.istoreN X17.here hx rfl (hb hby at_8) rfl (l' := #[.val (.int p0), .val (.int (p0 &&& (3 : Int32))), .val (.int (own_F1 (p0 &&& (3 : Int32)))), .unset, .unset, .unset, .unset]) rfl k) ?_
  refine own_st (g' := (mkF m 10 #[.val (.int p0), .val (.int (p0 &&& (3 : Int32))), .val (.int (own_F1 (p0 &&& (3 : Int32)))), .unset, .unset, .unset, .unset] [(.int (p0 &&& (3 : Int32)))])) (fun t k => XS.iloadN X17.here hx rfl (hb hby at_9) rfl  k) ?_
  have J18 : ∀ (T : State) (locs : List Loc) (t0_18 : Int32), Stand p l e room_1 s m #[(.int p0)] below meth c T locs 0 0 → T.heap = h0 → Fr n0 locs → own_f0_18 p0 t0_18 = (1 : Int32) → own_Fin p e below s 16 128 (Q0 Z p0 h0 n0) T (mkF m 18 #[.val (.int p0), .val (.int (p0 &&& (3 : Int32))), .val (.int (own_F1 (p0 &&& (3 : Int32)))), .unset, .unset, .unset, .unset] [(.int t0_18)]) := by
    intro T18 locs18 t0_18  X18 e18 N18 hr18
    have hr18a := (own_f0_18_eq (p0) (t0_18)).symm.trans hr18
    refine own_st (g' := (mkF m 19 #[.val (.int p0), .val (.int (p0 &&& (3 : Int32))), .val (.int (own_F1 (p0 &&& (3 : Int32)))), .val (.int t0_18), .unset, .unset, .unset] [])) (fun t k => XS.istoreN X18.here hx rfl (hb hby at_18) rfl (l' := #[.val (.int p0), .val (.int (p0 &&& (3 : Int32))), .val (.int (own_F1 (p0 &&& (3 : Int32)))), .val (.int t0_18), .unset, .unset, .unset]) rfl k) ?_
    obtain ⟨T19, h19, X19, e19, E19, A19, D19, -, st19⟩ := newO X18 hx hZ hown (hw _ (List.mem_of_getElem? (i := 4) rfl)) (hw _ (List.mem_of_getElem? (i := 5) rfl)) (hw _ (List.mem_of_getElem? (i := 6) rfl)) e18 (g := (mkF m 19 #[.val (.int p0), .val (.int (p0 &&& (3 : Int32))), .val (.int (own_F1 (p0 &&& (3 : Int32)))), .val (.int t0_18), .unset, .unset, .unset] [])) rfl (hb hby at_19) (by decide) (by decide)
    obtain ⟨b19, gg19⟩ : ∃ q, q = h0.size := ⟨_, rfl⟩
    rw [← gg19] at A19 D19 st19
    have g_b19 : n0 ≤ b19 := Nat.le_trans Z0 (Nat.le_of_eq gg19.symm)
    have F19_operation : Fld Z h19 b19 "com/example/subschema_match/subschemamatch/regex/Node$Assertion" "operation" "I" (.int (0 : Int32)) := D19 (Or.inr (hw _ (List.mem_of_getElem? (i := 19) rfl))) (ty := .int) (by decide)
    refine own_st (g' := (mkF m 22 #[.val (.int p0), .val (.int (p0 &&& (3 : Int32))), .val (.int (own_F1 (p0 &&& (3 : Int32)))), .val (.int t0_18), .unset, .unset, .unset] [(.ref b19)])) (fun t k => st19 t k) ?_
    refine own_st (g' := (mkF m 23 #[.val (.int p0), .val (.int (p0 &&& (3 : Int32))), .val (.int (own_F1 (p0 &&& (3 : Int32)))), .val (.int t0_18), .unset, .unset, .unset] [(.ref b19), (.ref b19)])) (fun t k => XS.dup X19.here hx rfl (hb hby at_22) rfl rfl k) ?_
    refine own_st (g' := (mkF m 24 #[.val (.int p0), .val (.int (p0 &&& (3 : Int32))), .val (.int (own_F1 (p0 &&& (3 : Int32)))), .val (.int t0_18), .unset, .unset, .unset] [(.int (own_F1 (p0 &&& (3 : Int32)))), (.ref b19), (.ref b19)])) (fun t k => XS.iloadN X19.here hx rfl (hb hby at_23) rfl  k) ?_
    have Z21 : n0 ≤ h19.size := (Nat.le_trans Z0 E19.1)
    obtain ⟨_, _, ⟨T20, L20, k20, n20⟩, -, X20, ⟨Lc20, hQ20, l20, y20, z20⟩, st20⟩ := X19.specialBack hx (y := (⟨"com/example/subschema_match/subschemamatch/regex/Node$Assertion", "<init>", "(I)V"⟩ : MethodName)) rfl hown (mvT hZ (hw _ (List.mem_of_getElem? (i := 7) rfl))) (mvT hZ (hw _ (List.mem_of_getElem? (i := 8) rfl))) (mvT hZ (hw _ (List.mem_of_getElem? (i := 9) rfl))) (by decide) (backOf (W := 1) (rm2 l Z a0 hw [] b19 (own_F1 (p0 &&& (3 : Int32)))  h19 n0 Z21 A19 F19_operation g_b19  ) hZ (hw _ (List.mem_of_getElem? (i := 9) rfl)) (hw _ (List.mem_of_getElem? (i := 6) rfl)) (by decide) (by decide)) (g := (mkF m 24 #[.val (.int p0), .val (.int (p0 &&& (3 : Int32))), .val (.int (own_F1 (p0 &&& (3 : Int32)))), .val (.int t0_18), .unset, .unset, .unset] [(.int (own_F1 (p0 &&& (3 : Int32)))), (.ref b19), (.ref b19)])) rfl (by rw [hml]; rfl) (Steps.refl _) (a := b19) (argsL := [(.int (own_F1 (p0 &&& (3 : Int32))))]) (rest := [(.ref b19)]) (lenOf pd_0_2 rfl) rfl (by show 2 * 0 + _ ≤ _; exact Nat.le_of_eq rfl) (hb hby at_24) (fun _ _ => ⟨rfl, e19, (by decide : 1 + 0 ≤ _), (by decide : 1 + 0 ≤ _)⟩)
    dsimp only [Pt.U, Pt.locs, Pt.cells, Pt.slots] at X20 l20 y20 z20 st20 hQ20
    subst l20 y20 z20
    obtain ⟨rfl, N20q, K20, P20_0, P20_1⟩ := hQ20
    have N20 := Fr.app N18 N20q
    refine own_st (g' := (mkF m 27 #[.val (.int p0), .val (.int (p0 &&& (3 : Int32))), .val (.int (own_F1 (p0 &&& (3 : Int32)))), .val (.int t0_18), .unset, .unset, .unset] [(.ref b19)])) (fun t k => st20.trans k) ?_
    refine own_st (g' := (mkF m 29 #[.val (.int p0), .val (.int (p0 &&& (3 : Int32))), .val (.int (own_F1 (p0 &&& (3 : Int32)))), .val (.int t0_18), .val (.ref b19), .unset, .unset] [])) (fun t k => XS.astore X20.here hx rfl (hb hby at_27) rfl rfl (l' := #[.val (.int p0), .val (.int (p0 &&& (3 : Int32))), .val (.int (own_F1 (p0 &&& (3 : Int32)))), .val (.int t0_18), .val (.ref b19), .unset, .unset]) rfl k) ?_
    refine own_st (g' := (mkF m 31 #[.val (.int p0), .val (.int (p0 &&& (3 : Int32))), .val (.int (own_F1 (p0 &&& (3 : Int32)))), .val (.int t0_18), .val (.ref b19), .unset, .unset] [(.ref b19)])) (fun t k => XS.aload X20.here hx rfl (hb hby at_29) rfl rfl k) ?_
    have Z23 : n0 ≤ T20.heap.size := (Nat.le_trans Z21 K20.1)
    obtain ⟨cq22, kq22, q22a, q22b, q22c⟩ := isOf hZ (rfl : T20.heap = T20.heap) P20_0
    obtain ⟨_, _, ⟨T22, L22, k22, n22⟩, -, X22, ⟨Lc22, hQ22, l22, y22, z22⟩, st22⟩ := X20.virtualBack hx (y := (⟨"com/example/subschema_match/subschemamatch/regex/Node$Assertion", "anchored", "()Z"⟩ : MethodName)) (z := (⟨"com/example/subschema_match/subschemamatch/regex/Node$Assertion", "anchored", "()Z"⟩ : MethodName)) hown (mvT hZ (hw _ (List.mem_of_getElem? (i := 20) rfl))) (mvT hZ (hw _ (List.mem_of_getElem? (i := 21) rfl))) (notFace_of_selects (args := #[]) (mvT hZ (hw _ (List.mem_of_getElem? (i := 23) rfl)))) (mvT hZ (hw _ (List.mem_of_getElem? (i := 23) rfl))) (mvT hZ (hw _ (List.mem_of_getElem? (i := 22) rfl))) (by decide) (backOf (W := 0) (rm5 l Z a0 hw [] b19 (own_F1 (p0 &&& (3 : Int32))) T20.heap n0 Z23 P20_1 ) hZ (hw _ (List.mem_of_getElem? (i := 24) rfl)) (hw _ (List.mem_of_getElem? (i := 6) rfl)) (by decide) (by decide)) q22a q22c (g := (mkF m 31 #[.val (.int p0), .val (.int (p0 &&& (3 : Int32))), .val (.int (own_F1 (p0 &&& (3 : Int32)))), .val (.int t0_18), .val (.ref b19), .unset, .unset] [(.ref b19)])) rfl (by rw [hml]; rfl) (Steps.refl _) (argsL := []) (rest := []) (lenOf pd_0_3 rfl) rfl (by show 2 * 0 + _ ≤ _; exact Nat.le_of_eq rfl) (hb hby at_31) (fun _ _ => ⟨rfl, (rfl : T20.heap = T20.heap), (by decide : 1 + 0 ≤ _), (by decide : 1 + 0 ≤ _)⟩)
    dsimp only [Pt.U, Pt.locs, Pt.cells, Pt.slots] at X22 l22 y22 z22 st22 hQ22
    subst l22 y22 z22
    obtain ⟨rfl, N22q, e22⟩ := hQ22
    have N22 := Fr.app N20 N22q
    refine own_st (g' := (mkF m 34 #[.val (.int p0), .val (.int (p0 &&& (3 : Int32))), .val (.int (own_F1 (p0 &&& (3 : Int32)))), .val (.int t0_18), .val (.ref b19), .unset, .unset] [(.int (own_F5 (own_F1 (p0 &&& (3 : Int32)))))])) (fun t k => st22.trans k) ?_
    refine own_st (g' := (mkF m 36 #[.val (.int p0), .val (.int (p0 &&& (3 : Int32))), .val (.int (own_F1 (p0 &&& (3 : Int32)))), .val (.int t0_18), .val (.ref b19), .val (.int (own_F5 (own_F1 (p0 &&& (3 : Int32))))), .unset] [])) (fun t k => XS.istore X22.here hx rfl (hb hby at_34) rfl (l' := #[.val (.int p0), .val (.int (p0 &&& (3 : Int32))), .val (.int (own_F1 (p0 &&& (3 : Int32)))), .val (.int t0_18), .val (.ref b19), .val (.int (own_F5 (own_F1 (p0 &&& (3 : Int32))))), .unset]) rfl k) ?_
    refine own_st (g' := (mkF m 38 #[.val (.int p0), .val (.int (p0 &&& (3 : Int32))), .val (.int (own_F1 (p0 &&& (3 : Int32)))), .val (.int t0_18), .val (.ref b19), .val (.int (own_F5 (own_F1 (p0 &&& (3 : Int32))))), .unset] [(.ref b19)])) (fun t k => XS.aload X22.here hx rfl (hb hby at_36) rfl rfl k) ?_
    obtain ⟨cq24, kq24, q24a, q24b, q24c⟩ := isOf hZ e22 P20_0
    obtain ⟨_, _, ⟨T24, L24, k24, n24⟩, -, X24, ⟨Lc24, hQ24, l24, y24, z24⟩, st24⟩ := X22.virtualBack hx (y := (⟨"com/example/subschema_match/subschemamatch/regex/Node$Assertion", "anchored", "()Z"⟩ : MethodName)) (z := (⟨"com/example/subschema_match/subschemamatch/regex/Node$Assertion", "anchored", "()Z"⟩ : MethodName)) hown (mvT hZ (hw _ (List.mem_of_getElem? (i := 20) rfl))) (mvT hZ (hw _ (List.mem_of_getElem? (i := 21) rfl))) (notFace_of_selects (args := #[]) (mvT hZ (hw _ (List.mem_of_getElem? (i := 23) rfl)))) (mvT hZ (hw _ (List.mem_of_getElem? (i := 23) rfl))) (mvT hZ (hw _ (List.mem_of_getElem? (i := 22) rfl))) (by decide) (backOf (W := 0) (rm5 l Z a0 hw [] b19 (own_F1 (p0 &&& (3 : Int32))) T20.heap n0 Z23 P20_1 ) hZ (hw _ (List.mem_of_getElem? (i := 24) rfl)) (hw _ (List.mem_of_getElem? (i := 6) rfl)) (by decide) (by decide)) q24a q24c (g := (mkF m 38 #[.val (.int p0), .val (.int (p0 &&& (3 : Int32))), .val (.int (own_F1 (p0 &&& (3 : Int32)))), .val (.int t0_18), .val (.ref b19), .val (.int (own_F5 (own_F1 (p0 &&& (3 : Int32))))), .unset] [(.ref b19)])) rfl (by rw [hml]; rfl) (Steps.refl _) (argsL := []) (rest := []) (lenOf pd_0_3 rfl) rfl (by show 2 * 0 + _ ≤ _; exact Nat.le_of_eq rfl) (hb hby at_38) (fun _ _ => ⟨rfl, e22, (by decide : 1 + 0 ≤ _), (by decide : 1 + 0 ≤ _)⟩)
    dsimp only [Pt.U, Pt.locs, Pt.cells, Pt.slots] at X24 l24 y24 z24 st24 hQ24
    subst l24 y24 z24
    obtain ⟨rfl, N24q, e24⟩ := hQ24
    have N24 := Fr.app N22 N24q
    refine own_st (g' := (mkF m 41 #[.val (.int p0), .val (.int (p0 &&& (3 : Int32))), .val (.int (own_F1 (p0 &&& (3 : Int32)))), .val (.int t0_18), .val (.ref b19), .val (.int (own_F5 (own_F1 (p0 &&& (3 : Int32))))), .unset] [(.int (own_F5 (own_F1 (p0 &&& (3 : Int32)))))])) (fun t k => st24.trans k) ?_
    refine own_st (g' := (mkF m 43 #[.val (.int p0), .val (.int (p0 &&& (3 : Int32))), .val (.int (own_F1 (p0 &&& (3 : Int32)))), .val (.int t0_18), .val (.ref b19), .val (.int (own_F5 (own_F1 (p0 &&& (3 : Int32))))), .val (.int (own_F5 (own_F1 (p0 &&& (3 : Int32)))))] [])) (fun t k => XS.istore X24.here hx rfl (hb hby at_41) rfl (l' := #[.val (.int p0), .val (.int (p0 &&& (3 : Int32))), .val (.int (own_F1 (p0 &&& (3 : Int32)))), .val (.int t0_18), .val (.ref b19), .val (.int (own_F5 (own_F1 (p0 &&& (3 : Int32))))), .val (.int (own_F5 (own_F1 (p0 &&& (3 : Int32)))))]) rfl k) ?_
    refine own_st (g' := (mkF m 45 #[.val (.int p0), .val (.int (p0 &&& (3 : Int32))), .val (.int (own_F1 (p0 &&& (3 : Int32)))), .val (.int t0_18), .val (.ref b19), .val (.int (own_F5 (own_F1 (p0 &&& (3 : Int32))))), .val (.int (own_F5 (own_F1 (p0 &&& (3 : Int32)))))] [(.int (own_F5 (own_F1 (p0 &&& (3 : Int32)))))])) (fun t k => XS.iload X24.here hx rfl (hb hby at_43) rfl  k) ?_
    refine own_st (g' := (mkF m 46 #[.val (.int p0), .val (.int (p0 &&& (3 : Int32))), .val (.int (own_F1 (p0 &&& (3 : Int32)))), .val (.int t0_18), .val (.ref b19), .val (.int (own_F5 (own_F1 (p0 &&& (3 : Int32))))), .val (.int (own_F5 (own_F1 (p0 &&& (3 : Int32)))))] [(.int t0_18), (.int (own_F5 (own_F1 (p0 &&& (3 : Int32)))))])) (fun t k => XS.iloadN X24.here hx rfl (hb hby at_45) rfl  k) ?_
    have J60 : ∀ (T : State) (locs : List Loc) (t0_60 : Int32), Stand p l e room_1 s m #[(.int p0)] below meth c T locs 1 1 → T.heap = T20.heap → Fr n0 locs → own_f0_60 p0 t0_18 t0_60 = (1 : Int32) → own_Fin p e below s 16 128 (Q0 Z p0 h0 n0) T (mkF m 60 #[.val (.int p0), .val (.int (p0 &&& (3 : Int32))), .val (.int (own_F1 (p0 &&& (3 : Int32)))), .val (.int t0_18), .val (.ref b19), .val (.int (own_F5 (own_F1 (p0 &&& (3 : Int32))))), .val (.int (own_F5 (own_F1 (p0 &&& (3 : Int32)))))] [(.int t0_60)]) := by
      intro T25 locs25 t0_60  X25 e25 N25 hr25
      have hr25a := (own_f0_60_eq (p0) (t0_18) (t0_60)).symm.trans hr25
      exact own_retN (t := .boolean) X25 hx Bd.returns Bd.notSynchronized (by simp) (hb hby at_60) ⟨congrArg (fun q => some (Value.int q)) hr25a, N25⟩ (by decide) (by decide)
    by_cases hc46_26 : (own_F5 (own_F1 (p0 &&& (3 : Int32)))) = t0_18
    · have hr27 := (if_pos hc46_26).symm.trans hr18a
      refine own_st (g' := (mkF m 49 #[.val (.int p0), .val (.int (p0 &&& (3 : Int32))), .val (.int (own_F1 (p0 &&& (3 : Int32)))), .val (.int t0_18), .val (.ref b19), .val (.int (own_F5 (own_F1 (p0 &&& (3 : Int32))))), .val (.int (own_F5 (own_F1 (p0 &&& (3 : Int32)))))] [])) (fun t k => XS.icmpNo X24.here hx rfl (hb hby at_46) rfl (teq hc46_26).2 k) ?_
      refine own_st (g' := (mkF m 51 #[.val (.int p0), .val (.int (p0 &&& (3 : Int32))), .val (.int (own_F1 (p0 &&& (3 : Int32)))), .val (.int t0_18), .val (.ref b19), .val (.int (own_F5 (own_F1 (p0 &&& (3 : Int32))))), .val (.int (own_F5 (own_F1 (p0 &&& (3 : Int32)))))] [(.int (own_F5 (own_F1 (p0 &&& (3 : Int32)))))])) (fun t k => XS.iload X24.here hx rfl (hb hby at_49) rfl  k) ?_
      refine own_st (g' := (mkF m 52 #[.val (.int p0), .val (.int (p0 &&& (3 : Int32))), .val (.int (own_F1 (p0 &&& (3 : Int32)))), .val (.int t0_18), .val (.ref b19), .val (.int (own_F5 (own_F1 (p0 &&& (3 : Int32))))), .val (.int (own_F5 (own_F1 (p0 &&& (3 : Int32)))))] [(.int t0_18), (.int (own_F5 (own_F1 (p0 &&& (3 : Int32)))))])) (fun t k => XS.iloadN X24.here hx rfl (hb hby at_51) rfl  k) ?_
      by_cases hc52_28 : (own_F5 (own_F1 (p0 &&& (3 : Int32)))) = t0_18
      · have hr29 := (if_pos hc52_28).symm.trans hr27
        refine own_st (g' := (mkF m 55 #[.val (.int p0), .val (.int (p0 &&& (3 : Int32))), .val (.int (own_F1 (p0 &&& (3 : Int32)))), .val (.int t0_18), .val (.ref b19), .val (.int (own_F5 (own_F1 (p0 &&& (3 : Int32))))), .val (.int (own_F5 (own_F1 (p0 &&& (3 : Int32)))))] [])) (fun t k => XS.icmpNo X24.here hx rfl (hb hby at_52) rfl (teq hc52_28).2 k) ?_
        refine own_st (g' := (mkF m 56 #[.val (.int p0), .val (.int (p0 &&& (3 : Int32))), .val (.int (own_F1 (p0 &&& (3 : Int32)))), .val (.int t0_18), .val (.ref b19), .val (.int (own_F5 (own_F1 (p0 &&& (3 : Int32))))), .val (.int (own_F5 (own_F1 (p0 &&& (3 : Int32)))))] [(.int (1 : Int32))])) (fun t k => XS.iconst X24.here hx rfl (hb hby at_55) k) ?_
        refine own_st (g' := (mkF m 60 #[.val (.int p0), .val (.int (p0 &&& (3 : Int32))), .val (.int (own_F1 (p0 &&& (3 : Int32)))), .val (.int t0_18), .val (.ref b19), .val (.int (own_F5 (own_F1 (p0 &&& (3 : Int32))))), .val (.int (own_F5 (own_F1 (p0 &&& (3 : Int32)))))] [(.int (1 : Int32))])) (fun t k => XS.goto X24.here hx rfl (pc0 := 56) (pc' := 60) rfl (hb hby at_56) (by decide) (by decide) k) ?_
        exact J60 T24 _ (1 : Int32)  X24 e24 N24 hr29
      · have hr30 := (if_neg hc52_28).symm.trans hr27
        refine own_st (g' := (mkF m 59 #[.val (.int p0), .val (.int (p0 &&& (3 : Int32))), .val (.int (own_F1 (p0 &&& (3 : Int32)))), .val (.int t0_18), .val (.ref b19), .val (.int (own_F5 (own_F1 (p0 &&& (3 : Int32))))), .val (.int (own_F5 (own_F1 (p0 &&& (3 : Int32)))))] [])) (fun t k => XS.icmpYes X24.here hx rfl (pc0 := 52) (pc' := 59) rfl (hb hby at_52) rfl (feq hc52_28).2 (by decide) (by decide) k) ?_
        refine own_st (g' := (mkF m 60 #[.val (.int p0), .val (.int (p0 &&& (3 : Int32))), .val (.int (own_F1 (p0 &&& (3 : Int32)))), .val (.int t0_18), .val (.ref b19), .val (.int (own_F5 (own_F1 (p0 &&& (3 : Int32))))), .val (.int (own_F5 (own_F1 (p0 &&& (3 : Int32)))))] [(.int (0 : Int32))])) (fun t k => XS.iconst X24.here hx rfl (hb hby at_59) k) ?_
        exact J60 T24 _ (0 : Int32)  X24 e24 N24 hr30
    · have hr31 := (if_neg hc46_26).symm.trans hr18a
      refine own_st (g' := (mkF m 59 #[.val (.int p0), .val (.int (p0 &&& (3 : Int32))), .val (.int (own_F1 (p0 &&& (3 : Int32)))), .val (.int t0_18), .val (.ref b19), .val (.int (own_F5 (own_F1 (p0 &&& (3 : Int32))))), .val (.int (own_F5 (own_F1 (p0 &&& (3 : Int32)))))] [])) (fun t k => XS.icmpYes X24.here hx rfl (pc0 := 46) (pc' := 59) rfl (hb hby at_46) rfl (feq hc46_26).2 (by decide) (by decide) k) ?_
      refine own_st (g' := (mkF m 60 #[.val (.int p0), .val (.int (p0 &&& (3 : Int32))), .val (.int (own_F1 (p0 &&& (3 : Int32)))), .val (.int t0_18), .val (.ref b19), .val (.int (own_F5 (own_F1 (p0 &&& (3 : Int32))))), .val (.int (own_F5 (own_F1 (p0 &&& (3 : Int32)))))] [(.int (0 : Int32))])) (fun t k => XS.iconst X24.here hx rfl (hb hby at_59) k) ?_
      exact J60 T24 _ (0 : Int32)  X24 e24 N24 hr31
  by_cases hc10_32 : (p0 &&& (3 : Int32)) = (0 : Int32)
  · have hr33 := (if_pos hc10_32).symm.trans hr0
    refine own_st (g' := (mkF m 13 #[.val (.int p0), .val (.int (p0 &&& (3 : Int32))), .val (.int (own_F1 (p0 &&& (3 : Int32)))), .unset, .unset, .unset, .unset] [])) (fun t k => XS.ifNo X17.here hx rfl (hb hby at_10) rfl ((if0 _ _).trans (teq hc10_32).2) k) ?_
    refine own_st (g' := (mkF m 14 #[.val (.int p0), .val (.int (p0 &&& (3 : Int32))), .val (.int (own_F1 (p0 &&& (3 : Int32)))), .unset, .unset, .unset, .unset] [(.int (1 : Int32))])) (fun t k => XS.iconst X17.here hx rfl (hb hby at_13) k) ?_
    refine own_st (g' := (mkF m 18 #[.val (.int p0), .val (.int (p0 &&& (3 : Int32))), .val (.int (own_F1 (p0 &&& (3 : Int32)))), .unset, .unset, .unset, .unset] [(.int (1 : Int32))])) (fun t k => XS.goto X17.here hx rfl (pc0 := 14) (pc' := 18) rfl (hb hby at_14) (by decide) (by decide) k) ?_
    exact J18 T17 _ (1 : Int32)  X17 e17 N17 hr33
  · have hr34 := (if_neg hc10_32).symm.trans hr0
    refine own_st (g' := (mkF m 17 #[.val (.int p0), .val (.int (p0 &&& (3 : Int32))), .val (.int (own_F1 (p0 &&& (3 : Int32)))), .unset, .unset, .unset, .unset] [])) (fun t k => XS.ifYes X17.here hx rfl (pc0 := 10) (pc' := 17) rfl (hb hby at_10) rfl ((if0 _ _).trans (feq hc10_32).2) (by decide) (by decide) k) ?_
    refine own_st (g' := (mkF m 18 #[.val (.int p0), .val (.int (p0 &&& (3 : Int32))), .val (.int (own_F1 (p0 &&& (3 : Int32)))), .unset, .unset, .unset, .unset] [(.int (0 : Int32))])) (fun t k => XS.iconst X17.here hx rfl (hb hby at_17) k) ?_
    exact J18 T17 _ (0 : Int32)  X17 e17 N17 hr34
/-! ## The plain law -/
theorem own_n0 : nar .boolean (0 : Int32) = 0 := by decide
theorem own_n1 : nar .boolean (1 : Int32) = 1 := by decide
theorem own_law (p0 : Int32) : own_F0 p0 = 1 := by
  rw [own_F0_eq]
  by_cases h : (p0 &&& (3 : Int32)) = (0 : Int32)
  · have e : own_F5 (own_F1 (p0 &&& (3 : Int32))) = 1 := by rw [h]; decide +kernel
    rw [if_pos h, own_f0_18_eq, if_pos e, if_pos e, own_f0_60_eq, own_n1]
  · have e : own_F5 (own_F1 (p0 &&& (3 : Int32))) = 0 := by
      rw [own_F1_eq, if_neg h]; (repeat' split) <;> decide +kernel
    rw [if_neg h, own_f0_18_eq, if_pos e, if_pos e, own_f0_60_eq, own_n1]

set_option maxRecDepth 65536 in
set_option maxHeartbeats 40000000 in
theorem comes_1 {Post : Tables → Env → Array Value → State → Outcome → State → Prop} (hpost : ∀ tb e args s v u, (limb_1_1.after args s (.returned v) u = true ∧ limb_1_2.after args s (.returned v) u = true ∧ True) → FrameEnd s (.returned v) u (Jvm.fieldLocs frame_1_writes args s ++ Jvm.arrayLocs frame_1_arrays args s ++ Jvm.staticLocs frame_1_statics s) 16 128 → Post tb e args s (.returned v) u) :
    ArmFor flags0 classFile x code maxLocals ret World_1 tables_1 room_1 Calls_1 rest_1 Pre_1 Post := by
  intro l hfl _ _ p e ha hc hk s m args below hf hA hF happ hP
  obtain ⟨hcalls, hrest, hpre⟩ := hP
  obtain ⟨-, -, -, hnamed, -, -, -, hat⟩ := (Spec.applies_iff hf).mp happ
  obtain ⟨hg, hn⟩ := and_e (Cond.before_iff.mp (show (Jvm.Cond.and given_1 narrow_1).before args s = true from hpre))
  obtain ⟨hg0, hq0⟩ := and_e hg
  have ha0 := hq0
  obtain ⟨w0, rfl⟩ : ∃ w0 : Value, args = #[w0] := by
    have hs : args.size = 1 := by simpa [Cond.value, given_1] using hg0
    obtain ⟨L⟩ := args
    match L, hs with
    | [w0], _ => exact ⟨w0, rfl⟩
  have hw := fun d (hd : d ∈ tables_1) => atoms_spec (ws := Jvm.Cond.code x code maxLocals ret :: tables_1) hat d (List.mem_cons_of_mem _ hd)
  obtain ⟨i0, ei0⟩ := is_v ha0
  obtain rfl : w0 = (.int i0) := Option.some.inj ei0
  obtain ⟨n, o, h1, h2, h3, _, L, rfl, ⟨rfl, N⟩, hq⟩ := rm0 l s _ hw tables_1 i0 s.heap s.heap.size (Nat.le_refl _) (own_law i0) p e ha hc hk s m _ below hf ((Spec.applies_iff_loose hf).mp happ).1 ⟨rfl, State.Warmed39.refl s, rfl⟩ trivial
  refine ⟨n, _, h1, h2, h3, hpost _ _ _ _ _ _ ⟨Cond.after_iff.mpr rfl, Cond.after_iff.mpr (eq_i res_at (Term.int_eval (1)) rfl), trivial⟩ ⟨hq.1, hq.2.1, (hq.2.2.sift fun y hy => Or.inr (N y hy)).mono (by decide) (by decide)⟩⟩
theorem main_1_1 : Claimed_1_1 := comes_1 fun _ _ _ _ _ _ h hF => ⟨h.1, hF⟩
theorem main_1_2 : Claimed_1_2 := comes_1 fun _ _ _ _ _ _ h hF => ⟨h.2.1, hF⟩
end Jvm.Pilot.@@N@@
namespace Jvm.Pilot.@@N@@
open Jvm Jvm.ClassFile Sem Op Lib Jvm.Free Jvm.Stand Jvm.Pilot.@@N@@.Jvm.D
/-! MADE BY PROGRAM (witnessworld.py) out of the Statement's table words and the real class files: 10 classes; the members and pool entries that the words name. The judged class is class 1, her method 2. -/
namespace start1
open Jvm.ClassFile
def u (s : String) : CpInfo := .utf8 (stringToUtf16 s)
/-- a pool by its gaps: so many unusable entries, then the entry; so many at the end -/
def gap : Nat → List CpInfo → List CpInfo
  | 0, r => r
  | n + 1, r => .unusable :: gap n r
def poolList (es : List (Nat × CpInfo)) (last : Nat) : List CpInfo := es.foldr (fun e r => gap e.1 (e.2 :: r)) (gap last [])
def pool (es : List (Nat × CpInfo)) (last : Nat) : Array CpInfo := ⟨poolList es last⟩
def fileOf (pool : Array CpInfo) (this : Nat) (attrs : Array Attribute := #[]) (ms : Array MethodInfo := #[]) (fl : Nat := 33) (sup : Nat := 0) (ifs : Array Nat := #[]) (fds : Array FieldInfo := #[]) : ClassFile where
  minorVersion := 0
  majorVersion := 65
  constantPool := pool
  accessFlags := fl
  thisClass := this
  superClass := sup
  interfaces := ifs
  fields := fds
  methods := ms
  attributes := attrs
def plain (name : String) (sup : Option ClassId) : Class where
  name := name
  kind := .ordinary
  loader := none
  accessFlags := 33
  super := sup
  interfaces := #[]
  cf := none
  fields := #[]
  methods := #[]
  instanceTypes := #[]
  staticTypes := #[]
  resolved := #[]
  callSites := []
  init := .initialized
  statics := none
  mirror := none

def pool0 : Array CpInfo := pool [(5, u "<init>"), (0, u "()V"), (1, .class_ 10), (1, u "java/lang/Object")] 113

def k0c0 : Code := { maxStack := 0, maxLocals := 1, code := object_method_1_code, exceptionTable := #[], attributes := #[] }
def k0m0 : Method := { name := "<init>", desc := "()V", sig := { parameters := [], returnType := none }, accessFlags := 1, code := some k0c0 }
/-- java/lang/Object -/
def k0 : Class := { plain "java/lang/Object" none with
  accessFlags := 33
  interfaces := #[]
  cf := some (fileOf pool0 8 #[] #[{ accessFlags := 1, nameIndex := 5, descriptorIndex := 6, attributes := #[] }] 33 0 #[] #[])
  fields := #[]
  methods := #[k0m0]
  instanceTypes := #[]
  staticTypes := #[]
  resolved := Array.replicate 124 none
  statics := none }

def pool1 : Array CpInfo := pool [(2, .class_ 4), (1, u "java/lang/Object"), (0, u "<init>"), (0, u "()V"), (2, .methodref 10 11), (0, .class_ 12), (0, .nameAndType 13 14), (0, u "com/example/subschema_match/subschemamatch/regex/AssertionAnchoredPinLaw"), (0, u "operationOf"), (0, u "(I)I"), (0, .class_ 16), (0, u "com/example/subschema_match/subschemamatch/regex/Node$Assertion"), (0, .methodref 15 18), (0, .nameAndType 5 19), (0, u "(I)V"), (0, .methodref 15 21), (0, .nameAndType 22 23), (0, u "anchored"), (0, u "()Z"), (3, u "law"), (0, u "(I)Z")] 6

def k1m0 : Method := { name := "<init>", desc := "()V", sig := { parameters := [], returnType := none }, accessFlags := 2, code := none }
def k1c1 : Code := { maxStack := 2, maxLocals := 1, code := method_2_code, exceptionTable := #[], attributes := #[] }
def k1m1 : Method := { name := "operationOf", desc := "(I)I", sig := { parameters := [.int], returnType := some .int }, accessFlags := 10, code := some k1c1 }
def k1c2 : Code := { maxStack := 3, maxLocals := 7, code := code, exceptionTable := #[], attributes := #[] }
def k1m2 : Method := { name := "law", desc := "(I)Z", sig := { parameters := [.int], returnType := some .boolean }, accessFlags := 9, code := some k1c2 }
/-- com/example/subschema_match/subschemamatch/regex/AssertionAnchoredPinLaw -/
def k1 : Class := { plain "com/example/subschema_match/subschemamatch/regex/AssertionAnchoredPinLaw" (some 0) with
  accessFlags := 49
  interfaces := #[]
  cf := some (fileOf pool1 10 #[] #[{ accessFlags := 2, nameIndex := 5, descriptorIndex := 6, attributes := #[] }, { accessFlags := 10, nameIndex := 13, descriptorIndex := 14, attributes := #[] }, { accessFlags := 9, nameIndex := 27, descriptorIndex := 28, attributes := #[] }] 49 2 #[] #[])
  fields := #[]
  methods := #[k1m0, k1m1, k1m2]
  instanceTypes := #[]
  staticTypes := #[]
  resolved := Array.replicate 35 none
  statics := none }

def pool2 : Array CpInfo := pool [(1, .methodref 2 3), (0, .class_ 4), (0, .nameAndType 5 6), (0, u "java/lang/Object"), (0, u "<init>"), (0, u "()V"), (0, .class_ 8), (0, u "com/example/subschema_match/subschemamatch/regex/Node"), (0, u "FORWARD"), (0, u "I"), (2, u "BACKWARD"), (13, .class_ 28), (0, u "com/example/subschema_match/subschemamatch/regex/Node$Backreference"), (0, .class_ 30), (0, u "com/example/subschema_match/subschemamatch/regex/Node$Lookaround"), (0, .class_ 32), (0, u "com/example/subschema_match/subschemamatch/regex/Node$Assertion"), (0, .class_ 34), (0, u "com/example/subschema_match/subschemamatch/regex/Node$Repeat"), (0, .class_ 36), (0, u "com/example/subschema_match/subschemamatch/regex/Node$Group"), (0, .class_ 38), (0, u "com/example/subschema_match/subschemamatch/regex/Node$Characters"), (0, .class_ 40), (0, u "com/example/subschema_match/subschemamatch/regex/Node$Alternation"), (0, .class_ 42), (0, u "com/example/subschema_match/subschemamatch/regex/Node$Sequence")] 14

def k2c0 : Code := { maxStack := 1, maxLocals := 1, code := prog_15_method_1_code, exceptionTable := #[], attributes := #[] }
def k2m0 : Method := { name := "<init>", desc := "()V", sig := { parameters := [], returnType := none }, accessFlags := 0, code := some k2c0 }
/-- com/example/subschema_match/subschemamatch/regex/Node -/
def k2 : Class := { plain "com/example/subschema_match/subschemamatch/regex/Node" (some 0) with
  accessFlags := 1056
  interfaces := #[]
  cf := some (fileOf pool2 7 #[.nestMembers #[27, 29, 31, 33, 35, 37, 39, 41]] #[{ accessFlags := 0, nameIndex := 5, descriptorIndex := 6, attributes := #[] }] 1056 2 #[] #[{ accessFlags := 26, nameIndex := 9, descriptorIndex := 10, attributes := #[] }, { accessFlags := 26, nameIndex := 13, descriptorIndex := 10, attributes := #[] }])
  fields := #[{ name := "FORWARD", type := .int, accessFlags := 26, slot := 0, constantValue := 0 }, { name := "BACKWARD", type := .int, accessFlags := 26, slot := 1, constantValue := 0 }]
  methods := #[k2m0]
  instanceTypes := #[]
  staticTypes := #[.int, .int]
  resolved := Array.replicate 57 none
  statics := none }

def pool3 : Array CpInfo := pool [(1, .methodref 2 3), (0, .class_ 4), (0, .nameAndType 5 6), (0, u "com/example/subschema_match/subschemamatch/regex/Node"), (0, u "<init>"), (0, u "()V"), (0, .fieldref 8 9), (0, .class_ 10), (0, .nameAndType 11 12), (0, u "com/example/subschema_match/subschemamatch/regex/Node$Assertion"), (0, u "operation"), (0, u "I"), (8, u "(I)V"), (3, u "anchored"), (0, u "()Z")] 7

def k3c0 : Code := { maxStack := 2, maxLocals := 2, code := prog_17_method_1_code, exceptionTable := #[], attributes := #[] }
def k3m0 : Method := { name := "<init>", desc := "(I)V", sig := { parameters := [.int], returnType := none }, accessFlags := 0, code := some k3c0 }
def k3c1 : Code := { maxStack := 2, maxLocals := 1, code := prog_17_method_3_code, exceptionTable := #[], attributes := #[] }
def k3m1 : Method := { name := "anchored", desc := "()Z", sig := { parameters := [], returnType := some .boolean }, accessFlags := 0, code := some k3c1 }
/-- com/example/subschema_match/subschemamatch/regex/Node$Assertion -/
def k3 : Class := { plain "com/example/subschema_match/subschemamatch/regex/Node$Assertion" (some 2) with
  accessFlags := 48
  interfaces := #[]
  cf := some (fileOf pool3 8 #[.nestHost 2] #[{ accessFlags := 0, nameIndex := 5, descriptorIndex := 21, attributes := #[] }, { accessFlags := 0, nameIndex := 25, descriptorIndex := 26, attributes := #[] }] 48 2 #[] #[{ accessFlags := 18, nameIndex := 11, descriptorIndex := 12, attributes := #[] }])
  fields := #[{ name := "operation", type := .int, accessFlags := 18, slot := 0, constantValue := 0 }]
  methods := #[k3m0, k3m1]
  instanceTypes := #[.int]
  staticTypes := #[]
  resolved := Array.replicate 34 none
  statics := none }

def pool4 : Array CpInfo := pool [(1, u "java/lang/Cloneable"), (0, .class_ 1), (0, u "java/lang/Object"), (0, .class_ 3)] 3

/-- java/lang/Cloneable -/
def k4 : Class := { plain "java/lang/Cloneable" (some 0) with
  accessFlags := 1537
  interfaces := #[]
  cf := some (fileOf pool4 2 #[] #[] 1537 4 #[] #[])
  fields := #[]
  methods := #[]
  instanceTypes := #[]
  staticTypes := #[]
  resolved := Array.replicate 8 none
  statics := none }

def pool5 : Array CpInfo := pool [(1, u "java/io/Serializable"), (0, .class_ 1), (0, u "java/lang/Object"), (0, .class_ 3)] 3

/-- java/io/Serializable -/
def k5 : Class := { plain "java/io/Serializable" (some 0) with
  accessFlags := 1537
  interfaces := #[]
  cf := some (fileOf pool5 2 #[] #[] 1537 4 #[] #[])
  fields := #[]
  methods := #[]
  instanceTypes := #[]
  staticTypes := #[]
  resolved := Array.replicate 8 none
  statics := none }

/-- the primitive byte -/
def k6 : Class := { plain "byte" none with kind := .primitive 'B', accessFlags := 0x411 }
/-- [B -/
def k7 : Class := { plain "[B" (some 0) with kind := .array 6 .byte, interfaces := #[4, 5], accessFlags := 1041 }

/-- the primitive int -/
def k8 : Class := { plain "int" none with kind := .primitive 'I', accessFlags := 0x411 }
/-- [I -/
def k9 : Class := { plain "[I" (some 0) with kind := .array 8 .int, interfaces := #[4, 5], accessFlags := 1041 }

def heap : Heap := #[]
def classes : Array Class := #[k0, k1, k2, k3, k4, k5, k6, k7, k8, k9]
def interned : List (Array UInt16 × Addr) := []
def slotsUsed : Nat := 0
def theMethod : MethodId := ⟨1, 2⟩
def args0 : Array Value := #[.int 5]
def aboutOver (below : List Frame) : State where
  vm := { classes := classes, interned := interned.toArray }
  heap := heap
  slotsUsed := slotsUsed
  threads := #[{ frames := .invoking theMethod args0 :: below }]
def below0 : List Frame := [.native { method := ⟨0, 0⟩, args := #[] }]
def about1 : State := aboutOver below0
def p0 : Program := .bare "" "" ""
def e0 : Env := launch0.env 0 0 0
theorem w_frames : about1.frames = Frame.invoking theMethod args0 :: below0 := rfl
set_option maxRecDepth 65536 in
theorem w_args : argsFit about1.vm theMethod args0 = true := by decide +kernel
set_option maxRecDepth 65536 in
theorem w_heap : heapFits about1 = true := by decide +kernel
set_option maxRecDepth 65536 in
theorem w_runnable : about1.curStatus? = some .runnable := by decide +kernel
set_option maxRecDepth 65536 in
theorem w_alone : about1.alone = true := by decide +kernel
set_option maxRecDepth 65536 in
theorem w_named : about1.methodNamed? x = some theMethod := by decide +kernel
set_option maxRecDepth 65536 in
theorem w_hears : about1.hears theMethod below0 = true := by decide +kernel
set_option maxRecDepth 65536 in
theorem w_ripe : about1.ripe theMethod args0 below0 = true := by decide +kernel
theorem w_running : about1.status = .running := rfl
set_option maxRecDepth 65536 in
theorem w_room : about1.hasRoom e0.platform room_1 = true :=
  launch0.hasRoom_least _ room_1 (by decide +kernel) (by decide +kernel) (by decide +kernel) (by decide +kernel) (by decide +kernel) (by decide +kernel)
theorem allAtoms_all (ts : List Jvm.Cond) (a : Array Jvm.Value) (st : Jvm.State) : (allAtoms ts).before a st = ts.all (fun c => c.before a st) := by
  induction ts with
  | nil => rfl
  | cons c t ih =>
    show (Jvm.Cond.and c (allAtoms t)).before a st = _
    rw [Jvm.Cond.before_and, ih, List.all_cons]
def words1 : List Jvm.Cond := Jvm.Cond.code x code maxLocals ret :: tables_1
/-- a 'code' word, met by the world's own term for the bytes: nothing is compared byte by byte -/
theorem code_word {y : MethodName} {bytes : ByteArray} {mx : Nat} {rt : Option FieldType} {a : Array Value} {s : State} {m : MethodId} {meth : Method} {c : Code} (h1 : s.methodNamed? y = some m) (h2 : s.vm.method? m = some meth) (h3 : meth.code = some c) (h4 : c.code = bytes)
    (h5 : (c.maxLocals == mx && c.exceptionTable.isEmpty && decide (c.maxStack ≤ mostOperands) && decide (meth.sig.returnType = rt) && !meth.locks && decide (parseMethodDescriptor y.desc = some meth.sig)) = true) : (Jvm.Cond.code y bytes mx rt).before a s = true := by
  simp only [Bool.and_eq_true, beq_iff_eq, Bool.not_eq_true', decide_eq_true_eq] at h5
  obtain ⟨⟨⟨⟨⟨g1, g2⟩, g3⟩, g4⟩, g5⟩, g6⟩ := h5
  simp [Cond.before, Cond.holds, Cond.value, h1, h2, h3, h4, g1, g2, g3, g4, g5, g6]
def isCode : Jvm.Cond → Bool
  | .code _ _ _ _ => true
  | _ => false
theorem all_split {L : List Jvm.Cond} {P : Jvm.Cond → Bool} (h1 : L.all (fun c => isCode c || P c) = true) (h2 : ∀ c ∈ L.filter isCode, P c = true) : L.all P = true := by
  refine List.all_eq_true.mpr fun c hc => ?_
  have h := List.all_eq_true.mp h1 c hc
  rcases Bool.eq_false_or_eq_true (isCode c) with hi | hi
  · exact h2 c (List.mem_filter.mpr ⟨hc, hi⟩)
  · simpa [hi] using h
set_option maxRecDepth 65536 in
theorem w_c0 : (Jvm.Cond.code x code maxLocals ret).before args0 about1 = true := code_word (m := ⟨1, 2⟩) (meth := k1m2) (c := k1c2) (by decide +kernel) rfl rfl rfl (by decide +kernel)
set_option maxRecDepth 65536 in
theorem w_c1 : (Jvm.Cond.code ({ cls := "com/example/subschema_match/subschemamatch/regex/AssertionAnchoredPinLaw", name := "operationOf", desc := "(I)I" } : Jvm.MethodName) method_2_code (1 : Nat) (Option.some Jvm.ClassFile.FieldType.int)).before args0 about1 = true := code_word (m := ⟨1, 1⟩) (meth := k1m1) (c := k1c1) (by decide +kernel) rfl rfl rfl (by decide +kernel)
set_option maxRecDepth 65536 in
theorem w_c2 : (Jvm.Cond.code ({ cls := "com/example/subschema_match/subschemamatch/regex/Node$Assertion", name := "<init>", desc := "(I)V" } : Jvm.MethodName) prog_17_method_1_code (2 : Nat) (Option.none : Option Jvm.ClassFile.FieldType)).before args0 about1 = true := code_word (m := ⟨3, 0⟩) (meth := k3m0) (c := k3c0) (by decide +kernel) rfl rfl rfl (by decide +kernel)
set_option maxRecDepth 65536 in
theorem w_c3 : (Jvm.Cond.code ({ cls := "com/example/subschema_match/subschemamatch/regex/Node", name := "<init>", desc := "()V" } : Jvm.MethodName) prog_15_method_1_code (1 : Nat) (Option.none : Option Jvm.ClassFile.FieldType)).before args0 about1 = true := code_word (m := ⟨2, 0⟩) (meth := k2m0) (c := k2c0) (by decide +kernel) rfl rfl rfl (by decide +kernel)
set_option maxRecDepth 65536 in
theorem w_c4 : (Jvm.Cond.code ({ cls := "java/lang/Object", name := "<init>", desc := "()V" } : Jvm.MethodName) object_method_1_code (1 : Nat) (Option.none : Option Jvm.ClassFile.FieldType)).before args0 about1 = true := code_word (m := ⟨0, 0⟩) (meth := k0m0) (c := k0c0) (by decide +kernel) rfl rfl rfl (by decide +kernel)
set_option maxRecDepth 65536 in
theorem w_c5 : (Jvm.Cond.code ({ cls := "com/example/subschema_match/subschemamatch/regex/Node$Assertion", name := "anchored", desc := "()Z" } : Jvm.MethodName) prog_17_method_3_code (1 : Nat) (Option.some Jvm.ClassFile.FieldType.boolean)).before args0 about1 = true := code_word (m := ⟨3, 1⟩) (meth := k3m1) (c := k3c1) (by decide +kernel) rfl rfl rfl (by decide +kernel)
def codes1 : List Jvm.Cond := [Jvm.Cond.code x code maxLocals ret, Jvm.Cond.code ({ cls := "com/example/subschema_match/subschemamatch/regex/AssertionAnchoredPinLaw", name := "operationOf", desc := "(I)I" } : Jvm.MethodName) method_2_code (1 : Nat) (Option.some Jvm.ClassFile.FieldType.int), Jvm.Cond.code ({ cls := "com/example/subschema_match/subschemamatch/regex/Node$Assertion", name := "<init>", desc := "(I)V" } : Jvm.MethodName) prog_17_method_1_code (2 : Nat) (Option.none : Option Jvm.ClassFile.FieldType), Jvm.Cond.code ({ cls := "com/example/subschema_match/subschemamatch/regex/Node", name := "<init>", desc := "()V" } : Jvm.MethodName) prog_15_method_1_code (1 : Nat) (Option.none : Option Jvm.ClassFile.FieldType), Jvm.Cond.code ({ cls := "java/lang/Object", name := "<init>", desc := "()V" } : Jvm.MethodName) object_method_1_code (1 : Nat) (Option.none : Option Jvm.ClassFile.FieldType), Jvm.Cond.code ({ cls := "com/example/subschema_match/subschemamatch/regex/Node$Assertion", name := "anchored", desc := "()Z" } : Jvm.MethodName) prog_17_method_3_code (1 : Nat) (Option.some Jvm.ClassFile.FieldType.boolean)]
set_option maxRecDepth 65536 in
theorem codes_eq : words1.filter isCode = codes1 := rfl
theorem w_codes : ∀ c ∈ words1.filter isCode, c.before args0 about1 = true := by
  rw [codes_eq]
  intro c hc
  simp only [codes1, List.mem_cons, List.not_mem_nil, or_false] at hc
  rcases hc with rfl | rfl | rfl | rfl | rfl | rfl
  · exact w_c0
  · exact w_c1
  · exact w_c2
  · exact w_c3
  · exact w_c4
  · exact w_c5
set_option maxRecDepth 65536 in
theorem w_t1 : (words1.take 24).all (fun c => isCode c || c.before args0 about1) = true := by decide +kernel
set_option maxRecDepth 65536 in
theorem w_t2 : (words1.drop 24).all (fun c => isCode c || c.before args0 about1) = true := by decide +kernel
theorem w_tables : (allAtoms (Jvm.Cond.code x code maxLocals ret :: tables_1)).before args0 about1 = true := by
  rw [allAtoms_all]
  show words1.all (fun c => c.before args0 about1) = true
  refine all_split ?_ w_codes
  rw [← List.take_append_drop 24 words1, List.all_append, w_t1, w_t2]
  rfl
set_option maxRecDepth 65536 in
theorem w_case : (Jvm.Cond.and given_1 narrow_1).before args0 about1 = true := by decide +kernel
theorem w_applies : (headSpec (Jvm.Cond.code x code maxLocals ret :: tables_1) room_1).applies x e0.platform about1 = true :=
  (Spec.applies_iff w_frames).mpr ⟨w_running, w_runnable, w_alone, w_named, w_hears, w_ripe, w_room, w_tables⟩
theorem atStart : AtStart classFile x code maxLocals ret World_1 tables_1 room_1 Calls_1 rest_1 Pre_1 launch0 p0 e0 about1 theMethod args0 below0 :=
  ⟨lists_1, trivial, launch0.admits_env _ _ _, launch0.least_env, fairChoices_fair.cas, fairChoices_fair.clock, w_frames, w_args, w_heap, w_applies, trivial, trivial, w_case⟩
end start1
theorem witness_1 : WitnessClaimed_1 := ⟨start1.p0, start1.e0, start1.about1, start1.theMethod, start1.args0, start1.below0, start1.atStart⟩
end Jvm.Pilot.@@N@@
