import JvmDerived
import JvmDerived.Pilot.@@N@@Statement
import JvmDerived.Pilot.@@N@@Code
set_option linter.unusedVariables false
set_option linter.unusedSimpArgs false

namespace Jvm.Pilot.@@N@@
open Jvm Jvm.ClassFile Sem Op Lib Jvm.Free Jvm.Stand Jvm.LawKit Jvm.RoadKit Bundle Jvm.Pilot.@@N@@.Jvm.D
/-! ## The walk, forwards: from here the method comes to its end as Q says -/
section OwnFin
variable {p : Program} {l : Launch} {e : Env} {R : Room} {s : State} {m : MethodId} {args : Array Value} {below : List Frame} {meth : Method} {c : Code} {T T' : State} {locs : List Loc} {cells slots K N : Nat} {Q : Option Value → Heap → List Loc → Prop}
def own_Fin (p : Program) (e : Env) (below : List Frame) (s : State) (K N : Nat) (Q : Option Value → Heap → List Loc → Prop) (T : State) (g : JFrame) : Prop :=
  ∃ t o, Steps p.tables e below (T.setTop g) t ∧ t.status = .running ∧ Ended t below o ∧ ∃ v L, o = .returned v ∧ Q v t.heap L ∧ FrameEnd s o t L K N
theorem own_in {g g' : JFrame} (q : g = g') (h : own_Fin p e below s K N Q T g') : ∃ t o, Steps p.tables e below (T.setTop g) t ∧ t.status = .running ∧ Ended t below o ∧ ∃ v L, o = .returned v ∧ Q v t.heap L ∧ FrameEnd s o t L K N := q ▸ h
theorem own_st {g g' : JFrame} (h : ∀ t, Steps p.tables e below (T'.setTop g') t → Steps p.tables e below (T.setTop g) t) (k : own_Fin p e below s K N Q T' g') : own_Fin p e below s K N Q T g := by
  obtain ⟨t, o, h1, h2⟩ := k; exact ⟨t, o, h t h1, h2⟩
theorem own_end {g : JFrame} {v : Option Value} (X : Stand p l e R s m args below meth c T locs cells slots) (hl : meth.locks = false) (hv : meth.sig.returnType = none → v = none)
    (h : ∀ fs, (∀ (f : JFrame) (acts : List Action), f.method = m → f.locked = none → f.entered = [] → (doReturn e (T.setTop f) acts v).1 = T.setFrames fs) → Steps p.tables e below (T.setTop g) (T.setFrames fs)) (hQ : Q v T.heap locs) (hc : cells ≤ K) (hs : slots ≤ N) : own_Fin p e below s K N Q T g := by
  obtain ⟨fs, hr, hrun, hended, hW, hsame⟩ := X.leave (v := v) hv hl
  exact ⟨_, _, h fs hr, hrun, hended, _, _, rfl, hQ, ⟨_, rfl⟩, hW, hsame.mono hc hs⟩
theorem own_retI {pc : Nat} {Ls : Array Slot} {z : Int32} {rest : List Value} (X : Stand p l e R s m args below meth c T locs cells slots) (hx : p.tables.exec = Jvm.exec) (hret : meth.sig.returnType = some .int) (hl : meth.locks = false) (hd : decode c.code pc = .ok (.ireturn, 1)) (hQ : Q (some (.int z)) T.heap locs) (hc : cells ≤ K) (hs : slots ≤ N) :
    own_Fin p e below s K N Q T (mkF m pc Ls (.int z :: rest)) :=
  own_end X hl (fun h => by rw [hret] at h; cases h) (fun fs hr => retOut X hx hret rfl (Or.inl ⟨rfl, Or.inl rfl, z, rfl⟩) hd hr) hQ hc hs
theorem own_retN {pc : Nat} {Ls : Array Slot} {z : Int32} {t : FieldType} {rest : List Value} (X : Stand p l e R s m args below meth c T locs cells slots) (hx : p.tables.exec = Jvm.exec) (hret : meth.sig.returnType = some t) (hl : meth.locks = false) (ht : t = .boolean ∨ t = .byte ∨ t = .char ∨ t = .short) (hd : decode c.code pc = .ok (.ireturn, 1)) (hQ : Q (some (.int (nar t z))) T.heap locs) (hc : cells ≤ K) (hs : slots ≤ N) :
    own_Fin p e below s K N Q T (mkF m pc Ls (.int z :: rest)) :=
  own_end X hl (fun h => by rw [hret] at h; cases h) (fun fs hr => retN X hx hret ht hd hr) hQ hc hs
theorem own_retJ {pc : Nat} {Ls : Array Slot} {z : Int64} {rest : List Value} (X : Stand p l e R s m args below meth c T locs cells slots) (hx : p.tables.exec = Jvm.exec) (hret : meth.sig.returnType = some .long) (hl : meth.locks = false) (hd : decode c.code pc = .ok (.lreturn, 1)) (hQ : Q (some (.long z)) T.heap locs) (hc : cells ≤ K) (hs : slots ≤ N) :
    own_Fin p e below s K N Q T (mkF m pc Ls (.long z :: rest)) :=
  own_end X hl (fun h => by rw [hret] at h; cases h) (fun fs hr => retOut X hx hret rfl (Or.inr (Or.inl ⟨rfl, rfl, z, rfl⟩)) hd hr) hQ hc hs
theorem own_retA {pc : Nat} {Ls : Array Slot} {a : Addr} {t : FieldType} {rest : List Value} (X : Stand p l e R s m args below meth c T locs cells slots) (hx : p.tables.exec = Jvm.exec) (hret : meth.sig.returnType = some t) (hl : meth.locks = false) (ht : t.isReference = true) (hd : decode c.code pc = .ok (.areturn, 1)) (hQ : Q (some (.ref a)) T.heap locs) (hc : cells ≤ K) (hs : slots ≤ N) :
    own_Fin p e below s K N Q T (mkF m pc Ls (.ref a :: rest)) :=
  own_end X hl (fun h => by rw [hret] at h; cases h) (fun fs hr => retOut X hx hret (by cases t <;> first | rfl | cases ht) (Or.inr (Or.inr (Or.inr (Or.inr ⟨rfl, ht, rfl⟩)))) hd hr) hQ hc hs
theorem own_retV {pc : Nat} {Ls : Array Slot} (X : Stand p l e R s m args below meth c T locs cells slots) (hx : p.tables.exec = Jvm.exec) (hret : meth.sig.returnType = none) (hl : meth.locks = false) (hd : decode c.code pc = .ok (.return_, 1)) (hQ : Q none T.heap locs) (hc : cells ≤ K) (hs : slots ≤ N) :
    own_Fin p e below s K N Q T (mkF m pc Ls []) :=
  own_end X hl (fun _ => rfl) (fun fs hr => X.returnOut hx hret hd hr) hQ hc hs
theorem own_lremM {g : JFrame} {target : State} (X : Stand p l e R s m args below meth c T locs cells slots) (hx : p.tables.exec = Jvm.exec) (hg : g.method = m) {x y : Int64} {rest : List Value} (hd : decode c.code g.pc = .ok (.lrem, 1)) (hs : g.stack = .long y :: .long x :: rest) (hy : y ≠ 0)
    (hr : Steps p.tables e below (T.setTop { g with pc := g.pc + 1, stack := .long (x % y) :: rest }) target) : Steps p.tables e below (T.setTop g) target := by
  have q : x - x / y * y = x % y := lrem_mod x y
  exact XS.lrem X.here hx hg hd hs hy (by rw [q]; exact hr)
end OwnFin
/-- a private method is selected by its own class -/
theorem own_selp {s : State} {args : Array Value} {n : Nat} {y : MethodName} (hy : y.cls ≠ "java/lang/invoke/MethodHandle" ∧ y.cls ≠ "java/lang/invoke/VarHandle") (hins : (Jvm.Cond.instantiable y.cls n).before args s = true) (hpriv : (Jvm.Cond.privateMethod y).before args s = true) (hinst : (Jvm.Cond.instanceMethod y).before args s = true) : (Jvm.Cond.selects y.cls y y).before args s = true := by
  obtain ⟨c, k, hc, hk, -, hniab, -, -⟩ := Cond.instantiable_spec hins
  have hni : k.isInterface = false := (Bool.or_eq_false_iff.mp hniab).1
  obtain ⟨mk, methM, hnamed, hmethM, -, -⟩ := Cond.instanceMethod_spec hinst
  have hfound : s.methodFound? y.cls y.name y.desc = some mk := State.methodFound?_of_named hnamed hy
  have hcls : mk.cls = c := Option.some.inj ((findClass_of_methodNamed hnamed).symm.trans hc)
  have hsel : selectMethod {} s.vm c mk = .method mk := selectMethod_private hmethM (Cond.privateMethod_at hpriv mk methM hnamed hmethM)
  simp only [Cond.before, Cond.holds, Cond.value, hc, hfound, hnamed, hsel, hcls, hk]
  simp; exact hni

theorem d2_0 : decode jdk_30_method_1_code 0 = .ok (.aload_n 0, 1) := by decide +kernel
theorem d2_1 : decode jdk_30_method_1_code 1 = .ok (.invokespecial 1, 3) := by decide +kernel
theorem d2_4 : decode jdk_30_method_1_code 4 = .ok (.return_, 1) := by decide +kernel
theorem pn_2 : plainName "java/lang/Record" = true := by first | (simp [plainName, overriddenIn]; done) | decide +kernel
theorem ef_2 (m : MethodId) (x0 : Addr) : entryFrame m #[(.ref x0)] 1 = mkF m 0 #[.val (.ref x0)] [] := by first | (simp [entryFrame, mkF, argsToLocals, Value.category]; done) | rfl
def Q2 (Z : State) (o0 : Addr) (h0 : Heap) (n0 : Nat) (v : Option Value) (h : Heap) (L : List Loc) : Prop := v = none ∧ Fr n0 L ∧ h = h0
set_option maxRecDepth 65536 in
set_option maxHeartbeats 40000000 in
theorem rm2 (l : Launch) (Z : State) (a0 : Array Value) (hw : ∀ d ∈ tables_1, d.before a0 Z = true) (ws : List Jvm.Cond) (o0 : Addr) (h0 : Heap) (n0 : Nat) (Z0 : n0 ≤ h0.size) :
    MetFree l (⟨"java/lang/Record", "<init>", "()V"⟩ : MethodName) (head1 (Jvm.Cond.code (⟨"java/lang/Record", "<init>", "()V"⟩ : MethodName) jdk_30_method_1_code 1 none :: ws) ({ frames := 1, cells := 0, slots := 0, locals := 12 } : Room)) (fun a U => a = #[(.ref o0)] ∧ Z.Warmed39 U.vm ∧ U.heap = h0) (fun _ _ _ _ _ => True) (fun _ U o U' => ∃ v L, o = .returned v ∧ Q2 Z o0 h0 n0 v U'.heap L ∧ FrameEnd U o U' L ({ frames := 1, cells := 0, slots := 0, locals := 12 } : Room).cells ({ frames := 1, cells := 0, slots := 0, locals := 12 } : Room).slots) := by
  refine MetFree.of_bodySF (plainFor_of_name pn_2) hisR ?_
  intro p e s m args below meth c s₁ Bd hml0 hP hK
  obtain ⟨rfl, hZ, hh⟩ := hP
  have hx := Bd.exec
  have hby := Bd.bytes
  have hml : c.maxLocals = 1 := hml0
  have hown : s.vm.findClass "java/lang/Record" = some m.cls := findClass_of_methodNamed Bd.named
  have hnm := (name_of_methodNamed Bd.named Bd.method).1
  have X0 : Stand p l e ({ frames := 1, cells := 0, slots := 0, locals := 12 } : Room) s m #[(.ref o0)] below meth c s₁ [] 0 0 := Stand.of_body Bd
  have e0 : s₁.heap = h0 := by rw [← hh, Bd.state]; rfl
  have N0 := Fr.nil n0
  refine own_in (ef_2 m o0) ?_
  refine own_st (g' := (mkF m 1 #[.val (.ref o0)] [(.ref o0)])) (fun t k => XS.aloadN X0.here hx rfl (hb hby d2_0) rfl rfl k) ?_
  obtain ⟨T2, X2, e2, st2⟩ := initO X0 hx hZ hown (hw _ (List.mem_of_getElem? (i := 11) rfl)) (hw _ (List.mem_of_getElem? (i := 12) rfl)) (hw _ (List.mem_of_getElem? (i := 13) rfl)) e0 (g := (mkF m 1 #[.val (.ref o0)] [(.ref o0)])) rfl (by rw [hml]; rfl) rfl (hb hby d2_1) (by decide) (W := 0) (by show 2 * 0 + _ ≤ _; exact Nat.le_of_eq rfl) (by decide)
  refine own_st (g' := (mkF m 4 #[.val (.ref o0)] [])) (fun t k => st2 t k) ?_
  exact own_retV X2 hx Bd.returns Bd.notSynchronized (hb hby d2_4) ⟨rfl, N0, e2⟩ (by decide) (by decide)
theorem d1_0 : decode prog_51_method_1_code 0 = .ok (.aload_n 0, 1) := by decide +kernel
theorem d1_1 : decode prog_51_method_1_code 1 = .ok (.invokespecial 1, 3) := by decide +kernel
theorem d1_4 : decode prog_51_method_1_code 4 = .ok (.aload_n 0, 1) := by decide +kernel
theorem d1_5 : decode prog_51_method_1_code 5 = .ok (.iload_n 1, 1) := by decide +kernel
theorem d1_6 : decode prog_51_method_1_code 6 = .ok (.putfield 7, 3) := by decide +kernel
theorem d1_9 : decode prog_51_method_1_code 9 = .ok (.aload_n 0, 1) := by decide +kernel
theorem d1_10 : decode prog_51_method_1_code 10 = .ok (.iload_n 2, 1) := by decide +kernel
theorem d1_11 : decode prog_51_method_1_code 11 = .ok (.putfield 13, 3) := by decide +kernel
theorem d1_14 : decode prog_51_method_1_code 14 = .ok (.aload_n 0, 1) := by decide +kernel
theorem d1_15 : decode prog_51_method_1_code 15 = .ok (.iload_n 3, 1) := by decide +kernel
theorem d1_16 : decode prog_51_method_1_code 16 = .ok (.putfield 16, 3) := by decide +kernel
theorem d1_19 : decode prog_51_method_1_code 19 = .ok (.aload_n 0, 1) := by decide +kernel
theorem d1_20 : decode prog_51_method_1_code 20 = .ok (.iload 4, 2) := by decide +kernel
theorem d1_22 : decode prog_51_method_1_code 22 = .ok (.putfield 19, 3) := by decide +kernel
theorem d1_25 : decode prog_51_method_1_code 25 = .ok (.aload_n 0, 1) := by decide +kernel
theorem d1_26 : decode prog_51_method_1_code 26 = .ok (.iload 5, 2) := by decide +kernel
theorem d1_28 : decode prog_51_method_1_code 28 = .ok (.putfield 22, 3) := by decide +kernel
theorem d1_31 : decode prog_51_method_1_code 31 = .ok (.return_, 1) := by decide +kernel
theorem pn_1 : plainName "com/example/metakoll/metakoll/core/Summary" = true := by first | (simp [plainName, overriddenIn]; done) | decide +kernel
theorem pd_1_0 : parseMethodDescriptor "()V" = some ⟨[], none⟩ := by decide +kernel
theorem ef_1 (m : MethodId) (x0 : Addr) (x1 : Int32) (x2 : Int32) (x3 : Int32) (x4 : Int32) (x5 : Int32) : entryFrame m #[(.ref x0), (.int x1), (.int x2), (.int x3), (.int x4), (.int x5)] 6 = mkF m 0 #[.val (.ref x0), .val (.int x1), .val (.int x2), .val (.int x3), .val (.int x4), .val (.int x5)] [] := by first | (simp [entryFrame, mkF, argsToLocals, Value.category]; done) | rfl
def Q1 (Z : State) (o0 : Addr) (p1 : Int32) (p2 : Int32) (p3 : Int32) (p4 : Int32) (p5 : Int32) (h0 : Heap) (n0 : Nat) (v : Option Value) (h : Heap) (L : List Loc) : Prop := v = none ∧ Fr n0 L ∧ Keep h0 h [o0] ∧ Exa Z h o0 "com/example/metakoll/metakoll/core/Summary" ∧ Fld Z h o0 "com/example/metakoll/metakoll/core/Summary" "entities" "I" (.int p1) ∧ Fld Z h o0 "com/example/metakoll/metakoll/core/Summary" "files" "I" (.int p2) ∧ Fld Z h o0 "com/example/metakoll/metakoll/core/Summary" "errors" "I" (.int p3) ∧ Fld Z h o0 "com/example/metakoll/metakoll/core/Summary" "warnings" "I" (.int p4) ∧ Fld Z h o0 "com/example/metakoll/metakoll/core/Summary" "unusable" "I" (.int p5)
set_option maxRecDepth 65536 in
set_option maxHeartbeats 40000000 in
theorem rm1 (l : Launch) (Z : State) (a0 : Array Value) (hw : ∀ d ∈ tables_1, d.before a0 Z = true) (ws : List Jvm.Cond) (o0 : Addr) (p1 : Int32) (p2 : Int32) (p3 : Int32) (p4 : Int32) (p5 : Int32) (h0 : Heap) (n0 : Nat) (Z0 : n0 ≤ h0.size) (G0 : Exa Z h0 o0 "com/example/metakoll/metakoll/core/Summary") (G1 : Fld Z h0 o0 "com/example/metakoll/metakoll/core/Summary" "entities" "I" (.int (0 : Int32))) (G2 : Fld Z h0 o0 "com/example/metakoll/metakoll/core/Summary" "files" "I" (.int (0 : Int32))) (G3 : Fld Z h0 o0 "com/example/metakoll/metakoll/core/Summary" "errors" "I" (.int (0 : Int32))) (G4 : Fld Z h0 o0 "com/example/metakoll/metakoll/core/Summary" "warnings" "I" (.int (0 : Int32))) (G5 : Fld Z h0 o0 "com/example/metakoll/metakoll/core/Summary" "unusable" "I" (.int (0 : Int32))) (g_o0 : n0 ≤ o0) :
    MetFree l (⟨"com/example/metakoll/metakoll/core/Summary", "<init>", "(IIIII)V"⟩ : MethodName) (head1 (Jvm.Cond.code (⟨"com/example/metakoll/metakoll/core/Summary", "<init>", "(IIIII)V"⟩ : MethodName) prog_51_method_1_code 6 none :: ws) ({ frames := 2, cells := 0, slots := 0, locals := 24 } : Room)) (fun a U => a = #[(.ref o0), (.int p1), (.int p2), (.int p3), (.int p4), (.int p5)] ∧ Z.Warmed39 U.vm ∧ U.heap = h0) (fun _ _ _ _ _ => True) (fun _ U o U' => ∃ v L, o = .returned v ∧ Q1 Z o0 p1 p2 p3 p4 p5 h0 n0 v U'.heap L ∧ FrameEnd U o U' L ({ frames := 2, cells := 0, slots := 0, locals := 24 } : Room).cells ({ frames := 2, cells := 0, slots := 0, locals := 24 } : Room).slots) := by
  refine MetFree.of_bodySF (plainFor_of_name pn_1) hisR ?_
  intro p e s m args below meth c s₁ Bd hml0 hP hK
  obtain ⟨rfl, hZ, hh⟩ := hP
  have hx := Bd.exec
  have hby := Bd.bytes
  have hml : c.maxLocals = 6 := hml0
  have hown : s.vm.findClass "com/example/metakoll/metakoll/core/Summary" = some m.cls := findClass_of_methodNamed Bd.named
  have hnm := (name_of_methodNamed Bd.named Bd.method).1
  have X0 : Stand p l e ({ frames := 2, cells := 0, slots := 0, locals := 24 } : Room) s m #[(.ref o0), (.int p1), (.int p2), (.int p3), (.int p4), (.int p5)] below meth c s₁ [] 0 0 := Stand.of_body Bd
  have e0 : s₁.heap = h0 := by rw [← hh, Bd.state]; rfl
  have N0 := Fr.nil n0
  refine own_in (ef_1 m o0 p1 p2 p3 p4 p5) ?_
  have K0 := Keep.refl h0 [o0]
  refine own_st (g' := (mkF m 1 #[.val (.ref o0), .val (.int p1), .val (.int p2), .val (.int p3), .val (.int p4), .val (.int p5)] [(.ref o0)])) (fun t k => XS.aloadN X0.here hx rfl (hb hby d1_0) rfl rfl k) ?_
  obtain ⟨_, _, ⟨T1, L1, k1, n1⟩, -, X1, ⟨Lc1, hQ1, l1, y1, z1⟩, st1⟩ := X0.specialBack hx (y := (⟨"java/lang/Record", "<init>", "()V"⟩ : MethodName)) rfl hown (mvT hZ (hw _ (List.mem_of_getElem? (i := 6) rfl))) (mvT hZ (hw _ (List.mem_of_getElem? (i := 7) rfl))) (mvT hZ (hw _ (List.mem_of_getElem? (i := 10) rfl))) (by decide) (backOf (W := 0) (rm2 l Z a0 hw [] o0 h0 n0 Z0  ) hZ (hw _ (List.mem_of_getElem? (i := 10) rfl)) (hw _ (List.mem_of_getElem? (i := 9) rfl)) (by decide) (by decide)) (g := (mkF m 1 #[.val (.ref o0), .val (.int p1), .val (.int p2), .val (.int p3), .val (.int p4), .val (.int p5)] [(.ref o0)])) rfl (by rw [hml]; rfl) (Steps.refl _) (a := o0) (argsL := []) (rest := []) (lenOf pd_1_0 rfl) rfl (by show 2 * 0 + _ ≤ _; exact Nat.le_of_eq rfl) (hb hby d1_1) (fun _ _ => ⟨rfl, e0, (by decide : 0 + 0 ≤ _), (by decide : 0 + 0 ≤ _)⟩)
  dsimp only [Pt.U, Pt.locs, Pt.cells, Pt.slots] at X1 l1 y1 z1 st1 hQ1
  subst l1 y1 z1
  obtain ⟨rfl, N1q, e1⟩ := hQ1
  have N1 := Fr.app N0 N1q
  refine own_st (g' := (mkF m 4 #[.val (.ref o0), .val (.int p1), .val (.int p2), .val (.int p3), .val (.int p4), .val (.int p5)] [])) (fun t k => st1.trans k) ?_
  refine own_st (g' := (mkF m 5 #[.val (.ref o0), .val (.int p1), .val (.int p2), .val (.int p3), .val (.int p4), .val (.int p5)] [(.ref o0)])) (fun t k => XS.aloadN X1.here hx rfl (hb hby d1_4) rfl rfl k) ?_
  refine own_st (g' := (mkF m 6 #[.val (.ref o0), .val (.int p1), .val (.int p2), .val (.int p3), .val (.int p4), .val (.int p5)] [(.int p1), (.ref o0)])) (fun t k => XS.iloadN X1.here hx rfl (hb hby d1_5) rfl  k) ?_
  obtain ⟨T2, h2, X2, e2, W2, st2⟩ := putF X1 hx hZ hown (host := "") (Or.inl (hw _ (List.mem_of_getElem? (i := 14) rfl))) Via.refl e1 G1 G0 (Or.inr ⟨(hw _ (List.mem_of_getElem? (i := 15) rfl)), rfl, hnm⟩) (hw _ (List.mem_of_getElem? (i := 1) rfl)) (ty := .int) (by decide) rfl rfl (g := (mkF m 6 #[.val (.ref o0), .val (.int p1), .val (.int p2), .val (.int p3), .val (.int p4), .val (.int p5)] [(.int p1), (.ref o0)])) rfl rfl (hb hby d1_6)
  have F2 := G1.same W2
  have N2 := Fr.snoc X2 N1 g_o0
  have K3 : Keep h0 h2 [o0] := K0.wr W2 (Or.inl (List.mem_of_getElem? (i := 0) rfl))
  refine own_st (g' := (mkF m 9 #[.val (.ref o0), .val (.int p1), .val (.int p2), .val (.int p3), .val (.int p4), .val (.int p5)] [])) (fun t k => st2 t k) ?_
  refine own_st (g' := (mkF m 10 #[.val (.ref o0), .val (.int p1), .val (.int p2), .val (.int p3), .val (.int p4), .val (.int p5)] [(.ref o0)])) (fun t k => XS.aloadN X2.here hx rfl (hb hby d1_9) rfl rfl k) ?_
  refine own_st (g' := (mkF m 11 #[.val (.ref o0), .val (.int p1), .val (.int p2), .val (.int p3), .val (.int p4), .val (.int p5)] [(.int p2), (.ref o0)])) (fun t k => XS.iloadN X2.here hx rfl (hb hby d1_10) rfl  k) ?_
  have f4 := (G0.wr W2)
  have f5 := (G2.other W2 (Or.inr (slot_ne (Or.inr (hw _ (List.mem_of_getElem? (i := 17) rfl))) (Or.inr (hw _ (List.mem_of_getElem? (i := 15) rfl))) (by decide) (t := .int) (t' := .int) (by decide) (by decide))))
  obtain ⟨T6, h6, X6, e6, W6, st6⟩ := putF X2 hx hZ hown (host := "") (Or.inl (hw _ (List.mem_of_getElem? (i := 16) rfl))) Via.refl e2 f5 f4 (Or.inr ⟨(hw _ (List.mem_of_getElem? (i := 17) rfl)), rfl, hnm⟩) (hw _ (List.mem_of_getElem? (i := 1) rfl)) (ty := .int) (by decide) rfl rfl (g := (mkF m 11 #[.val (.ref o0), .val (.int p1), .val (.int p2), .val (.int p3), .val (.int p4), .val (.int p5)] [(.int p2), (.ref o0)])) rfl rfl (hb hby d1_11)
  have F6 := f5.same W6
  have N6 := Fr.snoc X6 N2 g_o0
  have K7 : Keep h0 h6 [o0] := K3.wr W6 (Or.inl (List.mem_of_getElem? (i := 0) rfl))
  refine own_st (g' := (mkF m 14 #[.val (.ref o0), .val (.int p1), .val (.int p2), .val (.int p3), .val (.int p4), .val (.int p5)] [])) (fun t k => st6 t k) ?_
  refine own_st (g' := (mkF m 15 #[.val (.ref o0), .val (.int p1), .val (.int p2), .val (.int p3), .val (.int p4), .val (.int p5)] [(.ref o0)])) (fun t k => XS.aloadN X6.here hx rfl (hb hby d1_14) rfl rfl k) ?_
  refine own_st (g' := (mkF m 16 #[.val (.ref o0), .val (.int p1), .val (.int p2), .val (.int p3), .val (.int p4), .val (.int p5)] [(.int p3), (.ref o0)])) (fun t k => XS.iloadN X6.here hx rfl (hb hby d1_15) rfl  k) ?_
  have f8 := (f4.wr W6)
  have f9 := ((G3.other W2 (Or.inr (slot_ne (Or.inr (hw _ (List.mem_of_getElem? (i := 19) rfl))) (Or.inr (hw _ (List.mem_of_getElem? (i := 15) rfl))) (by decide) (t := .int) (t' := .int) (by decide) (by decide)))).other W6 (Or.inr (slot_ne (Or.inr (hw _ (List.mem_of_getElem? (i := 19) rfl))) (Or.inr (hw _ (List.mem_of_getElem? (i := 17) rfl))) (by decide) (t := .int) (t' := .int) (by decide) (by decide))))
  obtain ⟨T10, h10, X10, e10, W10, st10⟩ := putF X6 hx hZ hown (host := "") (Or.inl (hw _ (List.mem_of_getElem? (i := 18) rfl))) Via.refl e6 f9 f8 (Or.inr ⟨(hw _ (List.mem_of_getElem? (i := 19) rfl)), rfl, hnm⟩) (hw _ (List.mem_of_getElem? (i := 1) rfl)) (ty := .int) (by decide) rfl rfl (g := (mkF m 16 #[.val (.ref o0), .val (.int p1), .val (.int p2), .val (.int p3), .val (.int p4), .val (.int p5)] [(.int p3), (.ref o0)])) rfl rfl (hb hby d1_16)
  have F10 := f9.same W10
  have N10 := Fr.snoc X10 N6 g_o0
  have K11 : Keep h0 h10 [o0] := K7.wr W10 (Or.inl (List.mem_of_getElem? (i := 0) rfl))
  refine own_st (g' := (mkF m 19 #[.val (.ref o0), .val (.int p1), .val (.int p2), .val (.int p3), .val (.int p4), .val (.int p5)] [])) (fun t k => st10 t k) ?_
  refine own_st (g' := (mkF m 20 #[.val (.ref o0), .val (.int p1), .val (.int p2), .val (.int p3), .val (.int p4), .val (.int p5)] [(.ref o0)])) (fun t k => XS.aloadN X10.here hx rfl (hb hby d1_19) rfl rfl k) ?_
  refine own_st (g' := (mkF m 22 #[.val (.ref o0), .val (.int p1), .val (.int p2), .val (.int p3), .val (.int p4), .val (.int p5)] [(.int p4), (.ref o0)])) (fun t k => XS.iload X10.here hx rfl (hb hby d1_20) rfl  k) ?_
  have f12 := (f8.wr W10)
  have f13 := (((G4.other W2 (Or.inr (slot_ne (Or.inr (hw _ (List.mem_of_getElem? (i := 21) rfl))) (Or.inr (hw _ (List.mem_of_getElem? (i := 15) rfl))) (by decide) (t := .int) (t' := .int) (by decide) (by decide)))).other W6 (Or.inr (slot_ne (Or.inr (hw _ (List.mem_of_getElem? (i := 21) rfl))) (Or.inr (hw _ (List.mem_of_getElem? (i := 17) rfl))) (by decide) (t := .int) (t' := .int) (by decide) (by decide)))).other W10 (Or.inr (slot_ne (Or.inr (hw _ (List.mem_of_getElem? (i := 21) rfl))) (Or.inr (hw _ (List.mem_of_getElem? (i := 19) rfl))) (by decide) (t := .int) (t' := .int) (by decide) (by decide))))
  obtain ⟨T14, h14, X14, e14, W14, st14⟩ := putF X10 hx hZ hown (host := "") (Or.inl (hw _ (List.mem_of_getElem? (i := 20) rfl))) Via.refl e10 f13 f12 (Or.inr ⟨(hw _ (List.mem_of_getElem? (i := 21) rfl)), rfl, hnm⟩) (hw _ (List.mem_of_getElem? (i := 1) rfl)) (ty := .int) (by decide) rfl rfl (g := (mkF m 22 #[.val (.ref o0), .val (.int p1), .val (.int p2), .val (.int p3), .val (.int p4), .val (.int p5)] [(.int p4), (.ref o0)])) rfl rfl (hb hby d1_22)
  have F14 := f13.same W14
  have N14 := Fr.snoc X14 N10 g_o0
  have K15 : Keep h0 h14 [o0] := K11.wr W14 (Or.inl (List.mem_of_getElem? (i := 0) rfl))
  refine own_st (g' := (mkF m 25 #[.val (.ref o0), .val (.int p1), .val (.int p2), .val (.int p3), .val (.int p4), .val (.int p5)] [])) (fun t k => st14 t k) ?_
  refine own_st (g' := (mkF m 26 #[.val (.ref o0), .val (.int p1), .val (.int p2), .val (.int p3), .val (.int p4), .val (.int p5)] [(.ref o0)])) (fun t k => XS.aloadN X14.here hx rfl (hb hby d1_25) rfl rfl k) ?_
  refine own_st (g' := (mkF m 28 #[.val (.ref o0), .val (.int p1), .val (.int p2), .val (.int p3), .val (.int p4), .val (.int p5)] [(.int p5), (.ref o0)])) (fun t k => XS.iload X14.here hx rfl (hb hby d1_26) rfl  k) ?_
  have f16 := (f12.wr W14)
  have f17 := ((((G5.other W2 (Or.inr (slot_ne (Or.inr (hw _ (List.mem_of_getElem? (i := 23) rfl))) (Or.inr (hw _ (List.mem_of_getElem? (i := 15) rfl))) (by decide) (t := .int) (t' := .int) (by decide) (by decide)))).other W6 (Or.inr (slot_ne (Or.inr (hw _ (List.mem_of_getElem? (i := 23) rfl))) (Or.inr (hw _ (List.mem_of_getElem? (i := 17) rfl))) (by decide) (t := .int) (t' := .int) (by decide) (by decide)))).other W10 (Or.inr (slot_ne (Or.inr (hw _ (List.mem_of_getElem? (i := 23) rfl))) (Or.inr (hw _ (List.mem_of_getElem? (i := 19) rfl))) (by decide) (t := .int) (t' := .int) (by decide) (by decide)))).other W14 (Or.inr (slot_ne (Or.inr (hw _ (List.mem_of_getElem? (i := 23) rfl))) (Or.inr (hw _ (List.mem_of_getElem? (i := 21) rfl))) (by decide) (t := .int) (t' := .int) (by decide) (by decide))))
  obtain ⟨T18, h18, X18, e18, W18, st18⟩ := putF X14 hx hZ hown (host := "") (Or.inl (hw _ (List.mem_of_getElem? (i := 22) rfl))) Via.refl e14 f17 f16 (Or.inr ⟨(hw _ (List.mem_of_getElem? (i := 23) rfl)), rfl, hnm⟩) (hw _ (List.mem_of_getElem? (i := 1) rfl)) (ty := .int) (by decide) rfl rfl (g := (mkF m 28 #[.val (.ref o0), .val (.int p1), .val (.int p2), .val (.int p3), .val (.int p4), .val (.int p5)] [(.int p5), (.ref o0)])) rfl rfl (hb hby d1_28)
  have F18 := f17.same W18
  have N18 := Fr.snoc X18 N14 g_o0
  have K19 : Keep h0 h18 [o0] := K15.wr W18 (Or.inl (List.mem_of_getElem? (i := 0) rfl))
  refine own_st (g' := (mkF m 31 #[.val (.ref o0), .val (.int p1), .val (.int p2), .val (.int p3), .val (.int p4), .val (.int p5)] [])) (fun t k => st18 t k) ?_
  have f20 := (f16.wr W18)
  have f21 := ((((F2.other W6 (Or.inr (slot_ne (Or.inr (hw _ (List.mem_of_getElem? (i := 15) rfl))) (Or.inr (hw _ (List.mem_of_getElem? (i := 17) rfl))) (by decide) (t := .int) (t' := .int) (by decide) (by decide)))).other W10 (Or.inr (slot_ne (Or.inr (hw _ (List.mem_of_getElem? (i := 15) rfl))) (Or.inr (hw _ (List.mem_of_getElem? (i := 19) rfl))) (by decide) (t := .int) (t' := .int) (by decide) (by decide)))).other W14 (Or.inr (slot_ne (Or.inr (hw _ (List.mem_of_getElem? (i := 15) rfl))) (Or.inr (hw _ (List.mem_of_getElem? (i := 21) rfl))) (by decide) (t := .int) (t' := .int) (by decide) (by decide)))).other W18 (Or.inr (slot_ne (Or.inr (hw _ (List.mem_of_getElem? (i := 15) rfl))) (Or.inr (hw _ (List.mem_of_getElem? (i := 23) rfl))) (by decide) (t := .int) (t' := .int) (by decide) (by decide))))
  have f22 := (((F6.other W10 (Or.inr (slot_ne (Or.inr (hw _ (List.mem_of_getElem? (i := 17) rfl))) (Or.inr (hw _ (List.mem_of_getElem? (i := 19) rfl))) (by decide) (t := .int) (t' := .int) (by decide) (by decide)))).other W14 (Or.inr (slot_ne (Or.inr (hw _ (List.mem_of_getElem? (i := 17) rfl))) (Or.inr (hw _ (List.mem_of_getElem? (i := 21) rfl))) (by decide) (t := .int) (t' := .int) (by decide) (by decide)))).other W18 (Or.inr (slot_ne (Or.inr (hw _ (List.mem_of_getElem? (i := 17) rfl))) (Or.inr (hw _ (List.mem_of_getElem? (i := 23) rfl))) (by decide) (t := .int) (t' := .int) (by decide) (by decide))))
  have f23 := ((F10.other W14 (Or.inr (slot_ne (Or.inr (hw _ (List.mem_of_getElem? (i := 19) rfl))) (Or.inr (hw _ (List.mem_of_getElem? (i := 21) rfl))) (by decide) (t := .int) (t' := .int) (by decide) (by decide)))).other W18 (Or.inr (slot_ne (Or.inr (hw _ (List.mem_of_getElem? (i := 19) rfl))) (Or.inr (hw _ (List.mem_of_getElem? (i := 23) rfl))) (by decide) (t := .int) (t' := .int) (by decide) (by decide))))
  have f24 := (F14.other W18 (Or.inr (slot_ne (Or.inr (hw _ (List.mem_of_getElem? (i := 21) rfl))) (Or.inr (hw _ (List.mem_of_getElem? (i := 23) rfl))) (by decide) (t := .int) (t' := .int) (by decide) (by decide))))
  exact own_retV X18 hx Bd.returns Bd.notSynchronized (hb hby d1_31) (by rw [e18]; exact ⟨rfl, N18, K19, f20, f21, f22, f23, f24, F18⟩) (by decide) (by decide)
def own_f4_23 (w_unusable : Int32) (w_errors : Int32) (l1_23 : Int32) : Int32 := l1_23
theorem own_f4_23_eq (w_unusable : Int32) (w_errors : Int32) (l1_23 : Int32) : own_f4_23 w_unusable w_errors l1_23 = l1_23 := rfl
def own_F4 (w_unusable : Int32) (w_errors : Int32) : Int32 := (if (0 : Int32) < w_unusable then (own_f4_23 w_unusable w_errors (2 : Int32)) else (if (0 : Int32) < w_errors then (own_f4_23 w_unusable w_errors (1 : Int32)) else (own_f4_23 w_unusable w_errors (0 : Int32))))
theorem own_F4_eq (w_unusable : Int32) (w_errors : Int32) : own_F4 w_unusable w_errors = (if (0 : Int32) < w_unusable then (own_f4_23 w_unusable w_errors (2 : Int32)) else (if (0 : Int32) < w_errors then (own_f4_23 w_unusable w_errors (1 : Int32)) else (own_f4_23 w_unusable w_errors (0 : Int32)))) := rfl
theorem d4_0 : decode prog_51_method_5_code 0 = .ok (.iconst 0, 1) := by decide +kernel
theorem d4_1 : decode prog_51_method_5_code 1 = .ok (.istore_n 1, 1) := by decide +kernel
theorem d4_2 : decode prog_51_method_5_code 2 = .ok (.aload_n 0, 1) := by decide +kernel
theorem d4_3 : decode prog_51_method_5_code 3 = .ok (.getfield 22, 3) := by decide +kernel
theorem d4_6 : decode prog_51_method_5_code 6 = .ok (.ifCond .le 8, 3) := by decide +kernel
theorem d4_9 : decode prog_51_method_5_code 9 = .ok (.iconst 2, 1) := by decide +kernel
theorem d4_10 : decode prog_51_method_5_code 10 = .ok (.istore_n 1, 1) := by decide +kernel
theorem d4_11 : decode prog_51_method_5_code 11 = .ok (.goto 12, 3) := by decide +kernel
theorem d4_14 : decode prog_51_method_5_code 14 = .ok (.aload_n 0, 1) := by decide +kernel
theorem d4_15 : decode prog_51_method_5_code 15 = .ok (.getfield 16, 3) := by decide +kernel
theorem d4_18 : decode prog_51_method_5_code 18 = .ok (.ifCond .le 5, 3) := by decide +kernel
theorem d4_21 : decode prog_51_method_5_code 21 = .ok (.iconst 1, 1) := by decide +kernel
theorem d4_22 : decode prog_51_method_5_code 22 = .ok (.istore_n 1, 1) := by decide +kernel
theorem d4_23 : decode prog_51_method_5_code 23 = .ok (.iload_n 1, 1) := by decide +kernel
theorem d4_24 : decode prog_51_method_5_code 24 = .ok (.ireturn, 1) := by decide +kernel
theorem pn_4 : plainName "com/example/metakoll/metakoll/core/Summary" = true := by first | (simp [plainName, overriddenIn]; done) | decide +kernel
theorem ef_4 (m : MethodId) (x0 : Addr) : entryFrame m #[(.ref x0)] 2 = mkF m 0 #[.val (.ref x0), .unset] [] := by first | (simp [entryFrame, mkF, argsToLocals, Value.category]; done) | rfl
def Q4 (Z : State) (o0 : Addr) (w_unusable : Int32) (w_errors : Int32) (h0 : Heap) (n0 : Nat) (v : Option Value) (h : Heap) (L : List Loc) : Prop := v = some (.int (own_F4 w_unusable w_errors)) ∧ Fr n0 L ∧ h = h0
set_option maxRecDepth 65536 in
set_option maxHeartbeats 40000000 in
theorem rm4 (l : Launch) (Z : State) (a0 : Array Value) (hw : ∀ d ∈ tables_1, d.before a0 Z = true) (ws : List Jvm.Cond) (o0 : Addr) (w_unusable : Int32) (w_errors : Int32) (h0 : Heap) (n0 : Nat) (Z0 : n0 ≤ h0.size) (F_unusable_o0 : Fld Z h0 o0 "com/example/metakoll/metakoll/core/Summary" "unusable" "I" (.int w_unusable)) (F_errors_o0 : Fld Z h0 o0 "com/example/metakoll/metakoll/core/Summary" "errors" "I" (.int w_errors)) :
    MetFree l (⟨"com/example/metakoll/metakoll/core/Summary", "exitStatus", "()I"⟩ : MethodName) (head1 (Jvm.Cond.code (⟨"com/example/metakoll/metakoll/core/Summary", "exitStatus", "()I"⟩ : MethodName) prog_51_method_5_code 2 (some .int) :: ws) ({ frames := 0, cells := 0, slots := 0, locals := 0 } : Room)) (fun a U => a = #[(.ref o0)] ∧ Z.Warmed39 U.vm ∧ U.heap = h0) (fun _ _ _ _ _ => True) (fun _ U o U' => ∃ v L, o = .returned v ∧ Q4 Z o0 w_unusable w_errors h0 n0 v U'.heap L ∧ FrameEnd U o U' L ({ frames := 0, cells := 0, slots := 0, locals := 0 } : Room).cells ({ frames := 0, cells := 0, slots := 0, locals := 0 } : Room).slots) := by
  refine MetFree.of_bodySF (plainFor_of_name pn_4) hisR ?_
  intro p e s m args below meth c s₁ Bd hml0 hP hK
  obtain ⟨rfl, hZ, hh⟩ := hP
  have hx := Bd.exec
  have hby := Bd.bytes
  have hml : c.maxLocals = 2 := hml0
  have hown : s.vm.findClass "com/example/metakoll/metakoll/core/Summary" = some m.cls := findClass_of_methodNamed Bd.named
  have hnm := (name_of_methodNamed Bd.named Bd.method).1
  have X0 : Stand p l e ({ frames := 0, cells := 0, slots := 0, locals := 0 } : Room) s m #[(.ref o0)] below meth c s₁ [] 0 0 := Stand.of_body Bd
  have e0 : s₁.heap = h0 := by rw [← hh, Bd.state]; rfl
  have N0 := Fr.nil n0
  refine own_in (ef_4 m o0) ?_
  have hr0 := (own_F4_eq w_unusable w_errors).symm
  refine own_st (g' := (mkF m 1 #[.val (.ref o0), .unset] [(.int (0 : Int32))])) (fun t k => XS.iconst X0.here hx rfl (hb hby d4_0) k) ?_
  refine own_st (g' := (mkF m 2 #[.val (.ref o0), .val (.int (0 : Int32))] [])) (fun t k => XS.istoreN X0.here hx rfl (hb hby d4_1) rfl (l' := #[.val (.ref o0), .val (.int (0 : Int32))]) rfl k) ?_
  refine own_st (g' := (mkF m 3 #[.val (.ref o0), .val (.int (0 : Int32))] [(.ref o0)])) (fun t k => XS.aloadN X0.here hx rfl (hb hby d4_2) rfl rfl k) ?_
  obtain ⟨T5, X5, e5, st5⟩ := getF X0 hx hZ hown (host := "") (Or.inl (hw _ (List.mem_of_getElem? (i := 22) rfl))) Via.refl e0 F_unusable_o0 (g := (mkF m 3 #[.val (.ref o0), .val (.int (0 : Int32))] [(.ref o0)])) rfl rfl (hb hby d4_3)
  refine own_st (g' := (mkF m 6 #[.val (.ref o0), .val (.int (0 : Int32))] [(.int w_unusable)])) (fun t k => st5 t k) ?_
  have J23 : ∀ (T : State) (locs : List Loc) (l1_23 : Int32), Stand p l e ({ frames := 0, cells := 0, slots := 0, locals := 0 } : Room) s m #[(.ref o0)] below meth c T locs 0 0 → T.heap = h0 → Fr n0 locs → own_f4_23 w_unusable w_errors l1_23 = own_F4 w_unusable w_errors → own_Fin p e below s ({ frames := 0, cells := 0, slots := 0, locals := 0 } : Room).cells ({ frames := 0, cells := 0, slots := 0, locals := 0 } : Room).slots (Q4 Z o0 w_unusable w_errors h0 n0) T (mkF m 23 #[.val (.ref o0), .val (.int l1_23)] []) := by
    intro T6 locs6 l1_23  X6 e6 N6 hr6
    have hr6a := (own_f4_23_eq (w_unusable) (w_errors) (l1_23)).symm.trans hr6
    refine own_st (g' := (mkF m 24 #[.val (.ref o0), .val (.int l1_23)] [(.int l1_23)])) (fun t k => XS.iloadN X6.here hx rfl (hb hby d4_23) rfl  k) ?_
    exact own_retI X6 hx Bd.returns Bd.notSynchronized (hb hby d4_24) ⟨congrArg (fun q => some (Value.int q)) hr6a, N6, e6⟩ (by decide) (by decide)
  by_cases hc6_7 : (0 : Int32) < w_unusable
  · have hr8 := (if_pos hc6_7).symm.trans hr0
    refine own_st (g' := (mkF m 9 #[.val (.ref o0), .val (.int (0 : Int32))] [])) (fun t k => XS.ifNo X5.here hx rfl (hb hby d4_6) rfl ((if0 _ _).trans (tlt hc6_7).2.2.2) k) ?_
    refine own_st (g' := (mkF m 10 #[.val (.ref o0), .val (.int (0 : Int32))] [(.int (2 : Int32))])) (fun t k => XS.iconst X5.here hx rfl (hb hby d4_9) k) ?_
    refine own_st (g' := (mkF m 11 #[.val (.ref o0), .val (.int (2 : Int32))] [])) (fun t k => XS.istoreN X5.here hx rfl (hb hby d4_10) rfl (l' := #[.val (.ref o0), .val (.int (2 : Int32))]) rfl k) ?_
    refine own_st (g' := (mkF m 23 #[.val (.ref o0), .val (.int (2 : Int32))] [])) (fun t k => XS.goto X5.here hx rfl (pc0 := 11) (pc' := 23) rfl (hb hby d4_11) (by decide) (by decide) k) ?_
    exact J23 T5 _ (2 : Int32)  X5 e5 N0 hr8
  · have hr9 := (if_neg hc6_7).symm.trans hr0
    refine own_st (g' := (mkF m 14 #[.val (.ref o0), .val (.int (0 : Int32))] [])) (fun t k => XS.ifYes X5.here hx rfl (pc0 := 6) (pc' := 14) rfl (hb hby d4_6) rfl ((if0 _ _).trans (flt hc6_7).2.2.2) (by decide) (by decide) k) ?_
    refine own_st (g' := (mkF m 15 #[.val (.ref o0), .val (.int (0 : Int32))] [(.ref o0)])) (fun t k => XS.aloadN X5.here hx rfl (hb hby d4_14) rfl rfl k) ?_
    obtain ⟨T10, X10, e10, st10⟩ := getF X5 hx hZ hown (host := "") (Or.inl (hw _ (List.mem_of_getElem? (i := 18) rfl))) Via.refl e5 F_errors_o0 (g := (mkF m 15 #[.val (.ref o0), .val (.int (0 : Int32))] [(.ref o0)])) rfl rfl (hb hby d4_15)
    refine own_st (g' := (mkF m 18 #[.val (.ref o0), .val (.int (0 : Int32))] [(.int w_errors)])) (fun t k => st10 t k) ?_
    by_cases hc18_11 : (0 : Int32) < w_errors
    · have hr12 := (if_pos hc18_11).symm.trans hr9
      refine own_st (g' := (mkF m 21 #[.val (.ref o0), .val (.int (0 : Int32))] [])) (fun t k => XS.ifNo X10.here hx rfl (hb hby d4_18) rfl ((if0 _ _).trans (tlt hc18_11).2.2.2) k) ?_
      refine own_st (g' := (mkF m 22 #[.val (.ref o0), .val (.int (0 : Int32))] [(.int (1 : Int32))])) (fun t k => XS.iconst X10.here hx rfl (hb hby d4_21) k) ?_
      refine own_st (g' := (mkF m 23 #[.val (.ref o0), .val (.int (1 : Int32))] [])) (fun t k => XS.istoreN X10.here hx rfl (hb hby d4_22) rfl (l' := #[.val (.ref o0), .val (.int (1 : Int32))]) rfl k) ?_
      exact J23 T10 _ (1 : Int32)  X10 e10 N0 hr12
    · have hr13 := (if_neg hc18_11).symm.trans hr9
      refine own_st (g' := (mkF m 23 #[.val (.ref o0), .val (.int (0 : Int32))] [])) (fun t k => XS.ifYes X10.here hx rfl (pc0 := 18) (pc' := 23) rfl (hb hby d4_18) rfl ((if0 _ _).trans (flt hc18_11).2.2.2) (by decide) (by decide) k) ?_
      exact J23 T10 _ (0 : Int32)  X10 e10 N0 hr13
def own_f0_194 (p0 : Int32) (p1 : Int32) (p2 : Int32) (p3 : Int32) (p4 : Int32) (p5 : Int32) (t0_60 : Int32) (t0_71 : Int32) (t0_84 : Int32) (t0_94 : Int32) (t0_107 : Int32) (t0_122 : Int32) (t1_122 : Int32) (t0_130 : Int32) (t0_142 : Int32) (t0_157 : Int32) (t1_157 : Int32) (t0_165 : Int32) (t0_194 : Int32) : Int32 := (nar .boolean t0_194)
theorem own_f0_194_eq (p0 : Int32) (p1 : Int32) (p2 : Int32) (p3 : Int32) (p4 : Int32) (p5 : Int32) (t0_60 : Int32) (t0_71 : Int32) (t0_84 : Int32) (t0_94 : Int32) (t0_107 : Int32) (t0_122 : Int32) (t1_122 : Int32) (t0_130 : Int32) (t0_142 : Int32) (t0_157 : Int32) (t1_157 : Int32) (t0_165 : Int32) (t0_194 : Int32) : own_f0_194 p0 p1 p2 p3 p4 p5 t0_60 t0_71 t0_84 t0_94 t0_107 t0_122 t1_122 t0_130 t0_142 t0_157 t1_157 t0_165 t0_194 = (nar .boolean t0_194) := rfl
def own_f0_165 (p0 : Int32) (p1 : Int32) (p2 : Int32) (p3 : Int32) (p4 : Int32) (p5 : Int32) (t0_60 : Int32) (t0_71 : Int32) (t0_84 : Int32) (t0_94 : Int32) (t0_107 : Int32) (t0_122 : Int32) (t1_122 : Int32) (t0_130 : Int32) (t0_142 : Int32) (t0_157 : Int32) (t1_157 : Int32) (t0_165 : Int32) : Int32 := (if (own_F4 p4 p2) = (own_F4 p4 p2) then (if t0_94 = (0 : Int32) then (own_f0_194 p0 p1 p2 p3 p4 p5 t0_60 t0_71 t0_84 t0_94 t0_107 t0_122 t1_122 t0_130 t0_142 t0_157 t1_157 t0_165 (0 : Int32)) else (if t0_130 = (0 : Int32) then (own_f0_194 p0 p1 p2 p3 p4 p5 t0_60 t0_71 t0_84 t0_94 t0_107 t0_122 t1_122 t0_130 t0_142 t0_157 t1_157 t0_165 (0 : Int32)) else (if t0_165 = (0 : Int32) then (own_f0_194 p0 p1 p2 p3 p4 p5 t0_60 t0_71 t0_84 t0_94 t0_107 t0_122 t1_122 t0_130 t0_142 t0_157 t1_157 t0_165 (0 : Int32)) else (own_f0_194 p0 p1 p2 p3 p4 p5 t0_60 t0_71 t0_84 t0_94 t0_107 t0_122 t1_122 t0_130 t0_142 t0_157 t1_157 t0_165 (1 : Int32))))) else (own_f0_194 p0 p1 p2 p3 p4 p5 t0_60 t0_71 t0_84 t0_94 t0_107 t0_122 t1_122 t0_130 t0_142 t0_157 t1_157 t0_165 (0 : Int32)))
theorem own_f0_165_eq (p0 : Int32) (p1 : Int32) (p2 : Int32) (p3 : Int32) (p4 : Int32) (p5 : Int32) (t0_60 : Int32) (t0_71 : Int32) (t0_84 : Int32) (t0_94 : Int32) (t0_107 : Int32) (t0_122 : Int32) (t1_122 : Int32) (t0_130 : Int32) (t0_142 : Int32) (t0_157 : Int32) (t1_157 : Int32) (t0_165 : Int32) : own_f0_165 p0 p1 p2 p3 p4 p5 t0_60 t0_71 t0_84 t0_94 t0_107 t0_122 t1_122 t0_130 t0_142 t0_157 t1_157 t0_165 = (if (own_F4 p4 p2) = (own_F4 p4 p2) then (if t0_94 = (0 : Int32) then (own_f0_194 p0 p1 p2 p3 p4 p5 t0_60 t0_71 t0_84 t0_94 t0_107 t0_122 t1_122 t0_130 t0_142 t0_157 t1_157 t0_165 (0 : Int32)) else (if t0_130 = (0 : Int32) then (own_f0_194 p0 p1 p2 p3 p4 p5 t0_60 t0_71 t0_84 t0_94 t0_107 t0_122 t1_122 t0_130 t0_142 t0_157 t1_157 t0_165 (0 : Int32)) else (if t0_165 = (0 : Int32) then (own_f0_194 p0 p1 p2 p3 p4 p5 t0_60 t0_71 t0_84 t0_94 t0_107 t0_122 t1_122 t0_130 t0_142 t0_157 t1_157 t0_165 (0 : Int32)) else (own_f0_194 p0 p1 p2 p3 p4 p5 t0_60 t0_71 t0_84 t0_94 t0_107 t0_122 t1_122 t0_130 t0_142 t0_157 t1_157 t0_165 (1 : Int32))))) else (own_f0_194 p0 p1 p2 p3 p4 p5 t0_60 t0_71 t0_84 t0_94 t0_107 t0_122 t1_122 t0_130 t0_142 t0_157 t1_157 t0_165 (0 : Int32))) := rfl
def own_f0_157 (p0 : Int32) (p1 : Int32) (p2 : Int32) (p3 : Int32) (p4 : Int32) (p5 : Int32) (t0_60 : Int32) (t0_71 : Int32) (t0_84 : Int32) (t0_94 : Int32) (t0_107 : Int32) (t0_122 : Int32) (t1_122 : Int32) (t0_130 : Int32) (t0_142 : Int32) (t0_157 : Int32) (t1_157 : Int32) : Int32 := (if t1_157 = t0_157 then (own_f0_165 p0 p1 p2 p3 p4 p5 t0_60 t0_71 t0_84 t0_94 t0_107 t0_122 t1_122 t0_130 t0_142 t0_157 t1_157 (1 : Int32)) else (own_f0_165 p0 p1 p2 p3 p4 p5 t0_60 t0_71 t0_84 t0_94 t0_107 t0_122 t1_122 t0_130 t0_142 t0_157 t1_157 (0 : Int32)))
theorem own_f0_157_eq (p0 : Int32) (p1 : Int32) (p2 : Int32) (p3 : Int32) (p4 : Int32) (p5 : Int32) (t0_60 : Int32) (t0_71 : Int32) (t0_84 : Int32) (t0_94 : Int32) (t0_107 : Int32) (t0_122 : Int32) (t1_122 : Int32) (t0_130 : Int32) (t0_142 : Int32) (t0_157 : Int32) (t1_157 : Int32) : own_f0_157 p0 p1 p2 p3 p4 p5 t0_60 t0_71 t0_84 t0_94 t0_107 t0_122 t1_122 t0_130 t0_142 t0_157 t1_157 = (if t1_157 = t0_157 then (own_f0_165 p0 p1 p2 p3 p4 p5 t0_60 t0_71 t0_84 t0_94 t0_107 t0_122 t1_122 t0_130 t0_142 t0_157 t1_157 (1 : Int32)) else (own_f0_165 p0 p1 p2 p3 p4 p5 t0_60 t0_71 t0_84 t0_94 t0_107 t0_122 t1_122 t0_130 t0_142 t0_157 t1_157 (0 : Int32))) := rfl
def own_f0_142 (p0 : Int32) (p1 : Int32) (p2 : Int32) (p3 : Int32) (p4 : Int32) (p5 : Int32) (t0_60 : Int32) (t0_71 : Int32) (t0_84 : Int32) (t0_94 : Int32) (t0_107 : Int32) (t0_122 : Int32) (t1_122 : Int32) (t0_130 : Int32) (t0_142 : Int32) : Int32 := (if t0_60 = (0 : Int32) then (if t0_71 = (0 : Int32) then (own_f0_157 p0 p1 p2 p3 p4 p5 t0_60 t0_71 t0_84 t0_94 t0_107 t0_122 t1_122 t0_130 t0_142 (1 : Int32) t0_142) else (own_f0_157 p0 p1 p2 p3 p4 p5 t0_60 t0_71 t0_84 t0_94 t0_107 t0_122 t1_122 t0_130 t0_142 (0 : Int32) t0_142)) else (own_f0_157 p0 p1 p2 p3 p4 p5 t0_60 t0_71 t0_84 t0_94 t0_107 t0_122 t1_122 t0_130 t0_142 (0 : Int32) t0_142))
theorem own_f0_142_eq (p0 : Int32) (p1 : Int32) (p2 : Int32) (p3 : Int32) (p4 : Int32) (p5 : Int32) (t0_60 : Int32) (t0_71 : Int32) (t0_84 : Int32) (t0_94 : Int32) (t0_107 : Int32) (t0_122 : Int32) (t1_122 : Int32) (t0_130 : Int32) (t0_142 : Int32) : own_f0_142 p0 p1 p2 p3 p4 p5 t0_60 t0_71 t0_84 t0_94 t0_107 t0_122 t1_122 t0_130 t0_142 = (if t0_60 = (0 : Int32) then (if t0_71 = (0 : Int32) then (own_f0_157 p0 p1 p2 p3 p4 p5 t0_60 t0_71 t0_84 t0_94 t0_107 t0_122 t1_122 t0_130 t0_142 (1 : Int32) t0_142) else (own_f0_157 p0 p1 p2 p3 p4 p5 t0_60 t0_71 t0_84 t0_94 t0_107 t0_122 t1_122 t0_130 t0_142 (0 : Int32) t0_142)) else (own_f0_157 p0 p1 p2 p3 p4 p5 t0_60 t0_71 t0_84 t0_94 t0_107 t0_122 t1_122 t0_130 t0_142 (0 : Int32) t0_142)) := rfl
def own_f0_130 (p0 : Int32) (p1 : Int32) (p2 : Int32) (p3 : Int32) (p4 : Int32) (p5 : Int32) (t0_60 : Int32) (t0_71 : Int32) (t0_84 : Int32) (t0_94 : Int32) (t0_107 : Int32) (t0_122 : Int32) (t1_122 : Int32) (t0_130 : Int32) : Int32 := (if (own_F4 p4 p2) = (0 : Int32) then (own_f0_142 p0 p1 p2 p3 p4 p5 t0_60 t0_71 t0_84 t0_94 t0_107 t0_122 t1_122 t0_130 (1 : Int32)) else (own_f0_142 p0 p1 p2 p3 p4 p5 t0_60 t0_71 t0_84 t0_94 t0_107 t0_122 t1_122 t0_130 (0 : Int32)))
theorem own_f0_130_eq (p0 : Int32) (p1 : Int32) (p2 : Int32) (p3 : Int32) (p4 : Int32) (p5 : Int32) (t0_60 : Int32) (t0_71 : Int32) (t0_84 : Int32) (t0_94 : Int32) (t0_107 : Int32) (t0_122 : Int32) (t1_122 : Int32) (t0_130 : Int32) : own_f0_130 p0 p1 p2 p3 p4 p5 t0_60 t0_71 t0_84 t0_94 t0_107 t0_122 t1_122 t0_130 = (if (own_F4 p4 p2) = (0 : Int32) then (own_f0_142 p0 p1 p2 p3 p4 p5 t0_60 t0_71 t0_84 t0_94 t0_107 t0_122 t1_122 t0_130 (1 : Int32)) else (own_f0_142 p0 p1 p2 p3 p4 p5 t0_60 t0_71 t0_84 t0_94 t0_107 t0_122 t1_122 t0_130 (0 : Int32))) := rfl
def own_f0_122 (p0 : Int32) (p1 : Int32) (p2 : Int32) (p3 : Int32) (p4 : Int32) (p5 : Int32) (t0_60 : Int32) (t0_71 : Int32) (t0_84 : Int32) (t0_94 : Int32) (t0_107 : Int32) (t0_122 : Int32) (t1_122 : Int32) : Int32 := (if t1_122 = t0_122 then (own_f0_130 p0 p1 p2 p3 p4 p5 t0_60 t0_71 t0_84 t0_94 t0_107 t0_122 t1_122 (1 : Int32)) else (own_f0_130 p0 p1 p2 p3 p4 p5 t0_60 t0_71 t0_84 t0_94 t0_107 t0_122 t1_122 (0 : Int32)))
theorem own_f0_122_eq (p0 : Int32) (p1 : Int32) (p2 : Int32) (p3 : Int32) (p4 : Int32) (p5 : Int32) (t0_60 : Int32) (t0_71 : Int32) (t0_84 : Int32) (t0_94 : Int32) (t0_107 : Int32) (t0_122 : Int32) (t1_122 : Int32) : own_f0_122 p0 p1 p2 p3 p4 p5 t0_60 t0_71 t0_84 t0_94 t0_107 t0_122 t1_122 = (if t1_122 = t0_122 then (own_f0_130 p0 p1 p2 p3 p4 p5 t0_60 t0_71 t0_84 t0_94 t0_107 t0_122 t1_122 (1 : Int32)) else (own_f0_130 p0 p1 p2 p3 p4 p5 t0_60 t0_71 t0_84 t0_94 t0_107 t0_122 t1_122 (0 : Int32))) := rfl
def own_f0_107 (p0 : Int32) (p1 : Int32) (p2 : Int32) (p3 : Int32) (p4 : Int32) (p5 : Int32) (t0_60 : Int32) (t0_71 : Int32) (t0_84 : Int32) (t0_94 : Int32) (t0_107 : Int32) : Int32 := (if t0_60 = (0 : Int32) then (if t0_71 = (0 : Int32) then (own_f0_122 p0 p1 p2 p3 p4 p5 t0_60 t0_71 t0_84 t0_94 t0_107 (0 : Int32) t0_107) else (own_f0_122 p0 p1 p2 p3 p4 p5 t0_60 t0_71 t0_84 t0_94 t0_107 (1 : Int32) t0_107)) else (own_f0_122 p0 p1 p2 p3 p4 p5 t0_60 t0_71 t0_84 t0_94 t0_107 (0 : Int32) t0_107))
theorem own_f0_107_eq (p0 : Int32) (p1 : Int32) (p2 : Int32) (p3 : Int32) (p4 : Int32) (p5 : Int32) (t0_60 : Int32) (t0_71 : Int32) (t0_84 : Int32) (t0_94 : Int32) (t0_107 : Int32) : own_f0_107 p0 p1 p2 p3 p4 p5 t0_60 t0_71 t0_84 t0_94 t0_107 = (if t0_60 = (0 : Int32) then (if t0_71 = (0 : Int32) then (own_f0_122 p0 p1 p2 p3 p4 p5 t0_60 t0_71 t0_84 t0_94 t0_107 (0 : Int32) t0_107) else (own_f0_122 p0 p1 p2 p3 p4 p5 t0_60 t0_71 t0_84 t0_94 t0_107 (1 : Int32) t0_107)) else (own_f0_122 p0 p1 p2 p3 p4 p5 t0_60 t0_71 t0_84 t0_94 t0_107 (0 : Int32) t0_107)) := rfl
def own_f0_94 (p0 : Int32) (p1 : Int32) (p2 : Int32) (p3 : Int32) (p4 : Int32) (p5 : Int32) (t0_60 : Int32) (t0_71 : Int32) (t0_84 : Int32) (t0_94 : Int32) : Int32 := (if (own_F4 p4 p2) = (1 : Int32) then (own_f0_107 p0 p1 p2 p3 p4 p5 t0_60 t0_71 t0_84 t0_94 (1 : Int32)) else (own_f0_107 p0 p1 p2 p3 p4 p5 t0_60 t0_71 t0_84 t0_94 (0 : Int32)))
theorem own_f0_94_eq (p0 : Int32) (p1 : Int32) (p2 : Int32) (p3 : Int32) (p4 : Int32) (p5 : Int32) (t0_60 : Int32) (t0_71 : Int32) (t0_84 : Int32) (t0_94 : Int32) : own_f0_94 p0 p1 p2 p3 p4 p5 t0_60 t0_71 t0_84 t0_94 = (if (own_F4 p4 p2) = (1 : Int32) then (own_f0_107 p0 p1 p2 p3 p4 p5 t0_60 t0_71 t0_84 t0_94 (1 : Int32)) else (own_f0_107 p0 p1 p2 p3 p4 p5 t0_60 t0_71 t0_84 t0_94 (0 : Int32))) := rfl
def own_f0_84 (p0 : Int32) (p1 : Int32) (p2 : Int32) (p3 : Int32) (p4 : Int32) (p5 : Int32) (t0_60 : Int32) (t0_71 : Int32) (t0_84 : Int32) : Int32 := (if t0_84 = t0_60 then (own_f0_94 p0 p1 p2 p3 p4 p5 t0_60 t0_71 t0_84 (1 : Int32)) else (own_f0_94 p0 p1 p2 p3 p4 p5 t0_60 t0_71 t0_84 (0 : Int32)))
theorem own_f0_84_eq (p0 : Int32) (p1 : Int32) (p2 : Int32) (p3 : Int32) (p4 : Int32) (p5 : Int32) (t0_60 : Int32) (t0_71 : Int32) (t0_84 : Int32) : own_f0_84 p0 p1 p2 p3 p4 p5 t0_60 t0_71 t0_84 = (if t0_84 = t0_60 then (own_f0_94 p0 p1 p2 p3 p4 p5 t0_60 t0_71 t0_84 (1 : Int32)) else (own_f0_94 p0 p1 p2 p3 p4 p5 t0_60 t0_71 t0_84 (0 : Int32))) := rfl
def own_f0_71 (p0 : Int32) (p1 : Int32) (p2 : Int32) (p3 : Int32) (p4 : Int32) (p5 : Int32) (t0_60 : Int32) (t0_71 : Int32) : Int32 := (if (own_F4 p4 p2) = (2 : Int32) then (own_f0_84 p0 p1 p2 p3 p4 p5 t0_60 t0_71 (1 : Int32)) else (own_f0_84 p0 p1 p2 p3 p4 p5 t0_60 t0_71 (0 : Int32)))
theorem own_f0_71_eq (p0 : Int32) (p1 : Int32) (p2 : Int32) (p3 : Int32) (p4 : Int32) (p5 : Int32) (t0_60 : Int32) (t0_71 : Int32) : own_f0_71 p0 p1 p2 p3 p4 p5 t0_60 t0_71 = (if (own_F4 p4 p2) = (2 : Int32) then (own_f0_84 p0 p1 p2 p3 p4 p5 t0_60 t0_71 (1 : Int32)) else (own_f0_84 p0 p1 p2 p3 p4 p5 t0_60 t0_71 (0 : Int32))) := rfl
def own_f0_60 (p0 : Int32) (p1 : Int32) (p2 : Int32) (p3 : Int32) (p4 : Int32) (p5 : Int32) (t0_60 : Int32) : Int32 := (if (0 : Int32) < p2 then (own_f0_71 p0 p1 p2 p3 p4 p5 t0_60 (1 : Int32)) else (own_f0_71 p0 p1 p2 p3 p4 p5 t0_60 (0 : Int32)))
theorem own_f0_60_eq (p0 : Int32) (p1 : Int32) (p2 : Int32) (p3 : Int32) (p4 : Int32) (p5 : Int32) (t0_60 : Int32) : own_f0_60 p0 p1 p2 p3 p4 p5 t0_60 = (if (0 : Int32) < p2 then (own_f0_71 p0 p1 p2 p3 p4 p5 t0_60 (1 : Int32)) else (own_f0_71 p0 p1 p2 p3 p4 p5 t0_60 (0 : Int32))) := rfl
def own_F0 (p0 : Int32) (p1 : Int32) (p2 : Int32) (p3 : Int32) (p4 : Int32) (p5 : Int32) : Int32 := (if (0 : Int32) < p4 then (own_f0_60 p0 p1 p2 p3 p4 p5 (1 : Int32)) else (own_f0_60 p0 p1 p2 p3 p4 p5 (0 : Int32)))
theorem own_F0_eq (p0 : Int32) (p1 : Int32) (p2 : Int32) (p3 : Int32) (p4 : Int32) (p5 : Int32) : own_F0 p0 p1 p2 p3 p4 p5 = (if (0 : Int32) < p4 then (own_f0_60 p0 p1 p2 p3 p4 p5 (1 : Int32)) else (own_f0_60 p0 p1 p2 p3 p4 p5 (0 : Int32))) := rfl
theorem pn_0 : plainName "com/example/metakoll/metakoll/core/SummaryExitStatusPinLaw" = true := by first | (simp [plainName, overriddenIn]; done) | decide +kernel
theorem pd_0_1 : parseMethodDescriptor "(IIIII)V" = some ⟨[.int, .int, .int, .int, .int], none⟩ := by decide +kernel
theorem pd_0_2 : parseMethodDescriptor "()I" = some ⟨[], some .int⟩ := by decide +kernel
theorem ef_0 (m : MethodId) (x0 : Int32) (x1 : Int32) (x2 : Int32) (x3 : Int32) (x4 : Int32) (x5 : Int32) : entryFrame m #[(.int x0), (.int x1), (.int x2), (.int x3), (.int x4), (.int x5)] maxLocals = mkF m 0 #[.val (.int x0), .val (.int x1), .val (.int x2), .val (.int x3), .val (.int x4), .val (.int x5), .unset, .unset, .unset, .unset, .unset, .unset, .unset, .unset, .unset] [] := by first | (simp [entryFrame, mkF, argsToLocals, Value.category, maxLocals]; done) | rfl
def Q0 (Z : State) (p0 : Int32) (p1 : Int32) (p2 : Int32) (p3 : Int32) (p4 : Int32) (p5 : Int32) (h0 : Heap) (n0 : Nat) (v : Option Value) (h : Heap) (L : List Loc) : Prop := v = some (.int 1) ∧ Fr n0 L
set_option maxRecDepth 65536 in
set_option maxHeartbeats 40000000 in
theorem rm0 (l : Launch) (Z : State) (a0 : Array Value) (hw : ∀ d ∈ tables_1, d.before a0 Z = true) (ws : List Jvm.Cond) (p0 : Int32) (p1 : Int32) (p2 : Int32) (p3 : Int32) (p4 : Int32) (p5 : Int32) (h0 : Heap) (n0 : Nat) (Z0 : n0 ≤ h0.size) (hlaw : own_F0 p0 p1 p2 p3 p4 p5 = 1) :
    MetFree l x (head1 (Jvm.Cond.code x code maxLocals ret :: ws) room_1) (fun a U => a = #[(.int p0), (.int p1), (.int p2), (.int p3), (.int p4), (.int p5)] ∧ Z.Warmed39 U.vm ∧ U.heap = h0) (fun _ _ _ _ _ => True) (fun _ U o U' => ∃ v L, o = .returned v ∧ Q0 Z p0 p1 p2 p3 p4 p5 h0 n0 v U'.heap L ∧ FrameEnd U o U' L 16 128) := by
  refine MetFree.of_bodySF (plainFor_of_name pn_0) hisR ?_
  intro p e s m args below meth c s₁ Bd hml0 hP hK
  obtain ⟨rfl, hZ, hh⟩ := hP
  have hx := Bd.exec
  have hby := Bd.bytes
  have hml : c.maxLocals = 15 := hml0
  have hown : s.vm.findClass "com/example/metakoll/metakoll/core/SummaryExitStatusPinLaw" = some m.cls := findClass_of_methodNamed Bd.named
  have hnm := (name_of_methodNamed Bd.named Bd.method).1
  have X0 : Stand p l e room_1 s m #[(.int p0), (.int p1), (.int p2), (.int p3), (.int p4), (.int p5)] below meth c s₁ [] 0 0 := Stand.of_body Bd
  have e0 : s₁.heap = h0 := by rw [← hh, Bd.state]; rfl
  have N0 := Fr.nil n0
  refine own_in (ef_0 m p0 p1 p2 p3 p4 p5) ?_
  have hr0 := (own_F0_eq p0 p1 p2 p3 p4 p5).symm.trans hlaw
  obtain ⟨T45, h45, X45, e45, E45, A45, D45, -, st45⟩ := newO X0 hx hZ hown (hw _ (List.mem_of_getElem? (i := 0) rfl)) (hw _ (List.mem_of_getElem? (i := 1) rfl)) (hw _ (List.mem_of_getElem? (i := 2) rfl)) e0 (g := (mkF m 0 #[.val (.int p0), .val (.int p1), .val (.int p2), .val (.int p3), .val (.int p4), .val (.int p5), .unset, .unset, .unset, .unset, .unset, .unset, .unset, .unset, .unset] [])) rfl (hb hby at_0) (by decide) (by decide)
  obtain ⟨b0, gg45⟩ : ∃ q, q = h0.size := ⟨_, rfl⟩
  rw [← gg45] at A45 D45 st45
  have g_b0 : n0 ≤ b0 := Nat.le_trans Z0 (Nat.le_of_eq gg45.symm)
  have F45_entities : Fld Z h45 b0 "com/example/metakoll/metakoll/core/Summary" "entities" "I" (.int (0 : Int32)) := D45 (Or.inr (hw _ (List.mem_of_getElem? (i := 15) rfl))) (ty := .int) (by decide)
  have F45_files : Fld Z h45 b0 "com/example/metakoll/metakoll/core/Summary" "files" "I" (.int (0 : Int32)) := D45 (Or.inr (hw _ (List.mem_of_getElem? (i := 17) rfl))) (ty := .int) (by decide)
  have F45_errors : Fld Z h45 b0 "com/example/metakoll/metakoll/core/Summary" "errors" "I" (.int (0 : Int32)) := D45 (Or.inr (hw _ (List.mem_of_getElem? (i := 19) rfl))) (ty := .int) (by decide)
  have F45_warnings : Fld Z h45 b0 "com/example/metakoll/metakoll/core/Summary" "warnings" "I" (.int (0 : Int32)) := D45 (Or.inr (hw _ (List.mem_of_getElem? (i := 21) rfl))) (ty := .int) (by decide)
  have F45_unusable : Fld Z h45 b0 "com/example/metakoll/metakoll/core/Summary" "unusable" "I" (.int (0 : Int32)) := D45 (Or.inr (hw _ (List.mem_of_getElem? (i := 23) rfl))) (ty := .int) (by decide)
  refine own_st (g' := (mkF m 3 #[.val (.int p0), .val (.int p1), .val (.int p2), .val (.int p3), .val (.int p4), .val (.int p5), .unset, .unset, .unset, .unset, .unset, .unset, .unset, .unset, .unset] [(.ref b0)])) (fun t k => st45 t k) ?_
  refine own_st (g' := (mkF m 4 #[.val (.int p0), .val (.int p1), .val (.int p2), .val (.int p3), .val (.int p4), .val (.int p5), .unset, .unset, .unset, .unset, .unset, .unset, .unset, .unset, .unset] [(.ref b0), (.ref b0)])) (fun t k => XS.dup X45.here hx rfl (hb hby at_3) rfl rfl k) ?_
  refine own_st (g' := (mkF m 5 #[.val (.int p0), .val (.int p1), .val (.int p2), .val (.int p3), .val (.int p4), .val (.int p5), .unset, .unset, .unset, .unset, .unset, .unset, .unset, .unset, .unset] [(.int p0), (.ref b0), (.ref b0)])) (fun t k => XS.iloadN X45.here hx rfl (hb hby at_4) rfl  k) ?_
  refine own_st (g' := (mkF m 6 #[.val (.int p0), .val (.int p1), .val (.int p2), .val (.int p3), .val (.int p4), .val (.int p5), .unset, .unset, .unset, .unset, .unset, .unset, .unset, .unset, .unset] [(.int p1), (.int p0), (.ref b0), (.ref b0)])) (fun t k => XS.iloadN X45.here hx rfl (hb hby at_5) rfl  k) ?_
  refine own_st (g' := (mkF m 7 #[.val (.int p0), .val (.int p1), .val (.int p2), .val (.int p3), .val (.int p4), .val (.int p5), .unset, .unset, .unset, .unset, .unset, .unset, .unset, .unset, .unset] [(.int p2), (.int p1), (.int p0), (.ref b0), (.ref b0)])) (fun t k => XS.iloadN X45.here hx rfl (hb hby at_6) rfl  k) ?_
  refine own_st (g' := (mkF m 8 #[.val (.int p0), .val (.int p1), .val (.int p2), .val (.int p3), .val (.int p4), .val (.int p5), .unset, .unset, .unset, .unset, .unset, .unset, .unset, .unset, .unset] [(.int p3), (.int p2), (.int p1), (.int p0), (.ref b0), (.ref b0)])) (fun t k => XS.iloadN X45.here hx rfl (hb hby at_7) rfl  k) ?_
  refine own_st (g' := (mkF m 10 #[.val (.int p0), .val (.int p1), .val (.int p2), .val (.int p3), .val (.int p4), .val (.int p5), .unset, .unset, .unset, .unset, .unset, .unset, .unset, .unset, .unset] [(.int p4), (.int p3), (.int p2), (.int p1), (.int p0), (.ref b0), (.ref b0)])) (fun t k => XS.iload X45.here hx rfl (hb hby at_8) rfl  k) ?_
  have Z47 : n0 ≤ h45.size := (Nat.le_trans Z0 E45.1)
  obtain ⟨_, _, ⟨T46, L46, k46, n46⟩, -, X46, ⟨Lc46, hQ46, l46, y46, z46⟩, st46⟩ := X45.specialBack hx (y := (⟨"com/example/metakoll/metakoll/core/Summary", "<init>", "(IIIII)V"⟩ : MethodName)) rfl hown (mvT hZ (hw _ (List.mem_of_getElem? (i := 3) rfl))) (mvT hZ (hw _ (List.mem_of_getElem? (i := 4) rfl))) (mvT hZ (hw _ (List.mem_of_getElem? (i := 5) rfl))) (by decide) (backOf (W := 1) (rm1 l Z a0 hw [] b0 p0 p1 p2 p3 p4  h45 n0 Z47 A45 F45_entities F45_files F45_errors F45_warnings F45_unusable g_b0  ) hZ (hw _ (List.mem_of_getElem? (i := 5) rfl)) (hw _ (List.mem_of_getElem? (i := 2) rfl)) (by decide) (by decide)) (g := (mkF m 10 #[.val (.int p0), .val (.int p1), .val (.int p2), .val (.int p3), .val (.int p4), .val (.int p5), .unset, .unset, .unset, .unset, .unset, .unset, .unset, .unset, .unset] [(.int p4), (.int p3), (.int p2), (.int p1), (.int p0), (.ref b0), (.ref b0)])) rfl (by rw [hml]; rfl) (Steps.refl _) (a := b0) (argsL := [(.int p0), (.int p1), (.int p2), (.int p3), (.int p4)]) (rest := [(.ref b0)]) (lenOf pd_0_1 rfl) rfl (by show 2 * 0 + _ ≤ _; exact Nat.le_of_eq rfl) (hb hby at_10) (fun _ _ => ⟨rfl, e45, (by decide : 1 + 0 ≤ _), (by decide : 5 + 0 ≤ _)⟩)
  dsimp only [Pt.U, Pt.locs, Pt.cells, Pt.slots] at X46 l46 y46 z46 st46 hQ46
  subst l46 y46 z46
  obtain ⟨rfl, N46q, K46, P46_0, P46_1, P46_2, P46_3, P46_4, P46_5⟩ := hQ46
  have N46 := Fr.app N0 N46q
  refine own_st (g' := (mkF m 13 #[.val (.int p0), .val (.int p1), .val (.int p2), .val (.int p3), .val (.int p4), .val (.int p5), .unset, .unset, .unset, .unset, .unset, .unset, .unset, .unset, .unset] [(.ref b0)])) (fun t k => st46.trans k) ?_
  refine own_st (g' := (mkF m 15 #[.val (.int p0), .val (.int p1), .val (.int p2), .val (.int p3), .val (.int p4), .val (.int p5), .val (.ref b0), .unset, .unset, .unset, .unset, .unset, .unset, .unset, .unset] [])) (fun t k => XS.astore X46.here hx rfl (hb hby at_13) rfl rfl (l' := #[.val (.int p0), .val (.int p1), .val (.int p2), .val (.int p3), .val (.int p4), .val (.int p5), .val (.ref b0), .unset, .unset, .unset, .unset, .unset, .unset, .unset, .unset]) rfl k) ?_
  obtain ⟨T48, h48, X48, e48, E48, A48, D48, -, st48⟩ := newO X46 hx hZ hown (hw _ (List.mem_of_getElem? (i := 0) rfl)) (hw _ (List.mem_of_getElem? (i := 1) rfl)) (hw _ (List.mem_of_getElem? (i := 2) rfl)) (rfl : T46.heap = T46.heap) (g := (mkF m 15 #[.val (.int p0), .val (.int p1), .val (.int p2), .val (.int p3), .val (.int p4), .val (.int p5), .val (.ref b0), .unset, .unset, .unset, .unset, .unset, .unset, .unset, .unset] [])) rfl (hb hby at_15) (by decide) (by decide)
  obtain ⟨b15, gg48⟩ : ∃ q, q = T46.heap.size := ⟨_, rfl⟩
  rw [← gg48] at A48 D48 st48
  have Z49 : n0 ≤ T46.heap.size := (Nat.le_trans Z47 K46.1)
  have g_b15 : n0 ≤ b15 := Nat.le_trans Z49 (Nat.le_of_eq gg48.symm)
  have ne_b0_b15 : b0 ≠ b15 := Nat.ne_of_lt (Nat.lt_of_lt_of_le P46_0.lt (Nat.le_of_eq gg48.symm))
  have F48_entities : Fld Z h48 b15 "com/example/metakoll/metakoll/core/Summary" "entities" "I" (.int (0 : Int32)) := D48 (Or.inr (hw _ (List.mem_of_getElem? (i := 15) rfl))) (ty := .int) (by decide)
  have F48_files : Fld Z h48 b15 "com/example/metakoll/metakoll/core/Summary" "files" "I" (.int (0 : Int32)) := D48 (Or.inr (hw _ (List.mem_of_getElem? (i := 17) rfl))) (ty := .int) (by decide)
  have F48_errors : Fld Z h48 b15 "com/example/metakoll/metakoll/core/Summary" "errors" "I" (.int (0 : Int32)) := D48 (Or.inr (hw _ (List.mem_of_getElem? (i := 19) rfl))) (ty := .int) (by decide)
  have F48_warnings : Fld Z h48 b15 "com/example/metakoll/metakoll/core/Summary" "warnings" "I" (.int (0 : Int32)) := D48 (Or.inr (hw _ (List.mem_of_getElem? (i := 21) rfl))) (ty := .int) (by decide)
  have F48_unusable : Fld Z h48 b15 "com/example/metakoll/metakoll/core/Summary" "unusable" "I" (.int (0 : Int32)) := D48 (Or.inr (hw _ (List.mem_of_getElem? (i := 23) rfl))) (ty := .int) (by decide)
  refine own_st (g' := (mkF m 18 #[.val (.int p0), .val (.int p1), .val (.int p2), .val (.int p3), .val (.int p4), .val (.int p5), .val (.ref b0), .unset, .unset, .unset, .unset, .unset, .unset, .unset, .unset] [(.ref b15)])) (fun t k => st48 t k) ?_
  refine own_st (g' := (mkF m 19 #[.val (.int p0), .val (.int p1), .val (.int p2), .val (.int p3), .val (.int p4), .val (.int p5), .val (.ref b0), .unset, .unset, .unset, .unset, .unset, .unset, .unset, .unset] [(.ref b15), (.ref b15)])) (fun t k => XS.dup X48.here hx rfl (hb hby at_18) rfl rfl k) ?_
  refine own_st (g' := (mkF m 21 #[.val (.int p0), .val (.int p1), .val (.int p2), .val (.int p3), .val (.int p4), .val (.int p5), .val (.ref b0), .unset, .unset, .unset, .unset, .unset, .unset, .unset, .unset] [(.int p5), (.ref b15), (.ref b15)])) (fun t k => XS.iload X48.here hx rfl (hb hby at_19) rfl  k) ?_
  refine own_st (g' := (mkF m 22 #[.val (.int p0), .val (.int p1), .val (.int p2), .val (.int p3), .val (.int p4), .val (.int p5), .val (.ref b0), .unset, .unset, .unset, .unset, .unset, .unset, .unset, .unset] [(.int p1), (.int p5), (.ref b15), (.ref b15)])) (fun t k => XS.iloadN X48.here hx rfl (hb hby at_21) rfl  k) ?_
  refine own_st (g' := (mkF m 23 #[.val (.int p0), .val (.int p1), .val (.int p2), .val (.int p3), .val (.int p4), .val (.int p5), .val (.ref b0), .unset, .unset, .unset, .unset, .unset, .unset, .unset, .unset] [(.int (-1 : Int32)), (.int p1), (.int p5), (.ref b15), (.ref b15)])) (fun t k => XS.iconst X48.here hx rfl (hb hby at_22) k) ?_
  refine own_st (g' := (mkF m 24 #[.val (.int p0), .val (.int p1), .val (.int p2), .val (.int p3), .val (.int p4), .val (.int p5), .val (.ref b0), .unset, .unset, .unset, .unset, .unset, .unset, .unset, .unset] [(.int (p1 ^^^ (-1 : Int32))), (.int p5), (.ref b15), (.ref b15)])) (fun t k => XS.ixor X48.here hx rfl (hb hby at_23) rfl k) ?_
  refine own_st (g' := (mkF m 25 #[.val (.int p0), .val (.int p1), .val (.int p2), .val (.int p3), .val (.int p4), .val (.int p5), .val (.ref b0), .unset, .unset, .unset, .unset, .unset, .unset, .unset, .unset] [(.int p2), (.int (p1 ^^^ (-1 : Int32))), (.int p5), (.ref b15), (.ref b15)])) (fun t k => XS.iloadN X48.here hx rfl (hb hby at_24) rfl  k) ?_
  refine own_st (g' := (mkF m 26 #[.val (.int p0), .val (.int p1), .val (.int p2), .val (.int p3), .val (.int p4), .val (.int p5), .val (.ref b0), .unset, .unset, .unset, .unset, .unset, .unset, .unset, .unset] [(.int p3), (.int p2), (.int (p1 ^^^ (-1 : Int32))), (.int p5), (.ref b15), (.ref b15)])) (fun t k => XS.iloadN X48.here hx rfl (hb hby at_25) rfl  k) ?_
  refine own_st (g' := (mkF m 28 #[.val (.int p0), .val (.int p1), .val (.int p2), .val (.int p3), .val (.int p4), .val (.int p5), .val (.ref b0), .unset, .unset, .unset, .unset, .unset, .unset, .unset, .unset] [(.int p5), (.int p3), (.int p2), (.int (p1 ^^^ (-1 : Int32))), (.int p5), (.ref b15), (.ref b15)])) (fun t k => XS.iload X48.here hx rfl (hb hby at_26) rfl  k) ?_
  refine own_st (g' := (mkF m 29 #[.val (.int p0), .val (.int p1), .val (.int p2), .val (.int p3), .val (.int p4), .val (.int p5), .val (.ref b0), .unset, .unset, .unset, .unset, .unset, .unset, .unset, .unset] [(.int (p3 ^^^ p5)), (.int p2), (.int (p1 ^^^ (-1 : Int32))), (.int p5), (.ref b15), (.ref b15)])) (fun t k => XS.ixor X48.here hx rfl (hb hby at_28) rfl k) ?_
  refine own_st (g' := (mkF m 31 #[.val (.int p0), .val (.int p1), .val (.int p2), .val (.int p3), .val (.int p4), .val (.int p5), .val (.ref b0), .unset, .unset, .unset, .unset, .unset, .unset, .unset, .unset] [(.int p4), (.int (p3 ^^^ p5)), (.int p2), (.int (p1 ^^^ (-1 : Int32))), (.int p5), (.ref b15), (.ref b15)])) (fun t k => XS.iload X48.here hx rfl (hb hby at_29) rfl  k) ?_
  have Z51 : n0 ≤ h48.size := (Nat.le_trans Z49 E48.1)
  obtain ⟨_, _, ⟨T50, L50, k50, n50⟩, -, X50, ⟨Lc50, hQ50, l50, y50, z50⟩, st50⟩ := X48.specialBack hx (y := (⟨"com/example/metakoll/metakoll/core/Summary", "<init>", "(IIIII)V"⟩ : MethodName)) rfl hown (mvT hZ (hw _ (List.mem_of_getElem? (i := 3) rfl))) (mvT hZ (hw _ (List.mem_of_getElem? (i := 4) rfl))) (mvT hZ (hw _ (List.mem_of_getElem? (i := 5) rfl))) (by decide) (backOf (W := 1) (rm1 l Z a0 hw [] b15 p5 (p1 ^^^ (-1 : Int32)) p2 (p3 ^^^ p5) p4  h48 n0 Z51 A48 F48_entities F48_files F48_errors F48_warnings F48_unusable g_b15  ) hZ (hw _ (List.mem_of_getElem? (i := 5) rfl)) (hw _ (List.mem_of_getElem? (i := 2) rfl)) (by decide) (by decide)) (g := (mkF m 31 #[.val (.int p0), .val (.int p1), .val (.int p2), .val (.int p3), .val (.int p4), .val (.int p5), .val (.ref b0), .unset, .unset, .unset, .unset, .unset, .unset, .unset, .unset] [(.int p4), (.int (p3 ^^^ p5)), (.int p2), (.int (p1 ^^^ (-1 : Int32))), (.int p5), (.ref b15), (.ref b15)])) rfl (by rw [hml]; rfl) (Steps.refl _) (a := b15) (argsL := [(.int p5), (.int (p1 ^^^ (-1 : Int32))), (.int p2), (.int (p3 ^^^ p5)), (.int p4)]) (rest := [(.ref b15)]) (lenOf pd_0_1 rfl) rfl (by show 2 * 0 + _ ≤ _; exact Nat.le_of_eq rfl) (hb hby at_31) (fun _ _ => ⟨rfl, e48, (by decide : 2 + 0 ≤ _), (by decide : 10 + 0 ≤ _)⟩)
  dsimp only [Pt.U, Pt.locs, Pt.cells, Pt.slots] at X50 l50 y50 z50 st50 hQ50
  subst l50 y50 z50
  obtain ⟨rfl, N50q, K50, P50_0, P50_1, P50_2, P50_3, P50_4, P50_5⟩ := hQ50
  have N50 := Fr.app N46 N50q
  refine own_st (g' := (mkF m 34 #[.val (.int p0), .val (.int p1), .val (.int p2), .val (.int p3), .val (.int p4), .val (.int p5), .val (.ref b0), .unset, .unset, .unset, .unset, .unset, .unset, .unset, .unset] [(.ref b15)])) (fun t k => st50.trans k) ?_
  refine own_st (g' := (mkF m 36 #[.val (.int p0), .val (.int p1), .val (.int p2), .val (.int p3), .val (.int p4), .val (.int p5), .val (.ref b0), .val (.ref b15), .unset, .unset, .unset, .unset, .unset, .unset, .unset] [])) (fun t k => XS.astore X50.here hx rfl (hb hby at_34) rfl rfl (l' := #[.val (.int p0), .val (.int p1), .val (.int p2), .val (.int p3), .val (.int p4), .val (.int p5), .val (.ref b0), .val (.ref b15), .unset, .unset, .unset, .unset, .unset, .unset, .unset]) rfl k) ?_
  refine own_st (g' := (mkF m 38 #[.val (.int p0), .val (.int p1), .val (.int p2), .val (.int p3), .val (.int p4), .val (.int p5), .val (.ref b0), .val (.ref b15), .unset, .unset, .unset, .unset, .unset, .unset, .unset] [(.ref b0)])) (fun t k => XS.aload X50.here hx rfl (hb hby at_36) rfl rfl k) ?_
  have f53 := ((P46_5.ext E48).keep K50 (ninS ne_b0_b15 nin0))
  have f54 := ((P46_3.ext E48).keep K50 (ninS ne_b0_b15 nin0))
  have Z55 : n0 ≤ T50.heap.size := (Nat.le_trans Z51 K50.1)
  have f56 := ((P46_0.ext E48).keep K50)
  obtain ⟨cq52, kq52, q52a, q52b, q52c⟩ := isOf hZ (rfl : T50.heap = T50.heap) f56
  obtain ⟨_, _, ⟨T52, L52, k52, n52⟩, -, X52, ⟨Lc52, hQ52, l52, y52, z52⟩, st52⟩ := X50.virtualBack hx (y := (⟨"com/example/metakoll/metakoll/core/Summary", "exitStatus", "()I"⟩ : MethodName)) (z := (⟨"com/example/metakoll/metakoll/core/Summary", "exitStatus", "()I"⟩ : MethodName)) hown (mvT hZ (hw _ (List.mem_of_getElem? (i := 24) rfl))) (mvT hZ (hw _ (List.mem_of_getElem? (i := 25) rfl))) (notFace_of_selects (args := #[]) (mvT hZ (hw _ (List.mem_of_getElem? (i := 27) rfl)))) (mvT hZ (hw _ (List.mem_of_getElem? (i := 27) rfl))) (mvT hZ (hw _ (List.mem_of_getElem? (i := 26) rfl))) (by decide) (backOf (W := 0) (rm4 l Z a0 hw [] b0 p4 p2 T50.heap n0 Z55 f53 f54 ) hZ (hw _ (List.mem_of_getElem? (i := 28) rfl)) (hw _ (List.mem_of_getElem? (i := 2) rfl)) (by decide) (by decide)) q52a q52c (g := (mkF m 38 #[.val (.int p0), .val (.int p1), .val (.int p2), .val (.int p3), .val (.int p4), .val (.int p5), .val (.ref b0), .val (.ref b15), .unset, .unset, .unset, .unset, .unset, .unset, .unset] [(.ref b0)])) rfl (by rw [hml]; rfl) (Steps.refl _) (argsL := []) (rest := []) (lenOf pd_0_2 rfl) rfl (by show 2 * 0 + _ ≤ _; exact Nat.le_of_eq rfl) (hb hby at_38) (fun _ _ => ⟨rfl, (rfl : T50.heap = T50.heap), (by decide : 2 + 0 ≤ _), (by decide : 10 + 0 ≤ _)⟩)
  dsimp only [Pt.U, Pt.locs, Pt.cells, Pt.slots] at X52 l52 y52 z52 st52 hQ52
  subst l52 y52 z52
  obtain ⟨rfl, N52q, e52⟩ := hQ52
  have N52 := Fr.app N50 N52q
  refine own_st (g' := (mkF m 41 #[.val (.int p0), .val (.int p1), .val (.int p2), .val (.int p3), .val (.int p4), .val (.int p5), .val (.ref b0), .val (.ref b15), .unset, .unset, .unset, .unset, .unset, .unset, .unset] [(.int (own_F4 p4 p2))])) (fun t k => st52.trans k) ?_
  refine own_st (g' := (mkF m 43 #[.val (.int p0), .val (.int p1), .val (.int p2), .val (.int p3), .val (.int p4), .val (.int p5), .val (.ref b0), .val (.ref b15), .val (.int (own_F4 p4 p2)), .unset, .unset, .unset, .unset, .unset, .unset] [])) (fun t k => XS.istore X52.here hx rfl (hb hby at_41) rfl (l' := #[.val (.int p0), .val (.int p1), .val (.int p2), .val (.int p3), .val (.int p4), .val (.int p5), .val (.ref b0), .val (.ref b15), .val (.int (own_F4 p4 p2)), .unset, .unset, .unset, .unset, .unset, .unset]) rfl k) ?_
  refine own_st (g' := (mkF m 45 #[.val (.int p0), .val (.int p1), .val (.int p2), .val (.int p3), .val (.int p4), .val (.int p5), .val (.ref b0), .val (.ref b15), .val (.int (own_F4 p4 p2)), .unset, .unset, .unset, .unset, .unset, .unset] [(.ref b15)])) (fun t k => XS.aload X52.here hx rfl (hb hby at_43) rfl rfl k) ?_
  obtain ⟨cq57, kq57, q57a, q57b, q57c⟩ := isOf hZ e52 P50_0
  obtain ⟨_, _, ⟨T57, L57, k57, n57⟩, -, X57, ⟨Lc57, hQ57, l57, y57, z57⟩, st57⟩ := X52.virtualBack hx (y := (⟨"com/example/metakoll/metakoll/core/Summary", "exitStatus", "()I"⟩ : MethodName)) (z := (⟨"com/example/metakoll/metakoll/core/Summary", "exitStatus", "()I"⟩ : MethodName)) hown (mvT hZ (hw _ (List.mem_of_getElem? (i := 24) rfl))) (mvT hZ (hw _ (List.mem_of_getElem? (i := 25) rfl))) (notFace_of_selects (args := #[]) (mvT hZ (hw _ (List.mem_of_getElem? (i := 27) rfl)))) (mvT hZ (hw _ (List.mem_of_getElem? (i := 27) rfl))) (mvT hZ (hw _ (List.mem_of_getElem? (i := 26) rfl))) (by decide) (backOf (W := 0) (rm4 l Z a0 hw [] b15 p4 p2 T50.heap n0 Z55 P50_5 P50_3 ) hZ (hw _ (List.mem_of_getElem? (i := 28) rfl)) (hw _ (List.mem_of_getElem? (i := 2) rfl)) (by decide) (by decide)) q57a q57c (g := (mkF m 45 #[.val (.int p0), .val (.int p1), .val (.int p2), .val (.int p3), .val (.int p4), .val (.int p5), .val (.ref b0), .val (.ref b15), .val (.int (own_F4 p4 p2)), .unset, .unset, .unset, .unset, .unset, .unset] [(.ref b15)])) rfl (by rw [hml]; rfl) (Steps.refl _) (argsL := []) (rest := []) (lenOf pd_0_2 rfl) rfl (by show 2 * 0 + _ ≤ _; exact Nat.le_of_eq rfl) (hb hby at_45) (fun _ _ => ⟨rfl, e52, (by decide : 2 + 0 ≤ _), (by decide : 10 + 0 ≤ _)⟩)
  dsimp only [Pt.U, Pt.locs, Pt.cells, Pt.slots] at X57 l57 y57 z57 st57 hQ57
  subst l57 y57 z57
  obtain ⟨rfl, N57q, e57⟩ := hQ57
  have N57 := Fr.app N52 N57q
  refine own_st (g' := (mkF m 48 #[.val (.int p0), .val (.int p1), .val (.int p2), .val (.int p3), .val (.int p4), .val (.int p5), .val (.ref b0), .val (.ref b15), .val (.int (own_F4 p4 p2)), .unset, .unset, .unset, .unset, .unset, .unset] [(.int (own_F4 p4 p2))])) (fun t k => st57.trans k) ?_
  refine own_st (g' := (mkF m 50 #[.val (.int p0), .val (.int p1), .val (.int p2), .val (.int p3), .val (.int p4), .val (.int p5), .val (.ref b0), .val (.ref b15), .val (.int (own_F4 p4 p2)), .val (.int (own_F4 p4 p2)), .unset, .unset, .unset, .unset, .unset] [])) (fun t k => XS.istore X57.here hx rfl (hb hby at_48) rfl (l' := #[.val (.int p0), .val (.int p1), .val (.int p2), .val (.int p3), .val (.int p4), .val (.int p5), .val (.ref b0), .val (.ref b15), .val (.int (own_F4 p4 p2)), .val (.int (own_F4 p4 p2)), .unset, .unset, .unset, .unset, .unset]) rfl k) ?_
  refine own_st (g' := (mkF m 52 #[.val (.int p0), .val (.int p1), .val (.int p2), .val (.int p3), .val (.int p4), .val (.int p5), .val (.ref b0), .val (.ref b15), .val (.int (own_F4 p4 p2)), .val (.int (own_F4 p4 p2)), .unset, .unset, .unset, .unset, .unset] [(.int p4)])) (fun t k => XS.iload X57.here hx rfl (hb hby at_50) rfl  k) ?_
  have f58 := ((P46_1.ext E48).keep K50 (ninS ne_b0_b15 nin0))
  have f59 := ((P46_2.ext E48).keep K50 (ninS ne_b0_b15 nin0))
  have f60 := ((P46_4.ext E48).keep K50 (ninS ne_b0_b15 nin0))
  have J60 : ∀ (T : State) (locs : List Loc) (t0_60 : Int32), Stand p l e room_1 s m #[(.int p0), (.int p1), (.int p2), (.int p3), (.int p4), (.int p5)] below meth c T locs 2 10 → T.heap = T50.heap → Fr n0 locs → own_f0_60 p0 p1 p2 p3 p4 p5 t0_60 = (1 : Int32) → own_Fin p e below s 16 128 (Q0 Z p0 p1 p2 p3 p4 p5 h0 n0) T (mkF m 60 #[.val (.int p0), .val (.int p1), .val (.int p2), .val (.int p3), .val (.int p4), .val (.int p5), .val (.ref b0), .val (.ref b15), .val (.int (own_F4 p4 p2)), .val (.int (own_F4 p4 p2)), .unset, .unset, .unset, .unset, .unset] [(.int t0_60)]) := by
    intro T61 locs61 t0_60  X61 e61 N61 hr61
    have hr61a := (own_f0_60_eq (p0) (p1) (p2) (p3) (p4) (p5) (t0_60)).symm.trans hr61
    refine own_st (g' := (mkF m 62 #[.val (.int p0), .val (.int p1), .val (.int p2), .val (.int p3), .val (.int p4), .val (.int p5), .val (.ref b0), .val (.ref b15), .val (.int (own_F4 p4 p2)), .val (.int (own_F4 p4 p2)), .val (.int t0_60), .unset, .unset, .unset, .unset] [])) (fun t k => XS.istore X61.here hx rfl (hb hby at_60) rfl (l' := #[.val (.int p0), .val (.int p1), .val (.int p2), .val (.int p3), .val (.int p4), .val (.int p5), .val (.ref b0), .val (.ref b15), .val (.int (own_F4 p4 p2)), .val (.int (own_F4 p4 p2)), .val (.int t0_60), .unset, .unset, .unset, .unset]) rfl k) ?_
    refine own_st (g' := (mkF m 63 #[.val (.int p0), .val (.int p1), .val (.int p2), .val (.int p3), .val (.int p4), .val (.int p5), .val (.ref b0), .val (.ref b15), .val (.int (own_F4 p4 p2)), .val (.int (own_F4 p4 p2)), .val (.int t0_60), .unset, .unset, .unset, .unset] [(.int p2)])) (fun t k => XS.iloadN X61.here hx rfl (hb hby at_62) rfl  k) ?_
    have J71 : ∀ (T : State) (locs : List Loc) (t0_71 : Int32), Stand p l e room_1 s m #[(.int p0), (.int p1), (.int p2), (.int p3), (.int p4), (.int p5)] below meth c T locs 2 10 → T.heap = T50.heap → Fr n0 locs → own_f0_71 p0 p1 p2 p3 p4 p5 t0_60 t0_71 = (1 : Int32) → own_Fin p e below s 16 128 (Q0 Z p0 p1 p2 p3 p4 p5 h0 n0) T (mkF m 71 #[.val (.int p0), .val (.int p1), .val (.int p2), .val (.int p3), .val (.int p4), .val (.int p5), .val (.ref b0), .val (.ref b15), .val (.int (own_F4 p4 p2)), .val (.int (own_F4 p4 p2)), .val (.int t0_60), .unset, .unset, .unset, .unset] [(.int t0_71)]) := by
      intro T62 locs62 t0_71  X62 e62 N62 hr62
      have hr62a := (own_f0_71_eq (p0) (p1) (p2) (p3) (p4) (p5) (t0_60) (t0_71)).symm.trans hr62
      refine own_st (g' := (mkF m 73 #[.val (.int p0), .val (.int p1), .val (.int p2), .val (.int p3), .val (.int p4), .val (.int p5), .val (.ref b0), .val (.ref b15), .val (.int (own_F4 p4 p2)), .val (.int (own_F4 p4 p2)), .val (.int t0_60), .val (.int t0_71), .unset, .unset, .unset] [])) (fun t k => XS.istore X62.here hx rfl (hb hby at_71) rfl (l' := #[.val (.int p0), .val (.int p1), .val (.int p2), .val (.int p3), .val (.int p4), .val (.int p5), .val (.ref b0), .val (.ref b15), .val (.int (own_F4 p4 p2)), .val (.int (own_F4 p4 p2)), .val (.int t0_60), .val (.int t0_71), .unset, .unset, .unset]) rfl k) ?_
      refine own_st (g' := (mkF m 75 #[.val (.int p0), .val (.int p1), .val (.int p2), .val (.int p3), .val (.int p4), .val (.int p5), .val (.ref b0), .val (.ref b15), .val (.int (own_F4 p4 p2)), .val (.int (own_F4 p4 p2)), .val (.int t0_60), .val (.int t0_71), .unset, .unset, .unset] [(.int (own_F4 p4 p2))])) (fun t k => XS.iload X62.here hx rfl (hb hby at_73) rfl  k) ?_
      refine own_st (g' := (mkF m 76 #[.val (.int p0), .val (.int p1), .val (.int p2), .val (.int p3), .val (.int p4), .val (.int p5), .val (.ref b0), .val (.ref b15), .val (.int (own_F4 p4 p2)), .val (.int (own_F4 p4 p2)), .val (.int t0_60), .val (.int t0_71), .unset, .unset, .unset] [(.int (2 : Int32)), (.int (own_F4 p4 p2))])) (fun t k => XS.iconst X62.here hx rfl (hb hby at_75) k) ?_
      have J84 : ∀ (T : State) (locs : List Loc) (t0_84 : Int32), Stand p l e room_1 s m #[(.int p0), (.int p1), (.int p2), (.int p3), (.int p4), (.int p5)] below meth c T locs 2 10 → T.heap = T50.heap → Fr n0 locs → own_f0_84 p0 p1 p2 p3 p4 p5 t0_60 t0_71 t0_84 = (1 : Int32) → own_Fin p e below s 16 128 (Q0 Z p0 p1 p2 p3 p4 p5 h0 n0) T (mkF m 84 #[.val (.int p0), .val (.int p1), .val (.int p2), .val (.int p3), .val (.int p4), .val (.int p5), .val (.ref b0), .val (.ref b15), .val (.int (own_F4 p4 p2)), .val (.int (own_F4 p4 p2)), .val (.int t0_60), .val (.int t0_71), .unset, .unset, .unset] [(.int t0_84)]) := by
        intro T63 locs63 t0_84  X63 e63 N63 hr63
        have hr63a := (own_f0_84_eq (p0) (p1) (p2) (p3) (p4) (p5) (t0_60) (t0_71) (t0_84)).symm.trans hr63
        refine own_st (g' := (mkF m 86 #[.val (.int p0), .val (.int p1), .val (.int p2), .val (.int p3), .val (.int p4), .val (.int p5), .val (.ref b0), .val (.ref b15), .val (.int (own_F4 p4 p2)), .val (.int (own_F4 p4 p2)), .val (.int t0_60), .val (.int t0_71), .unset, .unset, .unset] [(.int t0_60), (.int t0_84)])) (fun t k => XS.iload X63.here hx rfl (hb hby at_84) rfl  k) ?_
        have J94 : ∀ (T : State) (locs : List Loc) (t0_94 : Int32), Stand p l e room_1 s m #[(.int p0), (.int p1), (.int p2), (.int p3), (.int p4), (.int p5)] below meth c T locs 2 10 → T.heap = T50.heap → Fr n0 locs → own_f0_94 p0 p1 p2 p3 p4 p5 t0_60 t0_71 t0_84 t0_94 = (1 : Int32) → own_Fin p e below s 16 128 (Q0 Z p0 p1 p2 p3 p4 p5 h0 n0) T (mkF m 94 #[.val (.int p0), .val (.int p1), .val (.int p2), .val (.int p3), .val (.int p4), .val (.int p5), .val (.ref b0), .val (.ref b15), .val (.int (own_F4 p4 p2)), .val (.int (own_F4 p4 p2)), .val (.int t0_60), .val (.int t0_71), .unset, .unset, .unset] [(.int t0_94)]) := by
          intro T64 locs64 t0_94  X64 e64 N64 hr64
          have hr64a := (own_f0_94_eq (p0) (p1) (p2) (p3) (p4) (p5) (t0_60) (t0_71) (t0_84) (t0_94)).symm.trans hr64
          refine own_st (g' := (mkF m 96 #[.val (.int p0), .val (.int p1), .val (.int p2), .val (.int p3), .val (.int p4), .val (.int p5), .val (.ref b0), .val (.ref b15), .val (.int (own_F4 p4 p2)), .val (.int (own_F4 p4 p2)), .val (.int t0_60), .val (.int t0_71), .val (.int t0_94), .unset, .unset] [])) (fun t k => XS.istore X64.here hx rfl (hb hby at_94) rfl (l' := #[.val (.int p0), .val (.int p1), .val (.int p2), .val (.int p3), .val (.int p4), .val (.int p5), .val (.ref b0), .val (.ref b15), .val (.int (own_F4 p4 p2)), .val (.int (own_F4 p4 p2)), .val (.int t0_60), .val (.int t0_71), .val (.int t0_94), .unset, .unset]) rfl k) ?_
          refine own_st (g' := (mkF m 98 #[.val (.int p0), .val (.int p1), .val (.int p2), .val (.int p3), .val (.int p4), .val (.int p5), .val (.ref b0), .val (.ref b15), .val (.int (own_F4 p4 p2)), .val (.int (own_F4 p4 p2)), .val (.int t0_60), .val (.int t0_71), .val (.int t0_94), .unset, .unset] [(.int (own_F4 p4 p2))])) (fun t k => XS.iload X64.here hx rfl (hb hby at_96) rfl  k) ?_
          refine own_st (g' := (mkF m 99 #[.val (.int p0), .val (.int p1), .val (.int p2), .val (.int p3), .val (.int p4), .val (.int p5), .val (.ref b0), .val (.ref b15), .val (.int (own_F4 p4 p2)), .val (.int (own_F4 p4 p2)), .val (.int t0_60), .val (.int t0_71), .val (.int t0_94), .unset, .unset] [(.int (1 : Int32)), (.int (own_F4 p4 p2))])) (fun t k => XS.iconst X64.here hx rfl (hb hby at_98) k) ?_
          have J107 : ∀ (T : State) (locs : List Loc) (t0_107 : Int32), Stand p l e room_1 s m #[(.int p0), (.int p1), (.int p2), (.int p3), (.int p4), (.int p5)] below meth c T locs 2 10 → T.heap = T50.heap → Fr n0 locs → own_f0_107 p0 p1 p2 p3 p4 p5 t0_60 t0_71 t0_84 t0_94 t0_107 = (1 : Int32) → own_Fin p e below s 16 128 (Q0 Z p0 p1 p2 p3 p4 p5 h0 n0) T (mkF m 107 #[.val (.int p0), .val (.int p1), .val (.int p2), .val (.int p3), .val (.int p4), .val (.int p5), .val (.ref b0), .val (.ref b15), .val (.int (own_F4 p4 p2)), .val (.int (own_F4 p4 p2)), .val (.int t0_60), .val (.int t0_71), .val (.int t0_94), .unset, .unset] [(.int t0_107)]) := by
            intro T65 locs65 t0_107  X65 e65 N65 hr65
            have hr65a := (own_f0_107_eq (p0) (p1) (p2) (p3) (p4) (p5) (t0_60) (t0_71) (t0_84) (t0_94) (t0_107)).symm.trans hr65
            refine own_st (g' := (mkF m 109 #[.val (.int p0), .val (.int p1), .val (.int p2), .val (.int p3), .val (.int p4), .val (.int p5), .val (.ref b0), .val (.ref b15), .val (.int (own_F4 p4 p2)), .val (.int (own_F4 p4 p2)), .val (.int t0_60), .val (.int t0_71), .val (.int t0_94), .unset, .unset] [(.int t0_60), (.int t0_107)])) (fun t k => XS.iload X65.here hx rfl (hb hby at_107) rfl  k) ?_
            have J122 : ∀ (T : State) (locs : List Loc) (t0_122 : Int32) (t1_122 : Int32), Stand p l e room_1 s m #[(.int p0), (.int p1), (.int p2), (.int p3), (.int p4), (.int p5)] below meth c T locs 2 10 → T.heap = T50.heap → Fr n0 locs → own_f0_122 p0 p1 p2 p3 p4 p5 t0_60 t0_71 t0_84 t0_94 t0_107 t0_122 t1_122 = (1 : Int32) → own_Fin p e below s 16 128 (Q0 Z p0 p1 p2 p3 p4 p5 h0 n0) T (mkF m 122 #[.val (.int p0), .val (.int p1), .val (.int p2), .val (.int p3), .val (.int p4), .val (.int p5), .val (.ref b0), .val (.ref b15), .val (.int (own_F4 p4 p2)), .val (.int (own_F4 p4 p2)), .val (.int t0_60), .val (.int t0_71), .val (.int t0_94), .unset, .unset] [(.int t0_122), (.int t1_122)]) := by
              intro T66 locs66 t0_122 t1_122  X66 e66 N66 hr66
              have hr66a := (own_f0_122_eq (p0) (p1) (p2) (p3) (p4) (p5) (t0_60) (t0_71) (t0_84) (t0_94) (t0_107) (t0_122) (t1_122)).symm.trans hr66
              have J130 : ∀ (T : State) (locs : List Loc) (t0_130 : Int32), Stand p l e room_1 s m #[(.int p0), (.int p1), (.int p2), (.int p3), (.int p4), (.int p5)] below meth c T locs 2 10 → T.heap = T50.heap → Fr n0 locs → own_f0_130 p0 p1 p2 p3 p4 p5 t0_60 t0_71 t0_84 t0_94 t0_107 t0_122 t1_122 t0_130 = (1 : Int32) → own_Fin p e below s 16 128 (Q0 Z p0 p1 p2 p3 p4 p5 h0 n0) T (mkF m 130 #[.val (.int p0), .val (.int p1), .val (.int p2), .val (.int p3), .val (.int p4), .val (.int p5), .val (.ref b0), .val (.ref b15), .val (.int (own_F4 p4 p2)), .val (.int (own_F4 p4 p2)), .val (.int t0_60), .val (.int t0_71), .val (.int t0_94), .unset, .unset] [(.int t0_130)]) := by
                intro T67 locs67 t0_130  X67 e67 N67 hr67
                have hr67a := (own_f0_130_eq (p0) (p1) (p2) (p3) (p4) (p5) (t0_60) (t0_71) (t0_84) (t0_94) (t0_107) (t0_122) (t1_122) (t0_130)).symm.trans hr67
                refine own_st (g' := (mkF m 132 #[.val (.int p0), .val (.int p1), .val (.int p2), .val (.int p3), .val (.int p4), .val (.int p5), .val (.ref b0), .val (.ref b15), .val (.int (own_F4 p4 p2)), .val (.int (own_F4 p4 p2)), .val (.int t0_60), .val (.int t0_71), .val (.int t0_94), .val (.int t0_130), .unset] [])) (fun t k => XS.istore X67.here hx rfl (hb hby at_130) rfl (l' := #[.val (.int p0), .val (.int p1), .val (.int p2), .val (.int p3), .val (.int p4), .val (.int p5), .val (.ref b0), .val (.ref b15), .val (.int (own_F4 p4 p2)), .val (.int (own_F4 p4 p2)), .val (.int t0_60), .val (.int t0_71), .val (.int t0_94), .val (.int t0_130), .unset]) rfl k) ?_
                refine own_st (g' := (mkF m 134 #[.val (.int p0), .val (.int p1), .val (.int p2), .val (.int p3), .val (.int p4), .val (.int p5), .val (.ref b0), .val (.ref b15), .val (.int (own_F4 p4 p2)), .val (.int (own_F4 p4 p2)), .val (.int t0_60), .val (.int t0_71), .val (.int t0_94), .val (.int t0_130), .unset] [(.int (own_F4 p4 p2))])) (fun t k => XS.iload X67.here hx rfl (hb hby at_132) rfl  k) ?_
                have J142 : ∀ (T : State) (locs : List Loc) (t0_142 : Int32), Stand p l e room_1 s m #[(.int p0), (.int p1), (.int p2), (.int p3), (.int p4), (.int p5)] below meth c T locs 2 10 → T.heap = T50.heap → Fr n0 locs → own_f0_142 p0 p1 p2 p3 p4 p5 t0_60 t0_71 t0_84 t0_94 t0_107 t0_122 t1_122 t0_130 t0_142 = (1 : Int32) → own_Fin p e below s 16 128 (Q0 Z p0 p1 p2 p3 p4 p5 h0 n0) T (mkF m 142 #[.val (.int p0), .val (.int p1), .val (.int p2), .val (.int p3), .val (.int p4), .val (.int p5), .val (.ref b0), .val (.ref b15), .val (.int (own_F4 p4 p2)), .val (.int (own_F4 p4 p2)), .val (.int t0_60), .val (.int t0_71), .val (.int t0_94), .val (.int t0_130), .unset] [(.int t0_142)]) := by
                  intro T68 locs68 t0_142  X68 e68 N68 hr68
                  have hr68a := (own_f0_142_eq (p0) (p1) (p2) (p3) (p4) (p5) (t0_60) (t0_71) (t0_84) (t0_94) (t0_107) (t0_122) (t1_122) (t0_130) (t0_142)).symm.trans hr68
                  refine own_st (g' := (mkF m 144 #[.val (.int p0), .val (.int p1), .val (.int p2), .val (.int p3), .val (.int p4), .val (.int p5), .val (.ref b0), .val (.ref b15), .val (.int (own_F4 p4 p2)), .val (.int (own_F4 p4 p2)), .val (.int t0_60), .val (.int t0_71), .val (.int t0_94), .val (.int t0_130), .unset] [(.int t0_60), (.int t0_142)])) (fun t k => XS.iload X68.here hx rfl (hb hby at_142) rfl  k) ?_
                  have J157 : ∀ (T : State) (locs : List Loc) (t0_157 : Int32) (t1_157 : Int32), Stand p l e room_1 s m #[(.int p0), (.int p1), (.int p2), (.int p3), (.int p4), (.int p5)] below meth c T locs 2 10 → T.heap = T50.heap → Fr n0 locs → own_f0_157 p0 p1 p2 p3 p4 p5 t0_60 t0_71 t0_84 t0_94 t0_107 t0_122 t1_122 t0_130 t0_142 t0_157 t1_157 = (1 : Int32) → own_Fin p e below s 16 128 (Q0 Z p0 p1 p2 p3 p4 p5 h0 n0) T (mkF m 157 #[.val (.int p0), .val (.int p1), .val (.int p2), .val (.int p3), .val (.int p4), .val (.int p5), .val (.ref b0), .val (.ref b15), .val (.int (own_F4 p4 p2)), .val (.int (own_F4 p4 p2)), .val (.int t0_60), .val (.int t0_71), .val (.int t0_94), .val (.int t0_130), .unset] [(.int t0_157), (.int t1_157)]) := by
                    intro T69 locs69 t0_157 t1_157  X69 e69 N69 hr69
                    have hr69a := (own_f0_157_eq (p0) (p1) (p2) (p3) (p4) (p5) (t0_60) (t0_71) (t0_84) (t0_94) (t0_107) (t0_122) (t1_122) (t0_130) (t0_142) (t0_157) (t1_157)).symm.trans hr69
                    have J165 : ∀ (T : State) (locs : List Loc) (t0_165 : Int32), Stand p l e room_1 s m #[(.int p0), (.int p1), (.int p2), (.int p3), (.int p4), (.int p5)] below meth c T locs 2 10 → T.heap = T50.heap → Fr n0 locs → own_f0_165 p0 p1 p2 p3 p4 p5 t0_60 t0_71 t0_84 t0_94 t0_107 t0_122 t1_122 t0_130 t0_142 t0_157 t1_157 t0_165 = (1 : Int32) → own_Fin p e below s 16 128 (Q0 Z p0 p1 p2 p3 p4 p5 h0 n0) T (mkF m 165 #[.val (.int p0), .val (.int p1), .val (.int p2), .val (.int p3), .val (.int p4), .val (.int p5), .val (.ref b0), .val (.ref b15), .val (.int (own_F4 p4 p2)), .val (.int (own_F4 p4 p2)), .val (.int t0_60), .val (.int t0_71), .val (.int t0_94), .val (.int t0_130), .unset] [(.int t0_165)]) := by
                      intro T70 locs70 t0_165  X70 e70 N70 hr70
                      have hr70a := (own_f0_165_eq (p0) (p1) (p2) (p3) (p4) (p5) (t0_60) (t0_71) (t0_84) (t0_94) (t0_107) (t0_122) (t1_122) (t0_130) (t0_142) (t0_157) (t1_157) (t0_165)).symm.trans hr70
                      refine own_st (g' := (mkF m 167 #[.val (.int p0), .val (.int p1), .val (.int p2), .val (.int p3), .val (.int p4), .val (.int p5), .val (.ref b0), .val (.ref b15), .val (.int (own_F4 p4 p2)), .val (.int (own_F4 p4 p2)), .val (.int t0_60), .val (.int t0_71), .val (.int t0_94), .val (.int t0_130), .val (.int t0_165)] [])) (fun t k => XS.istore X70.here hx rfl (hb hby at_165) rfl (l' := #[.val (.int p0), .val (.int p1), .val (.int p2), .val (.int p3), .val (.int p4), .val (.int p5), .val (.ref b0), .val (.ref b15), .val (.int (own_F4 p4 p2)), .val (.int (own_F4 p4 p2)), .val (.int t0_60), .val (.int t0_71), .val (.int t0_94), .val (.int t0_130), .val (.int t0_165)]) rfl k) ?_
                      refine own_st (g' := (mkF m 169 #[.val (.int p0), .val (.int p1), .val (.int p2), .val (.int p3), .val (.int p4), .val (.int p5), .val (.ref b0), .val (.ref b15), .val (.int (own_F4 p4 p2)), .val (.int (own_F4 p4 p2)), .val (.int t0_60), .val (.int t0_71), .val (.int t0_94), .val (.int t0_130), .val (.int t0_165)] [(.int (own_F4 p4 p2))])) (fun t k => XS.iload X70.here hx rfl (hb hby at_167) rfl  k) ?_
                      refine own_st (g' := (mkF m 171 #[.val (.int p0), .val (.int p1), .val (.int p2), .val (.int p3), .val (.int p4), .val (.int p5), .val (.ref b0), .val (.ref b15), .val (.int (own_F4 p4 p2)), .val (.int (own_F4 p4 p2)), .val (.int t0_60), .val (.int t0_71), .val (.int t0_94), .val (.int t0_130), .val (.int t0_165)] [(.int (own_F4 p4 p2)), (.int (own_F4 p4 p2))])) (fun t k => XS.iload X70.here hx rfl (hb hby at_169) rfl  k) ?_
                      have J194 : ∀ (T : State) (locs : List Loc) (t0_194 : Int32), Stand p l e room_1 s m #[(.int p0), (.int p1), (.int p2), (.int p3), (.int p4), (.int p5)] below meth c T locs 2 10 → T.heap = T50.heap → Fr n0 locs → own_f0_194 p0 p1 p2 p3 p4 p5 t0_60 t0_71 t0_84 t0_94 t0_107 t0_122 t1_122 t0_130 t0_142 t0_157 t1_157 t0_165 t0_194 = (1 : Int32) → own_Fin p e below s 16 128 (Q0 Z p0 p1 p2 p3 p4 p5 h0 n0) T (mkF m 194 #[.val (.int p0), .val (.int p1), .val (.int p2), .val (.int p3), .val (.int p4), .val (.int p5), .val (.ref b0), .val (.ref b15), .val (.int (own_F4 p4 p2)), .val (.int (own_F4 p4 p2)), .val (.int t0_60), .val (.int t0_71), .val (.int t0_94), .val (.int t0_130), .val (.int t0_165)] [(.int t0_194)]) := by
                        intro T71 locs71 t0_194  X71 e71 N71 hr71
                        have hr71a := (own_f0_194_eq (p0) (p1) (p2) (p3) (p4) (p5) (t0_60) (t0_71) (t0_84) (t0_94) (t0_107) (t0_122) (t1_122) (t0_130) (t0_142) (t0_157) (t1_157) (t0_165) (t0_194)).symm.trans hr71
                        exact own_retN (t := .boolean) X71 hx Bd.returns Bd.notSynchronized (by simp) (hb hby at_194) ⟨congrArg (fun q => some (Value.int q)) hr71a, N71⟩ (by decide) (by decide)
                      by_cases hc171_72 : (own_F4 p4 p2) = (own_F4 p4 p2)
                      · have hr73 := (if_pos hc171_72).symm.trans hr70a
                        refine own_st (g' := (mkF m 174 #[.val (.int p0), .val (.int p1), .val (.int p2), .val (.int p3), .val (.int p4), .val (.int p5), .val (.ref b0), .val (.ref b15), .val (.int (own_F4 p4 p2)), .val (.int (own_F4 p4 p2)), .val (.int t0_60), .val (.int t0_71), .val (.int t0_94), .val (.int t0_130), .val (.int t0_165)] [])) (fun t k => XS.icmpNo X70.here hx rfl (hb hby at_171) rfl (teq hc171_72).2 k) ?_
                        refine own_st (g' := (mkF m 176 #[.val (.int p0), .val (.int p1), .val (.int p2), .val (.int p3), .val (.int p4), .val (.int p5), .val (.ref b0), .val (.ref b15), .val (.int (own_F4 p4 p2)), .val (.int (own_F4 p4 p2)), .val (.int t0_60), .val (.int t0_71), .val (.int t0_94), .val (.int t0_130), .val (.int t0_165)] [(.int t0_94)])) (fun t k => XS.iload X70.here hx rfl (hb hby at_174) rfl  k) ?_
                        by_cases hc176_74 : t0_94 = (0 : Int32)
                        · have hr75 := (if_pos hc176_74).symm.trans hr73
                          refine own_st (g' := (mkF m 193 #[.val (.int p0), .val (.int p1), .val (.int p2), .val (.int p3), .val (.int p4), .val (.int p5), .val (.ref b0), .val (.ref b15), .val (.int (own_F4 p4 p2)), .val (.int (own_F4 p4 p2)), .val (.int t0_60), .val (.int t0_71), .val (.int t0_94), .val (.int t0_130), .val (.int t0_165)] [])) (fun t k => XS.ifYes X70.here hx rfl (pc0 := 176) (pc' := 193) rfl (hb hby at_176) rfl ((if0 _ _).trans (teq hc176_74).1) (by decide) (by decide) k) ?_
                          refine own_st (g' := (mkF m 194 #[.val (.int p0), .val (.int p1), .val (.int p2), .val (.int p3), .val (.int p4), .val (.int p5), .val (.ref b0), .val (.ref b15), .val (.int (own_F4 p4 p2)), .val (.int (own_F4 p4 p2)), .val (.int t0_60), .val (.int t0_71), .val (.int t0_94), .val (.int t0_130), .val (.int t0_165)] [(.int (0 : Int32))])) (fun t k => XS.iconst X70.here hx rfl (hb hby at_193) k) ?_
                          exact J194 T70 _ (0 : Int32)  X70 e70 N70 hr75
                        · have hr76 := (if_neg hc176_74).symm.trans hr73
                          refine own_st (g' := (mkF m 179 #[.val (.int p0), .val (.int p1), .val (.int p2), .val (.int p3), .val (.int p4), .val (.int p5), .val (.ref b0), .val (.ref b15), .val (.int (own_F4 p4 p2)), .val (.int (own_F4 p4 p2)), .val (.int t0_60), .val (.int t0_71), .val (.int t0_94), .val (.int t0_130), .val (.int t0_165)] [])) (fun t k => XS.ifNo X70.here hx rfl (hb hby at_176) rfl ((if0 _ _).trans (feq hc176_74).1) k) ?_
                          refine own_st (g' := (mkF m 181 #[.val (.int p0), .val (.int p1), .val (.int p2), .val (.int p3), .val (.int p4), .val (.int p5), .val (.ref b0), .val (.ref b15), .val (.int (own_F4 p4 p2)), .val (.int (own_F4 p4 p2)), .val (.int t0_60), .val (.int t0_71), .val (.int t0_94), .val (.int t0_130), .val (.int t0_165)] [(.int t0_130)])) (fun t k => XS.iload X70.here hx rfl (hb hby at_179) rfl  k) ?_
                          by_cases hc181_77 : t0_130 = (0 : Int32)
                          · have hr78 := (if_pos hc181_77).symm.trans hr76
                            refine own_st (g' := (mkF m 193 #[.val (.int p0), .val (.int p1), .val (.int p2), .val (.int p3), .val (.int p4), .val (.int p5), .val (.ref b0), .val (.ref b15), .val (.int (own_F4 p4 p2)), .val (.int (own_F4 p4 p2)), .val (.int t0_60), .val (.int t0_71), .val (.int t0_94), .val (.int t0_130), .val (.int t0_165)] [])) (fun t k => XS.ifYes X70.here hx rfl (pc0 := 181) (pc' := 193) rfl (hb hby at_181) rfl ((if0 _ _).trans (teq hc181_77).1) (by decide) (by decide) k) ?_
                            refine own_st (g' := (mkF m 194 #[.val (.int p0), .val (.int p1), .val (.int p2), .val (.int p3), .val (.int p4), .val (.int p5), .val (.ref b0), .val (.ref b15), .val (.int (own_F4 p4 p2)), .val (.int (own_F4 p4 p2)), .val (.int t0_60), .val (.int t0_71), .val (.int t0_94), .val (.int t0_130), .val (.int t0_165)] [(.int (0 : Int32))])) (fun t k => XS.iconst X70.here hx rfl (hb hby at_193) k) ?_
                            exact J194 T70 _ (0 : Int32)  X70 e70 N70 hr78
                          · have hr79 := (if_neg hc181_77).symm.trans hr76
                            refine own_st (g' := (mkF m 184 #[.val (.int p0), .val (.int p1), .val (.int p2), .val (.int p3), .val (.int p4), .val (.int p5), .val (.ref b0), .val (.ref b15), .val (.int (own_F4 p4 p2)), .val (.int (own_F4 p4 p2)), .val (.int t0_60), .val (.int t0_71), .val (.int t0_94), .val (.int t0_130), .val (.int t0_165)] [])) (fun t k => XS.ifNo X70.here hx rfl (hb hby at_181) rfl ((if0 _ _).trans (feq hc181_77).1) k) ?_
                            refine own_st (g' := (mkF m 186 #[.val (.int p0), .val (.int p1), .val (.int p2), .val (.int p3), .val (.int p4), .val (.int p5), .val (.ref b0), .val (.ref b15), .val (.int (own_F4 p4 p2)), .val (.int (own_F4 p4 p2)), .val (.int t0_60), .val (.int t0_71), .val (.int t0_94), .val (.int t0_130), .val (.int t0_165)] [(.int t0_165)])) (fun t k => XS.iload X70.here hx rfl (hb hby at_184) rfl  k) ?_
                            by_cases hc186_80 : t0_165 = (0 : Int32)
                            · have hr81 := (if_pos hc186_80).symm.trans hr79
                              refine own_st (g' := (mkF m 193 #[.val (.int p0), .val (.int p1), .val (.int p2), .val (.int p3), .val (.int p4), .val (.int p5), .val (.ref b0), .val (.ref b15), .val (.int (own_F4 p4 p2)), .val (.int (own_F4 p4 p2)), .val (.int t0_60), .val (.int t0_71), .val (.int t0_94), .val (.int t0_130), .val (.int t0_165)] [])) (fun t k => XS.ifYes X70.here hx rfl (pc0 := 186) (pc' := 193) rfl (hb hby at_186) rfl ((if0 _ _).trans (teq hc186_80).1) (by decide) (by decide) k) ?_
                              refine own_st (g' := (mkF m 194 #[.val (.int p0), .val (.int p1), .val (.int p2), .val (.int p3), .val (.int p4), .val (.int p5), .val (.ref b0), .val (.ref b15), .val (.int (own_F4 p4 p2)), .val (.int (own_F4 p4 p2)), .val (.int t0_60), .val (.int t0_71), .val (.int t0_94), .val (.int t0_130), .val (.int t0_165)] [(.int (0 : Int32))])) (fun t k => XS.iconst X70.here hx rfl (hb hby at_193) k) ?_
                              exact J194 T70 _ (0 : Int32)  X70 e70 N70 hr81
                            · have hr82 := (if_neg hc186_80).symm.trans hr79
                              refine own_st (g' := (mkF m 189 #[.val (.int p0), .val (.int p1), .val (.int p2), .val (.int p3), .val (.int p4), .val (.int p5), .val (.ref b0), .val (.ref b15), .val (.int (own_F4 p4 p2)), .val (.int (own_F4 p4 p2)), .val (.int t0_60), .val (.int t0_71), .val (.int t0_94), .val (.int t0_130), .val (.int t0_165)] [])) (fun t k => XS.ifNo X70.here hx rfl (hb hby at_186) rfl ((if0 _ _).trans (feq hc186_80).1) k) ?_
                              refine own_st (g' := (mkF m 190 #[.val (.int p0), .val (.int p1), .val (.int p2), .val (.int p3), .val (.int p4), .val (.int p5), .val (.ref b0), .val (.ref b15), .val (.int (own_F4 p4 p2)), .val (.int (own_F4 p4 p2)), .val (.int t0_60), .val (.int t0_71), .val (.int t0_94), .val (.int t0_130), .val (.int t0_165)] [(.int (1 : Int32))])) (fun t k => XS.iconst X70.here hx rfl (hb hby at_189) k) ?_
                              refine own_st (g' := (mkF m 194 #[.val (.int p0), .val (.int p1), .val (.int p2), .val (.int p3), .val (.int p4), .val (.int p5), .val (.ref b0), .val (.ref b15), .val (.int (own_F4 p4 p2)), .val (.int (own_F4 p4 p2)), .val (.int t0_60), .val (.int t0_71), .val (.int t0_94), .val (.int t0_130), .val (.int t0_165)] [(.int (1 : Int32))])) (fun t k => XS.goto X70.here hx rfl (pc0 := 190) (pc' := 194) rfl (hb hby at_190) (by decide) (by decide) k) ?_
                              exact J194 T70 _ (1 : Int32)  X70 e70 N70 hr82
                      · have hr83 := (if_neg hc171_72).symm.trans hr70a
                        refine own_st (g' := (mkF m 193 #[.val (.int p0), .val (.int p1), .val (.int p2), .val (.int p3), .val (.int p4), .val (.int p5), .val (.ref b0), .val (.ref b15), .val (.int (own_F4 p4 p2)), .val (.int (own_F4 p4 p2)), .val (.int t0_60), .val (.int t0_71), .val (.int t0_94), .val (.int t0_130), .val (.int t0_165)] [])) (fun t k => XS.icmpYes X70.here hx rfl (pc0 := 171) (pc' := 193) rfl (hb hby at_171) rfl (feq hc171_72).2 (by decide) (by decide) k) ?_
                        refine own_st (g' := (mkF m 194 #[.val (.int p0), .val (.int p1), .val (.int p2), .val (.int p3), .val (.int p4), .val (.int p5), .val (.ref b0), .val (.ref b15), .val (.int (own_F4 p4 p2)), .val (.int (own_F4 p4 p2)), .val (.int t0_60), .val (.int t0_71), .val (.int t0_94), .val (.int t0_130), .val (.int t0_165)] [(.int (0 : Int32))])) (fun t k => XS.iconst X70.here hx rfl (hb hby at_193) k) ?_
                        exact J194 T70 _ (0 : Int32)  X70 e70 N70 hr83
                    by_cases hc157_84 : t1_157 = t0_157
                    · have hr85 := (if_pos hc157_84).symm.trans hr69a
                      refine own_st (g' := (mkF m 160 #[.val (.int p0), .val (.int p1), .val (.int p2), .val (.int p3), .val (.int p4), .val (.int p5), .val (.ref b0), .val (.ref b15), .val (.int (own_F4 p4 p2)), .val (.int (own_F4 p4 p2)), .val (.int t0_60), .val (.int t0_71), .val (.int t0_94), .val (.int t0_130), .unset] [])) (fun t k => XS.icmpNo X69.here hx rfl (hb hby at_157) rfl (teq hc157_84).2 k) ?_
                      refine own_st (g' := (mkF m 161 #[.val (.int p0), .val (.int p1), .val (.int p2), .val (.int p3), .val (.int p4), .val (.int p5), .val (.ref b0), .val (.ref b15), .val (.int (own_F4 p4 p2)), .val (.int (own_F4 p4 p2)), .val (.int t0_60), .val (.int t0_71), .val (.int t0_94), .val (.int t0_130), .unset] [(.int (1 : Int32))])) (fun t k => XS.iconst X69.here hx rfl (hb hby at_160) k) ?_
                      refine own_st (g' := (mkF m 165 #[.val (.int p0), .val (.int p1), .val (.int p2), .val (.int p3), .val (.int p4), .val (.int p5), .val (.ref b0), .val (.ref b15), .val (.int (own_F4 p4 p2)), .val (.int (own_F4 p4 p2)), .val (.int t0_60), .val (.int t0_71), .val (.int t0_94), .val (.int t0_130), .unset] [(.int (1 : Int32))])) (fun t k => XS.goto X69.here hx rfl (pc0 := 161) (pc' := 165) rfl (hb hby at_161) (by decide) (by decide) k) ?_
                      exact J165 T69 _ (1 : Int32)  X69 e69 N69 hr85
                    · have hr86 := (if_neg hc157_84).symm.trans hr69a
                      refine own_st (g' := (mkF m 164 #[.val (.int p0), .val (.int p1), .val (.int p2), .val (.int p3), .val (.int p4), .val (.int p5), .val (.ref b0), .val (.ref b15), .val (.int (own_F4 p4 p2)), .val (.int (own_F4 p4 p2)), .val (.int t0_60), .val (.int t0_71), .val (.int t0_94), .val (.int t0_130), .unset] [])) (fun t k => XS.icmpYes X69.here hx rfl (pc0 := 157) (pc' := 164) rfl (hb hby at_157) rfl (feq hc157_84).2 (by decide) (by decide) k) ?_
                      refine own_st (g' := (mkF m 165 #[.val (.int p0), .val (.int p1), .val (.int p2), .val (.int p3), .val (.int p4), .val (.int p5), .val (.ref b0), .val (.ref b15), .val (.int (own_F4 p4 p2)), .val (.int (own_F4 p4 p2)), .val (.int t0_60), .val (.int t0_71), .val (.int t0_94), .val (.int t0_130), .unset] [(.int (0 : Int32))])) (fun t k => XS.iconst X69.here hx rfl (hb hby at_164) k) ?_
                      exact J165 T69 _ (0 : Int32)  X69 e69 N69 hr86
                  by_cases hc144_87 : t0_60 = (0 : Int32)
                  · have hr88 := (if_pos hc144_87).symm.trans hr68a
                    refine own_st (g' := (mkF m 147 #[.val (.int p0), .val (.int p1), .val (.int p2), .val (.int p3), .val (.int p4), .val (.int p5), .val (.ref b0), .val (.ref b15), .val (.int (own_F4 p4 p2)), .val (.int (own_F4 p4 p2)), .val (.int t0_60), .val (.int t0_71), .val (.int t0_94), .val (.int t0_130), .unset] [(.int t0_142)])) (fun t k => XS.ifNo X68.here hx rfl (hb hby at_144) rfl ((if0 _ _).trans (teq hc144_87).2) k) ?_
                    refine own_st (g' := (mkF m 149 #[.val (.int p0), .val (.int p1), .val (.int p2), .val (.int p3), .val (.int p4), .val (.int p5), .val (.ref b0), .val (.ref b15), .val (.int (own_F4 p4 p2)), .val (.int (own_F4 p4 p2)), .val (.int t0_60), .val (.int t0_71), .val (.int t0_94), .val (.int t0_130), .unset] [(.int t0_71), (.int t0_142)])) (fun t k => XS.iload X68.here hx rfl (hb hby at_147) rfl  k) ?_
                    by_cases hc149_89 : t0_71 = (0 : Int32)
                    · have hr90 := (if_pos hc149_89).symm.trans hr88
                      refine own_st (g' := (mkF m 152 #[.val (.int p0), .val (.int p1), .val (.int p2), .val (.int p3), .val (.int p4), .val (.int p5), .val (.ref b0), .val (.ref b15), .val (.int (own_F4 p4 p2)), .val (.int (own_F4 p4 p2)), .val (.int t0_60), .val (.int t0_71), .val (.int t0_94), .val (.int t0_130), .unset] [(.int t0_142)])) (fun t k => XS.ifNo X68.here hx rfl (hb hby at_149) rfl ((if0 _ _).trans (teq hc149_89).2) k) ?_
                      refine own_st (g' := (mkF m 153 #[.val (.int p0), .val (.int p1), .val (.int p2), .val (.int p3), .val (.int p4), .val (.int p5), .val (.ref b0), .val (.ref b15), .val (.int (own_F4 p4 p2)), .val (.int (own_F4 p4 p2)), .val (.int t0_60), .val (.int t0_71), .val (.int t0_94), .val (.int t0_130), .unset] [(.int (1 : Int32)), (.int t0_142)])) (fun t k => XS.iconst X68.here hx rfl (hb hby at_152) k) ?_
                      refine own_st (g' := (mkF m 157 #[.val (.int p0), .val (.int p1), .val (.int p2), .val (.int p3), .val (.int p4), .val (.int p5), .val (.ref b0), .val (.ref b15), .val (.int (own_F4 p4 p2)), .val (.int (own_F4 p4 p2)), .val (.int t0_60), .val (.int t0_71), .val (.int t0_94), .val (.int t0_130), .unset] [(.int (1 : Int32)), (.int t0_142)])) (fun t k => XS.goto X68.here hx rfl (pc0 := 153) (pc' := 157) rfl (hb hby at_153) (by decide) (by decide) k) ?_
                      exact J157 T68 _ (1 : Int32) t0_142  X68 e68 N68 hr90
                    · have hr91 := (if_neg hc149_89).symm.trans hr88
                      refine own_st (g' := (mkF m 156 #[.val (.int p0), .val (.int p1), .val (.int p2), .val (.int p3), .val (.int p4), .val (.int p5), .val (.ref b0), .val (.ref b15), .val (.int (own_F4 p4 p2)), .val (.int (own_F4 p4 p2)), .val (.int t0_60), .val (.int t0_71), .val (.int t0_94), .val (.int t0_130), .unset] [(.int t0_142)])) (fun t k => XS.ifYes X68.here hx rfl (pc0 := 149) (pc' := 156) rfl (hb hby at_149) rfl ((if0 _ _).trans (feq hc149_89).2) (by decide) (by decide) k) ?_
                      refine own_st (g' := (mkF m 157 #[.val (.int p0), .val (.int p1), .val (.int p2), .val (.int p3), .val (.int p4), .val (.int p5), .val (.ref b0), .val (.ref b15), .val (.int (own_F4 p4 p2)), .val (.int (own_F4 p4 p2)), .val (.int t0_60), .val (.int t0_71), .val (.int t0_94), .val (.int t0_130), .unset] [(.int (0 : Int32)), (.int t0_142)])) (fun t k => XS.iconst X68.here hx rfl (hb hby at_156) k) ?_
                      exact J157 T68 _ (0 : Int32) t0_142  X68 e68 N68 hr91
                  · have hr92 := (if_neg hc144_87).symm.trans hr68a
                    refine own_st (g' := (mkF m 156 #[.val (.int p0), .val (.int p1), .val (.int p2), .val (.int p3), .val (.int p4), .val (.int p5), .val (.ref b0), .val (.ref b15), .val (.int (own_F4 p4 p2)), .val (.int (own_F4 p4 p2)), .val (.int t0_60), .val (.int t0_71), .val (.int t0_94), .val (.int t0_130), .unset] [(.int t0_142)])) (fun t k => XS.ifYes X68.here hx rfl (pc0 := 144) (pc' := 156) rfl (hb hby at_144) rfl ((if0 _ _).trans (feq hc144_87).2) (by decide) (by decide) k) ?_
                    refine own_st (g' := (mkF m 157 #[.val (.int p0), .val (.int p1), .val (.int p2), .val (.int p3), .val (.int p4), .val (.int p5), .val (.ref b0), .val (.ref b15), .val (.int (own_F4 p4 p2)), .val (.int (own_F4 p4 p2)), .val (.int t0_60), .val (.int t0_71), .val (.int t0_94), .val (.int t0_130), .unset] [(.int (0 : Int32)), (.int t0_142)])) (fun t k => XS.iconst X68.here hx rfl (hb hby at_156) k) ?_
                    exact J157 T68 _ (0 : Int32) t0_142  X68 e68 N68 hr92
                by_cases hc134_93 : (own_F4 p4 p2) = (0 : Int32)
                · have hr94 := (if_pos hc134_93).symm.trans hr67a
                  refine own_st (g' := (mkF m 137 #[.val (.int p0), .val (.int p1), .val (.int p2), .val (.int p3), .val (.int p4), .val (.int p5), .val (.ref b0), .val (.ref b15), .val (.int (own_F4 p4 p2)), .val (.int (own_F4 p4 p2)), .val (.int t0_60), .val (.int t0_71), .val (.int t0_94), .val (.int t0_130), .unset] [])) (fun t k => XS.ifNo X67.here hx rfl (hb hby at_134) rfl ((if0 _ _).trans (teq hc134_93).2) k) ?_
                  refine own_st (g' := (mkF m 138 #[.val (.int p0), .val (.int p1), .val (.int p2), .val (.int p3), .val (.int p4), .val (.int p5), .val (.ref b0), .val (.ref b15), .val (.int (own_F4 p4 p2)), .val (.int (own_F4 p4 p2)), .val (.int t0_60), .val (.int t0_71), .val (.int t0_94), .val (.int t0_130), .unset] [(.int (1 : Int32))])) (fun t k => XS.iconst X67.here hx rfl (hb hby at_137) k) ?_
                  refine own_st (g' := (mkF m 142 #[.val (.int p0), .val (.int p1), .val (.int p2), .val (.int p3), .val (.int p4), .val (.int p5), .val (.ref b0), .val (.ref b15), .val (.int (own_F4 p4 p2)), .val (.int (own_F4 p4 p2)), .val (.int t0_60), .val (.int t0_71), .val (.int t0_94), .val (.int t0_130), .unset] [(.int (1 : Int32))])) (fun t k => XS.goto X67.here hx rfl (pc0 := 138) (pc' := 142) rfl (hb hby at_138) (by decide) (by decide) k) ?_
                  exact J142 T67 _ (1 : Int32)  X67 e67 N67 hr94
                · have hr95 := (if_neg hc134_93).symm.trans hr67a
                  refine own_st (g' := (mkF m 141 #[.val (.int p0), .val (.int p1), .val (.int p2), .val (.int p3), .val (.int p4), .val (.int p5), .val (.ref b0), .val (.ref b15), .val (.int (own_F4 p4 p2)), .val (.int (own_F4 p4 p2)), .val (.int t0_60), .val (.int t0_71), .val (.int t0_94), .val (.int t0_130), .unset] [])) (fun t k => XS.ifYes X67.here hx rfl (pc0 := 134) (pc' := 141) rfl (hb hby at_134) rfl ((if0 _ _).trans (feq hc134_93).2) (by decide) (by decide) k) ?_
                  refine own_st (g' := (mkF m 142 #[.val (.int p0), .val (.int p1), .val (.int p2), .val (.int p3), .val (.int p4), .val (.int p5), .val (.ref b0), .val (.ref b15), .val (.int (own_F4 p4 p2)), .val (.int (own_F4 p4 p2)), .val (.int t0_60), .val (.int t0_71), .val (.int t0_94), .val (.int t0_130), .unset] [(.int (0 : Int32))])) (fun t k => XS.iconst X67.here hx rfl (hb hby at_141) k) ?_
                  exact J142 T67 _ (0 : Int32)  X67 e67 N67 hr95
              by_cases hc122_96 : t1_122 = t0_122
              · have hr97 := (if_pos hc122_96).symm.trans hr66a
                refine own_st (g' := (mkF m 125 #[.val (.int p0), .val (.int p1), .val (.int p2), .val (.int p3), .val (.int p4), .val (.int p5), .val (.ref b0), .val (.ref b15), .val (.int (own_F4 p4 p2)), .val (.int (own_F4 p4 p2)), .val (.int t0_60), .val (.int t0_71), .val (.int t0_94), .unset, .unset] [])) (fun t k => XS.icmpNo X66.here hx rfl (hb hby at_122) rfl (teq hc122_96).2 k) ?_
                refine own_st (g' := (mkF m 126 #[.val (.int p0), .val (.int p1), .val (.int p2), .val (.int p3), .val (.int p4), .val (.int p5), .val (.ref b0), .val (.ref b15), .val (.int (own_F4 p4 p2)), .val (.int (own_F4 p4 p2)), .val (.int t0_60), .val (.int t0_71), .val (.int t0_94), .unset, .unset] [(.int (1 : Int32))])) (fun t k => XS.iconst X66.here hx rfl (hb hby at_125) k) ?_
                refine own_st (g' := (mkF m 130 #[.val (.int p0), .val (.int p1), .val (.int p2), .val (.int p3), .val (.int p4), .val (.int p5), .val (.ref b0), .val (.ref b15), .val (.int (own_F4 p4 p2)), .val (.int (own_F4 p4 p2)), .val (.int t0_60), .val (.int t0_71), .val (.int t0_94), .unset, .unset] [(.int (1 : Int32))])) (fun t k => XS.goto X66.here hx rfl (pc0 := 126) (pc' := 130) rfl (hb hby at_126) (by decide) (by decide) k) ?_
                exact J130 T66 _ (1 : Int32)  X66 e66 N66 hr97
              · have hr98 := (if_neg hc122_96).symm.trans hr66a
                refine own_st (g' := (mkF m 129 #[.val (.int p0), .val (.int p1), .val (.int p2), .val (.int p3), .val (.int p4), .val (.int p5), .val (.ref b0), .val (.ref b15), .val (.int (own_F4 p4 p2)), .val (.int (own_F4 p4 p2)), .val (.int t0_60), .val (.int t0_71), .val (.int t0_94), .unset, .unset] [])) (fun t k => XS.icmpYes X66.here hx rfl (pc0 := 122) (pc' := 129) rfl (hb hby at_122) rfl (feq hc122_96).2 (by decide) (by decide) k) ?_
                refine own_st (g' := (mkF m 130 #[.val (.int p0), .val (.int p1), .val (.int p2), .val (.int p3), .val (.int p4), .val (.int p5), .val (.ref b0), .val (.ref b15), .val (.int (own_F4 p4 p2)), .val (.int (own_F4 p4 p2)), .val (.int t0_60), .val (.int t0_71), .val (.int t0_94), .unset, .unset] [(.int (0 : Int32))])) (fun t k => XS.iconst X66.here hx rfl (hb hby at_129) k) ?_
                exact J130 T66 _ (0 : Int32)  X66 e66 N66 hr98
            by_cases hc109_99 : t0_60 = (0 : Int32)
            · have hr100 := (if_pos hc109_99).symm.trans hr65a
              refine own_st (g' := (mkF m 112 #[.val (.int p0), .val (.int p1), .val (.int p2), .val (.int p3), .val (.int p4), .val (.int p5), .val (.ref b0), .val (.ref b15), .val (.int (own_F4 p4 p2)), .val (.int (own_F4 p4 p2)), .val (.int t0_60), .val (.int t0_71), .val (.int t0_94), .unset, .unset] [(.int t0_107)])) (fun t k => XS.ifNo X65.here hx rfl (hb hby at_109) rfl ((if0 _ _).trans (teq hc109_99).2) k) ?_
              refine own_st (g' := (mkF m 114 #[.val (.int p0), .val (.int p1), .val (.int p2), .val (.int p3), .val (.int p4), .val (.int p5), .val (.ref b0), .val (.ref b15), .val (.int (own_F4 p4 p2)), .val (.int (own_F4 p4 p2)), .val (.int t0_60), .val (.int t0_71), .val (.int t0_94), .unset, .unset] [(.int t0_71), (.int t0_107)])) (fun t k => XS.iload X65.here hx rfl (hb hby at_112) rfl  k) ?_
              by_cases hc114_101 : t0_71 = (0 : Int32)
              · have hr102 := (if_pos hc114_101).symm.trans hr100
                refine own_st (g' := (mkF m 121 #[.val (.int p0), .val (.int p1), .val (.int p2), .val (.int p3), .val (.int p4), .val (.int p5), .val (.ref b0), .val (.ref b15), .val (.int (own_F4 p4 p2)), .val (.int (own_F4 p4 p2)), .val (.int t0_60), .val (.int t0_71), .val (.int t0_94), .unset, .unset] [(.int t0_107)])) (fun t k => XS.ifYes X65.here hx rfl (pc0 := 114) (pc' := 121) rfl (hb hby at_114) rfl ((if0 _ _).trans (teq hc114_101).1) (by decide) (by decide) k) ?_
                refine own_st (g' := (mkF m 122 #[.val (.int p0), .val (.int p1), .val (.int p2), .val (.int p3), .val (.int p4), .val (.int p5), .val (.ref b0), .val (.ref b15), .val (.int (own_F4 p4 p2)), .val (.int (own_F4 p4 p2)), .val (.int t0_60), .val (.int t0_71), .val (.int t0_94), .unset, .unset] [(.int (0 : Int32)), (.int t0_107)])) (fun t k => XS.iconst X65.here hx rfl (hb hby at_121) k) ?_
                exact J122 T65 _ (0 : Int32) t0_107  X65 e65 N65 hr102
              · have hr103 := (if_neg hc114_101).symm.trans hr100
                refine own_st (g' := (mkF m 117 #[.val (.int p0), .val (.int p1), .val (.int p2), .val (.int p3), .val (.int p4), .val (.int p5), .val (.ref b0), .val (.ref b15), .val (.int (own_F4 p4 p2)), .val (.int (own_F4 p4 p2)), .val (.int t0_60), .val (.int t0_71), .val (.int t0_94), .unset, .unset] [(.int t0_107)])) (fun t k => XS.ifNo X65.here hx rfl (hb hby at_114) rfl ((if0 _ _).trans (feq hc114_101).1) k) ?_
                refine own_st (g' := (mkF m 118 #[.val (.int p0), .val (.int p1), .val (.int p2), .val (.int p3), .val (.int p4), .val (.int p5), .val (.ref b0), .val (.ref b15), .val (.int (own_F4 p4 p2)), .val (.int (own_F4 p4 p2)), .val (.int t0_60), .val (.int t0_71), .val (.int t0_94), .unset, .unset] [(.int (1 : Int32)), (.int t0_107)])) (fun t k => XS.iconst X65.here hx rfl (hb hby at_117) k) ?_
                refine own_st (g' := (mkF m 122 #[.val (.int p0), .val (.int p1), .val (.int p2), .val (.int p3), .val (.int p4), .val (.int p5), .val (.ref b0), .val (.ref b15), .val (.int (own_F4 p4 p2)), .val (.int (own_F4 p4 p2)), .val (.int t0_60), .val (.int t0_71), .val (.int t0_94), .unset, .unset] [(.int (1 : Int32)), (.int t0_107)])) (fun t k => XS.goto X65.here hx rfl (pc0 := 118) (pc' := 122) rfl (hb hby at_118) (by decide) (by decide) k) ?_
                exact J122 T65 _ (1 : Int32) t0_107  X65 e65 N65 hr103
            · have hr104 := (if_neg hc109_99).symm.trans hr65a
              refine own_st (g' := (mkF m 121 #[.val (.int p0), .val (.int p1), .val (.int p2), .val (.int p3), .val (.int p4), .val (.int p5), .val (.ref b0), .val (.ref b15), .val (.int (own_F4 p4 p2)), .val (.int (own_F4 p4 p2)), .val (.int t0_60), .val (.int t0_71), .val (.int t0_94), .unset, .unset] [(.int t0_107)])) (fun t k => XS.ifYes X65.here hx rfl (pc0 := 109) (pc' := 121) rfl (hb hby at_109) rfl ((if0 _ _).trans (feq hc109_99).2) (by decide) (by decide) k) ?_
              refine own_st (g' := (mkF m 122 #[.val (.int p0), .val (.int p1), .val (.int p2), .val (.int p3), .val (.int p4), .val (.int p5), .val (.ref b0), .val (.ref b15), .val (.int (own_F4 p4 p2)), .val (.int (own_F4 p4 p2)), .val (.int t0_60), .val (.int t0_71), .val (.int t0_94), .unset, .unset] [(.int (0 : Int32)), (.int t0_107)])) (fun t k => XS.iconst X65.here hx rfl (hb hby at_121) k) ?_
              exact J122 T65 _ (0 : Int32) t0_107  X65 e65 N65 hr104
          by_cases hc99_105 : (own_F4 p4 p2) = (1 : Int32)
          · have hr106 := (if_pos hc99_105).symm.trans hr64a
            refine own_st (g' := (mkF m 102 #[.val (.int p0), .val (.int p1), .val (.int p2), .val (.int p3), .val (.int p4), .val (.int p5), .val (.ref b0), .val (.ref b15), .val (.int (own_F4 p4 p2)), .val (.int (own_F4 p4 p2)), .val (.int t0_60), .val (.int t0_71), .val (.int t0_94), .unset, .unset] [])) (fun t k => XS.icmpNo X64.here hx rfl (hb hby at_99) rfl (teq hc99_105).2 k) ?_
            refine own_st (g' := (mkF m 103 #[.val (.int p0), .val (.int p1), .val (.int p2), .val (.int p3), .val (.int p4), .val (.int p5), .val (.ref b0), .val (.ref b15), .val (.int (own_F4 p4 p2)), .val (.int (own_F4 p4 p2)), .val (.int t0_60), .val (.int t0_71), .val (.int t0_94), .unset, .unset] [(.int (1 : Int32))])) (fun t k => XS.iconst X64.here hx rfl (hb hby at_102) k) ?_
            refine own_st (g' := (mkF m 107 #[.val (.int p0), .val (.int p1), .val (.int p2), .val (.int p3), .val (.int p4), .val (.int p5), .val (.ref b0), .val (.ref b15), .val (.int (own_F4 p4 p2)), .val (.int (own_F4 p4 p2)), .val (.int t0_60), .val (.int t0_71), .val (.int t0_94), .unset, .unset] [(.int (1 : Int32))])) (fun t k => XS.goto X64.here hx rfl (pc0 := 103) (pc' := 107) rfl (hb hby at_103) (by decide) (by decide) k) ?_
            exact J107 T64 _ (1 : Int32)  X64 e64 N64 hr106
          · have hr107 := (if_neg hc99_105).symm.trans hr64a
            refine own_st (g' := (mkF m 106 #[.val (.int p0), .val (.int p1), .val (.int p2), .val (.int p3), .val (.int p4), .val (.int p5), .val (.ref b0), .val (.ref b15), .val (.int (own_F4 p4 p2)), .val (.int (own_F4 p4 p2)), .val (.int t0_60), .val (.int t0_71), .val (.int t0_94), .unset, .unset] [])) (fun t k => XS.icmpYes X64.here hx rfl (pc0 := 99) (pc' := 106) rfl (hb hby at_99) rfl (feq hc99_105).2 (by decide) (by decide) k) ?_
            refine own_st (g' := (mkF m 107 #[.val (.int p0), .val (.int p1), .val (.int p2), .val (.int p3), .val (.int p4), .val (.int p5), .val (.ref b0), .val (.ref b15), .val (.int (own_F4 p4 p2)), .val (.int (own_F4 p4 p2)), .val (.int t0_60), .val (.int t0_71), .val (.int t0_94), .unset, .unset] [(.int (0 : Int32))])) (fun t k => XS.iconst X64.here hx rfl (hb hby at_106) k) ?_
            exact J107 T64 _ (0 : Int32)  X64 e64 N64 hr107
        by_cases hc86_108 : t0_84 = t0_60
        · have hr109 := (if_pos hc86_108).symm.trans hr63a
          refine own_st (g' := (mkF m 89 #[.val (.int p0), .val (.int p1), .val (.int p2), .val (.int p3), .val (.int p4), .val (.int p5), .val (.ref b0), .val (.ref b15), .val (.int (own_F4 p4 p2)), .val (.int (own_F4 p4 p2)), .val (.int t0_60), .val (.int t0_71), .unset, .unset, .unset] [])) (fun t k => XS.icmpNo X63.here hx rfl (hb hby at_86) rfl (teq hc86_108).2 k) ?_
          refine own_st (g' := (mkF m 90 #[.val (.int p0), .val (.int p1), .val (.int p2), .val (.int p3), .val (.int p4), .val (.int p5), .val (.ref b0), .val (.ref b15), .val (.int (own_F4 p4 p2)), .val (.int (own_F4 p4 p2)), .val (.int t0_60), .val (.int t0_71), .unset, .unset, .unset] [(.int (1 : Int32))])) (fun t k => XS.iconst X63.here hx rfl (hb hby at_89) k) ?_
          refine own_st (g' := (mkF m 94 #[.val (.int p0), .val (.int p1), .val (.int p2), .val (.int p3), .val (.int p4), .val (.int p5), .val (.ref b0), .val (.ref b15), .val (.int (own_F4 p4 p2)), .val (.int (own_F4 p4 p2)), .val (.int t0_60), .val (.int t0_71), .unset, .unset, .unset] [(.int (1 : Int32))])) (fun t k => XS.goto X63.here hx rfl (pc0 := 90) (pc' := 94) rfl (hb hby at_90) (by decide) (by decide) k) ?_
          exact J94 T63 _ (1 : Int32)  X63 e63 N63 hr109
        · have hr110 := (if_neg hc86_108).symm.trans hr63a
          refine own_st (g' := (mkF m 93 #[.val (.int p0), .val (.int p1), .val (.int p2), .val (.int p3), .val (.int p4), .val (.int p5), .val (.ref b0), .val (.ref b15), .val (.int (own_F4 p4 p2)), .val (.int (own_F4 p4 p2)), .val (.int t0_60), .val (.int t0_71), .unset, .unset, .unset] [])) (fun t k => XS.icmpYes X63.here hx rfl (pc0 := 86) (pc' := 93) rfl (hb hby at_86) rfl (feq hc86_108).2 (by decide) (by decide) k) ?_
          refine own_st (g' := (mkF m 94 #[.val (.int p0), .val (.int p1), .val (.int p2), .val (.int p3), .val (.int p4), .val (.int p5), .val (.ref b0), .val (.ref b15), .val (.int (own_F4 p4 p2)), .val (.int (own_F4 p4 p2)), .val (.int t0_60), .val (.int t0_71), .unset, .unset, .unset] [(.int (0 : Int32))])) (fun t k => XS.iconst X63.here hx rfl (hb hby at_93) k) ?_
          exact J94 T63 _ (0 : Int32)  X63 e63 N63 hr110
      by_cases hc76_111 : (own_F4 p4 p2) = (2 : Int32)
      · have hr112 := (if_pos hc76_111).symm.trans hr62a
        refine own_st (g' := (mkF m 79 #[.val (.int p0), .val (.int p1), .val (.int p2), .val (.int p3), .val (.int p4), .val (.int p5), .val (.ref b0), .val (.ref b15), .val (.int (own_F4 p4 p2)), .val (.int (own_F4 p4 p2)), .val (.int t0_60), .val (.int t0_71), .unset, .unset, .unset] [])) (fun t k => XS.icmpNo X62.here hx rfl (hb hby at_76) rfl (teq hc76_111).2 k) ?_
        refine own_st (g' := (mkF m 80 #[.val (.int p0), .val (.int p1), .val (.int p2), .val (.int p3), .val (.int p4), .val (.int p5), .val (.ref b0), .val (.ref b15), .val (.int (own_F4 p4 p2)), .val (.int (own_F4 p4 p2)), .val (.int t0_60), .val (.int t0_71), .unset, .unset, .unset] [(.int (1 : Int32))])) (fun t k => XS.iconst X62.here hx rfl (hb hby at_79) k) ?_
        refine own_st (g' := (mkF m 84 #[.val (.int p0), .val (.int p1), .val (.int p2), .val (.int p3), .val (.int p4), .val (.int p5), .val (.ref b0), .val (.ref b15), .val (.int (own_F4 p4 p2)), .val (.int (own_F4 p4 p2)), .val (.int t0_60), .val (.int t0_71), .unset, .unset, .unset] [(.int (1 : Int32))])) (fun t k => XS.goto X62.here hx rfl (pc0 := 80) (pc' := 84) rfl (hb hby at_80) (by decide) (by decide) k) ?_
        exact J84 T62 _ (1 : Int32)  X62 e62 N62 hr112
      · have hr113 := (if_neg hc76_111).symm.trans hr62a
        refine own_st (g' := (mkF m 83 #[.val (.int p0), .val (.int p1), .val (.int p2), .val (.int p3), .val (.int p4), .val (.int p5), .val (.ref b0), .val (.ref b15), .val (.int (own_F4 p4 p2)), .val (.int (own_F4 p4 p2)), .val (.int t0_60), .val (.int t0_71), .unset, .unset, .unset] [])) (fun t k => XS.icmpYes X62.here hx rfl (pc0 := 76) (pc' := 83) rfl (hb hby at_76) rfl (feq hc76_111).2 (by decide) (by decide) k) ?_
        refine own_st (g' := (mkF m 84 #[.val (.int p0), .val (.int p1), .val (.int p2), .val (.int p3), .val (.int p4), .val (.int p5), .val (.ref b0), .val (.ref b15), .val (.int (own_F4 p4 p2)), .val (.int (own_F4 p4 p2)), .val (.int t0_60), .val (.int t0_71), .unset, .unset, .unset] [(.int (0 : Int32))])) (fun t k => XS.iconst X62.here hx rfl (hb hby at_83) k) ?_
        exact J84 T62 _ (0 : Int32)  X62 e62 N62 hr113
    by_cases hc63_114 : (0 : Int32) < p2
    · have hr115 := (if_pos hc63_114).symm.trans hr61a
      refine own_st (g' := (mkF m 66 #[.val (.int p0), .val (.int p1), .val (.int p2), .val (.int p3), .val (.int p4), .val (.int p5), .val (.ref b0), .val (.ref b15), .val (.int (own_F4 p4 p2)), .val (.int (own_F4 p4 p2)), .val (.int t0_60), .unset, .unset, .unset, .unset] [])) (fun t k => XS.ifNo X61.here hx rfl (hb hby at_63) rfl ((if0 _ _).trans (tlt hc63_114).2.2.2) k) ?_
      refine own_st (g' := (mkF m 67 #[.val (.int p0), .val (.int p1), .val (.int p2), .val (.int p3), .val (.int p4), .val (.int p5), .val (.ref b0), .val (.ref b15), .val (.int (own_F4 p4 p2)), .val (.int (own_F4 p4 p2)), .val (.int t0_60), .unset, .unset, .unset, .unset] [(.int (1 : Int32))])) (fun t k => XS.iconst X61.here hx rfl (hb hby at_66) k) ?_
      refine own_st (g' := (mkF m 71 #[.val (.int p0), .val (.int p1), .val (.int p2), .val (.int p3), .val (.int p4), .val (.int p5), .val (.ref b0), .val (.ref b15), .val (.int (own_F4 p4 p2)), .val (.int (own_F4 p4 p2)), .val (.int t0_60), .unset, .unset, .unset, .unset] [(.int (1 : Int32))])) (fun t k => XS.goto X61.here hx rfl (pc0 := 67) (pc' := 71) rfl (hb hby at_67) (by decide) (by decide) k) ?_
      exact J71 T61 _ (1 : Int32)  X61 e61 N61 hr115
    · have hr116 := (if_neg hc63_114).symm.trans hr61a
      refine own_st (g' := (mkF m 70 #[.val (.int p0), .val (.int p1), .val (.int p2), .val (.int p3), .val (.int p4), .val (.int p5), .val (.ref b0), .val (.ref b15), .val (.int (own_F4 p4 p2)), .val (.int (own_F4 p4 p2)), .val (.int t0_60), .unset, .unset, .unset, .unset] [])) (fun t k => XS.ifYes X61.here hx rfl (pc0 := 63) (pc' := 70) rfl (hb hby at_63) rfl ((if0 _ _).trans (flt hc63_114).2.2.2) (by decide) (by decide) k) ?_
      refine own_st (g' := (mkF m 71 #[.val (.int p0), .val (.int p1), .val (.int p2), .val (.int p3), .val (.int p4), .val (.int p5), .val (.ref b0), .val (.ref b15), .val (.int (own_F4 p4 p2)), .val (.int (own_F4 p4 p2)), .val (.int t0_60), .unset, .unset, .unset, .unset] [(.int (0 : Int32))])) (fun t k => XS.iconst X61.here hx rfl (hb hby at_70) k) ?_
      exact J71 T61 _ (0 : Int32)  X61 e61 N61 hr116
  by_cases hc52_117 : (0 : Int32) < p4
  · have hr118 := (if_pos hc52_117).symm.trans hr0
    refine own_st (g' := (mkF m 55 #[.val (.int p0), .val (.int p1), .val (.int p2), .val (.int p3), .val (.int p4), .val (.int p5), .val (.ref b0), .val (.ref b15), .val (.int (own_F4 p4 p2)), .val (.int (own_F4 p4 p2)), .unset, .unset, .unset, .unset, .unset] [])) (fun t k => XS.ifNo X57.here hx rfl (hb hby at_52) rfl ((if0 _ _).trans (tlt hc52_117).2.2.2) k) ?_
    refine own_st (g' := (mkF m 56 #[.val (.int p0), .val (.int p1), .val (.int p2), .val (.int p3), .val (.int p4), .val (.int p5), .val (.ref b0), .val (.ref b15), .val (.int (own_F4 p4 p2)), .val (.int (own_F4 p4 p2)), .unset, .unset, .unset, .unset, .unset] [(.int (1 : Int32))])) (fun t k => XS.iconst X57.here hx rfl (hb hby at_55) k) ?_
    refine own_st (g' := (mkF m 60 #[.val (.int p0), .val (.int p1), .val (.int p2), .val (.int p3), .val (.int p4), .val (.int p5), .val (.ref b0), .val (.ref b15), .val (.int (own_F4 p4 p2)), .val (.int (own_F4 p4 p2)), .unset, .unset, .unset, .unset, .unset] [(.int (1 : Int32))])) (fun t k => XS.goto X57.here hx rfl (pc0 := 56) (pc' := 60) rfl (hb hby at_56) (by decide) (by decide) k) ?_
    exact J60 T57 _ (1 : Int32)  X57 e57 N57 hr118
  · have hr119 := (if_neg hc52_117).symm.trans hr0
    refine own_st (g' := (mkF m 59 #[.val (.int p0), .val (.int p1), .val (.int p2), .val (.int p3), .val (.int p4), .val (.int p5), .val (.ref b0), .val (.ref b15), .val (.int (own_F4 p4 p2)), .val (.int (own_F4 p4 p2)), .unset, .unset, .unset, .unset, .unset] [])) (fun t k => XS.ifYes X57.here hx rfl (pc0 := 52) (pc' := 59) rfl (hb hby at_52) rfl ((if0 _ _).trans (flt hc52_117).2.2.2) (by decide) (by decide) k) ?_
    refine own_st (g' := (mkF m 60 #[.val (.int p0), .val (.int p1), .val (.int p2), .val (.int p3), .val (.int p4), .val (.int p5), .val (.ref b0), .val (.ref b15), .val (.int (own_F4 p4 p2)), .val (.int (own_F4 p4 p2)), .unset, .unset, .unset, .unset, .unset] [(.int (0 : Int32))])) (fun t k => XS.iconst X57.here hx rfl (hb hby at_59) k) ?_
    exact J60 T57 _ (0 : Int32)  X57 e57 N57 hr119
/-! ## The plain law -/
theorem own_n1 : nar .boolean (1 : Int32) = 1 := by decide
theorem own_law (p0 p1 p2 p3 p4 p5 : Int32) : own_F0 p0 p1 p2 p3 p4 p5 = 1 := by
  by_cases h4 : (0 : Int32) < p4 <;> by_cases h2 : (0 : Int32) < p2 <;>
    simp +decide [own_F0_eq, own_f0_60_eq, own_f0_71_eq, own_f0_84_eq, own_f0_94_eq, own_f0_107_eq, own_f0_122_eq, own_f0_130_eq, own_f0_142_eq, own_f0_157_eq, own_f0_165_eq, own_f0_194_eq, own_F4_eq, own_f4_23_eq, h4, h2, own_n1]

set_option maxRecDepth 65536 in
set_option maxHeartbeats 40000000 in
theorem comes_1 {Post : Tables → Env → Array Value → State → Outcome → State → Prop} (hpost : ∀ tb e args s v u, (limb_1_1.after args s (.returned v) u = true ∧ limb_1_2.after args s (.returned v) u = true ∧ True) → FrameEnd s (.returned v) u (Jvm.fieldLocs frame_1_writes args s ++ Jvm.arrayLocs frame_1_arrays args s ++ Jvm.staticLocs frame_1_statics s) 16 128 → Post tb e args s (.returned v) u) :
    ArmFor flags0 classFile x code maxLocals ret World_1 tables_1 room_1 Calls_1 rest_1 Pre_1 Post := by
  intro l hfl _ _ p e ha hc hk s m args below hf hA hF happ hP
  obtain ⟨hcalls, hrest, hpre⟩ := hP
  obtain ⟨-, -, -, hnamed, -, -, -, hat⟩ := (Spec.applies_iff hf).mp happ
  obtain ⟨hg, hn⟩ := and_e (Cond.before_iff.mp (show (Jvm.Cond.and given_1 narrow_1).before args s = true from hpre))
  obtain ⟨hg0, hq0⟩ := and_e hg
  obtain ⟨ha0, hq1⟩ := and_e hq0
  obtain ⟨ha1, hq2⟩ := and_e hq1
  obtain ⟨ha2, hq3⟩ := and_e hq2
  obtain ⟨ha3, hq4⟩ := and_e hq3
  obtain ⟨ha4, hq5⟩ := and_e hq4
  have ha5 := hq5
  obtain ⟨w0, w1, w2, w3, w4, w5, rfl⟩ : ∃ w0 w1 w2 w3 w4 w5 : Value, args = #[w0, w1, w2, w3, w4, w5] := by
    have hs : args.size = 6 := by simpa [Cond.value, given_1] using hg0
    obtain ⟨L⟩ := args
    match L, hs with
    | [w0, w1, w2, w3, w4, w5], _ => exact ⟨w0, w1, w2, w3, w4, w5, rfl⟩
  have hw := fun d (hd : d ∈ tables_1) => atoms_spec (ws := Jvm.Cond.code x code maxLocals ret :: tables_1) hat d (List.mem_cons_of_mem _ hd)
  obtain ⟨i0, ei0⟩ := is_v ha0
  obtain rfl : w0 = (.int i0) := Option.some.inj ei0
  obtain ⟨i1, ei1⟩ := is_v ha1
  obtain rfl : w1 = (.int i1) := Option.some.inj ei1
  obtain ⟨i2, ei2⟩ := is_v ha2
  obtain rfl : w2 = (.int i2) := Option.some.inj ei2
  obtain ⟨i3, ei3⟩ := is_v ha3
  obtain rfl : w3 = (.int i3) := Option.some.inj ei3
  obtain ⟨i4, ei4⟩ := is_v ha4
  obtain rfl : w4 = (.int i4) := Option.some.inj ei4
  obtain ⟨i5, ei5⟩ := is_v ha5
  obtain rfl : w5 = (.int i5) := Option.some.inj ei5
  obtain ⟨n, o, h1, h2, h3, _, L, rfl, ⟨rfl, N⟩, hq⟩ := rm0 l s _ hw tables_1 i0 i1 i2 i3 i4 i5 s.heap s.heap.size (Nat.le_refl _) (own_law i0 i1 i2 i3 i4 i5) p e ha hc hk s m _ below hf ((Spec.applies_iff_loose hf).mp happ).1 ⟨rfl, State.Warmed39.refl s, rfl⟩ trivial
  refine ⟨n, _, h1, h2, h3, hpost _ _ _ _ _ _ ⟨Cond.after_iff.mpr rfl, Cond.after_iff.mpr (eq_i res_at (Term.int_eval (1)) rfl), trivial⟩ ⟨hq.1, hq.2.1, (hq.2.2.sift fun y hy => Or.inr (N y hy)).mono (by decide) (by decide)⟩⟩
theorem main_1_1 : Claimed_1_1 := comes_1 fun _ _ _ _ _ _ h hF => ⟨h.1, hF⟩
theorem main_1_2 : Claimed_1_2 := comes_1 fun _ _ _ _ _ _ h hF => ⟨h.2.1, hF⟩
end Jvm.Pilot.@@N@@
namespace Jvm.Pilot.@@N@@
open Jvm Jvm.ClassFile Sem Op Lib Jvm.Free Jvm.Stand Jvm.Pilot.@@N@@.Jvm.D
/-! MADE BY PROGRAM (witnessworld.py) out of the Statement's table words and the real class files: 10 classes; the members and pool entries that the words name. The judged class is class 1, her method 1. -/
namespace start1
open Jvm.ClassFile
def u (s : String) : CpInfo := .utf8 (stringToUtf16 s)
/-- a pool by its gaps: so many unusable entries, then the entry; so many at the end -/
def gap : Nat → List CpInfo → List CpInfo
  | 0, r => r
  | n + 1, r => .unusable :: gap n r
def poolList (es : List (Nat × CpInfo)) (last : Nat) : List CpInfo := es.foldr (fun e r => gap e.1 (e.2 :: r)) (gap last [])
def pool (es : List (Nat × CpInfo)) (last : Nat) : Array CpInfo := ⟨poolList es last⟩
def fileOf (pool : Array CpInfo) (this : Nat) (attrs : Array Attribute := #[]) (ms : Array MethodInfo := #[]) (fl : Nat := 33) (sup : Nat := 0) (ifs : Array Nat := #[]) (fds : Array FieldInfo := #[]) : ClassFile where
  minorVersion := 0
  majorVersion := 65
  constantPool := pool
  accessFlags := fl
  thisClass := this
  superClass := sup
  interfaces := ifs
  fields := fds
  methods := ms
  attributes := attrs
def plain (name : String) (sup : Option ClassId) : Class where
  name := name
  kind := .ordinary
  loader := none
  accessFlags := 33
  super := sup
  interfaces := #[]
  cf := none
  fields := #[]
  methods := #[]
  instanceTypes := #[]
  staticTypes := #[]
  resolved := #[]
  callSites := []
  init := .initialized
  statics := none
  mirror := none

def pool0 : Array CpInfo := pool [(5, u "<init>"), (0, u "()V"), (1, .class_ 10), (1, u "java/lang/Object")] 113

def k0c0 : Code := { maxStack := 0, maxLocals := 1, code := object_method_1_code, exceptionTable := #[], attributes := #[] }
def k0m0 : Method := { name := "<init>", desc := "()V", sig := { parameters := [], returnType := none }, accessFlags := 1, code := some k0c0 }
/-- java/lang/Object -/
def k0 : Class := { plain "java/lang/Object" none with
  accessFlags := 33
  interfaces := #[]
  cf := some (fileOf pool0 8 #[] #[{ accessFlags := 1, nameIndex := 5, descriptorIndex := 6, attributes := #[] }] 33 0 #[] #[])
  fields := #[]
  methods := #[k0m0]
  instanceTypes := #[]
  staticTypes := #[]
  resolved := Array.replicate 124 none
  statics := none }

def pool1 : Array CpInfo := pool [(2, .class_ 4), (1, u "java/lang/Object"), (0, u "<init>"), (0, u "()V"), (0, .class_ 8), (0, u "com/example/metakoll/metakoll/core/Summary"), (0, .methodref 7 10), (0, .nameAndType 5 11), (0, u "(IIIII)V"), (0, .methodref 7 13), (0, .nameAndType 14 15), (0, u "exitStatus"), (0, u "()I"), (0, .class_ 17), (0, u "com/example/metakoll/metakoll/core/SummaryExitStatusPinLaw"), (2, u "law"), (0, u "(IIIIII)Z")] 3

def k1m0 : Method := { name := "<init>", desc := "()V", sig := { parameters := [], returnType := none }, accessFlags := 1, code := none }
def k1c1 : Code := { maxStack := 7, maxLocals := 15, code := code, exceptionTable := #[], attributes := #[] }
def k1m1 : Method := { name := "law", desc := "(IIIIII)Z", sig := { parameters := [.int, .int, .int, .int, .int, .int], returnType := some .boolean }, accessFlags := 9, code := some k1c1 }
/-- com/example/metakoll/metakoll/core/SummaryExitStatusPinLaw -/
def k1 : Class := { plain "com/example/metakoll/metakoll/core/SummaryExitStatusPinLaw" (some 0) with
  accessFlags := 49
  interfaces := #[]
  cf := some (fileOf pool1 16 #[] #[{ accessFlags := 1, nameIndex := 5, descriptorIndex := 6, attributes := #[] }, { accessFlags := 9, nameIndex := 20, descriptorIndex := 21, attributes := #[] }] 49 2 #[] #[])
  fields := #[]
  methods := #[k1m0, k1m1]
  instanceTypes := #[]
  staticTypes := #[]
  resolved := Array.replicate 25 none
  statics := none }

def pool2 : Array CpInfo := pool [(1, .methodref 2 3), (0, .class_ 4), (0, .nameAndType 5 6), (0, u "java/lang/Object"), (0, u "<init>"), (0, u "()V"), (0, .class_ 8), (0, u "java/lang/Record")] 13

def k2c0 : Code := { maxStack := 1, maxLocals := 1, code := jdk_30_method_1_code, exceptionTable := #[], attributes := #[] }
def k2m0 : Method := { name := "<init>", desc := "()V", sig := { parameters := [], returnType := none }, accessFlags := 4, code := some k2c0 }
/-- java/lang/Record -/
def k2 : Class := { plain "java/lang/Record" (some 0) with
  accessFlags := 1057
  interfaces := #[]
  cf := some (fileOf pool2 7 #[] #[{ accessFlags := 4, nameIndex := 5, descriptorIndex := 6, attributes := #[] }] 1057 2 #[] #[])
  fields := #[]
  methods := #[k2m0]
  instanceTypes := #[]
  staticTypes := #[]
  resolved := Array.replicate 22 none
  statics := none }

def pool3 : Array CpInfo := pool [(1, .methodref 2 3), (0, .class_ 4), (0, .nameAndType 5 6), (0, u "java/lang/Record"), (0, u "<init>"), (0, u "()V"), (0, .fieldref 8 9), (0, .class_ 10), (0, .nameAndType 11 12), (0, u "com/example/metakoll/metakoll/core/Summary"), (0, u "entities"), (0, u "I"), (0, .fieldref 8 14), (0, .nameAndType 15 12), (0, u "files"), (0, .fieldref 8 17), (0, .nameAndType 18 12), (0, u "errors"), (0, .fieldref 8 20), (0, .nameAndType 21 12), (0, u "warnings"), (0, .fieldref 8 23), (0, .nameAndType 24 12), (0, u "unusable"), (33, u "(IIIII)V"), (40, u "NONE"), (0, u "Lcom/example/metakoll/metakoll/core/Summary;"), (13, u "exitStatus"), (0, u "()I")] 27

def k3c0 : Code := { maxStack := 2, maxLocals := 6, code := prog_51_method_1_code, exceptionTable := #[], attributes := #[] }
def k3m0 : Method := { name := "<init>", desc := "(IIIII)V", sig := { parameters := [.int, .int, .int, .int, .int], returnType := none }, accessFlags := 1, code := some k3c0 }
def k3c1 : Code := { maxStack := 1, maxLocals := 2, code := prog_51_method_5_code, exceptionTable := #[], attributes := #[] }
def k3m1 : Method := { name := "exitStatus", desc := "()I", sig := { parameters := [], returnType := some .int }, accessFlags := 1, code := some k3c1 }
/-- com/example/metakoll/metakoll/core/Summary -/
def k3 : Class := { plain "com/example/metakoll/metakoll/core/Summary" (some 2) with
  accessFlags := 49
  interfaces := #[]
  cf := some (fileOf pool3 8 #[] #[{ accessFlags := 1, nameIndex := 5, descriptorIndex := 58, attributes := #[] }, { accessFlags := 1, nameIndex := 114, descriptorIndex := 115, attributes := #[] }] 49 2 #[] #[{ accessFlags := 18, nameIndex := 11, descriptorIndex := 12, attributes := #[] }, { accessFlags := 18, nameIndex := 15, descriptorIndex := 12, attributes := #[] }, { accessFlags := 18, nameIndex := 18, descriptorIndex := 12, attributes := #[] }, { accessFlags := 18, nameIndex := 21, descriptorIndex := 12, attributes := #[] }, { accessFlags := 18, nameIndex := 24, descriptorIndex := 12, attributes := #[] }, { accessFlags := 25, nameIndex := 99, descriptorIndex := 100, attributes := #[] }])
  fields := #[{ name := "entities", type := .int, accessFlags := 18, slot := 0, constantValue := 0 }, { name := "files", type := .int, accessFlags := 18, slot := 1, constantValue := 0 }, { name := "errors", type := .int, accessFlags := 18, slot := 2, constantValue := 0 }, { name := "warnings", type := .int, accessFlags := 18, slot := 3, constantValue := 0 }, { name := "unusable", type := .int, accessFlags := 18, slot := 4, constantValue := 0 }, { name := "NONE", type := (.object "com/example/metakoll/metakoll/core/Summary"), accessFlags := 25, slot := 0, constantValue := 0 }]
  methods := #[k3m0, k3m1]
  instanceTypes := #[.int, .int, .int, .int, .int]
  staticTypes := #[(.object "com/example/metakoll/metakoll/core/Summary")]
  resolved := Array.replicate 143 none
  statics := none }

def pool4 : Array CpInfo := pool [(1, u "java/lang/Cloneable"), (0, .class_ 1), (0, u "java/lang/Object"), (0, .class_ 3)] 3

/-- java/lang/Cloneable -/
def k4 : Class := { plain "java/lang/Cloneable" (some 0) with
  accessFlags := 1537
  interfaces := #[]
  cf := some (fileOf pool4 2 #[] #[] 1537 4 #[] #[])
  fields := #[]
  methods := #[]
  instanceTypes := #[]
  staticTypes := #[]
  resolved := Array.replicate 8 none
  statics := none }

def pool5 : Array CpInfo := pool [(1, u "java/io/Serializable"), (0, .class_ 1), (0, u "java/lang/Object"), (0, .class_ 3)] 3

/-- java/io/Serializable -/
def k5 : Class := { plain "java/io/Serializable" (some 0) with
  accessFlags := 1537
  interfaces := #[]
  cf := some (fileOf pool5 2 #[] #[] 1537 4 #[] #[])
  fields := #[]
  methods := #[]
  instanceTypes := #[]
  staticTypes := #[]
  resolved := Array.replicate 8 none
  statics := none }

/-- the primitive byte -/
def k6 : Class := { plain "byte" none with kind := .primitive 'B', accessFlags := 0x411 }
/-- [B -/
def k7 : Class := { plain "[B" (some 0) with kind := .array 6 .byte, interfaces := #[4, 5], accessFlags := 1041 }

/-- the primitive int -/
def k8 : Class := { plain "int" none with kind := .primitive 'I', accessFlags := 0x411 }
/-- [I -/
def k9 : Class := { plain "[I" (some 0) with kind := .array 8 .int, interfaces := #[4, 5], accessFlags := 1041 }

def heap : Heap := #[]
def classes : Array Class := #[k0, k1, k2, k3, k4, k5, k6, k7, k8, k9]
def interned : List (Array UInt16 × Addr) := []
def slotsUsed : Nat := 0
def theMethod : MethodId := ⟨1, 1⟩
def args0 : Array Value := #[.int 5, .int 5, .int 5, .int 5, .int 5, .int 5]
def aboutOver (below : List Frame) : State where
  vm := { classes := classes, interned := interned.toArray }
  heap := heap
  slotsUsed := slotsUsed
  threads := #[{ frames := .invoking theMethod args0 :: below }]
def below0 : List Frame := [.native { method := ⟨0, 0⟩, args := #[] }]
def about1 : State := aboutOver below0
def p0 : Program := .bare "" "" ""
def e0 : Env := launch0.env 0 0 0
theorem w_frames : about1.frames = Frame.invoking theMethod args0 :: below0 := rfl
set_option maxRecDepth 65536 in
theorem w_args : argsFit about1.vm theMethod args0 = true := by decide +kernel
set_option maxRecDepth 65536 in
theorem w_heap : heapFits about1 = true := by decide +kernel
set_option maxRecDepth 65536 in
theorem w_runnable : about1.curStatus? = some .runnable := by decide +kernel
set_option maxRecDepth 65536 in
theorem w_alone : about1.alone = true := by decide +kernel
set_option maxRecDepth 65536 in
theorem w_named : about1.methodNamed? x = some theMethod := by decide +kernel
set_option maxRecDepth 65536 in
theorem w_hears : about1.hears theMethod below0 = true := by decide +kernel
set_option maxRecDepth 65536 in
theorem w_ripe : about1.ripe theMethod args0 below0 = true := by decide +kernel
theorem w_running : about1.status = .running := rfl
set_option maxRecDepth 65536 in
theorem w_room : about1.hasRoom e0.platform room_1 = true :=
  launch0.hasRoom_least _ room_1 (by decide +kernel) (by decide +kernel) (by decide +kernel) (by decide +kernel) (by decide +kernel) (by decide +kernel)
theorem allAtoms_all (ts : List Jvm.Cond) (a : Array Jvm.Value) (st : Jvm.State) : (allAtoms ts).before a st = ts.all (fun c => c.before a st) := by
  induction ts with
  | nil => rfl
  | cons c t ih =>
    show (Jvm.Cond.and c (allAtoms t)).before a st = _
    rw [Jvm.Cond.before_and, ih, List.all_cons]
def words1 : List Jvm.Cond := Jvm.Cond.code x code maxLocals ret :: tables_1
/-- a 'code' word, met by the world's own term for the bytes: nothing is compared byte by byte -/
theorem code_word {y : MethodName} {bytes : ByteArray} {mx : Nat} {rt : Option FieldType} {a : Array Value} {s : State} {m : MethodId} {meth : Method} {c : Code} (h1 : s.methodNamed? y = some m) (h2 : s.vm.method? m = some meth) (h3 : meth.code = some c) (h4 : c.code = bytes)
    (h5 : (c.maxLocals == mx && c.exceptionTable.isEmpty && decide (c.maxStack ≤ mostOperands) && decide (meth.sig.returnType = rt) && !meth.locks && decide (parseMethodDescriptor y.desc = some meth.sig)) = true) : (Jvm.Cond.code y bytes mx rt).before a s = true := by
  simp only [Bool.and_eq_true, beq_iff_eq, Bool.not_eq_true', decide_eq_true_eq] at h5
  obtain ⟨⟨⟨⟨⟨g1, g2⟩, g3⟩, g4⟩, g5⟩, g6⟩ := h5
  simp [Cond.before, Cond.holds, Cond.value, h1, h2, h3, h4, g1, g2, g3, g4, g5, g6]
def isCode : Jvm.Cond → Bool
  | .code _ _ _ _ => true
  | _ => false
theorem all_split {L : List Jvm.Cond} {P : Jvm.Cond → Bool} (h1 : L.all (fun c => isCode c || P c) = true) (h2 : ∀ c ∈ L.filter isCode, P c = true) : L.all P = true := by
  refine List.all_eq_true.mpr fun c hc => ?_
  have h := List.all_eq_true.mp h1 c hc
  rcases Bool.eq_false_or_eq_true (isCode c) with hi | hi
  · exact h2 c (List.mem_filter.mpr ⟨hc, hi⟩)
  · simpa [hi] using h
set_option maxRecDepth 65536 in
theorem w_c0 : (Jvm.Cond.code x code maxLocals ret).before args0 about1 = true := code_word (m := ⟨1, 1⟩) (meth := k1m1) (c := k1c1) (by decide +kernel) rfl rfl rfl (by decide +kernel)
set_option maxRecDepth 65536 in
theorem w_c1 : (Jvm.Cond.code ({ cls := "com/example/metakoll/metakoll/core/Summary", name := "<init>", desc := "(IIIII)V" } : Jvm.MethodName) prog_51_method_1_code (6 : Nat) (Option.none : Option Jvm.ClassFile.FieldType)).before args0 about1 = true := code_word (m := ⟨3, 0⟩) (meth := k3m0) (c := k3c0) (by decide +kernel) rfl rfl rfl (by decide +kernel)
set_option maxRecDepth 65536 in
theorem w_c2 : (Jvm.Cond.code ({ cls := "java/lang/Record", name := "<init>", desc := "()V" } : Jvm.MethodName) jdk_30_method_1_code (1 : Nat) (Option.none : Option Jvm.ClassFile.FieldType)).before args0 about1 = true := code_word (m := ⟨2, 0⟩) (meth := k2m0) (c := k2c0) (by decide +kernel) rfl rfl rfl (by decide +kernel)
set_option maxRecDepth 65536 in
theorem w_c3 : (Jvm.Cond.code ({ cls := "java/lang/Object", name := "<init>", desc := "()V" } : Jvm.MethodName) object_method_1_code (1 : Nat) (Option.none : Option Jvm.ClassFile.FieldType)).before args0 about1 = true := code_word (m := ⟨0, 0⟩) (meth := k0m0) (c := k0c0) (by decide +kernel) rfl rfl rfl (by decide +kernel)
set_option maxRecDepth 65536 in
theorem w_c4 : (Jvm.Cond.code ({ cls := "com/example/metakoll/metakoll/core/Summary", name := "exitStatus", desc := "()I" } : Jvm.MethodName) prog_51_method_5_code (2 : Nat) (Option.some Jvm.ClassFile.FieldType.int)).before args0 about1 = true := code_word (m := ⟨3, 1⟩) (meth := k3m1) (c := k3c1) (by decide +kernel) rfl rfl rfl (by decide +kernel)
def codes1 : List Jvm.Cond := [Jvm.Cond.code x code maxLocals ret, Jvm.Cond.code ({ cls := "com/example/metakoll/metakoll/core/Summary", name := "<init>", desc := "(IIIII)V" } : Jvm.MethodName) prog_51_method_1_code (6 : Nat) (Option.none : Option Jvm.ClassFile.FieldType), Jvm.Cond.code ({ cls := "java/lang/Record", name := "<init>", desc := "()V" } : Jvm.MethodName) jdk_30_method_1_code (1 : Nat) (Option.none : Option Jvm.ClassFile.FieldType), Jvm.Cond.code ({ cls := "java/lang/Object", name := "<init>", desc := "()V" } : Jvm.MethodName) object_method_1_code (1 : Nat) (Option.none : Option Jvm.ClassFile.FieldType), Jvm.Cond.code ({ cls := "com/example/metakoll/metakoll/core/Summary", name := "exitStatus", desc := "()I" } : Jvm.MethodName) prog_51_method_5_code (2 : Nat) (Option.some Jvm.ClassFile.FieldType.int)]
set_option maxRecDepth 65536 in
theorem codes_eq : words1.filter isCode = codes1 := rfl
theorem w_codes : ∀ c ∈ words1.filter isCode, c.before args0 about1 = true := by
  rw [codes_eq]
  intro c hc
  simp only [codes1, List.mem_cons, List.not_mem_nil, or_false] at hc
  rcases hc with rfl | rfl | rfl | rfl | rfl
  · exact w_c0
  · exact w_c1
  · exact w_c2
  · exact w_c3
  · exact w_c4
set_option maxRecDepth 65536 in
theorem w_t1 : (words1.take 24).all (fun c => isCode c || c.before args0 about1) = true := by decide +kernel
set_option maxRecDepth 65536 in
theorem w_t2 : (words1.drop 24).all (fun c => isCode c || c.before args0 about1) = true := by decide +kernel
theorem w_tables : (allAtoms (Jvm.Cond.code x code maxLocals ret :: tables_1)).before args0 about1 = true := by
  rw [allAtoms_all]
  show words1.all (fun c => c.before args0 about1) = true
  refine all_split ?_ w_codes
  rw [← List.take_append_drop 24 words1, List.all_append, w_t1, w_t2]
  rfl
set_option maxRecDepth 65536 in
theorem w_case : (Jvm.Cond.and given_1 narrow_1).before args0 about1 = true := by decide +kernel
theorem w_applies : (headSpec (Jvm.Cond.code x code maxLocals ret :: tables_1) room_1).applies x e0.platform about1 = true :=
  (Spec.applies_iff w_frames).mpr ⟨w_running, w_runnable, w_alone, w_named, w_hears, w_ripe, w_room, w_tables⟩
theorem atStart : AtStart classFile x code maxLocals ret World_1 tables_1 room_1 Calls_1 rest_1 Pre_1 launch0 p0 e0 about1 theMethod args0 below0 :=
  ⟨lists_1, trivial, launch0.admits_env _ _ _, launch0.least_env, fairChoices_fair.cas, fairChoices_fair.clock, w_frames, w_args, w_heap, w_applies, trivial, trivial, w_case⟩
end start1
theorem witness_1 : WitnessClaimed_1 := ⟨start1.p0, start1.e0, start1.about1, start1.theMethod, start1.args0, start1.below0, start1.atStart⟩
end Jvm.Pilot.@@N@@
