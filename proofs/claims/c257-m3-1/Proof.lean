import JvmDerived
import JvmDerived.Pilot.@@N@@Statement
import JvmDerived.Pilot.@@N@@Code
set_option linter.unusedVariables false
set_option linter.unusedSimpArgs false

namespace Jvm.Pilot.@@N@@
open Jvm Jvm.ClassFile Sem Op Lib Jvm.Free Jvm.Stand Jvm.LawKit Jvm.RoadKit Bundle Jvm.Pilot.@@N@@.Jvm.D
/-! ## The walk, forwards: from here the method comes to its end as Q says -/
section OwnFin
variable {p : Program} {l : Launch} {e : Env} {R : Room} {s : State} {m : MethodId} {args : Array Value} {below : List Frame} {meth : Method} {c : Code} {T T' : State} {locs : List Loc} {cells slots K N : Nat} {Q : Option Value → Heap → List Loc → Prop}
def own_Fin (p : Program) (e : Env) (below : List Frame) (s : State) (K N : Nat) (Q : Option Value → Heap → List Loc → Prop) (T : State) (g : JFrame) : Prop :=
  ∃ t o, Steps p.tables e below (T.setTop g) t ∧ t.status = .running ∧ Ended t below o ∧ ∃ v L, o = .returned v ∧ Q v t.heap L ∧ FrameEnd s o t L K N
theorem own_in {g g' : JFrame} (q : g = g') (h : own_Fin p e below s K N Q T g') : ∃ t o, Steps p.tables e below (T.setTop g) t ∧ t.status = .running ∧ Ended t below o ∧ ∃ v L, o = .returned v ∧ Q v t.heap L ∧ FrameEnd s o t L K N := q ▸ h
theorem own_st {g g' : JFrame} (h : ∀ t, Steps p.tables e below (T'.setTop g') t → Steps p.tables e below (T.setTop g) t) (k : own_Fin p e below s K N Q T' g') : own_Fin p e below s K N Q T g := by
  obtain ⟨t, o, h1, h2⟩ := k; exact ⟨t, o, h t h1, h2⟩
theorem own_end {g : JFrame} {v : Option Value} (X : Stand p l e R s m args below meth c T locs cells slots) (hl : meth.locks = false) (hv : meth.sig.returnType = none → v = none)
    (h : ∀ fs, (∀ (f : JFrame) (acts : List Action), f.method = m → f.locked = none → f.entered = [] → (doReturn e (T.setTop f) acts v).1 = T.setFrames fs) → Steps p.tables e below (T.setTop g) (T.setFrames fs)) (hQ : Q v T.heap locs) (hc : cells ≤ K) (hs : slots ≤ N) : own_Fin p e below s K N Q T g := by
  obtain ⟨fs, hr, hrun, hended, hW, hsame⟩ := X.leave (v := v) hv hl
  exact ⟨_, _, h fs hr, hrun, hended, _, _, rfl, hQ, ⟨_, rfl⟩, hW, hsame.mono hc hs⟩
theorem own_retI {pc : Nat} {Ls : Array Slot} {z : Int32} {rest : List Value} (X : Stand p l e R s m args below meth c T locs cells slots) (hx : p.tables.exec = Jvm.exec) (hret : meth.sig.returnType = some .int) (hl : meth.locks = false) (hd : decode c.code pc = .ok (.ireturn, 1)) (hQ : Q (some (.int z)) T.heap locs) (hc : cells ≤ K) (hs : slots ≤ N) :
    own_Fin p e below s K N Q T (mkF m pc Ls (.int z :: rest)) :=
  own_end X hl (fun h => by rw [hret] at h; cases h) (fun fs hr => retOut X hx hret rfl (Or.inl ⟨rfl, Or.inl rfl, z, rfl⟩) hd hr) hQ hc hs
theorem own_retN {pc : Nat} {Ls : Array Slot} {z : Int32} {t : FieldType} {rest : List Value} (X : Stand p l e R s m args below meth c T locs cells slots) (hx : p.tables.exec = Jvm.exec) (hret : meth.sig.returnType = some t) (hl : meth.locks = false) (ht : t = .boolean ∨ t = .byte ∨ t = .char ∨ t = .short) (hd : decode c.code pc = .ok (.ireturn, 1)) (hQ : Q (some (.int (nar t z))) T.heap locs) (hc : cells ≤ K) (hs : slots ≤ N) :
    own_Fin p e below s K N Q T (mkF m pc Ls (.int z :: rest)) :=
  own_end X hl (fun h => by rw [hret] at h; cases h) (fun fs hr => retN X hx hret ht hd hr) hQ hc hs
theorem own_retJ {pc : Nat} {Ls : Array Slot} {z : Int64} {rest : List Value} (X : Stand p l e R s m args below meth c T locs cells slots) (hx : p.tables.exec = Jvm.exec) (hret : meth.sig.returnType = some .long) (hl : meth.locks = false) (hd : decode c.code pc = .ok (.lreturn, 1)) (hQ : Q (some (.long z)) T.heap locs) (hc : cells ≤ K) (hs : slots ≤ N) :
    own_Fin p e below s K N Q T (mkF m pc Ls (.long z :: rest)) :=
  own_end X hl (fun h => by rw [hret] at h; cases h) (fun fs hr => retOut X hx hret rfl (Or.inr (Or.inl ⟨rfl, rfl, z, rfl⟩)) hd hr) hQ hc hs
theorem own_retA {pc : Nat} {Ls : Array Slot} {a : Addr} {t : FieldType} {rest : List Value} (X : Stand p l e R s m args below meth c T locs cells slots) (hx : p.tables.exec = Jvm.exec) (hret : meth.sig.returnType = some t) (hl : meth.locks = false) (ht : t.isReference = true) (hd : decode c.code pc = .ok (.areturn, 1)) (hQ : Q (some (.ref a)) T.heap locs) (hc : cells ≤ K) (hs : slots ≤ N) :
    own_Fin p e below s K N Q T (mkF m pc Ls (.ref a :: rest)) :=
  own_end X hl (fun h => by rw [hret] at h; cases h) (fun fs hr => retOut X hx hret (by cases t <;> first | rfl | cases ht) (Or.inr (Or.inr (Or.inr (Or.inr ⟨rfl, ht, rfl⟩)))) hd hr) hQ hc hs
theorem own_retV {pc : Nat} {Ls : Array Slot} (X : Stand p l e R s m args below meth c T locs cells slots) (hx : p.tables.exec = Jvm.exec) (hret : meth.sig.returnType = none) (hl : meth.locks = false) (hd : decode c.code pc = .ok (.return_, 1)) (hQ : Q none T.heap locs) (hc : cells ≤ K) (hs : slots ≤ N) :
    own_Fin p e below s K N Q T (mkF m pc Ls []) :=
  own_end X hl (fun _ => rfl) (fun fs hr => X.returnOut hx hret hd hr) hQ hc hs
theorem own_lremM {g : JFrame} {target : State} (X : Stand p l e R s m args below meth c T locs cells slots) (hx : p.tables.exec = Jvm.exec) (hg : g.method = m) {x y : Int64} {rest : List Value} (hd : decode c.code g.pc = .ok (.lrem, 1)) (hs : g.stack = .long y :: .long x :: rest) (hy : y ≠ 0)
    (hr : Steps p.tables e below (T.setTop { g with pc := g.pc + 1, stack := .long (x % y) :: rest }) target) : Steps p.tables e below (T.setTop g) target := by
  have q : x - x / y * y = x % y := lrem_mod x y
  exact XS.lrem X.here hx hg hd hs hy (by rw [q]; exact hr)
end OwnFin
/-- a private method is selected by its own class -/
theorem own_selp {s : State} {args : Array Value} {n : Nat} {y : MethodName} (hy : y.cls ≠ "java/lang/invoke/MethodHandle" ∧ y.cls ≠ "java/lang/invoke/VarHandle") (hins : (Jvm.Cond.instantiable y.cls n).before args s = true) (hpriv : (Jvm.Cond.privateMethod y).before args s = true) (hinst : (Jvm.Cond.instanceMethod y).before args s = true) : (Jvm.Cond.selects y.cls y y).before args s = true := by
  obtain ⟨c, k, hc, hk, -, hniab, -, -⟩ := Cond.instantiable_spec hins
  have hni : k.isInterface = false := (Bool.or_eq_false_iff.mp hniab).1
  obtain ⟨mk, methM, hnamed, hmethM, -, -⟩ := Cond.instanceMethod_spec hinst
  have hfound : s.methodFound? y.cls y.name y.desc = some mk := State.methodFound?_of_named hnamed hy
  have hcls : mk.cls = c := Option.some.inj ((findClass_of_methodNamed hnamed).symm.trans hc)
  have hsel : selectMethod {} s.vm c mk = .method mk := selectMethod_private hmethM (Cond.privateMethod_at hpriv mk methM hnamed hmethM)
  simp only [Cond.before, Cond.holds, Cond.value, hc, hfound, hnamed, hsel, hcls, hk]
  simp; exact hni

def own_f1_11 (q0 : Int64) (q1 : Int64) (t0_11 : Int64) : Int64 := t0_11
theorem own_f1_11_eq (q0 : Int64) (q1 : Int64) (t0_11 : Int64) : own_f1_11 q0 q1 t0_11 = t0_11 := rfl
def own_F1 (q0 : Int64) (q1 : Int64) : Int64 := (if q0 < q1 then (own_f1_11 q0 q1 q1) else (own_f1_11 q0 q1 q0))
theorem own_F1_eq (q0 : Int64) (q1 : Int64) : own_F1 q0 q1 = (if q0 < q1 then (own_f1_11 q0 q1 q1) else (own_f1_11 q0 q1 q0)) := rfl
theorem d1_0 : decode jdk_29_method_66_code 0 = .ok (.lload_n 0, 1) := by decide +kernel
theorem d1_1 : decode jdk_29_method_66_code 1 = .ok (.lload_n 2, 1) := by decide +kernel
theorem d1_2 : decode jdk_29_method_66_code 2 = .ok (.lcmp, 1) := by decide +kernel
theorem d1_3 : decode jdk_29_method_66_code 3 = .ok (.ifCond .lt 7, 3) := by decide +kernel
theorem d1_6 : decode jdk_29_method_66_code 6 = .ok (.lload_n 0, 1) := by decide +kernel
theorem d1_7 : decode jdk_29_method_66_code 7 = .ok (.goto 4, 3) := by decide +kernel
theorem d1_10 : decode jdk_29_method_66_code 10 = .ok (.lload_n 2, 1) := by decide +kernel
theorem d1_11 : decode jdk_29_method_66_code 11 = .ok (.lreturn, 1) := by decide +kernel
theorem ef_1 (m : MethodId) (x0 : Int64) (x1 : Int64) : entryFrame m #[(.long x0), (.long x1)] 4 = mkF m 0 #[.val (.long x0), .second, .val (.long x1), .second] [] := by first | (simp [entryFrame, mkF, argsToLocals, Value.category]; done) | rfl
def Q1 (Z : State) (q0 : Int64) (q1 : Int64) (h0 : Heap) (n0 : Nat) (v : Option Value) (h : Heap) (L : List Loc) : Prop := v = some (.long (own_F1 q0 q1)) ∧ Fr n0 L ∧ h = h0
set_option maxRecDepth 65536 in
set_option maxHeartbeats 40000000 in
theorem rm1 (l : Launch) (Z : State) (a0 : Array Value) (hw : ∀ d ∈ tables_1, d.before a0 Z = true) (ws : List Jvm.Cond) (q0 : Int64) (q1 : Int64) (h0 : Heap) (n0 : Nat) (Z0 : n0 ≤ h0.size) :
    MetFree l (⟨"java/lang/Math", "max", "(JJ)J"⟩ : MethodName) (head1 (Jvm.Cond.code (⟨"java/lang/Math", "max", "(JJ)J"⟩ : MethodName) jdk_29_method_66_code 4 (some .long) :: ws) ({ frames := 0, cells := 0, slots := 0, locals := 0 } : Room)) (fun a U => a = #[(.long q0), (.long q1)] ∧ Z.Warmed39 U.vm ∧ U.heap = h0) (fun _ _ _ _ _ => True) (fun _ U o U' => ∃ v L, o = .returned v ∧ Q1 Z q0 q1 h0 n0 v U'.heap L ∧ FrameEnd U o U' L ({ frames := 0, cells := 0, slots := 0, locals := 0 } : Room).cells ({ frames := 0, cells := 0, slots := 0, locals := 0 } : Room).slots) := by
  refine MetFree.of_bodySF (Jvm.Free.JP.mathPlain rfl (by decide +kernel)) hisR ?_
  intro p e s m args below meth c s₁ Bd hml0 hP hK
  obtain ⟨rfl, hZ, hh⟩ := hP
  have hx := Bd.exec
  have hby := Bd.bytes
  have hml : c.maxLocals = 4 := hml0
  have hown : s.vm.findClass "java/lang/Math" = some m.cls := findClass_of_methodNamed Bd.named
  have hnm := (name_of_methodNamed Bd.named Bd.method).1
  have X0 : Stand p l e ({ frames := 0, cells := 0, slots := 0, locals := 0 } : Room) s m #[(.long q0), (.long q1)] below meth c s₁ [] 0 0 := Stand.of_body Bd
  have e0 : s₁.heap = h0 := by rw [← hh, Bd.state]; rfl
  have N0 := Fr.nil n0
  refine own_in (ef_1 m q0 q1) ?_
  have hr0 := (own_F1_eq q0 q1).symm
  refine own_st (g' := (mkF m 1 #[.val (.long q0), .second, .val (.long q1), .second] [(.long q0)])) (fun t k => XS.lloadN X0.here hx rfl (hb hby d1_0) rfl  k) ?_
  refine own_st (g' := (mkF m 2 #[.val (.long q0), .second, .val (.long q1), .second] [(.long q1), (.long q0)])) (fun t k => XS.lloadN X0.here hx rfl (hb hby d1_1) rfl  k) ?_
  refine own_st (g' := (mkF m 3 #[.val (.long q0), .second, .val (.long q1), .second] [(.int (lcmpW q0 q1))])) (fun t k => XS.lcmp X0.here hx rfl (hb hby d1_2) rfl k) ?_
  have J11 : ∀ (T : State) (locs : List Loc) (t0_11 : Int64), Stand p l e ({ frames := 0, cells := 0, slots := 0, locals := 0 } : Room) s m #[(.long q0), (.long q1)] below meth c T locs 0 0 → T.heap = h0 → Fr n0 locs → own_f1_11 q0 q1 t0_11 = own_F1 q0 q1 → own_Fin p e below s ({ frames := 0, cells := 0, slots := 0, locals := 0 } : Room).cells ({ frames := 0, cells := 0, slots := 0, locals := 0 } : Room).slots (Q1 Z q0 q1 h0 n0) T (mkF m 11 #[.val (.long q0), .second, .val (.long q1), .second] [(.long t0_11)]) := by
    intro T3 locs3 t0_11  X3 e3 N3 hr3
    have hr3a := (own_f1_11_eq (q0) (q1) (t0_11)).symm.trans hr3
    exact own_retJ X3 hx Bd.returns Bd.notSynchronized (hb hby d1_11) ⟨congrArg (fun q => some (Value.long q)) hr3a, N3, e3⟩ (by decide) (by decide)
  by_cases hc3_4 : q0 < q1
  · have hr5 := (if_pos hc3_4).symm.trans hr0
    refine own_st (g' := (mkF m 10 #[.val (.long q0), .second, .val (.long q1), .second] [])) (fun t k => XS.ifYes X0.here hx rfl (pc0 := 3) (pc' := 10) rfl (hb hby d1_3) rfl ((if0 _ _).trans (tlt ((lw_lt _ _).mpr hc3_4)).1) (by decide) (by decide) k) ?_
    refine own_st (g' := (mkF m 11 #[.val (.long q0), .second, .val (.long q1), .second] [(.long q1)])) (fun t k => XS.lloadN X0.here hx rfl (hb hby d1_10) rfl  k) ?_
    exact J11 s₁ _ q1  X0 e0 N0 hr5
  · have hr6 := (if_neg hc3_4).symm.trans hr0
    refine own_st (g' := (mkF m 6 #[.val (.long q0), .second, .val (.long q1), .second] [])) (fun t k => XS.ifNo X0.here hx rfl (hb hby d1_3) rfl ((if0 _ _).trans (flt (fun q => hc3_4 ((lw_lt _ _).mp q))).1) k) ?_
    refine own_st (g' := (mkF m 7 #[.val (.long q0), .second, .val (.long q1), .second] [(.long q0)])) (fun t k => XS.lloadN X0.here hx rfl (hb hby d1_6) rfl  k) ?_
    refine own_st (g' := (mkF m 11 #[.val (.long q0), .second, .val (.long q1), .second] [(.long q0)])) (fun t k => XS.goto X0.here hx rfl (pc0 := 7) (pc' := 11) rfl (hb hby d1_7) (by decide) (by decide) k) ?_
    exact J11 s₁ _ q0  X0 e0 N0 hr6
def own_f2_23 (p0 : Int32) (q1 : Int64) (q2 : Int64) (t0_23 : Int32) : Int32 := (nar .boolean t0_23)
theorem own_f2_23_eq (p0 : Int32) (q1 : Int64) (q2 : Int64) (t0_23 : Int32) : own_f2_23 p0 q1 q2 t0_23 = (nar .boolean t0_23) := rfl
def own_F2 (p0 : Int32) (q1 : Int64) (q2 : Int64) : Int32 := (if p0 < (1 : Int32) then (own_f2_23 p0 q1 q2 (0 : Int32)) else (if ((q2 - q1) - (8 : Int64)) < ((p0).toInt64) then (own_f2_23 p0 q1 q2 (0 : Int32)) else (own_f2_23 p0 q1 q2 (1 : Int32))))
theorem own_F2_eq (p0 : Int32) (q1 : Int64) (q2 : Int64) : own_F2 p0 q1 q2 = (if p0 < (1 : Int32) then (own_f2_23 p0 q1 q2 (0 : Int32)) else (if ((q2 - q1) - (8 : Int64)) < ((p0).toInt64) then (own_f2_23 p0 q1 q2 (0 : Int32)) else (own_f2_23 p0 q1 q2 (1 : Int32)))) := rfl
theorem d2_0 : decode prog_152_method_13_code 0 = .ok (.iload_n 0, 1) := by decide +kernel
theorem d2_1 : decode prog_152_method_13_code 1 = .ok (.iconst 1, 1) := by decide +kernel
theorem d2_2 : decode prog_152_method_13_code 2 = .ok (.if_icmp .lt 20, 3) := by decide +kernel
theorem d2_5 : decode prog_152_method_13_code 5 = .ok (.iload_n 0, 1) := by decide +kernel
theorem d2_6 : decode prog_152_method_13_code 6 = .ok (.i2l, 1) := by decide +kernel
theorem d2_7 : decode prog_152_method_13_code 7 = .ok (.lload_n 3, 1) := by decide +kernel
theorem d2_8 : decode prog_152_method_13_code 8 = .ok (.lload_n 1, 1) := by decide +kernel
theorem d2_9 : decode prog_152_method_13_code 9 = .ok (.lsub, 1) := by decide +kernel
theorem d2_10 : decode prog_152_method_13_code 10 = .ok (.ldc2_w 135, 3) := by decide +kernel
theorem d2_13 : decode prog_152_method_13_code 13 = .ok (.lsub, 1) := by decide +kernel
theorem d2_14 : decode prog_152_method_13_code 14 = .ok (.lcmp, 1) := by decide +kernel
theorem d2_15 : decode prog_152_method_13_code 15 = .ok (.ifCond .gt 7, 3) := by decide +kernel
theorem d2_18 : decode prog_152_method_13_code 18 = .ok (.iconst 1, 1) := by decide +kernel
theorem d2_19 : decode prog_152_method_13_code 19 = .ok (.goto 4, 3) := by decide +kernel
theorem d2_22 : decode prog_152_method_13_code 22 = .ok (.iconst 0, 1) := by decide +kernel
theorem d2_23 : decode prog_152_method_13_code 23 = .ok (.ireturn, 1) := by decide +kernel
theorem pn_2 : plainName "com/example/labrelay/labrelay/store/JournalRecords" = true := by first | (simp [plainName, overriddenIn]; done) | decide +kernel
theorem ef_2 (m : MethodId) (x0 : Int32) (x1 : Int64) (x2 : Int64) : entryFrame m #[(.int x0), (.long x1), (.long x2)] 5 = mkF m 0 #[.val (.int x0), .val (.long x1), .second, .val (.long x2), .second] [] := by first | (simp [entryFrame, mkF, argsToLocals, Value.category]; done) | rfl
def Q2 (Z : State) (p0 : Int32) (q1 : Int64) (q2 : Int64) (h0 : Heap) (n0 : Nat) (v : Option Value) (h : Heap) (L : List Loc) : Prop := v = some (.int (own_F2 p0 q1 q2)) ∧ Fr n0 L ∧ h = h0
set_option maxRecDepth 65536 in
set_option maxHeartbeats 40000000 in
theorem rm2 (l : Launch) (Z : State) (a0 : Array Value) (hw : ∀ d ∈ tables_1, d.before a0 Z = true) (ws : List Jvm.Cond) (p0 : Int32) (q1 : Int64) (q2 : Int64) (h0 : Heap) (n0 : Nat) (Z0 : n0 ≤ h0.size) :
    MetFree l (⟨"com/example/labrelay/labrelay/store/JournalRecords", "fits", "(IJJ)Z"⟩ : MethodName) (head1 (Jvm.Cond.code (⟨"com/example/labrelay/labrelay/store/JournalRecords", "fits", "(IJJ)Z"⟩ : MethodName) prog_152_method_13_code 5 (some .boolean) :: ws) ({ frames := 0, cells := 0, slots := 0, locals := 0 } : Room)) (fun a U => a = #[(.int p0), (.long q1), (.long q2)] ∧ Z.Warmed39 U.vm ∧ U.heap = h0) (fun _ _ _ _ _ => True) (fun _ U o U' => ∃ v L, o = .returned v ∧ Q2 Z p0 q1 q2 h0 n0 v U'.heap L ∧ FrameEnd U o U' L ({ frames := 0, cells := 0, slots := 0, locals := 0 } : Room).cells ({ frames := 0, cells := 0, slots := 0, locals := 0 } : Room).slots) := by
  refine MetFree.of_bodySF (plainFor_of_name pn_2) hisR ?_
  intro p e s m args below meth c s₁ Bd hml0 hP hK
  obtain ⟨rfl, hZ, hh⟩ := hP
  have hx := Bd.exec
  have hby := Bd.bytes
  have hml : c.maxLocals = 5 := hml0
  have hown : s.vm.findClass "com/example/labrelay/labrelay/store/JournalRecords" = some m.cls := findClass_of_methodNamed Bd.named
  have hnm := (name_of_methodNamed Bd.named Bd.method).1
  have X0 : Stand p l e ({ frames := 0, cells := 0, slots := 0, locals := 0 } : Room) s m #[(.int p0), (.long q1), (.long q2)] below meth c s₁ [] 0 0 := Stand.of_body Bd
  have e0 : s₁.heap = h0 := by rw [← hh, Bd.state]; rfl
  have N0 := Fr.nil n0
  refine own_in (ef_2 m p0 q1 q2) ?_
  have hr0 := (own_F2_eq p0 q1 q2).symm
  refine own_st (g' := (mkF m 1 #[.val (.int p0), .val (.long q1), .second, .val (.long q2), .second] [(.int p0)])) (fun t k => XS.iloadN X0.here hx rfl (hb hby d2_0) rfl  k) ?_
  refine own_st (g' := (mkF m 2 #[.val (.int p0), .val (.long q1), .second, .val (.long q2), .second] [(.int (1 : Int32)), (.int p0)])) (fun t k => XS.iconst X0.here hx rfl (hb hby d2_1) k) ?_
  have J23 : ∀ (T : State) (locs : List Loc) (t0_23 : Int32), Stand p l e ({ frames := 0, cells := 0, slots := 0, locals := 0 } : Room) s m #[(.int p0), (.long q1), (.long q2)] below meth c T locs 0 0 → T.heap = h0 → Fr n0 locs → own_f2_23 p0 q1 q2 t0_23 = own_F2 p0 q1 q2 → own_Fin p e below s ({ frames := 0, cells := 0, slots := 0, locals := 0 } : Room).cells ({ frames := 0, cells := 0, slots := 0, locals := 0 } : Room).slots (Q2 Z p0 q1 q2 h0 n0) T (mkF m 23 #[.val (.int p0), .val (.long q1), .second, .val (.long q2), .second] [(.int t0_23)]) := by
    intro T5 locs5 t0_23  X5 e5 N5 hr5
    have hr5a := (own_f2_23_eq (p0) (q1) (q2) (t0_23)).symm.trans hr5
    exact own_retN (t := .boolean) X5 hx Bd.returns Bd.notSynchronized (by simp) (hb hby d2_23) ⟨congrArg (fun q => some (Value.int q)) hr5a, N5, e5⟩ (by decide) (by decide)
  by_cases hc2_6 : p0 < (1 : Int32)
  · have hr7 := (if_pos hc2_6).symm.trans hr0
    refine own_st (g' := (mkF m 22 #[.val (.int p0), .val (.long q1), .second, .val (.long q2), .second] [])) (fun t k => XS.icmpYes X0.here hx rfl (pc0 := 2) (pc' := 22) rfl (hb hby d2_2) rfl (tlt hc2_6).1 (by decide) (by decide) k) ?_
    refine own_st (g' := (mkF m 23 #[.val (.int p0), .val (.long q1), .second, .val (.long q2), .second] [(.int (0 : Int32))])) (fun t k => XS.iconst X0.here hx rfl (hb hby d2_22) k) ?_
    exact J23 s₁ _ (0 : Int32)  X0 e0 N0 hr7
  · have hr8 := (if_neg hc2_6).symm.trans hr0
    refine own_st (g' := (mkF m 5 #[.val (.int p0), .val (.long q1), .second, .val (.long q2), .second] [])) (fun t k => XS.icmpNo X0.here hx rfl (hb hby d2_2) rfl (flt hc2_6).1 k) ?_
    refine own_st (g' := (mkF m 6 #[.val (.int p0), .val (.long q1), .second, .val (.long q2), .second] [(.int p0)])) (fun t k => XS.iloadN X0.here hx rfl (hb hby d2_5) rfl  k) ?_
    refine own_st (g' := (mkF m 7 #[.val (.int p0), .val (.long q1), .second, .val (.long q2), .second] [(.long ((p0).toInt64))])) (fun t k => XS.i2l X0.here hx rfl (hb hby d2_6) rfl k) ?_
    refine own_st (g' := (mkF m 8 #[.val (.int p0), .val (.long q1), .second, .val (.long q2), .second] [(.long q2), (.long ((p0).toInt64))])) (fun t k => XS.lloadN X0.here hx rfl (hb hby d2_7) rfl  k) ?_
    refine own_st (g' := (mkF m 9 #[.val (.int p0), .val (.long q1), .second, .val (.long q2), .second] [(.long q1), (.long q2), (.long ((p0).toInt64))])) (fun t k => XS.lloadN X0.here hx rfl (hb hby d2_8) rfl  k) ?_
    refine own_st (g' := (mkF m 10 #[.val (.int p0), .val (.long q1), .second, .val (.long q2), .second] [(.long (q2 - q1)), (.long ((p0).toInt64))])) (fun t k => XS.lsub X0.here hx rfl (hb hby d2_9) rfl k) ?_
    refine own_st (g' := (mkF m 13 #[.val (.int p0), .val (.long q1), .second, .val (.long q2), .second] [(.long (8 : Int64)), (.long (q2 - q1)), (.long ((p0).toInt64))])) (fun t k => X0.ldc2Long hx hown (mvT hZ (hw _ (List.mem_of_getElem? (i := 10) rfl))) (g := (mkF m 10 #[.val (.int p0), .val (.long q1), .second, .val (.long q2), .second] [(.long (q2 - q1)), (.long ((p0).toInt64))])) rfl (hb hby d2_10) t k) ?_
    refine own_st (g' := (mkF m 14 #[.val (.int p0), .val (.long q1), .second, .val (.long q2), .second] [(.long ((q2 - q1) - (8 : Int64))), (.long ((p0).toInt64))])) (fun t k => XS.lsub X0.here hx rfl (hb hby d2_13) rfl k) ?_
    refine own_st (g' := (mkF m 15 #[.val (.int p0), .val (.long q1), .second, .val (.long q2), .second] [(.int (lcmpW ((p0).toInt64) ((q2 - q1) - (8 : Int64))))])) (fun t k => XS.lcmp X0.here hx rfl (hb hby d2_14) rfl k) ?_
    by_cases hc15_9 : ((q2 - q1) - (8 : Int64)) < ((p0).toInt64)
    · have hr10 := (if_pos hc15_9).symm.trans hr8
      refine own_st (g' := (mkF m 22 #[.val (.int p0), .val (.long q1), .second, .val (.long q2), .second] [])) (fun t k => XS.ifYes X0.here hx rfl (pc0 := 15) (pc' := 22) rfl (hb hby d2_15) rfl ((if0 _ _).trans (tlt ((lw_gt _ _).mpr hc15_9)).2.2.1) (by decide) (by decide) k) ?_
      refine own_st (g' := (mkF m 23 #[.val (.int p0), .val (.long q1), .second, .val (.long q2), .second] [(.int (0 : Int32))])) (fun t k => XS.iconst X0.here hx rfl (hb hby d2_22) k) ?_
      exact J23 s₁ _ (0 : Int32)  X0 e0 N0 hr10
    · have hr11 := (if_neg hc15_9).symm.trans hr8
      refine own_st (g' := (mkF m 18 #[.val (.int p0), .val (.long q1), .second, .val (.long q2), .second] [])) (fun t k => XS.ifNo X0.here hx rfl (hb hby d2_15) rfl ((if0 _ _).trans (flt (fun q => hc15_9 ((lw_gt _ _).mp q))).2.2.1) k) ?_
      refine own_st (g' := (mkF m 19 #[.val (.int p0), .val (.long q1), .second, .val (.long q2), .second] [(.int (1 : Int32))])) (fun t k => XS.iconst X0.here hx rfl (hb hby d2_18) k) ?_
      refine own_st (g' := (mkF m 23 #[.val (.int p0), .val (.long q1), .second, .val (.long q2), .second] [(.int (1 : Int32))])) (fun t k => XS.goto X0.here hx rfl (pc0 := 19) (pc' := 23) rfl (hb hby d2_19) (by decide) (by decide) k) ?_
      exact J23 s₁ _ (1 : Int32)  X0 e0 N0 hr11
def own_f0_90 (p0 : Int32) (q1 : Int64) (q2 : Int64) (p3 : Int32) (p4 : Int32) (l9_45 : Int64) (t0_70 : Int32) (t0_90 : Int32) : Int32 := (nar .boolean t0_90)
theorem own_f0_90_eq (p0 : Int32) (q1 : Int64) (q2 : Int64) (p3 : Int32) (p4 : Int32) (l9_45 : Int64) (t0_70 : Int32) (t0_90 : Int32) : own_f0_90 p0 q1 q2 p3 p4 l9_45 t0_70 t0_90 = (nar .boolean t0_90) := rfl
def own_f0_70 (p0 : Int32) (q1 : Int64) (q2 : Int64) (p3 : Int32) (p4 : Int32) (l9_45 : Int64) (t0_70 : Int32) : Int32 := (if (own_F2 p0 (q1 &&& (4611686018427387903 : Int64)) l9_45) = t0_70 then (own_f0_90 p0 q1 q2 p3 p4 l9_45 t0_70 (1 : Int32)) else (own_f0_90 p0 q1 q2 p3 p4 l9_45 t0_70 (0 : Int32)))
theorem own_f0_70_eq (p0 : Int32) (q1 : Int64) (q2 : Int64) (p3 : Int32) (p4 : Int32) (l9_45 : Int64) (t0_70 : Int32) : own_f0_70 p0 q1 q2 p3 p4 l9_45 t0_70 = (if (own_F2 p0 (q1 &&& (4611686018427387903 : Int64)) l9_45) = t0_70 then (own_f0_90 p0 q1 q2 p3 p4 l9_45 t0_70 (1 : Int32)) else (own_f0_90 p0 q1 q2 p3 p4 l9_45 t0_70 (0 : Int32))) := rfl
def own_f0_45 (p0 : Int32) (q1 : Int64) (q2 : Int64) (p3 : Int32) (p4 : Int32) (l9_45 : Int64) : Int32 := (if p0 < (1 : Int32) then (own_f0_70 p0 q1 q2 p3 p4 l9_45 (0 : Int32)) else (if l9_45 < (((q1 &&& (4611686018427387903 : Int64)) + (8 : Int64)) + ((p0).toInt64)) then (own_f0_70 p0 q1 q2 p3 p4 l9_45 (0 : Int32)) else (own_f0_70 p0 q1 q2 p3 p4 l9_45 (1 : Int32))))
theorem own_f0_45_eq (p0 : Int32) (q1 : Int64) (q2 : Int64) (p3 : Int32) (p4 : Int32) (l9_45 : Int64) : own_f0_45 p0 q1 q2 p3 p4 l9_45 = (if p0 < (1 : Int32) then (own_f0_70 p0 q1 q2 p3 p4 l9_45 (0 : Int32)) else (if l9_45 < (((q1 &&& (4611686018427387903 : Int64)) + (8 : Int64)) + ((p0).toInt64)) then (own_f0_70 p0 q1 q2 p3 p4 l9_45 (0 : Int32)) else (own_f0_70 p0 q1 q2 p3 p4 l9_45 (1 : Int32)))) := rfl
def own_F0 (p0 : Int32) (q1 : Int64) (q2 : Int64) (p3 : Int32) (p4 : Int32) : Int32 := (if (p4 &&& (1 : Int32)) = (0 : Int32) then (own_f0_45 p0 q1 q2 p3 p4 (own_F1 (0 : Int64) ((((q1 &&& (4611686018427387903 : Int64)) + (8 : Int64)) + ((p0).toInt64)) + (((p3 % (4 : Int32))).toInt64)))) else (own_f0_45 p0 q1 q2 p3 p4 (q2 &&& (9223372036854775807 : Int64))))
theorem own_F0_eq (p0 : Int32) (q1 : Int64) (q2 : Int64) (p3 : Int32) (p4 : Int32) : own_F0 p0 q1 q2 p3 p4 = (if (p4 &&& (1 : Int32)) = (0 : Int32) then (own_f0_45 p0 q1 q2 p3 p4 (own_F1 (0 : Int64) ((((q1 &&& (4611686018427387903 : Int64)) + (8 : Int64)) + ((p0).toInt64)) + (((p3 % (4 : Int32))).toInt64)))) else (own_f0_45 p0 q1 q2 p3 p4 (q2 &&& (9223372036854775807 : Int64)))) := rfl
theorem pn_0 : plainName "com/example/labrelay/labrelay/store/JournalRecordsFitsPinLaw" = true := by first | (simp [plainName, overriddenIn]; done) | decide +kernel
theorem pd_0_0 : parseMethodDescriptor "(IJJ)Z" = some ⟨[.int, .long, .long], some .boolean⟩ := by decide +kernel
theorem pd_0_1 : parseMethodDescriptor "(JJ)J" = some ⟨[.long, .long], some .long⟩ := by decide +kernel
theorem ef_0 (m : MethodId) (x0 : Int32) (x1 : Int64) (x2 : Int64) (x3 : Int32) (x4 : Int32) : entryFrame m #[(.int x0), (.long x1), (.long x2), (.int x3), (.int x4)] maxLocals = mkF m 0 #[.val (.int x0), .val (.long x1), .second, .val (.long x2), .second, .val (.int x3), .val (.int x4), .unset, .unset, .unset, .unset, .unset] [] := by first | (simp [entryFrame, mkF, argsToLocals, Value.category, maxLocals]; done) | rfl
def Q0 (Z : State) (p0 : Int32) (q1 : Int64) (q2 : Int64) (p3 : Int32) (p4 : Int32) (h0 : Heap) (n0 : Nat) (v : Option Value) (h : Heap) (L : List Loc) : Prop := v = some (.int 1) ∧ Fr n0 L
set_option maxRecDepth 65536 in
set_option maxHeartbeats 40000000 in
theorem rm0 (l : Launch) (Z : State) (a0 : Array Value) (hw : ∀ d ∈ tables_1, d.before a0 Z = true) (ws : List Jvm.Cond) (p0 : Int32) (q1 : Int64) (q2 : Int64) (p3 : Int32) (p4 : Int32) (h0 : Heap) (n0 : Nat) (Z0 : n0 ≤ h0.size) (hlaw : own_F0 p0 q1 q2 p3 p4 = 1) :
    MetFree l x (head1 (Jvm.Cond.code x code maxLocals ret :: ws) room_1) (fun a U => a = #[(.int p0), (.long q1), (.long q2), (.int p3), (.int p4)] ∧ Z.Warmed39 U.vm ∧ U.heap = h0) (fun _ _ _ _ _ => True) (fun _ U o U' => ∃ v L, o = .returned v ∧ Q0 Z p0 q1 q2 p3 p4 h0 n0 v U'.heap L ∧ FrameEnd U o U' L 0 0) := by
  refine MetFree.of_bodySF (plainFor_of_name pn_0) hisR ?_
  intro p e s m args below meth c s₁ Bd hml0 hP hK
  obtain ⟨rfl, hZ, hh⟩ := hP
  have hx := Bd.exec
  have hby := Bd.bytes
  have hml : c.maxLocals = 12 := hml0
  have hown : s.vm.findClass "com/example/labrelay/labrelay/store/JournalRecordsFitsPinLaw" = some m.cls := findClass_of_methodNamed Bd.named
  have hnm := (name_of_methodNamed Bd.named Bd.method).1
  have X0 : Stand p l e room_1 s m #[(.int p0), (.long q1), (.long q2), (.int p3), (.int p4)] below meth c s₁ [] 0 0 := Stand.of_body Bd
  have e0 : s₁.heap = h0 := by rw [← hh, Bd.state]; rfl
  have N0 := Fr.nil n0
  refine own_in (ef_0 m p0 q1 q2 p3 p4) ?_
  have hr0 := (own_F0_eq p0 q1 q2 p3 p4).symm.trans hlaw
  refine own_st (g' := (mkF m 1 #[.val (.int p0), .val (.long q1), .second, .val (.long q2), .second, .val (.int p3), .val (.int p4), .unset, .unset, .unset, .unset, .unset] [(.long q1)])) (fun t k => XS.lloadN X0.here hx rfl (hb hby at_0) rfl  k) ?_
  refine own_st (g' := (mkF m 4 #[.val (.int p0), .val (.long q1), .second, .val (.long q2), .second, .val (.int p3), .val (.int p4), .unset, .unset, .unset, .unset, .unset] [(.long (4611686018427387903 : Int64)), (.long q1)])) (fun t k => X0.ldc2Long hx hown (mvT hZ (hw _ (List.mem_of_getElem? (i := 0) rfl))) (g := (mkF m 1 #[.val (.int p0), .val (.long q1), .second, .val (.long q2), .second, .val (.int p3), .val (.int p4), .unset, .unset, .unset, .unset, .unset] [(.long q1)])) rfl (hb hby at_1) t k) ?_
  refine own_st (g' := (mkF m 5 #[.val (.int p0), .val (.long q1), .second, .val (.long q2), .second, .val (.int p3), .val (.int p4), .unset, .unset, .unset, .unset, .unset] [(.long (q1 &&& (4611686018427387903 : Int64)))])) (fun t k => XS.land X0.here hx rfl (hb hby at_4) rfl k) ?_
  refine own_st (g' := (mkF m 7 #[.val (.int p0), .val (.long q1), .second, .val (.long q2), .second, .val (.int p3), .val (.int p4), .val (.long (q1 &&& (4611686018427387903 : Int64))), .second, .unset, .unset, .unset] [])) (fun t k => XS.lstore X0.here hx rfl (hb hby at_5) rfl (l' := #[.val (.int p0), .val (.long q1), .second, .val (.long q2), .second, .val (.int p3), .val (.int p4), .val (.long (q1 &&& (4611686018427387903 : Int64))), .second, .unset, .unset, .unset]) rfl k) ?_
  refine own_st (g' := (mkF m 9 #[.val (.int p0), .val (.long q1), .second, .val (.long q2), .second, .val (.int p3), .val (.int p4), .val (.long (q1 &&& (4611686018427387903 : Int64))), .second, .unset, .unset, .unset] [(.int p4)])) (fun t k => XS.iload X0.here hx rfl (hb hby at_7) rfl  k) ?_
  refine own_st (g' := (mkF m 10 #[.val (.int p0), .val (.long q1), .second, .val (.long q2), .second, .val (.int p3), .val (.int p4), .val (.long (q1 &&& (4611686018427387903 : Int64))), .second, .unset, .unset, .unset] [(.int (1 : Int32)), (.int p4)])) (fun t k => XS.iconst X0.here hx rfl (hb hby at_9) k) ?_
  refine own_st (g' := (mkF m 11 #[.val (.int p0), .val (.long q1), .second, .val (.long q2), .second, .val (.int p3), .val (.int p4), .val (.long (q1 &&& (4611686018427387903 : Int64))), .second, .unset, .unset, .unset] [(.int (p4 &&& (1 : Int32)))])) (fun t k => XS.iand X0.here hx rfl (hb hby at_10) rfl k) ?_
  have J45 : ∀ (T : State) (locs : List Loc) (l9_45 : Int64), Stand p l e room_1 s m #[(.int p0), (.long q1), (.long q2), (.int p3), (.int p4)] below meth c T locs 0 0 → T.heap = h0 → Fr n0 locs → own_f0_45 p0 q1 q2 p3 p4 l9_45 = (1 : Int32) → own_Fin p e below s 0 0 (Q0 Z p0 q1 q2 p3 p4 h0 n0) T (mkF m 45 #[.val (.int p0), .val (.long q1), .second, .val (.long q2), .second, .val (.int p3), .val (.int p4), .val (.long (q1 &&& (4611686018427387903 : Int64))), .second, .val (.long l9_45), .second, .unset] []) := by
    intro T13 locs13 l9_45  X13 e13 N13 hr13
    have hr13a := (own_f0_45_eq (p0) (q1) (q2) (p3) (p4) (l9_45)).symm.trans hr13
    refine own_st (g' := (mkF m 46 #[.val (.int p0), .val (.long q1), .second, .val (.long q2), .second, .val (.int p3), .val (.int p4), .val (.long (q1 &&& (4611686018427387903 : Int64))), .second, .val (.long l9_45), .second, .unset] [(.int p0)])) (fun t k => XS.iloadN X13.here hx rfl (hb hby at_45) rfl  k) ?_
    refine own_st (g' := (mkF m 47 #[.val (.int p0), .val (.long q1), .second, .val (.long q2), .second, .val (.int p3), .val (.int p4), .val (.long (q1 &&& (4611686018427387903 : Int64))), .second, .val (.long l9_45), .second, .unset] [(.int (1 : Int32)), (.int p0)])) (fun t k => XS.iconst X13.here hx rfl (hb hby at_46) k) ?_
    have J70 : ∀ (T : State) (locs : List Loc) (t0_70 : Int32), Stand p l e room_1 s m #[(.int p0), (.long q1), (.long q2), (.int p3), (.int p4)] below meth c T locs 0 0 → T.heap = h0 → Fr n0 locs → own_f0_70 p0 q1 q2 p3 p4 l9_45 t0_70 = (1 : Int32) → own_Fin p e below s 0 0 (Q0 Z p0 q1 q2 p3 p4 h0 n0) T (mkF m 70 #[.val (.int p0), .val (.long q1), .second, .val (.long q2), .second, .val (.int p3), .val (.int p4), .val (.long (q1 &&& (4611686018427387903 : Int64))), .second, .val (.long l9_45), .second, .unset] [(.int t0_70)]) := by
      intro T14 locs14 t0_70  X14 e14 N14 hr14
      have hr14a := (own_f0_70_eq (p0) (q1) (q2) (p3) (p4) (l9_45) (t0_70)).symm.trans hr14
      refine own_st (g' := (mkF m 72 #[.val (.int p0), .val (.long q1), .second, .val (.long q2), .second, .val (.int p3), .val (.int p4), .val (.long (q1 &&& (4611686018427387903 : Int64))), .second, .val (.long l9_45), .second, .val (.int t0_70)] [])) (fun t k => XS.istore X14.here hx rfl (hb hby at_70) rfl (l' := #[.val (.int p0), .val (.long q1), .second, .val (.long q2), .second, .val (.int p3), .val (.int p4), .val (.long (q1 &&& (4611686018427387903 : Int64))), .second, .val (.long l9_45), .second, .val (.int t0_70)]) rfl k) ?_
      refine own_st (g' := (mkF m 73 #[.val (.int p0), .val (.long q1), .second, .val (.long q2), .second, .val (.int p3), .val (.int p4), .val (.long (q1 &&& (4611686018427387903 : Int64))), .second, .val (.long l9_45), .second, .val (.int t0_70)] [(.int p0)])) (fun t k => XS.iloadN X14.here hx rfl (hb hby at_72) rfl  k) ?_
      refine own_st (g' := (mkF m 75 #[.val (.int p0), .val (.long q1), .second, .val (.long q2), .second, .val (.int p3), .val (.int p4), .val (.long (q1 &&& (4611686018427387903 : Int64))), .second, .val (.long l9_45), .second, .val (.int t0_70)] [(.long (q1 &&& (4611686018427387903 : Int64))), (.int p0)])) (fun t k => XS.lload X14.here hx rfl (hb hby at_73) rfl  k) ?_
      refine own_st (g' := (mkF m 77 #[.val (.int p0), .val (.long q1), .second, .val (.long q2), .second, .val (.int p3), .val (.int p4), .val (.long (q1 &&& (4611686018427387903 : Int64))), .second, .val (.long l9_45), .second, .val (.int t0_70)] [(.long l9_45), (.long (q1 &&& (4611686018427387903 : Int64))), (.int p0)])) (fun t k => XS.lload X14.here hx rfl (hb hby at_75) rfl  k) ?_
      obtain ⟨_, _, ⟨T15, L15, k15, n15⟩, -, X15, ⟨Lc15, hQ15, l15, y15, z15⟩, st15⟩ := Jvm.LawKit.callS X14 hx (y := (⟨"com/example/labrelay/labrelay/store/JournalRecords", "fits", "(IJJ)Z"⟩ : MethodName)) hown (mvT hZ (hw _ (List.mem_of_getElem? (i := 6) rfl))) (mvT hZ (hw _ (List.mem_of_getElem? (i := 7) rfl))) (mvT hZ (hw _ (List.mem_of_getElem? (i := 8) rfl))) (mvT hZ (hw _ (List.mem_of_getElem? (i := 9) rfl))) (by decide) (backOf (W := 0) (rm2 l Z a0 hw [] p0 (q1 &&& (4611686018427387903 : Int64)) l9_45 h0 n0 Z0  ) hZ (hw _ (List.mem_of_getElem? (i := 9) rfl)) (hw _ (List.mem_of_getElem? (i := 8) rfl)) (by decide) (by decide)) (g := (mkF m 77 #[.val (.int p0), .val (.long q1), .second, .val (.long q2), .second, .val (.int p3), .val (.int p4), .val (.long (q1 &&& (4611686018427387903 : Int64))), .second, .val (.long l9_45), .second, .val (.int t0_70)] [(.long l9_45), (.long (q1 &&& (4611686018427387903 : Int64))), (.int p0)])) rfl (by rw [hml]; rfl) (argsL := [(.int p0), (.long (q1 &&& (4611686018427387903 : Int64))), (.long l9_45)]) (rest := []) (lenOf pd_0_0 rfl) rfl (by show 2 * 0 + _ ≤ _; exact Nat.le_of_eq rfl) (hb hby at_77) (fun _ _ => ⟨rfl, e14, (by decide : 0 + 0 ≤ _), (by decide : 0 + 0 ≤ _)⟩)
      dsimp only [Pt.U, Pt.locs, Pt.cells, Pt.slots] at X15 l15 y15 z15 st15 hQ15
      subst l15 y15 z15
      obtain ⟨rfl, N15q, e15⟩ := hQ15
      have N15 := Fr.app N14 N15q
      refine own_st (g' := (mkF m 80 #[.val (.int p0), .val (.long q1), .second, .val (.long q2), .second, .val (.int p3), .val (.int p4), .val (.long (q1 &&& (4611686018427387903 : Int64))), .second, .val (.long l9_45), .second, .val (.int t0_70)] [(.int (own_F2 p0 (q1 &&& (4611686018427387903 : Int64)) l9_45))])) (fun t k => st15 t k) ?_
      refine own_st (g' := (mkF m 82 #[.val (.int p0), .val (.long q1), .second, .val (.long q2), .second, .val (.int p3), .val (.int p4), .val (.long (q1 &&& (4611686018427387903 : Int64))), .second, .val (.long l9_45), .second, .val (.int t0_70)] [(.int t0_70), (.int (own_F2 p0 (q1 &&& (4611686018427387903 : Int64)) l9_45))])) (fun t k => XS.iload X15.here hx rfl (hb hby at_80) rfl  k) ?_
      have J90 : ∀ (T : State) (locs : List Loc) (t0_90 : Int32), Stand p l e room_1 s m #[(.int p0), (.long q1), (.long q2), (.int p3), (.int p4)] below meth c T locs 0 0 → T.heap = h0 → Fr n0 locs → own_f0_90 p0 q1 q2 p3 p4 l9_45 t0_70 t0_90 = (1 : Int32) → own_Fin p e below s 0 0 (Q0 Z p0 q1 q2 p3 p4 h0 n0) T (mkF m 90 #[.val (.int p0), .val (.long q1), .second, .val (.long q2), .second, .val (.int p3), .val (.int p4), .val (.long (q1 &&& (4611686018427387903 : Int64))), .second, .val (.long l9_45), .second, .val (.int t0_70)] [(.int t0_90)]) := by
        intro T16 locs16 t0_90  X16 e16 N16 hr16
        have hr16a := (own_f0_90_eq (p0) (q1) (q2) (p3) (p4) (l9_45) (t0_70) (t0_90)).symm.trans hr16
        exact own_retN (t := .boolean) X16 hx Bd.returns Bd.notSynchronized (by simp) (hb hby at_90) ⟨congrArg (fun q => some (Value.int q)) hr16a, N16⟩ (by decide) (by decide)
      by_cases hc82_17 : (own_F2 p0 (q1 &&& (4611686018427387903 : Int64)) l9_45) = t0_70
      · have hr18 := (if_pos hc82_17).symm.trans hr14a
        refine own_st (g' := (mkF m 85 #[.val (.int p0), .val (.long q1), .second, .val (.long q2), .second, .val (.int p3), .val (.int p4), .val (.long (q1 &&& (4611686018427387903 : Int64))), .second, .val (.long l9_45), .second, .val (.int t0_70)] [])) (fun t k => XS.icmpNo X15.here hx rfl (hb hby at_82) rfl (teq hc82_17).2 k) ?_
        refine own_st (g' := (mkF m 86 #[.val (.int p0), .val (.long q1), .second, .val (.long q2), .second, .val (.int p3), .val (.int p4), .val (.long (q1 &&& (4611686018427387903 : Int64))), .second, .val (.long l9_45), .second, .val (.int t0_70)] [(.int (1 : Int32))])) (fun t k => XS.iconst X15.here hx rfl (hb hby at_85) k) ?_
        refine own_st (g' := (mkF m 90 #[.val (.int p0), .val (.long q1), .second, .val (.long q2), .second, .val (.int p3), .val (.int p4), .val (.long (q1 &&& (4611686018427387903 : Int64))), .second, .val (.long l9_45), .second, .val (.int t0_70)] [(.int (1 : Int32))])) (fun t k => XS.goto X15.here hx rfl (pc0 := 86) (pc' := 90) rfl (hb hby at_86) (by decide) (by decide) k) ?_
        exact J90 T15 _ (1 : Int32)  X15 e15 N15 hr18
      · have hr19 := (if_neg hc82_17).symm.trans hr14a
        refine own_st (g' := (mkF m 89 #[.val (.int p0), .val (.long q1), .second, .val (.long q2), .second, .val (.int p3), .val (.int p4), .val (.long (q1 &&& (4611686018427387903 : Int64))), .second, .val (.long l9_45), .second, .val (.int t0_70)] [])) (fun t k => XS.icmpYes X15.here hx rfl (pc0 := 82) (pc' := 89) rfl (hb hby at_82) rfl (feq hc82_17).2 (by decide) (by decide) k) ?_
        refine own_st (g' := (mkF m 90 #[.val (.int p0), .val (.long q1), .second, .val (.long q2), .second, .val (.int p3), .val (.int p4), .val (.long (q1 &&& (4611686018427387903 : Int64))), .second, .val (.long l9_45), .second, .val (.int t0_70)] [(.int (0 : Int32))])) (fun t k => XS.iconst X15.here hx rfl (hb hby at_89) k) ?_
        exact J90 T15 _ (0 : Int32)  X15 e15 N15 hr19
    by_cases hc47_20 : p0 < (1 : Int32)
    · have hr21 := (if_pos hc47_20).symm.trans hr13a
      refine own_st (g' := (mkF m 69 #[.val (.int p0), .val (.long q1), .second, .val (.long q2), .second, .val (.int p3), .val (.int p4), .val (.long (q1 &&& (4611686018427387903 : Int64))), .second, .val (.long l9_45), .second, .unset] [])) (fun t k => XS.icmpYes X13.here hx rfl (pc0 := 47) (pc' := 69) rfl (hb hby at_47) rfl (tlt hc47_20).1 (by decide) (by decide) k) ?_
      refine own_st (g' := (mkF m 70 #[.val (.int p0), .val (.long q1), .second, .val (.long q2), .second, .val (.int p3), .val (.int p4), .val (.long (q1 &&& (4611686018427387903 : Int64))), .second, .val (.long l9_45), .second, .unset] [(.int (0 : Int32))])) (fun t k => XS.iconst X13.here hx rfl (hb hby at_69) k) ?_
      exact J70 T13 _ (0 : Int32)  X13 e13 N13 hr21
    · have hr22 := (if_neg hc47_20).symm.trans hr13a
      refine own_st (g' := (mkF m 50 #[.val (.int p0), .val (.long q1), .second, .val (.long q2), .second, .val (.int p3), .val (.int p4), .val (.long (q1 &&& (4611686018427387903 : Int64))), .second, .val (.long l9_45), .second, .unset] [])) (fun t k => XS.icmpNo X13.here hx rfl (hb hby at_47) rfl (flt hc47_20).1 k) ?_
      refine own_st (g' := (mkF m 52 #[.val (.int p0), .val (.long q1), .second, .val (.long q2), .second, .val (.int p3), .val (.int p4), .val (.long (q1 &&& (4611686018427387903 : Int64))), .second, .val (.long l9_45), .second, .unset] [(.long (q1 &&& (4611686018427387903 : Int64)))])) (fun t k => XS.lload X13.here hx rfl (hb hby at_50) rfl  k) ?_
      refine own_st (g' := (mkF m 55 #[.val (.int p0), .val (.long q1), .second, .val (.long q2), .second, .val (.int p3), .val (.int p4), .val (.long (q1 &&& (4611686018427387903 : Int64))), .second, .val (.long l9_45), .second, .unset] [(.long (8 : Int64)), (.long (q1 &&& (4611686018427387903 : Int64)))])) (fun t k => X13.ldc2Long hx hown (mvT hZ (hw _ (List.mem_of_getElem? (i := 1) rfl))) (g := (mkF m 52 #[.val (.int p0), .val (.long q1), .second, .val (.long q2), .second, .val (.int p3), .val (.int p4), .val (.long (q1 &&& (4611686018427387903 : Int64))), .second, .val (.long l9_45), .second, .unset] [(.long (q1 &&& (4611686018427387903 : Int64)))])) rfl (hb hby at_52) t k) ?_
      refine own_st (g' := (mkF m 56 #[.val (.int p0), .val (.long q1), .second, .val (.long q2), .second, .val (.int p3), .val (.int p4), .val (.long (q1 &&& (4611686018427387903 : Int64))), .second, .val (.long l9_45), .second, .unset] [(.long ((q1 &&& (4611686018427387903 : Int64)) + (8 : Int64)))])) (fun t k => XS.ladd X13.here hx rfl (hb hby at_55) rfl k) ?_
      refine own_st (g' := (mkF m 57 #[.val (.int p0), .val (.long q1), .second, .val (.long q2), .second, .val (.int p3), .val (.int p4), .val (.long (q1 &&& (4611686018427387903 : Int64))), .second, .val (.long l9_45), .second, .unset] [(.int p0), (.long ((q1 &&& (4611686018427387903 : Int64)) + (8 : Int64)))])) (fun t k => XS.iloadN X13.here hx rfl (hb hby at_56) rfl  k) ?_
      refine own_st (g' := (mkF m 58 #[.val (.int p0), .val (.long q1), .second, .val (.long q2), .second, .val (.int p3), .val (.int p4), .val (.long (q1 &&& (4611686018427387903 : Int64))), .second, .val (.long l9_45), .second, .unset] [(.long ((p0).toInt64)), (.long ((q1 &&& (4611686018427387903 : Int64)) + (8 : Int64)))])) (fun t k => XS.i2l X13.here hx rfl (hb hby at_57) rfl k) ?_
      refine own_st (g' := (mkF m 59 #[.val (.int p0), .val (.long q1), .second, .val (.long q2), .second, .val (.int p3), .val (.int p4), .val (.long (q1 &&& (4611686018427387903 : Int64))), .second, .val (.long l9_45), .second, .unset] [(.long (((q1 &&& (4611686018427387903 : Int64)) + (8 : Int64)) + ((p0).toInt64)))])) (fun t k => XS.ladd X13.here hx rfl (hb hby at_58) rfl k) ?_
      refine own_st (g' := (mkF m 61 #[.val (.int p0), .val (.long q1), .second, .val (.long q2), .second, .val (.int p3), .val (.int p4), .val (.long (q1 &&& (4611686018427387903 : Int64))), .second, .val (.long l9_45), .second, .unset] [(.long l9_45), (.long (((q1 &&& (4611686018427387903 : Int64)) + (8 : Int64)) + ((p0).toInt64)))])) (fun t k => XS.lload X13.here hx rfl (hb hby at_59) rfl  k) ?_
      refine own_st (g' := (mkF m 62 #[.val (.int p0), .val (.long q1), .second, .val (.long q2), .second, .val (.int p3), .val (.int p4), .val (.long (q1 &&& (4611686018427387903 : Int64))), .second, .val (.long l9_45), .second, .unset] [(.int (lcmpW (((q1 &&& (4611686018427387903 : Int64)) + (8 : Int64)) + ((p0).toInt64)) l9_45))])) (fun t k => XS.lcmp X13.here hx rfl (hb hby at_61) rfl k) ?_
      by_cases hc62_23 : l9_45 < (((q1 &&& (4611686018427387903 : Int64)) + (8 : Int64)) + ((p0).toInt64))
      · have hr24 := (if_pos hc62_23).symm.trans hr22
        refine own_st (g' := (mkF m 69 #[.val (.int p0), .val (.long q1), .second, .val (.long q2), .second, .val (.int p3), .val (.int p4), .val (.long (q1 &&& (4611686018427387903 : Int64))), .second, .val (.long l9_45), .second, .unset] [])) (fun t k => XS.ifYes X13.here hx rfl (pc0 := 62) (pc' := 69) rfl (hb hby at_62) rfl ((if0 _ _).trans (tlt ((lw_gt _ _).mpr hc62_23)).2.2.1) (by decide) (by decide) k) ?_
        refine own_st (g' := (mkF m 70 #[.val (.int p0), .val (.long q1), .second, .val (.long q2), .second, .val (.int p3), .val (.int p4), .val (.long (q1 &&& (4611686018427387903 : Int64))), .second, .val (.long l9_45), .second, .unset] [(.int (0 : Int32))])) (fun t k => XS.iconst X13.here hx rfl (hb hby at_69) k) ?_
        exact J70 T13 _ (0 : Int32)  X13 e13 N13 hr24
      · have hr25 := (if_neg hc62_23).symm.trans hr22
        refine own_st (g' := (mkF m 65 #[.val (.int p0), .val (.long q1), .second, .val (.long q2), .second, .val (.int p3), .val (.int p4), .val (.long (q1 &&& (4611686018427387903 : Int64))), .second, .val (.long l9_45), .second, .unset] [])) (fun t k => XS.ifNo X13.here hx rfl (hb hby at_62) rfl ((if0 _ _).trans (flt (fun q => hc62_23 ((lw_gt _ _).mp q))).2.2.1) k) ?_
        refine own_st (g' := (mkF m 66 #[.val (.int p0), .val (.long q1), .second, .val (.long q2), .second, .val (.int p3), .val (.int p4), .val (.long (q1 &&& (4611686018427387903 : Int64))), .second, .val (.long l9_45), .second, .unset] [(.int (1 : Int32))])) (fun t k => XS.iconst X13.here hx rfl (hb hby at_65) k) ?_
        refine own_st (g' := (mkF m 70 #[.val (.int p0), .val (.long q1), .second, .val (.long q2), .second, .val (.int p3), .val (.int p4), .val (.long (q1 &&& (4611686018427387903 : Int64))), .second, .val (.long l9_45), .second, .unset] [(.int (1 : Int32))])) (fun t k => XS.goto X13.here hx rfl (pc0 := 66) (pc' := 70) rfl (hb hby at_66) (by decide) (by decide) k) ?_
        exact J70 T13 _ (1 : Int32)  X13 e13 N13 hr25
  by_cases hc11_26 : (p4 &&& (1 : Int32)) = (0 : Int32)
  · have hr27 := (if_pos hc11_26).symm.trans hr0
    refine own_st (g' := (mkF m 24 #[.val (.int p0), .val (.long q1), .second, .val (.long q2), .second, .val (.int p3), .val (.int p4), .val (.long (q1 &&& (4611686018427387903 : Int64))), .second, .unset, .unset, .unset] [])) (fun t k => XS.ifYes X0.here hx rfl (pc0 := 11) (pc' := 24) rfl (hb hby at_11) rfl ((if0 _ _).trans (teq hc11_26).1) (by decide) (by decide) k) ?_
    refine own_st (g' := (mkF m 25 #[.val (.int p0), .val (.long q1), .second, .val (.long q2), .second, .val (.int p3), .val (.int p4), .val (.long (q1 &&& (4611686018427387903 : Int64))), .second, .unset, .unset, .unset] [(.long (0 : Int64))])) (fun t k => XS.lconst X0.here hx rfl (hb hby at_24) k) ?_
    refine own_st (g' := (mkF m 27 #[.val (.int p0), .val (.long q1), .second, .val (.long q2), .second, .val (.int p3), .val (.int p4), .val (.long (q1 &&& (4611686018427387903 : Int64))), .second, .unset, .unset, .unset] [(.long (q1 &&& (4611686018427387903 : Int64))), (.long (0 : Int64))])) (fun t k => XS.lload X0.here hx rfl (hb hby at_25) rfl  k) ?_
    refine own_st (g' := (mkF m 30 #[.val (.int p0), .val (.long q1), .second, .val (.long q2), .second, .val (.int p3), .val (.int p4), .val (.long (q1 &&& (4611686018427387903 : Int64))), .second, .unset, .unset, .unset] [(.long (8 : Int64)), (.long (q1 &&& (4611686018427387903 : Int64))), (.long (0 : Int64))])) (fun t k => X0.ldc2Long hx hown (mvT hZ (hw _ (List.mem_of_getElem? (i := 1) rfl))) (g := (mkF m 27 #[.val (.int p0), .val (.long q1), .second, .val (.long q2), .second, .val (.int p3), .val (.int p4), .val (.long (q1 &&& (4611686018427387903 : Int64))), .second, .unset, .unset, .unset] [(.long (q1 &&& (4611686018427387903 : Int64))), (.long (0 : Int64))])) rfl (hb hby at_27) t k) ?_
    refine own_st (g' := (mkF m 31 #[.val (.int p0), .val (.long q1), .second, .val (.long q2), .second, .val (.int p3), .val (.int p4), .val (.long (q1 &&& (4611686018427387903 : Int64))), .second, .unset, .unset, .unset] [(.long ((q1 &&& (4611686018427387903 : Int64)) + (8 : Int64))), (.long (0 : Int64))])) (fun t k => XS.ladd X0.here hx rfl (hb hby at_30) rfl k) ?_
    refine own_st (g' := (mkF m 32 #[.val (.int p0), .val (.long q1), .second, .val (.long q2), .second, .val (.int p3), .val (.int p4), .val (.long (q1 &&& (4611686018427387903 : Int64))), .second, .unset, .unset, .unset] [(.int p0), (.long ((q1 &&& (4611686018427387903 : Int64)) + (8 : Int64))), (.long (0 : Int64))])) (fun t k => XS.iloadN X0.here hx rfl (hb hby at_31) rfl  k) ?_
    refine own_st (g' := (mkF m 33 #[.val (.int p0), .val (.long q1), .second, .val (.long q2), .second, .val (.int p3), .val (.int p4), .val (.long (q1 &&& (4611686018427387903 : Int64))), .second, .unset, .unset, .unset] [(.long ((p0).toInt64)), (.long ((q1 &&& (4611686018427387903 : Int64)) + (8 : Int64))), (.long (0 : Int64))])) (fun t k => XS.i2l X0.here hx rfl (hb hby at_32) rfl k) ?_
    refine own_st (g' := (mkF m 34 #[.val (.int p0), .val (.long q1), .second, .val (.long q2), .second, .val (.int p3), .val (.int p4), .val (.long (q1 &&& (4611686018427387903 : Int64))), .second, .unset, .unset, .unset] [(.long (((q1 &&& (4611686018427387903 : Int64)) + (8 : Int64)) + ((p0).toInt64))), (.long (0 : Int64))])) (fun t k => XS.ladd X0.here hx rfl (hb hby at_33) rfl k) ?_
    refine own_st (g' := (mkF m 36 #[.val (.int p0), .val (.long q1), .second, .val (.long q2), .second, .val (.int p3), .val (.int p4), .val (.long (q1 &&& (4611686018427387903 : Int64))), .second, .unset, .unset, .unset] [(.int p3), (.long (((q1 &&& (4611686018427387903 : Int64)) + (8 : Int64)) + ((p0).toInt64))), (.long (0 : Int64))])) (fun t k => XS.iload X0.here hx rfl (hb hby at_34) rfl  k) ?_
    refine own_st (g' := (mkF m 37 #[.val (.int p0), .val (.long q1), .second, .val (.long q2), .second, .val (.int p3), .val (.int p4), .val (.long (q1 &&& (4611686018427387903 : Int64))), .second, .unset, .unset, .unset] [(.int (4 : Int32)), (.int p3), (.long (((q1 &&& (4611686018427387903 : Int64)) + (8 : Int64)) + ((p0).toInt64))), (.long (0 : Int64))])) (fun t k => XS.iconst X0.here hx rfl (hb hby at_36) k) ?_
    refine own_st (g' := (mkF m 38 #[.val (.int p0), .val (.long q1), .second, .val (.long q2), .second, .val (.int p3), .val (.int p4), .val (.long (q1 &&& (4611686018427387903 : Int64))), .second, .unset, .unset, .unset] [(.int (p3 % (4 : Int32))), (.long (((q1 &&& (4611686018427387903 : Int64)) + (8 : Int64)) + ((p0).toInt64))), (.long (0 : Int64))])) (fun t k => iremM X0 hx rfl (hb hby at_37) rfl (by decide) k) ?_
    refine own_st (g' := (mkF m 39 #[.val (.int p0), .val (.long q1), .second, .val (.long q2), .second, .val (.int p3), .val (.int p4), .val (.long (q1 &&& (4611686018427387903 : Int64))), .second, .unset, .unset, .unset] [(.long (((p3 % (4 : Int32))).toInt64)), (.long (((q1 &&& (4611686018427387903 : Int64)) + (8 : Int64)) + ((p0).toInt64))), (.long (0 : Int64))])) (fun t k => XS.i2l X0.here hx rfl (hb hby at_38) rfl k) ?_
    refine own_st (g' := (mkF m 40 #[.val (.int p0), .val (.long q1), .second, .val (.long q2), .second, .val (.int p3), .val (.int p4), .val (.long (q1 &&& (4611686018427387903 : Int64))), .second, .unset, .unset, .unset] [(.long ((((q1 &&& (4611686018427387903 : Int64)) + (8 : Int64)) + ((p0).toInt64)) + (((p3 % (4 : Int32))).toInt64))), (.long (0 : Int64))])) (fun t k => XS.ladd X0.here hx rfl (hb hby at_39) rfl k) ?_
    obtain ⟨_, _, ⟨T28, L28, k28, n28⟩, -, X28, ⟨Lc28, hQ28, l28, y28, z28⟩, st28⟩ := Jvm.LawKit.callS X0 hx (y := (⟨"java/lang/Math", "max", "(JJ)J"⟩ : MethodName)) hown (mvT hZ (hw _ (List.mem_of_getElem? (i := 2) rfl))) (mvT hZ (hw _ (List.mem_of_getElem? (i := 3) rfl))) (mvT hZ (hw _ (List.mem_of_getElem? (i := 4) rfl))) (mvT hZ (hw _ (List.mem_of_getElem? (i := 5) rfl))) (by decide) (backOf (W := 0) (rm1 l Z a0 hw [] (0 : Int64) ((((q1 &&& (4611686018427387903 : Int64)) + (8 : Int64)) + ((p0).toInt64)) + (((p3 % (4 : Int32))).toInt64)) h0 n0 Z0  ) hZ (hw _ (List.mem_of_getElem? (i := 5) rfl)) (hw _ (List.mem_of_getElem? (i := 4) rfl)) (by decide) (by decide)) (g := (mkF m 40 #[.val (.int p0), .val (.long q1), .second, .val (.long q2), .second, .val (.int p3), .val (.int p4), .val (.long (q1 &&& (4611686018427387903 : Int64))), .second, .unset, .unset, .unset] [(.long ((((q1 &&& (4611686018427387903 : Int64)) + (8 : Int64)) + ((p0).toInt64)) + (((p3 % (4 : Int32))).toInt64))), (.long (0 : Int64))])) rfl (by rw [hml]; rfl) (argsL := [(.long (0 : Int64)), (.long ((((q1 &&& (4611686018427387903 : Int64)) + (8 : Int64)) + ((p0).toInt64)) + (((p3 % (4 : Int32))).toInt64)))]) (rest := []) (lenOf pd_0_1 rfl) rfl (by show 2 * 0 + _ ≤ _; exact Nat.le_of_eq rfl) (hb hby at_40) (fun _ _ => ⟨rfl, e0, (by decide : 0 + 0 ≤ _), (by decide : 0 + 0 ≤ _)⟩)
    dsimp only [Pt.U, Pt.locs, Pt.cells, Pt.slots] at X28 l28 y28 z28 st28 hQ28
    subst l28 y28 z28
    obtain ⟨rfl, N28q, e28⟩ := hQ28
    have N28 := Fr.app N0 N28q
    refine own_st (g' := (mkF m 43 #[.val (.int p0), .val (.long q1), .second, .val (.long q2), .second, .val (.int p3), .val (.int p4), .val (.long (q1 &&& (4611686018427387903 : Int64))), .second, .unset, .unset, .unset] [(.long (own_F1 (0 : Int64) ((((q1 &&& (4611686018427387903 : Int64)) + (8 : Int64)) + ((p0).toInt64)) + (((p3 % (4 : Int32))).toInt64))))])) (fun t k => st28 t k) ?_
    refine own_st (g' := (mkF m 45 #[.val (.int p0), .val (.long q1), .second, .val (.long q2), .second, .val (.int p3), .val (.int p4), .val (.long (q1 &&& (4611686018427387903 : Int64))), .second, .val (.long (own_F1 (0 : Int64) ((((q1 &&& (4611686018427387903 : Int64)) + (8 : Int64)) + ((p0).toInt64)) + (((p3 % (4 : Int32))).toInt64)))), .second, .unset] [])) (fun t k => XS.lstore X28.here hx rfl (hb hby at_43) rfl (l' := #[.val (.int p0), .val (.long q1), .second, .val (.long q2), .second, .val (.int p3), .val (.int p4), .val (.long (q1 &&& (4611686018427387903 : Int64))), .second, .val (.long (own_F1 (0 : Int64) ((((q1 &&& (4611686018427387903 : Int64)) + (8 : Int64)) + ((p0).toInt64)) + (((p3 % (4 : Int32))).toInt64)))), .second, .unset]) rfl k) ?_
    exact J45 T28 _ (own_F1 (0 : Int64) ((((q1 &&& (4611686018427387903 : Int64)) + (8 : Int64)) + ((p0).toInt64)) + (((p3 % (4 : Int32))).toInt64)))  X28 e28 N28 hr27
  · have hr29 := (if_neg hc11_26).symm.trans hr0
    refine own_st (g' := (mkF m 14 #[.val (.int p0), .val (.long q1), .second, .val (.long q2), .second, .val (.int p3), .val (.int p4), .val (.long (q1 &&& (4611686018427387903 : Int64))), .second, .unset, .unset, .unset] [])) (fun t k => XS.ifNo X0.here hx rfl (hb hby at_11) rfl ((if0 _ _).trans (feq hc11_26).1) k) ?_
    refine own_st (g' := (mkF m 15 #[.val (.int p0), .val (.long q1), .second, .val (.long q2), .second, .val (.int p3), .val (.int p4), .val (.long (q1 &&& (4611686018427387903 : Int64))), .second, .unset, .unset, .unset] [(.long q2)])) (fun t k => XS.lloadN X0.here hx rfl (hb hby at_14) rfl  k) ?_
    refine own_st (g' := (mkF m 18 #[.val (.int p0), .val (.long q1), .second, .val (.long q2), .second, .val (.int p3), .val (.int p4), .val (.long (q1 &&& (4611686018427387903 : Int64))), .second, .unset, .unset, .unset] [(.long (9223372036854775807 : Int64)), (.long q2)])) (fun t k => X0.ldc2Long hx hown (mvT hZ (hw _ (List.mem_of_getElem? (i := 11) rfl))) (g := (mkF m 15 #[.val (.int p0), .val (.long q1), .second, .val (.long q2), .second, .val (.int p3), .val (.int p4), .val (.long (q1 &&& (4611686018427387903 : Int64))), .second, .unset, .unset, .unset] [(.long q2)])) rfl (hb hby at_15) t k) ?_
    refine own_st (g' := (mkF m 19 #[.val (.int p0), .val (.long q1), .second, .val (.long q2), .second, .val (.int p3), .val (.int p4), .val (.long (q1 &&& (4611686018427387903 : Int64))), .second, .unset, .unset, .unset] [(.long (q2 &&& (9223372036854775807 : Int64)))])) (fun t k => XS.land X0.here hx rfl (hb hby at_18) rfl k) ?_
    refine own_st (g' := (mkF m 21 #[.val (.int p0), .val (.long q1), .second, .val (.long q2), .second, .val (.int p3), .val (.int p4), .val (.long (q1 &&& (4611686018427387903 : Int64))), .second, .val (.long (q2 &&& (9223372036854775807 : Int64))), .second, .unset] [])) (fun t k => XS.lstore X0.here hx rfl (hb hby at_19) rfl (l' := #[.val (.int p0), .val (.long q1), .second, .val (.long q2), .second, .val (.int p3), .val (.int p4), .val (.long (q1 &&& (4611686018427387903 : Int64))), .second, .val (.long (q2 &&& (9223372036854775807 : Int64))), .second, .unset]) rfl k) ?_
    refine own_st (g' := (mkF m 45 #[.val (.int p0), .val (.long q1), .second, .val (.long q2), .second, .val (.int p3), .val (.int p4), .val (.long (q1 &&& (4611686018427387903 : Int64))), .second, .val (.long (q2 &&& (9223372036854775807 : Int64))), .second, .unset] [])) (fun t k => XS.goto X0.here hx rfl (pc0 := 21) (pc' := 45) rfl (hb hby at_21) (by decide) (by decide) k) ?_
    exact J45 s₁ _ (q2 &&& (9223372036854775807 : Int64))  X0 e0 N0 hr29
/-! ## The plain law -/
theorem own_n0 : nar .boolean (0 : Int32) = 0 := by decide
theorem own_n1 : nar .boolean (1 : Int32) = 1 := by decide
theorem own_45 (n : Int32) (q1 q2 : Int64) (p3 p4 : Int32) (a b : Int64) (ea : q1 &&& (4611686018427387903 : Int64) = a) (h1 : 0 ≤ a.toInt) (h2 : a.toInt < 4611686018427387904) (h3 : 0 ≤ b.toInt) : own_f0_45 n q1 q2 p3 p4 b = 1 := by
  have e1 := c_lsub b a
  have e2 := c_lsub (b - a) (8 : Int64)
  have e3 := c_ladd a (8 : Int64)
  have e4 := c_ladd (a + 8) n.toInt64
  have e5 := c_i2l n
  have b1 := Int32.toInt_lt n
  have b2 := Int32.le_toInt n
  have b3 := Int64.toInt_lt b
  have b4 := Int64.toInt_lt (b - a)
  have b5 := Int64.le_toInt (b - a)
  have b6 := Int64.toInt_lt (b - a - 8)
  have b7 := Int64.le_toInt (b - a - 8)
  have b8 := Int64.toInt_lt (a + 8)
  have b9 := Int64.le_toInt (a + 8)
  have c1 := Int64.toInt_lt (a + 8 + n.toInt64)
  have c2 := Int64.le_toInt (a + 8 + n.toInt64)
  have h8 : (8 : Int64).toInt = 8 := rfl
  have k1 : (b - a - 8) < n.toInt64 ↔ b < (a + 8 + n.toInt64) := by
    rw [Int64.lt_iff_toInt_lt, Int64.lt_iff_toInt_lt]; omega
  rw [own_f0_45_eq, ea]
  by_cases q : n < (1 : Int32)
  · rw [if_pos q, own_f0_70_eq, ea, own_F2_eq, if_pos q, own_f2_23_eq, own_n0, if_pos rfl, own_f0_90_eq, own_n1]
  · rw [if_neg q]
    by_cases r : b < (a + 8 + n.toInt64)
    · rw [if_pos r, own_f0_70_eq, ea, own_F2_eq, if_neg q, if_pos (k1.mpr r), own_f2_23_eq, own_n0, if_pos rfl, own_f0_90_eq, own_n1]
    · rw [if_neg r, own_f0_70_eq, ea, own_F2_eq, if_neg q, if_neg (fun z => r (k1.mp z)), own_f2_23_eq, own_n1, if_pos rfl, own_f0_90_eq, own_n1]
theorem own_max0 (t : Int64) : 0 ≤ (own_F1 0 t).toInt := by
  rw [own_F1_eq]; split
  · rename_i h; have := Int64.lt_iff_toInt_lt.mp h; rw [show (0 : Int64).toInt = 0 from rfl] at this; rw [own_f1_11_eq]; omega
  · rw [own_f1_11_eq]; decide
theorem own_law (p0 : Int32) (q1 q2 : Int64) (p3 p4 : Int32) : own_F0 p0 q1 q2 p3 p4 = 1 := by
  have e1 := c_maskL q1 (4611686018427387903 : Int64) 62 (by decide) (by decide)
  have e2 := (c_andSL q2 (9223372036854775807 : Int64)).2.2 (by decide)
  rw [own_F0_eq]; split
  · exact own_45 _ _ _ _ _ _ _ rfl (by omega) (by omega) (own_max0 _)
  · exact own_45 _ _ _ _ _ _ _ rfl (by omega) (by omega) e2

set_option maxRecDepth 65536 in
set_option maxHeartbeats 40000000 in
theorem comes_1 {Post : Tables → Env → Array Value → State → Outcome → State → Prop} (hpost : ∀ tb e args s v u, (limb_1_1.after args s (.returned v) u = true ∧ limb_1_2.after args s (.returned v) u = true ∧ True) → FrameEnd s (.returned v) u (Jvm.fieldLocs frame_1_writes args s ++ Jvm.arrayLocs frame_1_arrays args s ++ Jvm.staticLocs frame_1_statics s) 0 0 → Post tb e args s (.returned v) u) :
    ArmFor flags0 classFile x code maxLocals ret World_1 tables_1 room_1 Calls_1 rest_1 Pre_1 Post := by
  intro l hfl _ _ p e ha hc hk s m args below hf hA hF happ hP
  obtain ⟨hcalls, hrest, hpre⟩ := hP
  obtain ⟨-, -, -, hnamed, -, -, -, hat⟩ := (Spec.applies_iff hf).mp happ
  obtain ⟨hg, hn⟩ := and_e (Cond.before_iff.mp (show (Jvm.Cond.and given_1 narrow_1).before args s = true from hpre))
  obtain ⟨hg0, hq0⟩ := and_e hg
  obtain ⟨ha0, hq1⟩ := and_e hq0
  obtain ⟨ha1, hq2⟩ := and_e hq1
  obtain ⟨ha2, hq3⟩ := and_e hq2
  obtain ⟨ha3, hq4⟩ := and_e hq3
  have ha4 := hq4
  obtain ⟨w0, w1, w2, w3, w4, rfl⟩ : ∃ w0 w1 w2 w3 w4 : Value, args = #[w0, w1, w2, w3, w4] := by
    have hs : args.size = 5 := by simpa [Cond.value, given_1] using hg0
    obtain ⟨L⟩ := args
    match L, hs with
    | [w0, w1, w2, w3, w4], _ => exact ⟨w0, w1, w2, w3, w4, rfl⟩
  have hw := fun d (hd : d ∈ tables_1) => atoms_spec (ws := Jvm.Cond.code x code maxLocals ret :: tables_1) hat d (List.mem_cons_of_mem _ hd)
  obtain ⟨i0, ei0⟩ := is_v ha0
  obtain rfl : w0 = (.int i0) := Option.some.inj ei0
  obtain ⟨i1, ei1⟩ := isL_v ha1
  obtain rfl : w1 = (.long i1) := Option.some.inj ei1
  obtain ⟨i2, ei2⟩ := isL_v ha2
  obtain rfl : w2 = (.long i2) := Option.some.inj ei2
  obtain ⟨i3, ei3⟩ := is_v ha3
  obtain rfl : w3 = (.int i3) := Option.some.inj ei3
  obtain ⟨i4, ei4⟩ := is_v ha4
  obtain rfl : w4 = (.int i4) := Option.some.inj ei4
  obtain ⟨n, o, h1, h2, h3, _, L, rfl, ⟨rfl, N⟩, hq⟩ := rm0 l s _ hw tables_1 i0 i1 i2 i3 i4 s.heap s.heap.size (Nat.le_refl _) (own_law i0 i1 i2 i3 i4) p e ha hc hk s m _ below hf ((Spec.applies_iff_loose hf).mp happ).1 ⟨rfl, State.Warmed39.refl s, rfl⟩ trivial
  refine ⟨n, _, h1, h2, h3, hpost _ _ _ _ _ _ ⟨Cond.after_iff.mpr rfl, Cond.after_iff.mpr (eq_i res_at (Term.int_eval (1)) rfl), trivial⟩ ⟨hq.1, hq.2.1, (hq.2.2.sift fun y hy => Or.inr (N y hy)).mono (by decide) (by decide)⟩⟩
theorem main_1_1 : Claimed_1_1 := comes_1 fun _ _ _ _ _ _ h hF => ⟨h.1, hF⟩
theorem main_1_2 : Claimed_1_2 := comes_1 fun _ _ _ _ _ _ h hF => ⟨h.2.1, hF⟩
end Jvm.Pilot.@@N@@
namespace Jvm.Pilot.@@N@@
open Jvm Jvm.ClassFile Sem Op Lib Jvm.Free Jvm.Stand Jvm.Pilot.@@N@@.Jvm.D
/-! MADE BY PROGRAM (witnessworld.py) out of the Statement's table words and the real class files: 10 classes; the members and pool entries that the words name. The judged class is class 1, her method 1. -/
namespace start1
open Jvm.ClassFile
def u (s : String) : CpInfo := .utf8 (stringToUtf16 s)
/-- a pool by its gaps: so many unusable entries, then the entry; so many at the end -/
def gap : Nat → List CpInfo → List CpInfo
  | 0, r => r
  | n + 1, r => .unusable :: gap n r
def poolList (es : List (Nat × CpInfo)) (last : Nat) : List CpInfo := es.foldr (fun e r => gap e.1 (e.2 :: r)) (gap last [])
def pool (es : List (Nat × CpInfo)) (last : Nat) : Array CpInfo := ⟨poolList es last⟩
def fileOf (pool : Array CpInfo) (this : Nat) (attrs : Array Attribute := #[]) (ms : Array MethodInfo := #[]) (fl : Nat := 33) (sup : Nat := 0) (ifs : Array Nat := #[]) (fds : Array FieldInfo := #[]) : ClassFile where
  minorVersion := 0
  majorVersion := 65
  constantPool := pool
  accessFlags := fl
  thisClass := this
  superClass := sup
  interfaces := ifs
  fields := fds
  methods := ms
  attributes := attrs
def plain (name : String) (sup : Option ClassId) : Class where
  name := name
  kind := .ordinary
  loader := none
  accessFlags := 33
  super := sup
  interfaces := #[]
  cf := none
  fields := #[]
  methods := #[]
  instanceTypes := #[]
  staticTypes := #[]
  resolved := #[]
  callSites := []
  init := .initialized
  statics := none
  mirror := none

def pool0 : Array CpInfo := pool [(5, u "<init>"), (0, u "()V"), (1, .class_ 10), (1, u "java/lang/Object")] 113

def k0m0 : Method := { name := "<init>", desc := "()V", sig := { parameters := [], returnType := none }, accessFlags := 1, code := none }
/-- java/lang/Object -/
def k0 : Class := { plain "java/lang/Object" none with
  accessFlags := 33
  interfaces := #[]
  cf := some (fileOf pool0 8 #[] #[{ accessFlags := 1, nameIndex := 5, descriptorIndex := 6, attributes := #[] }] 33 0 #[] #[])
  fields := #[]
  methods := #[k0m0]
  instanceTypes := #[]
  staticTypes := #[]
  resolved := Array.replicate 124 none
  statics := none }

def pool1 : Array CpInfo := pool [(2, .class_ 4), (1, u "java/lang/Object"), (0, u "<init>"), (0, u "()V"), (0, .long 4611686018427387903), (3, .long 9223372036854775807), (1, .long 8), (1, .methodref 16 17), (0, .class_ 18), (0, .nameAndType 19 20), (0, u "java/lang/Math"), (0, u "max"), (0, u "(JJ)J"), (0, .methodref 22 23), (0, .class_ 24), (0, .nameAndType 25 26), (0, u "com/example/labrelay/labrelay/store/JournalRecords"), (0, u "fits"), (0, u "(IJJ)Z"), (0, .class_ 28), (0, u "com/example/labrelay/labrelay/store/JournalRecordsFitsPinLaw"), (2, u "law"), (0, u "(IJJII)Z")] 3

def k1m0 : Method := { name := "<init>", desc := "()V", sig := { parameters := [], returnType := none }, accessFlags := 2, code := none }
def k1c1 : Code := { maxStack := 6, maxLocals := 12, code := code, exceptionTable := #[], attributes := #[] }
def k1m1 : Method := { name := "law", desc := "(IJJII)Z", sig := { parameters := [.int, .long, .long, .int, .int], returnType := some .boolean }, accessFlags := 9, code := some k1c1 }
/-- com/example/labrelay/labrelay/store/JournalRecordsFitsPinLaw -/
def k1 : Class := { plain "com/example/labrelay/labrelay/store/JournalRecordsFitsPinLaw" (some 0) with
  accessFlags := 49
  interfaces := #[]
  cf := some (fileOf pool1 27 #[] #[{ accessFlags := 2, nameIndex := 5, descriptorIndex := 6, attributes := #[] }, { accessFlags := 9, nameIndex := 31, descriptorIndex := 32, attributes := #[] }] 49 2 #[] #[])
  fields := #[]
  methods := #[k1m0, k1m1]
  instanceTypes := #[]
  staticTypes := #[]
  resolved := Array.replicate 36 none
  statics := none }

def pool2 : Array CpInfo := pool [(1, .class_ 2), (0, u "java/lang/Math"), (1, .class_ 6), (1, u "java/lang/Object"), (0, u "<init>"), (0, u "()V"), (89, .class_ 100), (1, u "java/lang/Math$RandomNumberGeneratorHolder"), (20, u "(JJ)J"), (50, u "negativeZeroFloatBits"), (0, u "J"), (2, u "negativeZeroDoubleBits"), (21, u "max"), (46, u "$assertionsDisabled"), (0, u "Z"), (91, u "twoToTheDoubleScaleDown"), (0, u "D"), (4, u "twoToTheDoubleScaleUp"), (9, u "E"), (3, u "PI"), (2, u "TAU"), (2, u "DEGREES_TO_RADIANS"), (0, u "RADIANS_TO_DEGREES")] 94

def k2m0 : Method := { name := "<init>", desc := "()V", sig := { parameters := [], returnType := none }, accessFlags := 2, code := none }
def k2c1 : Code := { maxStack := 4, maxLocals := 4, code := jdk_29_method_66_code, exceptionTable := #[], attributes := #[] }
def k2m1 : Method := { name := "max", desc := "(JJ)J", sig := { parameters := [.long, .long], returnType := some .long }, accessFlags := 9, code := some k2c1 }
/-- java/lang/Math -/
def k2 : Class := { plain "java/lang/Math" (some 0) with
  accessFlags := 49
  interfaces := #[]
  cf := some (fileOf pool2 1 #[.nestMembers #[98]] #[{ accessFlags := 2, nameIndex := 7, descriptorIndex := 8, attributes := #[] }, { accessFlags := 9, nameIndex := 198, descriptorIndex := 121, attributes := #[] }] 49 4 #[] #[{ accessFlags := 25, nameIndex := 354, descriptorIndex := 339, attributes := #[] }, { accessFlags := 25, nameIndex := 358, descriptorIndex := 339, attributes := #[] }, { accessFlags := 25, nameIndex := 361, descriptorIndex := 339, attributes := #[] }, { accessFlags := 26, nameIndex := 364, descriptorIndex := 339, attributes := #[] }, { accessFlags := 26, nameIndex := 365, descriptorIndex := 339, attributes := #[] }, { accessFlags := 26, nameIndex := 172, descriptorIndex := 173, attributes := #[] }, { accessFlags := 26, nameIndex := 176, descriptorIndex := 173, attributes := #[] }, { accessFlags := 8, nameIndex := 344, descriptorIndex := 339, attributes := #[] }, { accessFlags := 8, nameIndex := 338, descriptorIndex := 339, attributes := #[] }, { accessFlags := 4120, nameIndex := 245, descriptorIndex := 246, attributes := #[] }])
  fields := #[{ name := "E", type := .double, accessFlags := 25, slot := 0, constantValue := 0 }, { name := "PI", type := .double, accessFlags := 25, slot := 1, constantValue := 0 }, { name := "TAU", type := .double, accessFlags := 25, slot := 2, constantValue := 0 }, { name := "DEGREES_TO_RADIANS", type := .double, accessFlags := 26, slot := 3, constantValue := 0 }, { name := "RADIANS_TO_DEGREES", type := .double, accessFlags := 26, slot := 4, constantValue := 0 }, { name := "negativeZeroFloatBits", type := .long, accessFlags := 26, slot := 5, constantValue := 0 }, { name := "negativeZeroDoubleBits", type := .long, accessFlags := 26, slot := 6, constantValue := 0 }, { name := "twoToTheDoubleScaleUp", type := .double, accessFlags := 8, slot := 7, constantValue := 0 }, { name := "twoToTheDoubleScaleDown", type := .double, accessFlags := 8, slot := 8, constantValue := 0 }, { name := "$assertionsDisabled", type := .boolean, accessFlags := 4120, slot := 9, constantValue := 0 }]
  methods := #[k2m0, k2m1]
  instanceTypes := #[]
  staticTypes := #[.double, .double, .double, .double, .double, .long, .long, .double, .double, .boolean]
  resolved := Array.replicate 460 none
  statics := none }

def pool3 : Array CpInfo := pool [(1, .class_ 2), (0, u "com/example/labrelay/labrelay/store/JournalRecords"), (3, .class_ 8), (1, u "java/lang/Object"), (0, u "<init>"), (0, u "()V"), (2, u "FORMAT"), (0, u "[B"), (14, u "EARLIER_FORMATS"), (0, u "Ljava/util/List;"), (104, .long 8), (43, .class_ 180), (0, u "com/example/labrelay/labrelay/store/JournalRecords$Cursor"), (0, .class_ 182), (0, u "com/example/labrelay/labrelay/store/JournalRecords$InFile"), (18, .class_ 202), (0, u "com/example/labrelay/labrelay/store/JournalRecords$Compared"), (9, u "fits"), (0, u "(IJJ)Z"), (15, .class_ 230), (0, u "com/example/labrelay/labrelay/store/JournalRecords$RecordParts"), (168, u "B"), (14, .class_ 415), (0, u "com/example/labrelay/labrelay/store/JournalRecords$Located"), (10, .class_ 427), (0, u "com/example/labrelay/labrelay/store/JournalRecords$InMemory"), (19, .class_ 449), (1, u "com/example/labrelay/labrelay/store/JournalRecords$RecordBytes"), (4, .class_ 455), (0, u "com/example/labrelay/labrelay/store/JournalRecords$NotAnEntry"), (12, .class_ 470), (1, u "com/example/labrelay/labrelay/store/JournalRecords$Batched"), (103, u "MARKS"), (0, u "[Lcom/example/labrelay/labrelay/store/JournalEntry$Mark;"), (42, .class_ 619), (0, u "com/example/labrelay/labrelay/store/JournalRecords$EndsWithin"), (27, u "FIRST_RECORD"), (0, u "I"), (6, u "RECORD_HEAD"), (2, u "BATCH"), (1, u "BATCH_HEAD"), (1, u "BATCHED"), (0, u "LONGEST_BATCH"), (0, u "J"), (2, u "COPIED_MOST"), (0, u "PART"), (0, u "RECEIVED"), (1, u "QUEUED"), (1, u "ROUTED"), (1, u "CERTIFIED"), (1, u "AT"), (1, u "LOST")] 116

def k3m0 : Method := { name := "<init>", desc := "()V", sig := { parameters := [], returnType := none }, accessFlags := 2, code := none }
def k3c1 : Code := { maxStack := 6, maxLocals := 5, code := prog_152_method_13_code, exceptionTable := #[], attributes := #[] }
def k3m1 : Method := { name := "fits", desc := "(IJJ)Z", sig := { parameters := [.int, .long, .long], returnType := some .boolean }, accessFlags := 8, code := some k3c1 }
/-- com/example/labrelay/labrelay/store/JournalRecords -/
def k3 : Class := { plain "com/example/labrelay/labrelay/store/JournalRecords" (some 0) with
  accessFlags := 48
  interfaces := #[]
  cf := some (fileOf pool3 1 #[.nestMembers #[618, 454, 229, 181, 179, 426, 447, 468, 201, 414]] #[{ accessFlags := 2, nameIndex := 9, descriptorIndex := 10, attributes := #[] }, { accessFlags := 8, nameIndex := 212, descriptorIndex := 213, attributes := #[] }] 48 6 #[] #[{ accessFlags := 26, nameIndex := 13, descriptorIndex := 14, attributes := #[] }, { accessFlags := 26, nameIndex := 29, descriptorIndex := 30, attributes := #[] }, { accessFlags := 24, nameIndex := 647, descriptorIndex := 648, attributes := #[] }, { accessFlags := 24, nameIndex := 655, descriptorIndex := 648, attributes := #[] }, { accessFlags := 26, nameIndex := 658, descriptorIndex := 399, attributes := #[] }, { accessFlags := 24, nameIndex := 660, descriptorIndex := 648, attributes := #[] }, { accessFlags := 26, nameIndex := 662, descriptorIndex := 648, attributes := #[] }, { accessFlags := 24, nameIndex := 663, descriptorIndex := 664, attributes := #[] }, { accessFlags := 26, nameIndex := 667, descriptorIndex := 648, attributes := #[] }, { accessFlags := 26, nameIndex := 668, descriptorIndex := 648, attributes := #[] }, { accessFlags := 26, nameIndex := 669, descriptorIndex := 399, attributes := #[] }, { accessFlags := 26, nameIndex := 671, descriptorIndex := 399, attributes := #[] }, { accessFlags := 26, nameIndex := 673, descriptorIndex := 399, attributes := #[] }, { accessFlags := 26, nameIndex := 675, descriptorIndex := 399, attributes := #[] }, { accessFlags := 26, nameIndex := 677, descriptorIndex := 399, attributes := #[] }, { accessFlags := 26, nameIndex := 679, descriptorIndex := 399, attributes := #[] }, { accessFlags := 26, nameIndex := 574, descriptorIndex := 575, attributes := #[] }])
  fields := #[{ name := "FORMAT", type := (.array .byte), accessFlags := 26, slot := 0, constantValue := 0 }, { name := "EARLIER_FORMATS", type := (.object "java/util/List"), accessFlags := 26, slot := 1, constantValue := 0 }, { name := "FIRST_RECORD", type := .int, accessFlags := 24, slot := 2, constantValue := 0 }, { name := "RECORD_HEAD", type := .int, accessFlags := 24, slot := 3, constantValue := 0 }, { name := "BATCH", type := .byte, accessFlags := 26, slot := 4, constantValue := 0 }, { name := "BATCH_HEAD", type := .int, accessFlags := 24, slot := 5, constantValue := 0 }, { name := "BATCHED", type := .int, accessFlags := 26, slot := 6, constantValue := 0 }, { name := "LONGEST_BATCH", type := .long, accessFlags := 24, slot := 7, constantValue := 0 }, { name := "COPIED_MOST", type := .int, accessFlags := 26, slot := 8, constantValue := 0 }, { name := "PART", type := .int, accessFlags := 26, slot := 9, constantValue := 0 }, { name := "RECEIVED", type := .byte, accessFlags := 26, slot := 10, constantValue := 0 }, { name := "QUEUED", type := .byte, accessFlags := 26, slot := 11, constantValue := 0 }, { name := "ROUTED", type := .byte, accessFlags := 26, slot := 12, constantValue := 0 }, { name := "CERTIFIED", type := .byte, accessFlags := 26, slot := 13, constantValue := 0 }, { name := "AT", type := .byte, accessFlags := 26, slot := 14, constantValue := 0 }, { name := "LOST", type := .byte, accessFlags := 26, slot := 15, constantValue := 0 }, { name := "MARKS", type := (.array (.object "com/example/labrelay/labrelay/store/JournalEntry$Mark")), accessFlags := 26, slot := 16, constantValue := 0 }]
  methods := #[k3m0, k3m1]
  instanceTypes := #[]
  staticTypes := #[(.array .byte), (.object "java/util/List"), .int, .int, .byte, .int, .int, .long, .int, .int, .byte, .byte, .byte, .byte, .byte, .byte, (.array (.object "com/example/labrelay/labrelay/store/JournalEntry$Mark"))]
  resolved := Array.replicate 796 none
  statics := none }

def pool4 : Array CpInfo := pool [(1, u "java/lang/Cloneable"), (0, .class_ 1), (0, u "java/lang/Object"), (0, .class_ 3)] 3

/-- java/lang/Cloneable -/
def k4 : Class := { plain "java/lang/Cloneable" (some 0) with
  accessFlags := 1537
  interfaces := #[]
  cf := some (fileOf pool4 2 #[] #[] 1537 4 #[] #[])
  fields := #[]
  methods := #[]
  instanceTypes := #[]
  staticTypes := #[]
  resolved := Array.replicate 8 none
  statics := none }

def pool5 : Array CpInfo := pool [(1, u "java/io/Serializable"), (0, .class_ 1), (0, u "java/lang/Object"), (0, .class_ 3)] 3

/-- java/io/Serializable -/
def k5 : Class := { plain "java/io/Serializable" (some 0) with
  accessFlags := 1537
  interfaces := #[]
  cf := some (fileOf pool5 2 #[] #[] 1537 4 #[] #[])
  fields := #[]
  methods := #[]
  instanceTypes := #[]
  staticTypes := #[]
  resolved := Array.replicate 8 none
  statics := none }

/-- the primitive byte -/
def k6 : Class := { plain "byte" none with kind := .primitive 'B', accessFlags := 0x411 }
/-- [B -/
def k7 : Class := { plain "[B" (some 0) with kind := .array 6 .byte, interfaces := #[4, 5], accessFlags := 1041 }

/-- the primitive int -/
def k8 : Class := { plain "int" none with kind := .primitive 'I', accessFlags := 0x411 }
/-- [I -/
def k9 : Class := { plain "[I" (some 0) with kind := .array 8 .int, interfaces := #[4, 5], accessFlags := 1041 }

def heap : Heap := #[]
def classes : Array Class := #[k0, k1, k2, k3, k4, k5, k6, k7, k8, k9]
def interned : List (Array UInt16 × Addr) := []
def slotsUsed : Nat := 0
def theMethod : MethodId := ⟨1, 1⟩
def args0 : Array Value := #[.int 5, .long 5, .long 5, .int 5, .int 5]
def aboutOver (below : List Frame) : State where
  vm := { classes := classes, interned := interned.toArray }
  heap := heap
  slotsUsed := slotsUsed
  threads := #[{ frames := .invoking theMethod args0 :: below }]
def below0 : List Frame := [.native { method := ⟨0, 0⟩, args := #[] }]
def about1 : State := aboutOver below0
def p0 : Program := .bare "" "" ""
def e0 : Env := launch0.env 0 0 0
theorem w_frames : about1.frames = Frame.invoking theMethod args0 :: below0 := rfl
set_option maxRecDepth 65536 in
theorem w_args : argsFit about1.vm theMethod args0 = true := by decide +kernel
set_option maxRecDepth 65536 in
theorem w_heap : heapFits about1 = true := by decide +kernel
set_option maxRecDepth 65536 in
theorem w_runnable : about1.curStatus? = some .runnable := by decide +kernel
set_option maxRecDepth 65536 in
theorem w_alone : about1.alone = true := by decide +kernel
set_option maxRecDepth 65536 in
theorem w_named : about1.methodNamed? x = some theMethod := by decide +kernel
set_option maxRecDepth 65536 in
theorem w_hears : about1.hears theMethod below0 = true := by decide +kernel
set_option maxRecDepth 65536 in
theorem w_ripe : about1.ripe theMethod args0 below0 = true := by decide +kernel
theorem w_running : about1.status = .running := rfl
set_option maxRecDepth 65536 in
theorem w_room : about1.hasRoom e0.platform room_1 = true :=
  launch0.hasRoom_least _ room_1 (by decide +kernel) (by decide +kernel) (by decide +kernel) (by decide +kernel) (by decide +kernel) (by decide +kernel)
theorem allAtoms_all (ts : List Jvm.Cond) (a : Array Jvm.Value) (st : Jvm.State) : (allAtoms ts).before a st = ts.all (fun c => c.before a st) := by
  induction ts with
  | nil => rfl
  | cons c t ih =>
    show (Jvm.Cond.and c (allAtoms t)).before a st = _
    rw [Jvm.Cond.before_and, ih, List.all_cons]
def words1 : List Jvm.Cond := Jvm.Cond.code x code maxLocals ret :: tables_1
/-- a 'code' word, met by the world's own term for the bytes: nothing is compared byte by byte -/
theorem code_word {y : MethodName} {bytes : ByteArray} {mx : Nat} {rt : Option FieldType} {a : Array Value} {s : State} {m : MethodId} {meth : Method} {c : Code} (h1 : s.methodNamed? y = some m) (h2 : s.vm.method? m = some meth) (h3 : meth.code = some c) (h4 : c.code = bytes)
    (h5 : (c.maxLocals == mx && c.exceptionTable.isEmpty && decide (c.maxStack ≤ mostOperands) && decide (meth.sig.returnType = rt) && !meth.locks && decide (parseMethodDescriptor y.desc = some meth.sig)) = true) : (Jvm.Cond.code y bytes mx rt).before a s = true := by
  simp only [Bool.and_eq_true, beq_iff_eq, Bool.not_eq_true', decide_eq_true_eq] at h5
  obtain ⟨⟨⟨⟨⟨g1, g2⟩, g3⟩, g4⟩, g5⟩, g6⟩ := h5
  simp [Cond.before, Cond.holds, Cond.value, h1, h2, h3, h4, g1, g2, g3, g4, g5, g6]
def isCode : Jvm.Cond → Bool
  | .code _ _ _ _ => true
  | _ => false
theorem all_split {L : List Jvm.Cond} {P : Jvm.Cond → Bool} (h1 : L.all (fun c => isCode c || P c) = true) (h2 : ∀ c ∈ L.filter isCode, P c = true) : L.all P = true := by
  refine List.all_eq_true.mpr fun c hc => ?_
  have h := List.all_eq_true.mp h1 c hc
  rcases Bool.eq_false_or_eq_true (isCode c) with hi | hi
  · exact h2 c (List.mem_filter.mpr ⟨hc, hi⟩)
  · simpa [hi] using h
set_option maxRecDepth 65536 in
theorem w_c0 : (Jvm.Cond.code x code maxLocals ret).before args0 about1 = true := code_word (m := ⟨1, 1⟩) (meth := k1m1) (c := k1c1) (by decide +kernel) rfl rfl rfl (by decide +kernel)
set_option maxRecDepth 65536 in
theorem w_c1 : (Jvm.Cond.code ({ cls := "java/lang/Math", name := "max", desc := "(JJ)J" } : Jvm.MethodName) jdk_29_method_66_code (4 : Nat) (Option.some Jvm.ClassFile.FieldType.long)).before args0 about1 = true := code_word (m := ⟨2, 1⟩) (meth := k2m1) (c := k2c1) (by decide +kernel) rfl rfl rfl (by decide +kernel)
set_option maxRecDepth 65536 in
theorem w_c2 : (Jvm.Cond.code ({ cls := "com/example/labrelay/labrelay/store/JournalRecords", name := "fits", desc := "(IJJ)Z" } : Jvm.MethodName) prog_152_method_13_code (5 : Nat) (Option.some Jvm.ClassFile.FieldType.boolean)).before args0 about1 = true := code_word (m := ⟨3, 1⟩) (meth := k3m1) (c := k3c1) (by decide +kernel) rfl rfl rfl (by decide +kernel)
def codes1 : List Jvm.Cond := [Jvm.Cond.code x code maxLocals ret, Jvm.Cond.code ({ cls := "java/lang/Math", name := "max", desc := "(JJ)J" } : Jvm.MethodName) jdk_29_method_66_code (4 : Nat) (Option.some Jvm.ClassFile.FieldType.long), Jvm.Cond.code ({ cls := "com/example/labrelay/labrelay/store/JournalRecords", name := "fits", desc := "(IJJ)Z" } : Jvm.MethodName) prog_152_method_13_code (5 : Nat) (Option.some Jvm.ClassFile.FieldType.boolean)]
set_option maxRecDepth 65536 in
theorem codes_eq : words1.filter isCode = codes1 := rfl
theorem w_codes : ∀ c ∈ words1.filter isCode, c.before args0 about1 = true := by
  rw [codes_eq]
  intro c hc
  simp only [codes1, List.mem_cons, List.not_mem_nil, or_false] at hc
  rcases hc with rfl | rfl | rfl
  · exact w_c0
  · exact w_c1
  · exact w_c2
set_option maxRecDepth 65536 in
theorem w_t1 : words1.all (fun c => isCode c || c.before args0 about1) = true := by decide +kernel
theorem w_tables : (allAtoms (Jvm.Cond.code x code maxLocals ret :: tables_1)).before args0 about1 = true := by
  rw [allAtoms_all]
  show words1.all (fun c => c.before args0 about1) = true
  refine all_split ?_ w_codes
  rw [w_t1]
set_option maxRecDepth 65536 in
theorem w_case : (Jvm.Cond.and given_1 narrow_1).before args0 about1 = true := by decide +kernel
theorem w_applies : (headSpec (Jvm.Cond.code x code maxLocals ret :: tables_1) room_1).applies x e0.platform about1 = true :=
  (Spec.applies_iff w_frames).mpr ⟨w_running, w_runnable, w_alone, w_named, w_hears, w_ripe, w_room, w_tables⟩
theorem atStart : AtStart classFile x code maxLocals ret World_1 tables_1 room_1 Calls_1 rest_1 Pre_1 launch0 p0 e0 about1 theMethod args0 below0 :=
  ⟨lists_1, trivial, launch0.admits_env _ _ _, launch0.least_env, fairChoices_fair.cas, fairChoices_fair.clock, w_frames, w_args, w_heap, w_applies, trivial, trivial, w_case⟩
end start1
theorem witness_1 : WitnessClaimed_1 := ⟨start1.p0, start1.e0, start1.about1, start1.theMethod, start1.args0, start1.below0, start1.atStart⟩
end Jvm.Pilot.@@N@@
