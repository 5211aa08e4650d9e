import JvmDerived
import JvmDerived.Pilot.@@N@@Statement
import JvmDerived.Pilot.@@N@@Code
set_option linter.unusedVariables false
set_option linter.unusedSimpArgs false

namespace Jvm.Pilot.@@N@@
open Jvm Jvm.ClassFile Sem Op Lib Jvm.Free Jvm.Stand Jvm.LawKit Jvm.RoadKit Bundle Jvm.Pilot.@@N@@.Jvm.D
/-! ## The walk, forwards: from here the method comes to its end as Q says -/
section OwnFin
variable {p : Program} {l : Launch} {e : Env} {R : Room} {s : State} {m : MethodId} {args : Array Value} {below : List Frame} {meth : Method} {c : Code} {T T' : State} {locs : List Loc} {cells slots K N : Nat} {Q : Option Value → Heap → List Loc → Prop}
def own_Fin (p : Program) (e : Env) (below : List Frame) (s : State) (K N : Nat) (Q : Option Value → Heap → List Loc → Prop) (T : State) (g : JFrame) : Prop :=
  ∃ t o, Steps p.tables e below (T.setTop g) t ∧ t.status = .running ∧ Ended t below o ∧ ∃ v L, o = .returned v ∧ Q v t.heap L ∧ FrameEnd s o t L K N
theorem own_in {g g' : JFrame} (q : g = g') (h : own_Fin p e below s K N Q T g') : ∃ t o, Steps p.tables e below (T.setTop g) t ∧ t.status = .running ∧ Ended t below o ∧ ∃ v L, o = .returned v ∧ Q v t.heap L ∧ FrameEnd s o t L K N := q ▸ h
theorem own_st {g g' : JFrame} (h : ∀ t, Steps p.tables e below (T'.setTop g') t → Steps p.tables e below (T.setTop g) t) (k : own_Fin p e below s K N Q T' g') : own_Fin p e below s K N Q T g := by
  obtain ⟨t, o, h1, h2⟩ := k; exact ⟨t, o, h t h1, h2⟩
theorem own_end {g : JFrame} {v : Option Value} (X : Stand p l e R s m args below meth c T locs cells slots) (hl : meth.locks = false) (hv : meth.sig.returnType = none → v = none)
    (h : ∀ fs, (∀ (f : JFrame) (acts : List Action), f.method = m → f.locked = none → f.entered = [] → (doReturn e (T.setTop f) acts v).1 = T.setFrames fs) → Steps p.tables e below (T.setTop g) (T.setFrames fs)) (hQ : Q v T.heap locs) (hc : cells ≤ K) (hs : slots ≤ N) : own_Fin p e below s K N Q T g := by
  obtain ⟨fs, hr, hrun, hended, hW, hsame⟩ := X.leave (v := v) hv hl
  exact ⟨_, _, h fs hr, hrun, hended, _, _, rfl, hQ, ⟨_, rfl⟩, hW, hsame.mono hc hs⟩
theorem own_retI {pc : Nat} {Ls : Array Slot} {z : Int32} {rest : List Value} (X : Stand p l e R s m args below meth c T locs cells slots) (hx : p.tables.exec = Jvm.exec) (hret : meth.sig.returnType = some .int) (hl : meth.locks = false) (hd : decode c.code pc = .ok (.ireturn, 1)) (hQ : Q (some (.int z)) T.heap locs) (hc : cells ≤ K) (hs : slots ≤ N) :
    own_Fin p e below s K N Q T (mkF m pc Ls (.int z :: rest)) :=
  own_end X hl (fun h => by rw [hret] at h; cases h) (fun fs hr => retOut X hx hret rfl (Or.inl ⟨rfl, Or.inl rfl, z, rfl⟩) hd hr) hQ hc hs
theorem own_retN {pc : Nat} {Ls : Array Slot} {z : Int32} {t : FieldType} {rest : List Value} (X : Stand p l e R s m args below meth c T locs cells slots) (hx : p.tables.exec = Jvm.exec) (hret : meth.sig.returnType = some t) (hl : meth.locks = false) (ht : t = .boolean ∨ t = .byte ∨ t = .char ∨ t = .short) (hd : decode c.code pc = .ok (.ireturn, 1)) (hQ : Q (some (.int (nar t z))) T.heap locs) (hc : cells ≤ K) (hs : slots ≤ N) :
    own_Fin p e below s K N Q T (mkF m pc Ls (.int z :: rest)) :=
  own_end X hl (fun h => by rw [hret] at h; cases h) (fun fs hr => retN X hx hret ht hd hr) hQ hc hs
theorem own_retJ {pc : Nat} {Ls : Array Slot} {z : Int64} {rest : List Value} (X : Stand p l e R s m args below meth c T locs cells slots) (hx : p.tables.exec = Jvm.exec) (hret : meth.sig.returnType = some .long) (hl : meth.locks = false) (hd : decode c.code pc = .ok (.lreturn, 1)) (hQ : Q (some (.long z)) T.heap locs) (hc : cells ≤ K) (hs : slots ≤ N) :
    own_Fin p e below s K N Q T (mkF m pc Ls (.long z :: rest)) :=
  own_end X hl (fun h => by rw [hret] at h; cases h) (fun fs hr => retOut X hx hret rfl (Or.inr (Or.inl ⟨rfl, rfl, z, rfl⟩)) hd hr) hQ hc hs
theorem own_retA {pc : Nat} {Ls : Array Slot} {a : Addr} {t : FieldType} {rest : List Value} (X : Stand p l e R s m args below meth c T locs cells slots) (hx : p.tables.exec = Jvm.exec) (hret : meth.sig.returnType = some t) (hl : meth.locks = false) (ht : t.isReference = true) (hd : decode c.code pc = .ok (.areturn, 1)) (hQ : Q (some (.ref a)) T.heap locs) (hc : cells ≤ K) (hs : slots ≤ N) :
    own_Fin p e below s K N Q T (mkF m pc Ls (.ref a :: rest)) :=
  own_end X hl (fun h => by rw [hret] at h; cases h) (fun fs hr => retOut X hx hret (by cases t <;> first | rfl | cases ht) (Or.inr (Or.inr (Or.inr (Or.inr ⟨rfl, ht, rfl⟩)))) hd hr) hQ hc hs
theorem own_retV {pc : Nat} {Ls : Array Slot} (X : Stand p l e R s m args below meth c T locs cells slots) (hx : p.tables.exec = Jvm.exec) (hret : meth.sig.returnType = none) (hl : meth.locks = false) (hd : decode c.code pc = .ok (.return_, 1)) (hQ : Q none T.heap locs) (hc : cells ≤ K) (hs : slots ≤ N) :
    own_Fin p e below s K N Q T (mkF m pc Ls []) :=
  own_end X hl (fun _ => rfl) (fun fs hr => X.returnOut hx hret hd hr) hQ hc hs
theorem own_lremM {g : JFrame} {target : State} (X : Stand p l e R s m args below meth c T locs cells slots) (hx : p.tables.exec = Jvm.exec) (hg : g.method = m) {x y : Int64} {rest : List Value} (hd : decode c.code g.pc = .ok (.lrem, 1)) (hs : g.stack = .long y :: .long x :: rest) (hy : y ≠ 0)
    (hr : Steps p.tables e below (T.setTop { g with pc := g.pc + 1, stack := .long (x % y) :: rest }) target) : Steps p.tables e below (T.setTop g) target := by
  have q : x - x / y * y = x % y := lrem_mod x y
  exact XS.lrem X.here hx hg hd hs hy (by rw [q]; exact hr)
end OwnFin
/-- a private method is selected by its own class -/
theorem own_selp {s : State} {args : Array Value} {n : Nat} {y : MethodName} (hy : y.cls ≠ "java/lang/invoke/MethodHandle" ∧ y.cls ≠ "java/lang/invoke/VarHandle") (hins : (Jvm.Cond.instantiable y.cls n).before args s = true) (hpriv : (Jvm.Cond.privateMethod y).before args s = true) (hinst : (Jvm.Cond.instanceMethod y).before args s = true) : (Jvm.Cond.selects y.cls y y).before args s = true := by
  obtain ⟨c, k, hc, hk, -, hniab, -, -⟩ := Cond.instantiable_spec hins
  have hni : k.isInterface = false := (Bool.or_eq_false_iff.mp hniab).1
  obtain ⟨mk, methM, hnamed, hmethM, -, -⟩ := Cond.instanceMethod_spec hinst
  have hfound : s.methodFound? y.cls y.name y.desc = some mk := State.methodFound?_of_named hnamed hy
  have hcls : mk.cls = c := Option.some.inj ((findClass_of_methodNamed hnamed).symm.trans hc)
  have hsel : selectMethod {} s.vm c mk = .method mk := selectMethod_private hmethM (Cond.privateMethod_at hpriv mk methM hnamed hmethM)
  simp only [Cond.before, Cond.holds, Cond.value, hc, hfound, hnamed, hsel, hcls, hk]
  simp; exact hni

def own_f1_19 (q0 : Int64) (q1 : Int64) (t0_19 : Int64) : Int64 := t0_19
theorem own_f1_19_eq (q0 : Int64) (q1 : Int64) (t0_19 : Int64) : own_f1_19 q0 q1 t0_19 = t0_19 := rfl
def own_F1 (q0 : Int64) (q1 : Int64) : Int64 := (if ((9223372036854775807 : Int64) - q1) < q0 then (own_f1_19 q0 q1 (9223372036854775807 : Int64)) else (own_f1_19 q0 q1 (q0 + q1)))
theorem own_F1_eq (q0 : Int64) (q1 : Int64) : own_F1 q0 q1 = (if ((9223372036854775807 : Int64) - q1) < q0 then (own_f1_19 q0 q1 (9223372036854775807 : Int64)) else (own_f1_19 q0 q1 (q0 + q1))) := rfl
theorem d1_0 : decode prog_4_method_6_code 0 = .ok (.lload_n 0, 1) := by decide +kernel
theorem d1_1 : decode prog_4_method_6_code 1 = .ok (.ldc2_w 53, 3) := by decide +kernel
theorem d1_4 : decode prog_4_method_6_code 4 = .ok (.lload_n 2, 1) := by decide +kernel
theorem d1_5 : decode prog_4_method_6_code 5 = .ok (.lsub, 1) := by decide +kernel
theorem d1_6 : decode prog_4_method_6_code 6 = .ok (.lcmp, 1) := by decide +kernel
theorem d1_7 : decode prog_4_method_6_code 7 = .ok (.ifCond .le 9, 3) := by decide +kernel
theorem d1_10 : decode prog_4_method_6_code 10 = .ok (.ldc2_w 53, 3) := by decide +kernel
theorem d1_13 : decode prog_4_method_6_code 13 = .ok (.goto 6, 3) := by decide +kernel
theorem d1_16 : decode prog_4_method_6_code 16 = .ok (.lload_n 0, 1) := by decide +kernel
theorem d1_17 : decode prog_4_method_6_code 17 = .ok (.lload_n 2, 1) := by decide +kernel
theorem d1_18 : decode prog_4_method_6_code 18 = .ok (.ladd, 1) := by decide +kernel
theorem d1_19 : decode prog_4_method_6_code 19 = .ok (.lreturn, 1) := by decide +kernel
theorem pn_1 : plainName "com/example/events_per_window/eventsperwindow/Decision" = true := by first | (simp [plainName, overriddenIn]; done) | decide +kernel
theorem ef_1 (m : MethodId) (x0 : Int64) (x1 : Int64) : entryFrame m #[(.long x0), (.long x1)] 4 = mkF m 0 #[.val (.long x0), .second, .val (.long x1), .second] [] := by first | (simp [entryFrame, mkF, argsToLocals, Value.category]; done) | rfl
def Q1 (Z : State) (q0 : Int64) (q1 : Int64) (h0 : Heap) (n0 : Nat) (v : Option Value) (h : Heap) (L : List Loc) : Prop := v = some (.long (own_F1 q0 q1)) ∧ Fr n0 L ∧ h = h0
set_option maxRecDepth 65536 in
set_option maxHeartbeats 40000000 in
theorem rm1 (l : Launch) (Z : State) (a0 : Array Value) (hw : ∀ d ∈ tables_1, d.before a0 Z = true) (ws : List Jvm.Cond) (q0 : Int64) (q1 : Int64) (h0 : Heap) (n0 : Nat) (Z0 : n0 ≤ h0.size) :
    MetFree l (⟨"com/example/events_per_window/eventsperwindow/Decision", "sumOfDelays", "(JJ)J"⟩ : MethodName) (head1 (Jvm.Cond.code (⟨"com/example/events_per_window/eventsperwindow/Decision", "sumOfDelays", "(JJ)J"⟩ : MethodName) prog_4_method_6_code 4 (some .long) :: ws) ({ frames := 0, cells := 0, slots := 0, locals := 0 } : Room)) (fun a U => a = #[(.long q0), (.long q1)] ∧ Z.Warmed39 U.vm ∧ U.heap = h0) (fun _ _ _ _ _ => True) (fun _ U o U' => ∃ v L, o = .returned v ∧ Q1 Z q0 q1 h0 n0 v U'.heap L ∧ FrameEnd U o U' L ({ frames := 0, cells := 0, slots := 0, locals := 0 } : Room).cells ({ frames := 0, cells := 0, slots := 0, locals := 0 } : Room).slots) := by
  refine MetFree.of_bodySF (plainFor_of_name pn_1) hisR ?_
  intro p e s m args below meth c s₁ Bd hml0 hP hK
  obtain ⟨rfl, hZ, hh⟩ := hP
  have hx := Bd.exec
  have hby := Bd.bytes
  have hml : c.maxLocals = 4 := hml0
  have hown : s.vm.findClass "com/example/events_per_window/eventsperwindow/Decision" = some m.cls := findClass_of_methodNamed Bd.named
  have hnm := (name_of_methodNamed Bd.named Bd.method).1
  have X0 : Stand p l e ({ frames := 0, cells := 0, slots := 0, locals := 0 } : Room) s m #[(.long q0), (.long q1)] below meth c s₁ [] 0 0 := Stand.of_body Bd
  have e0 : s₁.heap = h0 := by rw [← hh, Bd.state]; rfl
  have N0 := Fr.nil n0
  refine own_in (ef_1 m q0 q1) ?_
  have hr0 := (own_F1_eq q0 q1).symm
  refine own_st (g' := (mkF m 1 #[.val (.long q0), .second, .val (.long q1), .second] [(.long q0)])) (fun t k => XS.lloadN X0.here hx rfl (hb hby d1_0) rfl  k) ?_
  refine own_st (g' := (mkF m 4 #[.val (.long q0), .second, .val (.long q1), .second] [(.long (9223372036854775807 : Int64)), (.long q0)])) (fun t k => X0.ldc2Long hx hown (mvT hZ (hw _ (List.mem_of_getElem? (i := 5) rfl))) (g := (mkF m 1 #[.val (.long q0), .second, .val (.long q1), .second] [(.long q0)])) rfl (hb hby d1_1) t k) ?_
  refine own_st (g' := (mkF m 5 #[.val (.long q0), .second, .val (.long q1), .second] [(.long q1), (.long (9223372036854775807 : Int64)), (.long q0)])) (fun t k => XS.lloadN X0.here hx rfl (hb hby d1_4) rfl  k) ?_
  refine own_st (g' := (mkF m 6 #[.val (.long q0), .second, .val (.long q1), .second] [(.long ((9223372036854775807 : Int64) - q1)), (.long q0)])) (fun t k => XS.lsub X0.here hx rfl (hb hby d1_5) rfl k) ?_
  refine own_st (g' := (mkF m 7 #[.val (.long q0), .second, .val (.long q1), .second] [(.int (lcmpW q0 ((9223372036854775807 : Int64) - q1)))])) (fun t k => XS.lcmp X0.here hx rfl (hb hby d1_6) rfl k) ?_
  have J19 : ∀ (T : State) (locs : List Loc) (t0_19 : Int64), Stand p l e ({ frames := 0, cells := 0, slots := 0, locals := 0 } : Room) s m #[(.long q0), (.long q1)] below meth c T locs 0 0 → T.heap = h0 → Fr n0 locs → own_f1_19 q0 q1 t0_19 = own_F1 q0 q1 → own_Fin p e below s ({ frames := 0, cells := 0, slots := 0, locals := 0 } : Room).cells ({ frames := 0, cells := 0, slots := 0, locals := 0 } : Room).slots (Q1 Z q0 q1 h0 n0) T (mkF m 19 #[.val (.long q0), .second, .val (.long q1), .second] [(.long t0_19)]) := by
    intro T3 locs3 t0_19  X3 e3 N3 hr3
    have hr3a := (own_f1_19_eq (q0) (q1) (t0_19)).symm.trans hr3
    exact own_retJ X3 hx Bd.returns Bd.notSynchronized (hb hby d1_19) ⟨congrArg (fun q => some (Value.long q)) hr3a, N3, e3⟩ (by decide) (by decide)
  by_cases hc7_4 : ((9223372036854775807 : Int64) - q1) < q0
  · have hr5 := (if_pos hc7_4).symm.trans hr0
    refine own_st (g' := (mkF m 10 #[.val (.long q0), .second, .val (.long q1), .second] [])) (fun t k => XS.ifNo X0.here hx rfl (hb hby d1_7) rfl ((if0 _ _).trans (tlt ((lw_gt _ _).mpr hc7_4)).2.2.2) k) ?_
    refine own_st (g' := (mkF m 13 #[.val (.long q0), .second, .val (.long q1), .second] [(.long (9223372036854775807 : Int64))])) (fun t k => X0.ldc2Long hx hown (mvT hZ (hw _ (List.mem_of_getElem? (i := 5) rfl))) (g := (mkF m 10 #[.val (.long q0), .second, .val (.long q1), .second] [])) rfl (hb hby d1_10) t k) ?_
    refine own_st (g' := (mkF m 19 #[.val (.long q0), .second, .val (.long q1), .second] [(.long (9223372036854775807 : Int64))])) (fun t k => XS.goto X0.here hx rfl (pc0 := 13) (pc' := 19) rfl (hb hby d1_13) (by decide) (by decide) k) ?_
    exact J19 s₁ _ (9223372036854775807 : Int64)  X0 e0 N0 hr5
  · have hr6 := (if_neg hc7_4).symm.trans hr0
    refine own_st (g' := (mkF m 16 #[.val (.long q0), .second, .val (.long q1), .second] [])) (fun t k => XS.ifYes X0.here hx rfl (pc0 := 7) (pc' := 16) rfl (hb hby d1_7) rfl ((if0 _ _).trans (flt (fun q => hc7_4 ((lw_gt _ _).mp q))).2.2.2) (by decide) (by decide) k) ?_
    refine own_st (g' := (mkF m 17 #[.val (.long q0), .second, .val (.long q1), .second] [(.long q0)])) (fun t k => XS.lloadN X0.here hx rfl (hb hby d1_16) rfl  k) ?_
    refine own_st (g' := (mkF m 18 #[.val (.long q0), .second, .val (.long q1), .second] [(.long q1), (.long q0)])) (fun t k => XS.lloadN X0.here hx rfl (hb hby d1_17) rfl  k) ?_
    refine own_st (g' := (mkF m 19 #[.val (.long q0), .second, .val (.long q1), .second] [(.long (q0 + q1))])) (fun t k => XS.ladd X0.here hx rfl (hb hby d1_18) rfl k) ?_
    exact J19 s₁ _ (q0 + q1)  X0 e0 N0 hr6
def own_f0_124 (q0 : Int64) (q1 : Int64) (p2 : Int32) (l5_58 : Int64) (l7_58 : Int64) (l5_78 : Int64) (l7_78 : Int64) (t0_109 : Int64) (t0_124 : Int32) : Int32 := (nar .boolean t0_124)
theorem own_f0_124_eq (q0 : Int64) (q1 : Int64) (p2 : Int32) (l5_58 : Int64) (l7_58 : Int64) (l5_78 : Int64) (l7_78 : Int64) (t0_109 : Int64) (t0_124 : Int32) : own_f0_124 q0 q1 p2 l5_58 l7_58 l5_78 l7_78 t0_109 t0_124 = (nar .boolean t0_124) := rfl
def own_f0_109 (q0 : Int64) (q1 : Int64) (p2 : Int32) (l5_58 : Int64) (l7_58 : Int64) (l5_78 : Int64) (l7_78 : Int64) (t0_109 : Int64) : Int32 := (if (own_F1 l5_78 l7_78) = t0_109 then (own_f0_124 q0 q1 p2 l5_58 l7_58 l5_78 l7_78 t0_109 (1 : Int32)) else (own_f0_124 q0 q1 p2 l5_58 l7_58 l5_78 l7_78 t0_109 (0 : Int32)))
theorem own_f0_109_eq (q0 : Int64) (q1 : Int64) (p2 : Int32) (l5_58 : Int64) (l7_58 : Int64) (l5_78 : Int64) (l7_78 : Int64) (t0_109 : Int64) : own_f0_109 q0 q1 p2 l5_58 l7_58 l5_78 l7_78 t0_109 = (if (own_F1 l5_78 l7_78) = t0_109 then (own_f0_124 q0 q1 p2 l5_58 l7_58 l5_78 l7_78 t0_109 (1 : Int32)) else (own_f0_124 q0 q1 p2 l5_58 l7_58 l5_78 l7_78 t0_109 (0 : Int32))) := rfl
def own_f0_78 (q0 : Int64) (q1 : Int64) (p2 : Int32) (l5_58 : Int64) (l7_58 : Int64) (l5_78 : Int64) (l7_78 : Int64) : Int32 := (if (l5_78 + l7_78) < (0 : Int64) then (own_f0_109 q0 q1 p2 l5_58 l7_58 l5_78 l7_78 (9223372036854775807 : Int64)) else (own_f0_109 q0 q1 p2 l5_58 l7_58 l5_78 l7_78 (l5_78 + l7_78)))
theorem own_f0_78_eq (q0 : Int64) (q1 : Int64) (p2 : Int32) (l5_58 : Int64) (l7_58 : Int64) (l5_78 : Int64) (l7_78 : Int64) : own_f0_78 q0 q1 p2 l5_58 l7_58 l5_78 l7_78 = (if (l5_78 + l7_78) < (0 : Int64) then (own_f0_109 q0 q1 p2 l5_58 l7_58 l5_78 l7_78 (9223372036854775807 : Int64)) else (own_f0_109 q0 q1 p2 l5_58 l7_58 l5_78 l7_78 (l5_78 + l7_78))) := rfl
def own_f0_58 (q0 : Int64) (q1 : Int64) (p2 : Int32) (l5_58 : Int64) (l7_58 : Int64) : Int32 := (if (p2 &&& (8 : Int32)) = (0 : Int32) then (own_f0_78 q0 q1 p2 l5_58 l7_58 l5_58 l7_58) else (own_f0_78 q0 q1 p2 l5_58 l7_58 l7_58 l5_58))
theorem own_f0_58_eq (q0 : Int64) (q1 : Int64) (p2 : Int32) (l5_58 : Int64) (l7_58 : Int64) : own_f0_58 q0 q1 p2 l5_58 l7_58 = (if (p2 &&& (8 : Int32)) = (0 : Int32) then (own_f0_78 q0 q1 p2 l5_58 l7_58 l5_58 l7_58) else (own_f0_78 q0 q1 p2 l5_58 l7_58 l7_58 l5_58)) := rfl
def own_f0_56 (q0 : Int64) (q1 : Int64) (p2 : Int32) (l5_56 : Int64) (t0_56 : Int64) : Int32 := (own_f0_58 q0 q1 p2 l5_56 t0_56)
theorem own_f0_56_eq (q0 : Int64) (q1 : Int64) (p2 : Int32) (l5_56 : Int64) (t0_56 : Int64) : own_f0_56 q0 q1 p2 l5_56 t0_56 = (own_f0_58 q0 q1 p2 l5_56 t0_56) := rfl
def own_F0 (q0 : Int64) (q1 : Int64) (p2 : Int32) : Int32 := (if (p2 &&& (1 : Int32)) = (0 : Int32) then (own_f0_58 q0 q1 p2 (q0 &&& (9223372036854775807 : Int64)) (q1 &&& (9223372036854775807 : Int64))) else (if (((9223372036854775807 : Int64) - (q0 &&& (9223372036854775807 : Int64))) + (((((((p2).toUInt32 >>> ((1 : Int32) &&& 31).toUInt32).toInt32) &&& (3 : Int32))).toInt64) - (1 : Int64))) < (0 : Int64) then (own_f0_56 q0 q1 p2 (q0 &&& (9223372036854775807 : Int64)) (0 : Int64)) else (own_f0_56 q0 q1 p2 (q0 &&& (9223372036854775807 : Int64)) (((9223372036854775807 : Int64) - (q0 &&& (9223372036854775807 : Int64))) + (((((((p2).toUInt32 >>> ((1 : Int32) &&& 31).toUInt32).toInt32) &&& (3 : Int32))).toInt64) - (1 : Int64))))))
theorem own_F0_eq (q0 : Int64) (q1 : Int64) (p2 : Int32) : own_F0 q0 q1 p2 = (if (p2 &&& (1 : Int32)) = (0 : Int32) then (own_f0_58 q0 q1 p2 (q0 &&& (9223372036854775807 : Int64)) (q1 &&& (9223372036854775807 : Int64))) else (if (((9223372036854775807 : Int64) - (q0 &&& (9223372036854775807 : Int64))) + (((((((p2).toUInt32 >>> ((1 : Int32) &&& 31).toUInt32).toInt32) &&& (3 : Int32))).toInt64) - (1 : Int64))) < (0 : Int64) then (own_f0_56 q0 q1 p2 (q0 &&& (9223372036854775807 : Int64)) (0 : Int64)) else (own_f0_56 q0 q1 p2 (q0 &&& (9223372036854775807 : Int64)) (((9223372036854775807 : Int64) - (q0 &&& (9223372036854775807 : Int64))) + (((((((p2).toUInt32 >>> ((1 : Int32) &&& 31).toUInt32).toInt32) &&& (3 : Int32))).toInt64) - (1 : Int64)))))) := rfl
theorem pn_0 : plainName "com/example/events_per_window/eventsperwindow/DecisionSumOfDelaysPinLaw" = true := by first | (simp [plainName, overriddenIn]; done) | decide +kernel
theorem pd_0_0 : parseMethodDescriptor "(JJ)J" = some ⟨[.long, .long], some .long⟩ := by decide +kernel
theorem ef_0 (m : MethodId) (x0 : Int64) (x1 : Int64) (x2 : Int32) : entryFrame m #[(.long x0), (.long x1), (.int x2)] maxLocals = mkF m 0 #[.val (.long x0), .second, .val (.long x1), .second, .val (.int x2), .unset, .unset, .unset, .unset, .unset, .unset, .unset, .unset, .unset, .unset] [] := by first | (simp [entryFrame, mkF, argsToLocals, Value.category, maxLocals]; done) | rfl
def Q0 (Z : State) (q0 : Int64) (q1 : Int64) (p2 : Int32) (h0 : Heap) (n0 : Nat) (v : Option Value) (h : Heap) (L : List Loc) : Prop := v = some (.int 1) ∧ Fr n0 L
set_option maxRecDepth 65536 in
set_option maxHeartbeats 40000000 in
theorem rm0 (l : Launch) (Z : State) (a0 : Array Value) (hw : ∀ d ∈ tables_1, d.before a0 Z = true) (ws : List Jvm.Cond) (q0 : Int64) (q1 : Int64) (p2 : Int32) (h0 : Heap) (n0 : Nat) (Z0 : n0 ≤ h0.size) (hlaw : own_F0 q0 q1 p2 = 1) :
    MetFree l x (head1 (Jvm.Cond.code x code maxLocals ret :: ws) room_1) (fun a U => a = #[(.long q0), (.long q1), (.int p2)] ∧ Z.Warmed39 U.vm ∧ U.heap = h0) (fun _ _ _ _ _ => True) (fun _ U o U' => ∃ v L, o = .returned v ∧ Q0 Z q0 q1 p2 h0 n0 v U'.heap L ∧ FrameEnd U o U' L 0 0) := by
  refine MetFree.of_bodySF (plainFor_of_name pn_0) hisR ?_
  intro p e s m args below meth c s₁ Bd hml0 hP hK
  obtain ⟨rfl, hZ, hh⟩ := hP
  have hx := Bd.exec
  have hby := Bd.bytes
  have hml : c.maxLocals = 15 := hml0
  have hown : s.vm.findClass "com/example/events_per_window/eventsperwindow/DecisionSumOfDelaysPinLaw" = some m.cls := findClass_of_methodNamed Bd.named
  have hnm := (name_of_methodNamed Bd.named Bd.method).1
  have X0 : Stand p l e room_1 s m #[(.long q0), (.long q1), (.int p2)] below meth c s₁ [] 0 0 := Stand.of_body Bd
  have e0 : s₁.heap = h0 := by rw [← hh, Bd.state]; rfl
  have N0 := Fr.nil n0
  refine own_in (ef_0 m q0 q1 p2) ?_
  have hr0 := (own_F0_eq q0 q1 p2).symm.trans hlaw
  refine own_st (g' := (mkF m 1 #[.val (.long q0), .second, .val (.long q1), .second, .val (.int p2), .unset, .unset, .unset, .unset, .unset, .unset, .unset, .unset, .unset, .unset] [(.long q0)])) (fun t k => XS.lloadN X0.here hx rfl (hb hby at_0) rfl  k) ?_
  refine own_st (g' := (mkF m 4 #[.val (.long q0), .second, .val (.long q1), .second, .val (.int p2), .unset, .unset, .unset, .unset, .unset, .unset, .unset, .unset, .unset, .unset] [(.long (9223372036854775807 : Int64)), (.long q0)])) (fun t k => X0.ldc2Long hx hown (mvT hZ (hw _ (List.mem_of_getElem? (i := 0) rfl))) (g := (mkF m 1 #[.val (.long q0), .second, .val (.long q1), .second, .val (.int p2), .unset, .unset, .unset, .unset, .unset, .unset, .unset, .unset, .unset, .unset] [(.long q0)])) rfl (hb hby at_1) t k) ?_
  refine own_st (g' := (mkF m 5 #[.val (.long q0), .second, .val (.long q1), .second, .val (.int p2), .unset, .unset, .unset, .unset, .unset, .unset, .unset, .unset, .unset, .unset] [(.long (q0 &&& (9223372036854775807 : Int64)))])) (fun t k => XS.land X0.here hx rfl (hb hby at_4) rfl k) ?_
  refine own_st (g' := (mkF m 7 #[.val (.long q0), .second, .val (.long q1), .second, .val (.int p2), .val (.long (q0 &&& (9223372036854775807 : Int64))), .second, .unset, .unset, .unset, .unset, .unset, .unset, .unset, .unset] [])) (fun t k => XS.lstore X0.here hx rfl (hb hby at_5) rfl (l' := #[.val (.long q0), .second, .val (.long q1), .second, .val (.int p2), .val (.long (q0 &&& (9223372036854775807 : Int64))), .second, .unset, .unset, .unset, .unset, .unset, .unset, .unset, .unset]) rfl k) ?_
  refine own_st (g' := (mkF m 8 #[.val (.long q0), .second, .val (.long q1), .second, .val (.int p2), .val (.long (q0 &&& (9223372036854775807 : Int64))), .second, .unset, .unset, .unset, .unset, .unset, .unset, .unset, .unset] [(.long q1)])) (fun t k => XS.lloadN X0.here hx rfl (hb hby at_7) rfl  k) ?_
  refine own_st (g' := (mkF m 11 #[.val (.long q0), .second, .val (.long q1), .second, .val (.int p2), .val (.long (q0 &&& (9223372036854775807 : Int64))), .second, .unset, .unset, .unset, .unset, .unset, .unset, .unset, .unset] [(.long (9223372036854775807 : Int64)), (.long q1)])) (fun t k => X0.ldc2Long hx hown (mvT hZ (hw _ (List.mem_of_getElem? (i := 0) rfl))) (g := (mkF m 8 #[.val (.long q0), .second, .val (.long q1), .second, .val (.int p2), .val (.long (q0 &&& (9223372036854775807 : Int64))), .second, .unset, .unset, .unset, .unset, .unset, .unset, .unset, .unset] [(.long q1)])) rfl (hb hby at_8) t k) ?_
  refine own_st (g' := (mkF m 12 #[.val (.long q0), .second, .val (.long q1), .second, .val (.int p2), .val (.long (q0 &&& (9223372036854775807 : Int64))), .second, .unset, .unset, .unset, .unset, .unset, .unset, .unset, .unset] [(.long (q1 &&& (9223372036854775807 : Int64)))])) (fun t k => XS.land X0.here hx rfl (hb hby at_11) rfl k) ?_
  refine own_st (g' := (mkF m 14 #[.val (.long q0), .second, .val (.long q1), .second, .val (.int p2), .val (.long (q0 &&& (9223372036854775807 : Int64))), .second, .val (.long (q1 &&& (9223372036854775807 : Int64))), .second, .unset, .unset, .unset, .unset, .unset, .unset] [])) (fun t k => XS.lstore X0.here hx rfl (hb hby at_12) rfl (l' := #[.val (.long q0), .second, .val (.long q1), .second, .val (.int p2), .val (.long (q0 &&& (9223372036854775807 : Int64))), .second, .val (.long (q1 &&& (9223372036854775807 : Int64))), .second, .unset, .unset, .unset, .unset, .unset, .unset]) rfl k) ?_
  refine own_st (g' := (mkF m 16 #[.val (.long q0), .second, .val (.long q1), .second, .val (.int p2), .val (.long (q0 &&& (9223372036854775807 : Int64))), .second, .val (.long (q1 &&& (9223372036854775807 : Int64))), .second, .unset, .unset, .unset, .unset, .unset, .unset] [(.int p2)])) (fun t k => XS.iload X0.here hx rfl (hb hby at_14) rfl  k) ?_
  refine own_st (g' := (mkF m 17 #[.val (.long q0), .second, .val (.long q1), .second, .val (.int p2), .val (.long (q0 &&& (9223372036854775807 : Int64))), .second, .val (.long (q1 &&& (9223372036854775807 : Int64))), .second, .unset, .unset, .unset, .unset, .unset, .unset] [(.int (1 : Int32)), (.int p2)])) (fun t k => XS.iconst X0.here hx rfl (hb hby at_16) k) ?_
  refine own_st (g' := (mkF m 18 #[.val (.long q0), .second, .val (.long q1), .second, .val (.int p2), .val (.long (q0 &&& (9223372036854775807 : Int64))), .second, .val (.long (q1 &&& (9223372036854775807 : Int64))), .second, .unset, .unset, .unset, .unset, .unset, .unset] [(.int (p2 &&& (1 : Int32)))])) (fun t k => XS.iand X0.here hx rfl (hb hby at_17) rfl k) ?_
  have J58 : ∀ (T : State) (locs : List Loc) (l5_58 : Int64) (l7_58 : Int64) (s9_58 : Slot) (s10_58 : Slot) (s11_58 : Slot) (s12_58 : Slot), ((s9_58 = .unset ∧ s10_58 = .unset) ∨ ∃ w, s9_58 = .val (.long w) ∧ s10_58 = .second) → ((s11_58 = .unset ∧ s12_58 = .unset) ∨ ∃ w, s11_58 = .val (.long w) ∧ s12_58 = .second) → Stand p l e room_1 s m #[(.long q0), (.long q1), (.int p2)] below meth c T locs 0 0 → T.heap = h0 → Fr n0 locs → own_f0_58 q0 q1 p2 l5_58 l7_58 = (1 : Int32) → own_Fin p e below s 0 0 (Q0 Z q0 q1 p2 h0 n0) T (mkF m 58 #[.val (.long q0), .second, .val (.long q1), .second, .val (.int p2), .val (.long l5_58), .second, .val (.long l7_58), .second, s9_58, s10_58, s11_58, s12_58, .unset, .unset] []) := by
    intro T13 locs13 l5_58 l7_58 s9_58 s10_58 s11_58 s12_58 o9_58 o11_58 X13 e13 N13 hr13
    have hr13a := (own_f0_58_eq (q0) (q1) (p2) (l5_58) (l7_58)).symm.trans hr13
    refine own_st (g' := (mkF m 60 #[.val (.long q0), .second, .val (.long q1), .second, .val (.int p2), .val (.long l5_58), .second, .val (.long l7_58), .second, s9_58, s10_58, s11_58, s12_58, .unset, .unset] [(.int p2)])) (fun t k => XS.iload X13.here hx rfl (hb hby at_58) rfl  k) ?_
    refine own_st (g' := (mkF m 62 #[.val (.long q0), .second, .val (.long q1), .second, .val (.int p2), .val (.long l5_58), .second, .val (.long l7_58), .second, s9_58, s10_58, s11_58, s12_58, .unset, .unset] [(.int (8 : Int32)), (.int p2)])) (fun t k => XS.bipush X13.here hx rfl (hb hby at_60) k) ?_
    refine own_st (g' := (mkF m 63 #[.val (.long q0), .second, .val (.long q1), .second, .val (.int p2), .val (.long l5_58), .second, .val (.long l7_58), .second, s9_58, s10_58, s11_58, s12_58, .unset, .unset] [(.int (p2 &&& (8 : Int32)))])) (fun t k => XS.iand X13.here hx rfl (hb hby at_62) rfl k) ?_
    have J78 : ∀ (T : State) (locs : List Loc) (l5_78 : Int64) (l7_78 : Int64) (s9_78 : Slot) (s10_78 : Slot) (s11_78 : Slot) (s12_78 : Slot), ((s9_78 = .unset ∧ s10_78 = .unset) ∨ ∃ w, s9_78 = .val (.long w) ∧ s10_78 = .second) → ((s11_78 = .unset ∧ s12_78 = .unset) ∨ ∃ w, s11_78 = .val (.long w) ∧ s12_78 = .second) → Stand p l e room_1 s m #[(.long q0), (.long q1), (.int p2)] below meth c T locs 0 0 → T.heap = h0 → Fr n0 locs → own_f0_78 q0 q1 p2 l5_58 l7_58 l5_78 l7_78 = (1 : Int32) → own_Fin p e below s 0 0 (Q0 Z q0 q1 p2 h0 n0) T (mkF m 78 #[.val (.long q0), .second, .val (.long q1), .second, .val (.int p2), .val (.long l5_78), .second, .val (.long l7_78), .second, s9_78, s10_78, s11_78, s12_78, .unset, .unset] []) := by
      intro T14 locs14 l5_78 l7_78 s9_78 s10_78 s11_78 s12_78 o9_78 o11_78 X14 e14 N14 hr14
      have hr14a := (own_f0_78_eq (q0) (q1) (p2) (l5_58) (l7_58) (l5_78) (l7_78)).symm.trans hr14
      refine own_st (g' := (mkF m 80 #[.val (.long q0), .second, .val (.long q1), .second, .val (.int p2), .val (.long l5_78), .second, .val (.long l7_78), .second, s9_78, s10_78, s11_78, s12_78, .unset, .unset] [(.long l5_78)])) (fun t k => XS.lload X14.here hx rfl (hb hby at_78) rfl  k) ?_
      refine own_st (g' := (mkF m 82 #[.val (.long q0), .second, .val (.long q1), .second, .val (.int p2), .val (.long l5_78), .second, .val (.long l7_78), .second, s9_78, s10_78, s11_78, s12_78, .unset, .unset] [(.long l7_78), (.long l5_78)])) (fun t k => XS.lload X14.here hx rfl (hb hby at_80) rfl  k) ?_
      obtain ⟨_, _, ⟨T15, L15, k15, n15⟩, -, X15, ⟨Lc15, hQ15, l15, y15, z15⟩, st15⟩ := Jvm.LawKit.callS X14 hx (y := (⟨"com/example/events_per_window/eventsperwindow/Decision", "sumOfDelays", "(JJ)J"⟩ : MethodName)) hown (mvT hZ (hw _ (List.mem_of_getElem? (i := 1) rfl))) (mvT hZ (hw _ (List.mem_of_getElem? (i := 2) rfl))) (mvT hZ (hw _ (List.mem_of_getElem? (i := 3) rfl))) (mvT hZ (hw _ (List.mem_of_getElem? (i := 4) rfl))) (by decide) (backOf (W := 0) (rm1 l Z a0 hw [] l5_78 l7_78 h0 n0 Z0  ) hZ (hw _ (List.mem_of_getElem? (i := 4) rfl)) (hw _ (List.mem_of_getElem? (i := 3) rfl)) (by decide) (by decide)) (g := (mkF m 82 #[.val (.long q0), .second, .val (.long q1), .second, .val (.int p2), .val (.long l5_78), .second, .val (.long l7_78), .second, s9_78, s10_78, s11_78, s12_78, .unset, .unset] [(.long l7_78), (.long l5_78)])) rfl (by rw [hml]; rfl) (argsL := [(.long l5_78), (.long l7_78)]) (rest := []) (lenOf pd_0_0 rfl) rfl (by show 2 * 0 + _ ≤ _; exact Nat.le_of_eq rfl) (hb hby at_82) (fun _ _ => ⟨rfl, e14, (by decide : 0 + 0 ≤ _), (by decide : 0 + 0 ≤ _)⟩)
      dsimp only [Pt.U, Pt.locs, Pt.cells, Pt.slots] at X15 l15 y15 z15 st15 hQ15
      subst l15 y15 z15
      obtain ⟨rfl, N15q, e15⟩ := hQ15
      have N15 := Fr.app N14 N15q
      refine own_st (g' := (mkF m 85 #[.val (.long q0), .second, .val (.long q1), .second, .val (.int p2), .val (.long l5_78), .second, .val (.long l7_78), .second, s9_78, s10_78, s11_78, s12_78, .unset, .unset] [(.long (own_F1 l5_78 l7_78))])) (fun t k => st15 t k) ?_
      refine own_st (g' := (mkF m 87 #[.val (.long q0), .second, .val (.long q1), .second, .val (.int p2), .val (.long l5_78), .second, .val (.long l7_78), .second, .val (.long (own_F1 l5_78 l7_78)), .second, s11_78, s12_78, .unset, .unset] [])) (fun t k => XS.lstore X15.here hx rfl (hb hby at_85) rfl (l' := #[.val (.long q0), .second, .val (.long q1), .second, .val (.int p2), .val (.long l5_78), .second, .val (.long l7_78), .second, .val (.long (own_F1 l5_78 l7_78)), .second, s11_78, s12_78, .unset, .unset]) (by rcases o9_78 with ⟨rfl, rfl⟩ | ⟨w, rfl, rfl⟩ <;> rfl) k) ?_
      refine own_st (g' := (mkF m 89 #[.val (.long q0), .second, .val (.long q1), .second, .val (.int p2), .val (.long l5_78), .second, .val (.long l7_78), .second, .val (.long (own_F1 l5_78 l7_78)), .second, s11_78, s12_78, .unset, .unset] [(.long l5_78)])) (fun t k => XS.lload X15.here hx rfl (hb hby at_87) rfl  k) ?_
      refine own_st (g' := (mkF m 91 #[.val (.long q0), .second, .val (.long q1), .second, .val (.int p2), .val (.long l5_78), .second, .val (.long l7_78), .second, .val (.long (own_F1 l5_78 l7_78)), .second, s11_78, s12_78, .unset, .unset] [(.long l7_78), (.long l5_78)])) (fun t k => XS.lload X15.here hx rfl (hb hby at_89) rfl  k) ?_
      refine own_st (g' := (mkF m 92 #[.val (.long q0), .second, .val (.long q1), .second, .val (.int p2), .val (.long l5_78), .second, .val (.long l7_78), .second, .val (.long (own_F1 l5_78 l7_78)), .second, s11_78, s12_78, .unset, .unset] [(.long (l5_78 + l7_78))])) (fun t k => XS.ladd X15.here hx rfl (hb hby at_91) rfl k) ?_
      refine own_st (g' := (mkF m 94 #[.val (.long q0), .second, .val (.long q1), .second, .val (.int p2), .val (.long l5_78), .second, .val (.long l7_78), .second, .val (.long (own_F1 l5_78 l7_78)), .second, .val (.long (l5_78 + l7_78)), .second, .unset, .unset] [])) (fun t k => XS.lstore X15.here hx rfl (hb hby at_92) rfl (l' := #[.val (.long q0), .second, .val (.long q1), .second, .val (.int p2), .val (.long l5_78), .second, .val (.long l7_78), .second, .val (.long (own_F1 l5_78 l7_78)), .second, .val (.long (l5_78 + l7_78)), .second, .unset, .unset]) (by rcases o11_78 with ⟨rfl, rfl⟩ | ⟨w, rfl, rfl⟩ <;> rfl) k) ?_
      refine own_st (g' := (mkF m 96 #[.val (.long q0), .second, .val (.long q1), .second, .val (.int p2), .val (.long l5_78), .second, .val (.long l7_78), .second, .val (.long (own_F1 l5_78 l7_78)), .second, .val (.long (l5_78 + l7_78)), .second, .unset, .unset] [(.long (l5_78 + l7_78))])) (fun t k => XS.lload X15.here hx rfl (hb hby at_94) rfl  k) ?_
      refine own_st (g' := (mkF m 97 #[.val (.long q0), .second, .val (.long q1), .second, .val (.int p2), .val (.long l5_78), .second, .val (.long l7_78), .second, .val (.long (own_F1 l5_78 l7_78)), .second, .val (.long (l5_78 + l7_78)), .second, .unset, .unset] [(.long (0 : Int64)), (.long (l5_78 + l7_78))])) (fun t k => XS.lconst X15.here hx rfl (hb hby at_96) k) ?_
      refine own_st (g' := (mkF m 98 #[.val (.long q0), .second, .val (.long q1), .second, .val (.int p2), .val (.long l5_78), .second, .val (.long l7_78), .second, .val (.long (own_F1 l5_78 l7_78)), .second, .val (.long (l5_78 + l7_78)), .second, .unset, .unset] [(.int (lcmpW (l5_78 + l7_78) (0 : Int64)))])) (fun t k => XS.lcmp X15.here hx rfl (hb hby at_97) rfl k) ?_
      have J109 : ∀ (T : State) (locs : List Loc) (t0_109 : Int64), Stand p l e room_1 s m #[(.long q0), (.long q1), (.int p2)] below meth c T locs 0 0 → T.heap = h0 → Fr n0 locs → own_f0_109 q0 q1 p2 l5_58 l7_58 l5_78 l7_78 t0_109 = (1 : Int32) → own_Fin p e below s 0 0 (Q0 Z q0 q1 p2 h0 n0) T (mkF m 109 #[.val (.long q0), .second, .val (.long q1), .second, .val (.int p2), .val (.long l5_78), .second, .val (.long l7_78), .second, .val (.long (own_F1 l5_78 l7_78)), .second, .val (.long (l5_78 + l7_78)), .second, .unset, .unset] [(.long t0_109)]) := by
        intro T16 locs16 t0_109  X16 e16 N16 hr16
        have hr16a := (own_f0_109_eq (q0) (q1) (p2) (l5_58) (l7_58) (l5_78) (l7_78) (t0_109)).symm.trans hr16
        refine own_st (g' := (mkF m 111 #[.val (.long q0), .second, .val (.long q1), .second, .val (.int p2), .val (.long l5_78), .second, .val (.long l7_78), .second, .val (.long (own_F1 l5_78 l7_78)), .second, .val (.long (l5_78 + l7_78)), .second, .val (.long t0_109), .second] [])) (fun t k => XS.lstore X16.here hx rfl (hb hby at_109) rfl (l' := #[.val (.long q0), .second, .val (.long q1), .second, .val (.int p2), .val (.long l5_78), .second, .val (.long l7_78), .second, .val (.long (own_F1 l5_78 l7_78)), .second, .val (.long (l5_78 + l7_78)), .second, .val (.long t0_109), .second]) rfl k) ?_
        refine own_st (g' := (mkF m 113 #[.val (.long q0), .second, .val (.long q1), .second, .val (.int p2), .val (.long l5_78), .second, .val (.long l7_78), .second, .val (.long (own_F1 l5_78 l7_78)), .second, .val (.long (l5_78 + l7_78)), .second, .val (.long t0_109), .second] [(.long (own_F1 l5_78 l7_78))])) (fun t k => XS.lload X16.here hx rfl (hb hby at_111) rfl  k) ?_
        refine own_st (g' := (mkF m 115 #[.val (.long q0), .second, .val (.long q1), .second, .val (.int p2), .val (.long l5_78), .second, .val (.long l7_78), .second, .val (.long (own_F1 l5_78 l7_78)), .second, .val (.long (l5_78 + l7_78)), .second, .val (.long t0_109), .second] [(.long t0_109), (.long (own_F1 l5_78 l7_78))])) (fun t k => XS.lload X16.here hx rfl (hb hby at_113) rfl  k) ?_
        refine own_st (g' := (mkF m 116 #[.val (.long q0), .second, .val (.long q1), .second, .val (.int p2), .val (.long l5_78), .second, .val (.long l7_78), .second, .val (.long (own_F1 l5_78 l7_78)), .second, .val (.long (l5_78 + l7_78)), .second, .val (.long t0_109), .second] [(.int (lcmpW (own_F1 l5_78 l7_78) t0_109))])) (fun t k => XS.lcmp X16.here hx rfl (hb hby at_115) rfl k) ?_
        have J124 : ∀ (T : State) (locs : List Loc) (t0_124 : Int32), Stand p l e room_1 s m #[(.long q0), (.long q1), (.int p2)] below meth c T locs 0 0 → T.heap = h0 → Fr n0 locs → own_f0_124 q0 q1 p2 l5_58 l7_58 l5_78 l7_78 t0_109 t0_124 = (1 : Int32) → own_Fin p e below s 0 0 (Q0 Z q0 q1 p2 h0 n0) T (mkF m 124 #[.val (.long q0), .second, .val (.long q1), .second, .val (.int p2), .val (.long l5_78), .second, .val (.long l7_78), .second, .val (.long (own_F1 l5_78 l7_78)), .second, .val (.long (l5_78 + l7_78)), .second, .val (.long t0_109), .second] [(.int t0_124)]) := by
          intro T17 locs17 t0_124  X17 e17 N17 hr17
          have hr17a := (own_f0_124_eq (q0) (q1) (p2) (l5_58) (l7_58) (l5_78) (l7_78) (t0_109) (t0_124)).symm.trans hr17
          exact own_retN (t := .boolean) X17 hx Bd.returns Bd.notSynchronized (by simp) (hb hby at_124) ⟨congrArg (fun q => some (Value.int q)) hr17a, N17⟩ (by decide) (by decide)
        by_cases hc116_18 : (own_F1 l5_78 l7_78) = t0_109
        · have hr19 := (if_pos hc116_18).symm.trans hr16a
          refine own_st (g' := (mkF m 119 #[.val (.long q0), .second, .val (.long q1), .second, .val (.int p2), .val (.long l5_78), .second, .val (.long l7_78), .second, .val (.long (own_F1 l5_78 l7_78)), .second, .val (.long (l5_78 + l7_78)), .second, .val (.long t0_109), .second] [])) (fun t k => XS.ifNo X16.here hx rfl (hb hby at_116) rfl ((if0 _ _).trans (teq ((lw_eq _ _).mpr hc116_18)).2) k) ?_
          refine own_st (g' := (mkF m 120 #[.val (.long q0), .second, .val (.long q1), .second, .val (.int p2), .val (.long l5_78), .second, .val (.long l7_78), .second, .val (.long (own_F1 l5_78 l7_78)), .second, .val (.long (l5_78 + l7_78)), .second, .val (.long t0_109), .second] [(.int (1 : Int32))])) (fun t k => XS.iconst X16.here hx rfl (hb hby at_119) k) ?_
          refine own_st (g' := (mkF m 124 #[.val (.long q0), .second, .val (.long q1), .second, .val (.int p2), .val (.long l5_78), .second, .val (.long l7_78), .second, .val (.long (own_F1 l5_78 l7_78)), .second, .val (.long (l5_78 + l7_78)), .second, .val (.long t0_109), .second] [(.int (1 : Int32))])) (fun t k => XS.goto X16.here hx rfl (pc0 := 120) (pc' := 124) rfl (hb hby at_120) (by decide) (by decide) k) ?_
          exact J124 T16 _ (1 : Int32)  X16 e16 N16 hr19
        · have hr20 := (if_neg hc116_18).symm.trans hr16a
          refine own_st (g' := (mkF m 123 #[.val (.long q0), .second, .val (.long q1), .second, .val (.int p2), .val (.long l5_78), .second, .val (.long l7_78), .second, .val (.long (own_F1 l5_78 l7_78)), .second, .val (.long (l5_78 + l7_78)), .second, .val (.long t0_109), .second] [])) (fun t k => XS.ifYes X16.here hx rfl (pc0 := 116) (pc' := 123) rfl (hb hby at_116) rfl ((if0 _ _).trans (feq (fun q => hc116_18 ((lw_eq _ _).mp q))).2) (by decide) (by decide) k) ?_
          refine own_st (g' := (mkF m 124 #[.val (.long q0), .second, .val (.long q1), .second, .val (.int p2), .val (.long l5_78), .second, .val (.long l7_78), .second, .val (.long (own_F1 l5_78 l7_78)), .second, .val (.long (l5_78 + l7_78)), .second, .val (.long t0_109), .second] [(.int (0 : Int32))])) (fun t k => XS.iconst X16.here hx rfl (hb hby at_123) k) ?_
          exact J124 T16 _ (0 : Int32)  X16 e16 N16 hr20
      by_cases hc98_21 : (l5_78 + l7_78) < (0 : Int64)
      · have hr22 := (if_pos hc98_21).symm.trans hr14a
        refine own_st (g' := (mkF m 101 #[.val (.long q0), .second, .val (.long q1), .second, .val (.int p2), .val (.long l5_78), .second, .val (.long l7_78), .second, .val (.long (own_F1 l5_78 l7_78)), .second, .val (.long (l5_78 + l7_78)), .second, .unset, .unset] [])) (fun t k => XS.ifNo X15.here hx rfl (hb hby at_98) rfl ((if0 _ _).trans (tlt ((lw_lt _ _).mpr hc98_21)).2.1) k) ?_
        refine own_st (g' := (mkF m 104 #[.val (.long q0), .second, .val (.long q1), .second, .val (.int p2), .val (.long l5_78), .second, .val (.long l7_78), .second, .val (.long (own_F1 l5_78 l7_78)), .second, .val (.long (l5_78 + l7_78)), .second, .unset, .unset] [(.long (9223372036854775807 : Int64))])) (fun t k => X15.ldc2Long hx hown (mvT hZ (hw _ (List.mem_of_getElem? (i := 0) rfl))) (g := (mkF m 101 #[.val (.long q0), .second, .val (.long q1), .second, .val (.int p2), .val (.long l5_78), .second, .val (.long l7_78), .second, .val (.long (own_F1 l5_78 l7_78)), .second, .val (.long (l5_78 + l7_78)), .second, .unset, .unset] [])) rfl (hb hby at_101) t k) ?_
        refine own_st (g' := (mkF m 109 #[.val (.long q0), .second, .val (.long q1), .second, .val (.int p2), .val (.long l5_78), .second, .val (.long l7_78), .second, .val (.long (own_F1 l5_78 l7_78)), .second, .val (.long (l5_78 + l7_78)), .second, .unset, .unset] [(.long (9223372036854775807 : Int64))])) (fun t k => XS.goto X15.here hx rfl (pc0 := 104) (pc' := 109) rfl (hb hby at_104) (by decide) (by decide) k) ?_
        exact J109 T15 _ (9223372036854775807 : Int64)  X15 e15 N15 hr22
      · have hr23 := (if_neg hc98_21).symm.trans hr14a
        refine own_st (g' := (mkF m 107 #[.val (.long q0), .second, .val (.long q1), .second, .val (.int p2), .val (.long l5_78), .second, .val (.long l7_78), .second, .val (.long (own_F1 l5_78 l7_78)), .second, .val (.long (l5_78 + l7_78)), .second, .unset, .unset] [])) (fun t k => XS.ifYes X15.here hx rfl (pc0 := 98) (pc' := 107) rfl (hb hby at_98) rfl ((if0 _ _).trans (flt (fun q => hc98_21 ((lw_lt _ _).mp q))).2.1) (by decide) (by decide) k) ?_
        refine own_st (g' := (mkF m 109 #[.val (.long q0), .second, .val (.long q1), .second, .val (.int p2), .val (.long l5_78), .second, .val (.long l7_78), .second, .val (.long (own_F1 l5_78 l7_78)), .second, .val (.long (l5_78 + l7_78)), .second, .unset, .unset] [(.long (l5_78 + l7_78))])) (fun t k => XS.lload X15.here hx rfl (hb hby at_107) rfl  k) ?_
        exact J109 T15 _ (l5_78 + l7_78)  X15 e15 N15 hr23
    by_cases hc63_24 : (p2 &&& (8 : Int32)) = (0 : Int32)
    · have hr25 := (if_pos hc63_24).symm.trans hr13a
      refine own_st (g' := (mkF m 78 #[.val (.long q0), .second, .val (.long q1), .second, .val (.int p2), .val (.long l5_58), .second, .val (.long l7_58), .second, s9_58, s10_58, s11_58, s12_58, .unset, .unset] [])) (fun t k => XS.ifYes X13.here hx rfl (pc0 := 63) (pc' := 78) rfl (hb hby at_63) rfl ((if0 _ _).trans (teq hc63_24).1) (by decide) (by decide) k) ?_
      exact J78 T13 _ l5_58 l7_58 s9_58 s10_58 s11_58 s12_58 o9_58 o11_58 X13 e13 N13 hr25
    · have hr26 := (if_neg hc63_24).symm.trans hr13a
      refine own_st (g' := (mkF m 66 #[.val (.long q0), .second, .val (.long q1), .second, .val (.int p2), .val (.long l5_58), .second, .val (.long l7_58), .second, s9_58, s10_58, s11_58, s12_58, .unset, .unset] [])) (fun t k => XS.ifNo X13.here hx rfl (hb hby at_63) rfl ((if0 _ _).trans (feq hc63_24).1) k) ?_
      refine own_st (g' := (mkF m 68 #[.val (.long q0), .second, .val (.long q1), .second, .val (.int p2), .val (.long l5_58), .second, .val (.long l7_58), .second, s9_58, s10_58, s11_58, s12_58, .unset, .unset] [(.long l5_58)])) (fun t k => XS.lload X13.here hx rfl (hb hby at_66) rfl  k) ?_
      refine own_st (g' := (mkF m 70 #[.val (.long q0), .second, .val (.long q1), .second, .val (.int p2), .val (.long l5_58), .second, .val (.long l7_58), .second, .val (.long l5_58), .second, s11_58, s12_58, .unset, .unset] [])) (fun t k => XS.lstore X13.here hx rfl (hb hby at_68) rfl (l' := #[.val (.long q0), .second, .val (.long q1), .second, .val (.int p2), .val (.long l5_58), .second, .val (.long l7_58), .second, .val (.long l5_58), .second, s11_58, s12_58, .unset, .unset]) (by rcases o9_58 with ⟨rfl, rfl⟩ | ⟨w, rfl, rfl⟩ <;> rfl) k) ?_
      refine own_st (g' := (mkF m 72 #[.val (.long q0), .second, .val (.long q1), .second, .val (.int p2), .val (.long l5_58), .second, .val (.long l7_58), .second, .val (.long l5_58), .second, s11_58, s12_58, .unset, .unset] [(.long l7_58)])) (fun t k => XS.lload X13.here hx rfl (hb hby at_70) rfl  k) ?_
      refine own_st (g' := (mkF m 74 #[.val (.long q0), .second, .val (.long q1), .second, .val (.int p2), .val (.long l7_58), .second, .val (.long l7_58), .second, .val (.long l5_58), .second, s11_58, s12_58, .unset, .unset] [])) (fun t k => XS.lstore X13.here hx rfl (hb hby at_72) rfl (l' := #[.val (.long q0), .second, .val (.long q1), .second, .val (.int p2), .val (.long l7_58), .second, .val (.long l7_58), .second, .val (.long l5_58), .second, s11_58, s12_58, .unset, .unset]) rfl k) ?_
      refine own_st (g' := (mkF m 76 #[.val (.long q0), .second, .val (.long q1), .second, .val (.int p2), .val (.long l7_58), .second, .val (.long l7_58), .second, .val (.long l5_58), .second, s11_58, s12_58, .unset, .unset] [(.long l5_58)])) (fun t k => XS.lload X13.here hx rfl (hb hby at_74) rfl  k) ?_
      refine own_st (g' := (mkF m 78 #[.val (.long q0), .second, .val (.long q1), .second, .val (.int p2), .val (.long l7_58), .second, .val (.long l5_58), .second, .val (.long l5_58), .second, s11_58, s12_58, .unset, .unset] [])) (fun t k => XS.lstore X13.here hx rfl (hb hby at_76) rfl (l' := #[.val (.long q0), .second, .val (.long q1), .second, .val (.int p2), .val (.long l7_58), .second, .val (.long l5_58), .second, .val (.long l5_58), .second, s11_58, s12_58, .unset, .unset]) rfl k) ?_
      exact J78 T13 _ l7_58 l5_58 (.val (.long l5_58)) .second s11_58 s12_58 (Or.inr ⟨_, rfl, rfl⟩) o11_58 X13 e13 N13 hr26
  have J56 : ∀ (T : State) (locs : List Loc) (l5_56 : Int64) (l7_56 : Int64) (l9_56 : Int64) (l11_56 : Int64) (t0_56 : Int64), Stand p l e room_1 s m #[(.long q0), (.long q1), (.int p2)] below meth c T locs 0 0 → T.heap = h0 → Fr n0 locs → own_f0_56 q0 q1 p2 l5_56 t0_56 = (1 : Int32) → own_Fin p e below s 0 0 (Q0 Z q0 q1 p2 h0 n0) T (mkF m 56 #[.val (.long q0), .second, .val (.long q1), .second, .val (.int p2), .val (.long l5_56), .second, .val (.long l7_56), .second, .val (.long l9_56), .second, .val (.long l11_56), .second, .unset, .unset] [(.long t0_56)]) := by
    intro T27 locs27 l5_56 l7_56 l9_56 l11_56 t0_56  X27 e27 N27 hr27
    have hr27a := (own_f0_56_eq (q0) (q1) (p2) (l5_56) (t0_56)).symm.trans hr27
    refine own_st (g' := (mkF m 58 #[.val (.long q0), .second, .val (.long q1), .second, .val (.int p2), .val (.long l5_56), .second, .val (.long t0_56), .second, .val (.long l9_56), .second, .val (.long l11_56), .second, .unset, .unset] [])) (fun t k => XS.lstore X27.here hx rfl (hb hby at_56) rfl (l' := #[.val (.long q0), .second, .val (.long q1), .second, .val (.int p2), .val (.long l5_56), .second, .val (.long t0_56), .second, .val (.long l9_56), .second, .val (.long l11_56), .second, .unset, .unset]) rfl k) ?_
    exact J58 T27 _ l5_56 t0_56 (.val (.long l9_56)) .second (.val (.long l11_56)) .second (Or.inr ⟨_, rfl, rfl⟩) (Or.inr ⟨_, rfl, rfl⟩) X27 e27 N27 hr27a
  by_cases hc18_28 : (p2 &&& (1 : Int32)) = (0 : Int32)
  · have hr29 := (if_pos hc18_28).symm.trans hr0
    refine own_st (g' := (mkF m 58 #[.val (.long q0), .second, .val (.long q1), .second, .val (.int p2), .val (.long (q0 &&& (9223372036854775807 : Int64))), .second, .val (.long (q1 &&& (9223372036854775807 : Int64))), .second, .unset, .unset, .unset, .unset, .unset, .unset] [])) (fun t k => XS.ifYes X0.here hx rfl (pc0 := 18) (pc' := 58) rfl (hb hby at_18) rfl ((if0 _ _).trans (teq hc18_28).1) (by decide) (by decide) k) ?_
    exact J58 s₁ _ (q0 &&& (9223372036854775807 : Int64)) (q1 &&& (9223372036854775807 : Int64)) .unset .unset .unset .unset (Or.inl ⟨rfl, rfl⟩) (Or.inl ⟨rfl, rfl⟩) X0 e0 N0 hr29
  · have hr30 := (if_neg hc18_28).symm.trans hr0
    refine own_st (g' := (mkF m 21 #[.val (.long q0), .second, .val (.long q1), .second, .val (.int p2), .val (.long (q0 &&& (9223372036854775807 : Int64))), .second, .val (.long (q1 &&& (9223372036854775807 : Int64))), .second, .unset, .unset, .unset, .unset, .unset, .unset] [])) (fun t k => XS.ifNo X0.here hx rfl (hb hby at_18) rfl ((if0 _ _).trans (feq hc18_28).1) k) ?_
    refine own_st (g' := (mkF m 23 #[.val (.long q0), .second, .val (.long q1), .second, .val (.int p2), .val (.long (q0 &&& (9223372036854775807 : Int64))), .second, .val (.long (q1 &&& (9223372036854775807 : Int64))), .second, .unset, .unset, .unset, .unset, .unset, .unset] [(.int p2)])) (fun t k => XS.iload X0.here hx rfl (hb hby at_21) rfl  k) ?_
    refine own_st (g' := (mkF m 24 #[.val (.long q0), .second, .val (.long q1), .second, .val (.int p2), .val (.long (q0 &&& (9223372036854775807 : Int64))), .second, .val (.long (q1 &&& (9223372036854775807 : Int64))), .second, .unset, .unset, .unset, .unset, .unset, .unset] [(.int (1 : Int32)), (.int p2)])) (fun t k => XS.iconst X0.here hx rfl (hb hby at_23) k) ?_
    refine own_st (g' := (mkF m 25 #[.val (.long q0), .second, .val (.long q1), .second, .val (.int p2), .val (.long (q0 &&& (9223372036854775807 : Int64))), .second, .val (.long (q1 &&& (9223372036854775807 : Int64))), .second, .unset, .unset, .unset, .unset, .unset, .unset] [(.int (((p2).toUInt32 >>> ((1 : Int32) &&& 31).toUInt32).toInt32))])) (fun t k => XS.iushr X0.here hx rfl (hb hby at_24) rfl k) ?_
    refine own_st (g' := (mkF m 26 #[.val (.long q0), .second, .val (.long q1), .second, .val (.int p2), .val (.long (q0 &&& (9223372036854775807 : Int64))), .second, .val (.long (q1 &&& (9223372036854775807 : Int64))), .second, .unset, .unset, .unset, .unset, .unset, .unset] [(.int (3 : Int32)), (.int (((p2).toUInt32 >>> ((1 : Int32) &&& 31).toUInt32).toInt32))])) (fun t k => XS.iconst X0.here hx rfl (hb hby at_25) k) ?_
    refine own_st (g' := (mkF m 27 #[.val (.long q0), .second, .val (.long q1), .second, .val (.int p2), .val (.long (q0 &&& (9223372036854775807 : Int64))), .second, .val (.long (q1 &&& (9223372036854775807 : Int64))), .second, .unset, .unset, .unset, .unset, .unset, .unset] [(.int ((((p2).toUInt32 >>> ((1 : Int32) &&& 31).toUInt32).toInt32) &&& (3 : Int32)))])) (fun t k => XS.iand X0.here hx rfl (hb hby at_26) rfl k) ?_
    refine own_st (g' := (mkF m 28 #[.val (.long q0), .second, .val (.long q1), .second, .val (.int p2), .val (.long (q0 &&& (9223372036854775807 : Int64))), .second, .val (.long (q1 &&& (9223372036854775807 : Int64))), .second, .unset, .unset, .unset, .unset, .unset, .unset] [(.long ((((((p2).toUInt32 >>> ((1 : Int32) &&& 31).toUInt32).toInt32) &&& (3 : Int32))).toInt64))])) (fun t k => XS.i2l X0.here hx rfl (hb hby at_27) rfl k) ?_
    refine own_st (g' := (mkF m 29 #[.val (.long q0), .second, .val (.long q1), .second, .val (.int p2), .val (.long (q0 &&& (9223372036854775807 : Int64))), .second, .val (.long (q1 &&& (9223372036854775807 : Int64))), .second, .unset, .unset, .unset, .unset, .unset, .unset] [(.long (1 : Int64)), (.long ((((((p2).toUInt32 >>> ((1 : Int32) &&& 31).toUInt32).toInt32) &&& (3 : Int32))).toInt64))])) (fun t k => XS.lconst X0.here hx rfl (hb hby at_28) k) ?_
    refine own_st (g' := (mkF m 30 #[.val (.long q0), .second, .val (.long q1), .second, .val (.int p2), .val (.long (q0 &&& (9223372036854775807 : Int64))), .second, .val (.long (q1 &&& (9223372036854775807 : Int64))), .second, .unset, .unset, .unset, .unset, .unset, .unset] [(.long (((((((p2).toUInt32 >>> ((1 : Int32) &&& 31).toUInt32).toInt32) &&& (3 : Int32))).toInt64) - (1 : Int64)))])) (fun t k => XS.lsub X0.here hx rfl (hb hby at_29) rfl k) ?_
    refine own_st (g' := (mkF m 32 #[.val (.long q0), .second, .val (.long q1), .second, .val (.int p2), .val (.long (q0 &&& (9223372036854775807 : Int64))), .second, .val (.long (q1 &&& (9223372036854775807 : Int64))), .second, .val (.long (((((((p2).toUInt32 >>> ((1 : Int32) &&& 31).toUInt32).toInt32) &&& (3 : Int32))).toInt64) - (1 : Int64))), .second, .unset, .unset, .unset, .unset] [])) (fun t k => XS.lstore X0.here hx rfl (hb hby at_30) rfl (l' := #[.val (.long q0), .second, .val (.long q1), .second, .val (.int p2), .val (.long (q0 &&& (9223372036854775807 : Int64))), .second, .val (.long (q1 &&& (9223372036854775807 : Int64))), .second, .val (.long (((((((p2).toUInt32 >>> ((1 : Int32) &&& 31).toUInt32).toInt32) &&& (3 : Int32))).toInt64) - (1 : Int64))), .second, .unset, .unset, .unset, .unset]) rfl k) ?_
    refine own_st (g' := (mkF m 35 #[.val (.long q0), .second, .val (.long q1), .second, .val (.int p2), .val (.long (q0 &&& (9223372036854775807 : Int64))), .second, .val (.long (q1 &&& (9223372036854775807 : Int64))), .second, .val (.long (((((((p2).toUInt32 >>> ((1 : Int32) &&& 31).toUInt32).toInt32) &&& (3 : Int32))).toInt64) - (1 : Int64))), .second, .unset, .unset, .unset, .unset] [(.long (9223372036854775807 : Int64))])) (fun t k => X0.ldc2Long hx hown (mvT hZ (hw _ (List.mem_of_getElem? (i := 0) rfl))) (g := (mkF m 32 #[.val (.long q0), .second, .val (.long q1), .second, .val (.int p2), .val (.long (q0 &&& (9223372036854775807 : Int64))), .second, .val (.long (q1 &&& (9223372036854775807 : Int64))), .second, .val (.long (((((((p2).toUInt32 >>> ((1 : Int32) &&& 31).toUInt32).toInt32) &&& (3 : Int32))).toInt64) - (1 : Int64))), .second, .unset, .unset, .unset, .unset] [])) rfl (hb hby at_32) t k) ?_
    refine own_st (g' := (mkF m 37 #[.val (.long q0), .second, .val (.long q1), .second, .val (.int p2), .val (.long (q0 &&& (9223372036854775807 : Int64))), .second, .val (.long (q1 &&& (9223372036854775807 : Int64))), .second, .val (.long (((((((p2).toUInt32 >>> ((1 : Int32) &&& 31).toUInt32).toInt32) &&& (3 : Int32))).toInt64) - (1 : Int64))), .second, .unset, .unset, .unset, .unset] [(.long (q0 &&& (9223372036854775807 : Int64))), (.long (9223372036854775807 : Int64))])) (fun t k => XS.lload X0.here hx rfl (hb hby at_35) rfl  k) ?_
    refine own_st (g' := (mkF m 38 #[.val (.long q0), .second, .val (.long q1), .second, .val (.int p2), .val (.long (q0 &&& (9223372036854775807 : Int64))), .second, .val (.long (q1 &&& (9223372036854775807 : Int64))), .second, .val (.long (((((((p2).toUInt32 >>> ((1 : Int32) &&& 31).toUInt32).toInt32) &&& (3 : Int32))).toInt64) - (1 : Int64))), .second, .unset, .unset, .unset, .unset] [(.long ((9223372036854775807 : Int64) - (q0 &&& (9223372036854775807 : Int64))))])) (fun t k => XS.lsub X0.here hx rfl (hb hby at_37) rfl k) ?_
    refine own_st (g' := (mkF m 40 #[.val (.long q0), .second, .val (.long q1), .second, .val (.int p2), .val (.long (q0 &&& (9223372036854775807 : Int64))), .second, .val (.long (q1 &&& (9223372036854775807 : Int64))), .second, .val (.long (((((((p2).toUInt32 >>> ((1 : Int32) &&& 31).toUInt32).toInt32) &&& (3 : Int32))).toInt64) - (1 : Int64))), .second, .unset, .unset, .unset, .unset] [(.long (((((((p2).toUInt32 >>> ((1 : Int32) &&& 31).toUInt32).toInt32) &&& (3 : Int32))).toInt64) - (1 : Int64))), (.long ((9223372036854775807 : Int64) - (q0 &&& (9223372036854775807 : Int64))))])) (fun t k => XS.lload X0.here hx rfl (hb hby at_38) rfl  k) ?_
    refine own_st (g' := (mkF m 41 #[.val (.long q0), .second, .val (.long q1), .second, .val (.int p2), .val (.long (q0 &&& (9223372036854775807 : Int64))), .second, .val (.long (q1 &&& (9223372036854775807 : Int64))), .second, .val (.long (((((((p2).toUInt32 >>> ((1 : Int32) &&& 31).toUInt32).toInt32) &&& (3 : Int32))).toInt64) - (1 : Int64))), .second, .unset, .unset, .unset, .unset] [(.long (((9223372036854775807 : Int64) - (q0 &&& (9223372036854775807 : Int64))) + (((((((p2).toUInt32 >>> ((1 : Int32) &&& 31).toUInt32).toInt32) &&& (3 : Int32))).toInt64) - (1 : Int64))))])) (fun t k => XS.ladd X0.here hx rfl (hb hby at_40) rfl k) ?_
    refine own_st (g' := (mkF m 43 #[.val (.long q0), .second, .val (.long q1), .second, .val (.int p2), .val (.long (q0 &&& (9223372036854775807 : Int64))), .second, .val (.long (q1 &&& (9223372036854775807 : Int64))), .second, .val (.long (((((((p2).toUInt32 >>> ((1 : Int32) &&& 31).toUInt32).toInt32) &&& (3 : Int32))).toInt64) - (1 : Int64))), .second, .val (.long (((9223372036854775807 : Int64) - (q0 &&& (9223372036854775807 : Int64))) + (((((((p2).toUInt32 >>> ((1 : Int32) &&& 31).toUInt32).toInt32) &&& (3 : Int32))).toInt64) - (1 : Int64)))), .second, .unset, .unset] [])) (fun t k => XS.lstore X0.here hx rfl (hb hby at_41) rfl (l' := #[.val (.long q0), .second, .val (.long q1), .second, .val (.int p2), .val (.long (q0 &&& (9223372036854775807 : Int64))), .second, .val (.long (q1 &&& (9223372036854775807 : Int64))), .second, .val (.long (((((((p2).toUInt32 >>> ((1 : Int32) &&& 31).toUInt32).toInt32) &&& (3 : Int32))).toInt64) - (1 : Int64))), .second, .val (.long (((9223372036854775807 : Int64) - (q0 &&& (9223372036854775807 : Int64))) + (((((((p2).toUInt32 >>> ((1 : Int32) &&& 31).toUInt32).toInt32) &&& (3 : Int32))).toInt64) - (1 : Int64)))), .second, .unset, .unset]) rfl k) ?_
    refine own_st (g' := (mkF m 45 #[.val (.long q0), .second, .val (.long q1), .second, .val (.int p2), .val (.long (q0 &&& (9223372036854775807 : Int64))), .second, .val (.long (q1 &&& (9223372036854775807 : Int64))), .second, .val (.long (((((((p2).toUInt32 >>> ((1 : Int32) &&& 31).toUInt32).toInt32) &&& (3 : Int32))).toInt64) - (1 : Int64))), .second, .val (.long (((9223372036854775807 : Int64) - (q0 &&& (9223372036854775807 : Int64))) + (((((((p2).toUInt32 >>> ((1 : Int32) &&& 31).toUInt32).toInt32) &&& (3 : Int32))).toInt64) - (1 : Int64)))), .second, .unset, .unset] [(.long (((9223372036854775807 : Int64) - (q0 &&& (9223372036854775807 : Int64))) + (((((((p2).toUInt32 >>> ((1 : Int32) &&& 31).toUInt32).toInt32) &&& (3 : Int32))).toInt64) - (1 : Int64))))])) (fun t k => XS.lload X0.here hx rfl (hb hby at_43) rfl  k) ?_
    refine own_st (g' := (mkF m 46 #[.val (.long q0), .second, .val (.long q1), .second, .val (.int p2), .val (.long (q0 &&& (9223372036854775807 : Int64))), .second, .val (.long (q1 &&& (9223372036854775807 : Int64))), .second, .val (.long (((((((p2).toUInt32 >>> ((1 : Int32) &&& 31).toUInt32).toInt32) &&& (3 : Int32))).toInt64) - (1 : Int64))), .second, .val (.long (((9223372036854775807 : Int64) - (q0 &&& (9223372036854775807 : Int64))) + (((((((p2).toUInt32 >>> ((1 : Int32) &&& 31).toUInt32).toInt32) &&& (3 : Int32))).toInt64) - (1 : Int64)))), .second, .unset, .unset] [(.long (0 : Int64)), (.long (((9223372036854775807 : Int64) - (q0 &&& (9223372036854775807 : Int64))) + (((((((p2).toUInt32 >>> ((1 : Int32) &&& 31).toUInt32).toInt32) &&& (3 : Int32))).toInt64) - (1 : Int64))))])) (fun t k => XS.lconst X0.here hx rfl (hb hby at_45) k) ?_
    refine own_st (g' := (mkF m 47 #[.val (.long q0), .second, .val (.long q1), .second, .val (.int p2), .val (.long (q0 &&& (9223372036854775807 : Int64))), .second, .val (.long (q1 &&& (9223372036854775807 : Int64))), .second, .val (.long (((((((p2).toUInt32 >>> ((1 : Int32) &&& 31).toUInt32).toInt32) &&& (3 : Int32))).toInt64) - (1 : Int64))), .second, .val (.long (((9223372036854775807 : Int64) - (q0 &&& (9223372036854775807 : Int64))) + (((((((p2).toUInt32 >>> ((1 : Int32) &&& 31).toUInt32).toInt32) &&& (3 : Int32))).toInt64) - (1 : Int64)))), .second, .unset, .unset] [(.int (lcmpW (((9223372036854775807 : Int64) - (q0 &&& (9223372036854775807 : Int64))) + (((((((p2).toUInt32 >>> ((1 : Int32) &&& 31).toUInt32).toInt32) &&& (3 : Int32))).toInt64) - (1 : Int64))) (0 : Int64)))])) (fun t k => XS.lcmp X0.here hx rfl (hb hby at_46) rfl k) ?_
    by_cases hc47_31 : (((9223372036854775807 : Int64) - (q0 &&& (9223372036854775807 : Int64))) + (((((((p2).toUInt32 >>> ((1 : Int32) &&& 31).toUInt32).toInt32) &&& (3 : Int32))).toInt64) - (1 : Int64))) < (0 : Int64)
    · have hr32 := (if_pos hc47_31).symm.trans hr30
      refine own_st (g' := (mkF m 50 #[.val (.long q0), .second, .val (.long q1), .second, .val (.int p2), .val (.long (q0 &&& (9223372036854775807 : Int64))), .second, .val (.long (q1 &&& (9223372036854775807 : Int64))), .second, .val (.long (((((((p2).toUInt32 >>> ((1 : Int32) &&& 31).toUInt32).toInt32) &&& (3 : Int32))).toInt64) - (1 : Int64))), .second, .val (.long (((9223372036854775807 : Int64) - (q0 &&& (9223372036854775807 : Int64))) + (((((((p2).toUInt32 >>> ((1 : Int32) &&& 31).toUInt32).toInt32) &&& (3 : Int32))).toInt64) - (1 : Int64)))), .second, .unset, .unset] [])) (fun t k => XS.ifNo X0.here hx rfl (hb hby at_47) rfl ((if0 _ _).trans (tlt ((lw_lt _ _).mpr hc47_31)).2.1) k) ?_
      refine own_st (g' := (mkF m 51 #[.val (.long q0), .second, .val (.long q1), .second, .val (.int p2), .val (.long (q0 &&& (9223372036854775807 : Int64))), .second, .val (.long (q1 &&& (9223372036854775807 : Int64))), .second, .val (.long (((((((p2).toUInt32 >>> ((1 : Int32) &&& 31).toUInt32).toInt32) &&& (3 : Int32))).toInt64) - (1 : Int64))), .second, .val (.long (((9223372036854775807 : Int64) - (q0 &&& (9223372036854775807 : Int64))) + (((((((p2).toUInt32 >>> ((1 : Int32) &&& 31).toUInt32).toInt32) &&& (3 : Int32))).toInt64) - (1 : Int64)))), .second, .unset, .unset] [(.long (0 : Int64))])) (fun t k => XS.lconst X0.here hx rfl (hb hby at_50) k) ?_
      refine own_st (g' := (mkF m 56 #[.val (.long q0), .second, .val (.long q1), .second, .val (.int p2), .val (.long (q0 &&& (9223372036854775807 : Int64))), .second, .val (.long (q1 &&& (9223372036854775807 : Int64))), .second, .val (.long (((((((p2).toUInt32 >>> ((1 : Int32) &&& 31).toUInt32).toInt32) &&& (3 : Int32))).toInt64) - (1 : Int64))), .second, .val (.long (((9223372036854775807 : Int64) - (q0 &&& (9223372036854775807 : Int64))) + (((((((p2).toUInt32 >>> ((1 : Int32) &&& 31).toUInt32).toInt32) &&& (3 : Int32))).toInt64) - (1 : Int64)))), .second, .unset, .unset] [(.long (0 : Int64))])) (fun t k => XS.goto X0.here hx rfl (pc0 := 51) (pc' := 56) rfl (hb hby at_51) (by decide) (by decide) k) ?_
      exact J56 s₁ _ (q0 &&& (9223372036854775807 : Int64)) (q1 &&& (9223372036854775807 : Int64)) (((((((p2).toUInt32 >>> ((1 : Int32) &&& 31).toUInt32).toInt32) &&& (3 : Int32))).toInt64) - (1 : Int64)) (((9223372036854775807 : Int64) - (q0 &&& (9223372036854775807 : Int64))) + (((((((p2).toUInt32 >>> ((1 : Int32) &&& 31).toUInt32).toInt32) &&& (3 : Int32))).toInt64) - (1 : Int64))) (0 : Int64)  X0 e0 N0 hr32
    · have hr33 := (if_neg hc47_31).symm.trans hr30
      refine own_st (g' := (mkF m 54 #[.val (.long q0), .second, .val (.long q1), .second, .val (.int p2), .val (.long (q0 &&& (9223372036854775807 : Int64))), .second, .val (.long (q1 &&& (9223372036854775807 : Int64))), .second, .val (.long (((((((p2).toUInt32 >>> ((1 : Int32) &&& 31).toUInt32).toInt32) &&& (3 : Int32))).toInt64) - (1 : Int64))), .second, .val (.long (((9223372036854775807 : Int64) - (q0 &&& (9223372036854775807 : Int64))) + (((((((p2).toUInt32 >>> ((1 : Int32) &&& 31).toUInt32).toInt32) &&& (3 : Int32))).toInt64) - (1 : Int64)))), .second, .unset, .unset] [])) (fun t k => XS.ifYes X0.here hx rfl (pc0 := 47) (pc' := 54) rfl (hb hby at_47) rfl ((if0 _ _).trans (flt (fun q => hc47_31 ((lw_lt _ _).mp q))).2.1) (by decide) (by decide) k) ?_
      refine own_st (g' := (mkF m 56 #[.val (.long q0), .second, .val (.long q1), .second, .val (.int p2), .val (.long (q0 &&& (9223372036854775807 : Int64))), .second, .val (.long (q1 &&& (9223372036854775807 : Int64))), .second, .val (.long (((((((p2).toUInt32 >>> ((1 : Int32) &&& 31).toUInt32).toInt32) &&& (3 : Int32))).toInt64) - (1 : Int64))), .second, .val (.long (((9223372036854775807 : Int64) - (q0 &&& (9223372036854775807 : Int64))) + (((((((p2).toUInt32 >>> ((1 : Int32) &&& 31).toUInt32).toInt32) &&& (3 : Int32))).toInt64) - (1 : Int64)))), .second, .unset, .unset] [(.long (((9223372036854775807 : Int64) - (q0 &&& (9223372036854775807 : Int64))) + (((((((p2).toUInt32 >>> ((1 : Int32) &&& 31).toUInt32).toInt32) &&& (3 : Int32))).toInt64) - (1 : Int64))))])) (fun t k => XS.lload X0.here hx rfl (hb hby at_54) rfl  k) ?_
      exact J56 s₁ _ (q0 &&& (9223372036854775807 : Int64)) (q1 &&& (9223372036854775807 : Int64)) (((((((p2).toUInt32 >>> ((1 : Int32) &&& 31).toUInt32).toInt32) &&& (3 : Int32))).toInt64) - (1 : Int64)) (((9223372036854775807 : Int64) - (q0 &&& (9223372036854775807 : Int64))) + (((((((p2).toUInt32 >>> ((1 : Int32) &&& 31).toUInt32).toInt32) &&& (3 : Int32))).toInt64) - (1 : Int64))) (((9223372036854775807 : Int64) - (q0 &&& (9223372036854775807 : Int64))) + (((((((p2).toUInt32 >>> ((1 : Int32) &&& 31).toUInt32).toInt32) &&& (3 : Int32))).toInt64) - (1 : Int64)))  X0 e0 N0 hr33
/-! ## The plain law -/
theorem own_n1 : nar .boolean (1 : Int32) = 1 := by decide
theorem own_max : (9223372036854775807 : Int64).toInt = 9223372036854775807 := by decide
theorem own_78 (q0 q1 : Int64) (p2 : Int32) (x y a b : Int64) (ha : 0 ≤ a.toInt) (hb : 0 ≤ b.toInt) : own_f0_78 q0 q1 p2 x y a b = 1 := by
  have h1 := c_ladd a b
  have h2 := c_lsub (9223372036854775807 : Int64) b
  have b1 := Int64.toInt_lt a
  have b2 := Int64.toInt_lt b
  have b3 := Int64.le_toInt (a + b)
  have b4 := Int64.toInt_lt (a + b)
  have b5 := Int64.le_toInt ((9223372036854775807 : Int64) - b)
  have b6 := Int64.toInt_lt ((9223372036854775807 : Int64) - b)
  have h0 : (0 : Int64).toInt = 0 := rfl
  rw [own_max] at h2
  by_cases q : (a + b) < (0 : Int64)
  · have q' := Int64.lt_iff_toInt_lt.mp q
    have e : own_F1 a b = (9223372036854775807 : Int64) := by
      rw [own_F1_eq, if_pos (Int64.lt_iff_toInt_lt.mpr (by omega))]; rfl
    rw [own_f0_78_eq, if_pos q, own_f0_109_eq, if_pos e, own_f0_124_eq, own_n1]
  · have q' : ¬ (a + b).toInt < (0 : Int64).toInt := fun z => q (Int64.lt_iff_toInt_lt.mpr z)
    have e : own_F1 a b = a + b := by
      rw [own_F1_eq, if_neg (fun z => by have := Int64.lt_iff_toInt_lt.mp z; omega)]; rfl
    rw [own_f0_78_eq, if_neg q, own_f0_109_eq, if_pos e, own_f0_124_eq, own_n1]
theorem own_58 (q0 q1 : Int64) (p2 : Int32) (a b : Int64) (ha : 0 ≤ a.toInt) (hb : 0 ≤ b.toInt) : own_f0_58 q0 q1 p2 a b = 1 := by
  rw [own_f0_58_eq]; split
  · exact own_78 _ _ _ _ _ a b ha hb
  · exact own_78 _ _ _ _ _ b a hb ha
theorem own_law (q0 q1 : Int64) (p2 : Int32) : own_F0 q0 q1 p2 = 1 := by
  have h0 : (0 : Int64).toInt = 0 := rfl
  have ha := (c_andSL q0 (9223372036854775807 : Int64)).2.2 (by rw [own_max]; decide)
  have hb := (c_andSL q1 (9223372036854775807 : Int64)).2.2 (by rw [own_max]; decide)
  rw [own_F0_eq]
  split
  · exact own_58 _ _ _ _ _ ha hb
  · split
    · rw [own_f0_56_eq]; exact own_58 _ _ _ _ _ ha (by rw [h0]; decide)
    · rename_i h; rw [own_f0_56_eq]
      exact own_58 _ _ _ _ _ ha (by have := mt Int64.lt_iff_toInt_lt.mpr h; rw [h0] at this; omega)

set_option maxRecDepth 65536 in
set_option maxHeartbeats 40000000 in
theorem comes_1 {Post : Tables → Env → Array Value → State → Outcome → State → Prop} (hpost : ∀ tb e args s v u, (limb_1_1.after args s (.returned v) u = true ∧ limb_1_2.after args s (.returned v) u = true ∧ True) → FrameEnd s (.returned v) u (Jvm.fieldLocs frame_1_writes args s ++ Jvm.arrayLocs frame_1_arrays args s ++ Jvm.staticLocs frame_1_statics s) 0 0 → Post tb e args s (.returned v) u) :
    ArmFor flags0 classFile x code maxLocals ret World_1 tables_1 room_1 Calls_1 rest_1 Pre_1 Post := by
  intro l hfl _ _ p e ha hc hk s m args below hf hA hF happ hP
  obtain ⟨hcalls, hrest, hpre⟩ := hP
  obtain ⟨-, -, -, hnamed, -, -, -, hat⟩ := (Spec.applies_iff hf).mp happ
  obtain ⟨hg, hn⟩ := and_e (Cond.before_iff.mp (show (Jvm.Cond.and given_1 narrow_1).before args s = true from hpre))
  obtain ⟨hg0, hq0⟩ := and_e hg
  obtain ⟨ha0, hq1⟩ := and_e hq0
  obtain ⟨ha1, hq2⟩ := and_e hq1
  have ha2 := hq2
  obtain ⟨w0, w1, w2, rfl⟩ : ∃ w0 w1 w2 : Value, args = #[w0, w1, w2] := by
    have hs : args.size = 3 := by simpa [Cond.value, given_1] using hg0
    obtain ⟨L⟩ := args
    match L, hs with
    | [w0, w1, w2], _ => exact ⟨w0, w1, w2, rfl⟩
  have hw := fun d (hd : d ∈ tables_1) => atoms_spec (ws := Jvm.Cond.code x code maxLocals ret :: tables_1) hat d (List.mem_cons_of_mem _ hd)
  obtain ⟨i0, ei0⟩ := isL_v ha0
  obtain rfl : w0 = (.long i0) := Option.some.inj ei0
  obtain ⟨i1, ei1⟩ := isL_v ha1
  obtain rfl : w1 = (.long i1) := Option.some.inj ei1
  obtain ⟨i2, ei2⟩ := is_v ha2
  obtain rfl : w2 = (.int i2) := Option.some.inj ei2
  obtain ⟨n, o, h1, h2, h3, _, L, rfl, ⟨rfl, N⟩, hq⟩ := rm0 l s _ hw tables_1 i0 i1 i2 s.heap s.heap.size (Nat.le_refl _) (own_law i0 i1 i2) p e ha hc hk s m _ below hf ((Spec.applies_iff_loose hf).mp happ).1 ⟨rfl, State.Warmed39.refl s, rfl⟩ trivial
  refine ⟨n, _, h1, h2, h3, hpost _ _ _ _ _ _ ⟨Cond.after_iff.mpr rfl, Cond.after_iff.mpr (eq_i res_at (Term.int_eval (1)) rfl), trivial⟩ ⟨hq.1, hq.2.1, (hq.2.2.sift fun y hy => Or.inr (N y hy)).mono (by decide) (by decide)⟩⟩
theorem main_1_1 : Claimed_1_1 := comes_1 fun _ _ _ _ _ _ h hF => ⟨h.1, hF⟩
theorem main_1_2 : Claimed_1_2 := comes_1 fun _ _ _ _ _ _ h hF => ⟨h.2.1, hF⟩
end Jvm.Pilot.@@N@@
namespace Jvm.Pilot.@@N@@
open Jvm Jvm.ClassFile Sem Op Lib Jvm.Free Jvm.Stand Jvm.Pilot.@@N@@.Jvm.D
/-! MADE BY PROGRAM (witnessworld.py) out of the Statement's table words and the real class files: 9 classes; the members and pool entries that the words name. The judged class is class 1, her method 1. -/
namespace start1
open Jvm.ClassFile
def u (s : String) : CpInfo := .utf8 (stringToUtf16 s)
/-- a pool by its gaps: so many unusable entries, then the entry; so many at the end -/
def gap : Nat → List CpInfo → List CpInfo
  | 0, r => r
  | n + 1, r => .unusable :: gap n r
def poolList (es : List (Nat × CpInfo)) (last : Nat) : List CpInfo := es.foldr (fun e r => gap e.1 (e.2 :: r)) (gap last [])
def pool (es : List (Nat × CpInfo)) (last : Nat) : Array CpInfo := ⟨poolList es last⟩
def fileOf (pool : Array CpInfo) (this : Nat) (attrs : Array Attribute := #[]) (ms : Array MethodInfo := #[]) (fl : Nat := 33) (sup : Nat := 0) (ifs : Array Nat := #[]) (fds : Array FieldInfo := #[]) : ClassFile where
  minorVersion := 0
  majorVersion := 65
  constantPool := pool
  accessFlags := fl
  thisClass := this
  superClass := sup
  interfaces := ifs
  fields := fds
  methods := ms
  attributes := attrs
def plain (name : String) (sup : Option ClassId) : Class where
  name := name
  kind := .ordinary
  loader := none
  accessFlags := 33
  super := sup
  interfaces := #[]
  cf := none
  fields := #[]
  methods := #[]
  instanceTypes := #[]
  staticTypes := #[]
  resolved := #[]
  callSites := []
  init := .initialized
  statics := none
  mirror := none

def pool0 : Array CpInfo := pool [(5, u "<init>"), (0, u "()V"), (1, .class_ 10), (1, u "java/lang/Object")] 113

def k0m0 : Method := { name := "<init>", desc := "()V", sig := { parameters := [], returnType := none }, accessFlags := 1, code := none }
/-- java/lang/Object -/
def k0 : Class := { plain "java/lang/Object" none with
  accessFlags := 33
  interfaces := #[]
  cf := some (fileOf pool0 8 #[] #[{ accessFlags := 1, nameIndex := 5, descriptorIndex := 6, attributes := #[] }] 33 0 #[] #[])
  fields := #[]
  methods := #[k0m0]
  instanceTypes := #[]
  staticTypes := #[]
  resolved := Array.replicate 124 none
  statics := none }

def pool1 : Array CpInfo := pool [(2, .class_ 4), (1, u "java/lang/Object"), (0, u "<init>"), (0, u "()V"), (2, .long 9223372036854775807), (1, .methodref 12 13), (0, .class_ 14), (0, .nameAndType 15 16), (0, u "com/example/events_per_window/eventsperwindow/Decision"), (0, u "sumOfDelays"), (0, u "(JJ)J"), (0, .class_ 18), (0, u "com/example/events_per_window/eventsperwindow/DecisionSumOfDelaysPinLaw"), (2, u "law"), (0, u "(JJI)Z")] 3

def k1m0 : Method := { name := "<init>", desc := "()V", sig := { parameters := [], returnType := none }, accessFlags := 1, code := none }
def k1c1 : Code := { maxStack := 4, maxLocals := 15, code := code, exceptionTable := #[], attributes := #[] }
def k1m1 : Method := { name := "law", desc := "(JJI)Z", sig := { parameters := [.long, .long, .int], returnType := some .boolean }, accessFlags := 9, code := some k1c1 }
/-- com/example/events_per_window/eventsperwindow/DecisionSumOfDelaysPinLaw -/
def k1 : Class := { plain "com/example/events_per_window/eventsperwindow/DecisionSumOfDelaysPinLaw" (some 0) with
  accessFlags := 49
  interfaces := #[]
  cf := some (fileOf pool1 17 #[] #[{ accessFlags := 1, nameIndex := 5, descriptorIndex := 6, attributes := #[] }, { accessFlags := 9, nameIndex := 21, descriptorIndex := 22, attributes := #[] }] 49 2 #[] #[])
  fields := #[]
  methods := #[k1m0, k1m1]
  instanceTypes := #[]
  staticTypes := #[]
  resolved := Array.replicate 26 none
  statics := none }

def pool2 : Array CpInfo := pool [(2, .class_ 4), (1, u "java/lang/Object"), (3, .class_ 10), (1, u "com/example/events_per_window/eventsperwindow/Decision"), (0, u "admitted"), (0, u "Z"), (2, u "remaining"), (0, u "J"), (2, u "untilRemainingGrowsMicros"), (2, u "retryAfterMicros"), (2, u "storeFailure"), (0, u "Lcom/example/events_per_window/eventsperwindow/StoreException;"), (22, u "sumOfDelays"), (0, u "(JJ)J"), (2, .long 9223372036854775807)] 57

def k2c0 : Code := { maxStack := 6, maxLocals := 4, code := prog_4_method_6_code, exceptionTable := #[], attributes := #[] }
def k2m0 : Method := { name := "sumOfDelays", desc := "(JJ)J", sig := { parameters := [.long, .long], returnType := some .long }, accessFlags := 8, code := some k2c0 }
/-- com/example/events_per_window/eventsperwindow/Decision -/
def k2 : Class := { plain "com/example/events_per_window/eventsperwindow/Decision" (some 0) with
  accessFlags := 49
  interfaces := #[]
  cf := some (fileOf pool2 8 #[] #[{ accessFlags := 8, nameIndex := 49, descriptorIndex := 50, attributes := #[] }] 49 2 #[] #[{ accessFlags := 18, nameIndex := 11, descriptorIndex := 12, attributes := #[] }, { accessFlags := 18, nameIndex := 15, descriptorIndex := 16, attributes := #[] }, { accessFlags := 18, nameIndex := 19, descriptorIndex := 16, attributes := #[] }, { accessFlags := 18, nameIndex := 22, descriptorIndex := 16, attributes := #[] }, { accessFlags := 18, nameIndex := 25, descriptorIndex := 26, attributes := #[] }])
  fields := #[{ name := "admitted", type := .boolean, accessFlags := 18, slot := 0, constantValue := 0 }, { name := "remaining", type := .long, accessFlags := 18, slot := 1, constantValue := 0 }, { name := "untilRemainingGrowsMicros", type := .long, accessFlags := 18, slot := 2, constantValue := 0 }, { name := "retryAfterMicros", type := .long, accessFlags := 18, slot := 3, constantValue := 0 }, { name := "storeFailure", type := (.object "com/example/events_per_window/eventsperwindow/StoreException"), accessFlags := 18, slot := 4, constantValue := 0 }]
  methods := #[k2m0]
  instanceTypes := #[.boolean, .long, .long, .long, (.object "com/example/events_per_window/eventsperwindow/StoreException")]
  staticTypes := #[]
  resolved := Array.replicate 111 none
  statics := none }

def pool3 : Array CpInfo := pool [(1, u "java/lang/Cloneable"), (0, .class_ 1), (0, u "java/lang/Object"), (0, .class_ 3)] 3

/-- java/lang/Cloneable -/
def k3 : Class := { plain "java/lang/Cloneable" (some 0) with
  accessFlags := 1537
  interfaces := #[]
  cf := some (fileOf pool3 2 #[] #[] 1537 4 #[] #[])
  fields := #[]
  methods := #[]
  instanceTypes := #[]
  staticTypes := #[]
  resolved := Array.replicate 8 none
  statics := none }

def pool4 : Array CpInfo := pool [(1, u "java/io/Serializable"), (0, .class_ 1), (0, u "java/lang/Object"), (0, .class_ 3)] 3

/-- java/io/Serializable -/
def k4 : Class := { plain "java/io/Serializable" (some 0) with
  accessFlags := 1537
  interfaces := #[]
  cf := some (fileOf pool4 2 #[] #[] 1537 4 #[] #[])
  fields := #[]
  methods := #[]
  instanceTypes := #[]
  staticTypes := #[]
  resolved := Array.replicate 8 none
  statics := none }

/-- the primitive byte -/
def k5 : Class := { plain "byte" none with kind := .primitive 'B', accessFlags := 0x411 }
/-- [B -/
def k6 : Class := { plain "[B" (some 0) with kind := .array 5 .byte, interfaces := #[3, 4], accessFlags := 1041 }

/-- the primitive int -/
def k7 : Class := { plain "int" none with kind := .primitive 'I', accessFlags := 0x411 }
/-- [I -/
def k8 : Class := { plain "[I" (some 0) with kind := .array 7 .int, interfaces := #[3, 4], accessFlags := 1041 }

def heap : Heap := #[]
def classes : Array Class := #[k0, k1, k2, k3, k4, k5, k6, k7, k8]
def interned : List (Array UInt16 × Addr) := []
def slotsUsed : Nat := 0
def theMethod : MethodId := ⟨1, 1⟩
def args0 : Array Value := #[.long 5, .long 5, .int 5]
def aboutOver (below : List Frame) : State where
  vm := { classes := classes, interned := interned.toArray }
  heap := heap
  slotsUsed := slotsUsed
  threads := #[{ frames := .invoking theMethod args0 :: below }]
def below0 : List Frame := [.native { method := ⟨0, 0⟩, args := #[] }]
def about1 : State := aboutOver below0
def p0 : Program := .bare "" "" ""
def e0 : Env := launch0.env 0 0 0
theorem w_frames : about1.frames = Frame.invoking theMethod args0 :: below0 := rfl
set_option maxRecDepth 65536 in
theorem w_args : argsFit about1.vm theMethod args0 = true := by decide +kernel
set_option maxRecDepth 65536 in
theorem w_heap : heapFits about1 = true := by decide +kernel
set_option maxRecDepth 65536 in
theorem w_runnable : about1.curStatus? = some .runnable := by decide +kernel
set_option maxRecDepth 65536 in
theorem w_alone : about1.alone = true := by decide +kernel
set_option maxRecDepth 65536 in
theorem w_named : about1.methodNamed? x = some theMethod := by decide +kernel
set_option maxRecDepth 65536 in
theorem w_hears : about1.hears theMethod below0 = true := by decide +kernel
set_option maxRecDepth 65536 in
theorem w_ripe : about1.ripe theMethod args0 below0 = true := by decide +kernel
theorem w_running : about1.status = .running := rfl
set_option maxRecDepth 65536 in
theorem w_room : about1.hasRoom e0.platform room_1 = true :=
  launch0.hasRoom_least _ room_1 (by decide +kernel) (by decide +kernel) (by decide +kernel) (by decide +kernel) (by decide +kernel) (by decide +kernel)
theorem allAtoms_all (ts : List Jvm.Cond) (a : Array Jvm.Value) (st : Jvm.State) : (allAtoms ts).before a st = ts.all (fun c => c.before a st) := by
  induction ts with
  | nil => rfl
  | cons c t ih =>
    show (Jvm.Cond.and c (allAtoms t)).before a st = _
    rw [Jvm.Cond.before_and, ih, List.all_cons]
def words1 : List Jvm.Cond := Jvm.Cond.code x code maxLocals ret :: tables_1
/-- a 'code' word, met by the world's own term for the bytes: nothing is compared byte by byte -/
theorem code_word {y : MethodName} {bytes : ByteArray} {mx : Nat} {rt : Option FieldType} {a : Array Value} {s : State} {m : MethodId} {meth : Method} {c : Code} (h1 : s.methodNamed? y = some m) (h2 : s.vm.method? m = some meth) (h3 : meth.code = some c) (h4 : c.code = bytes)
    (h5 : (c.maxLocals == mx && c.exceptionTable.isEmpty && decide (c.maxStack ≤ mostOperands) && decide (meth.sig.returnType = rt) && !meth.locks && decide (parseMethodDescriptor y.desc = some meth.sig)) = true) : (Jvm.Cond.code y bytes mx rt).before a s = true := by
  simp only [Bool.and_eq_true, beq_iff_eq, Bool.not_eq_true', decide_eq_true_eq] at h5
  obtain ⟨⟨⟨⟨⟨g1, g2⟩, g3⟩, g4⟩, g5⟩, g6⟩ := h5
  simp [Cond.before, Cond.holds, Cond.value, h1, h2, h3, h4, g1, g2, g3, g4, g5, g6]
def isCode : Jvm.Cond → Bool
  | .code _ _ _ _ => true
  | _ => false
theorem all_split {L : List Jvm.Cond} {P : Jvm.Cond → Bool} (h1 : L.all (fun c => isCode c || P c) = true) (h2 : ∀ c ∈ L.filter isCode, P c = true) : L.all P = true := by
  refine List.all_eq_true.mpr fun c hc => ?_
  have h := List.all_eq_true.mp h1 c hc
  rcases Bool.eq_false_or_eq_true (isCode c) with hi | hi
  · exact h2 c (List.mem_filter.mpr ⟨hc, hi⟩)
  · simpa [hi] using h
set_option maxRecDepth 65536 in
theorem w_c0 : (Jvm.Cond.code x code maxLocals ret).before args0 about1 = true := code_word (m := ⟨1, 1⟩) (meth := k1m1) (c := k1c1) (by decide +kernel) rfl rfl rfl (by decide +kernel)
set_option maxRecDepth 65536 in
theorem w_c1 : (Jvm.Cond.code ({ cls := "com/example/events_per_window/eventsperwindow/Decision", name := "sumOfDelays", desc := "(JJ)J" } : Jvm.MethodName) prog_4_method_6_code (4 : Nat) (Option.some Jvm.ClassFile.FieldType.long)).before args0 about1 = true := code_word (m := ⟨2, 0⟩) (meth := k2m0) (c := k2c0) (by decide +kernel) rfl rfl rfl (by decide +kernel)
def codes1 : List Jvm.Cond := [Jvm.Cond.code x code maxLocals ret, Jvm.Cond.code ({ cls := "com/example/events_per_window/eventsperwindow/Decision", name := "sumOfDelays", desc := "(JJ)J" } : Jvm.MethodName) prog_4_method_6_code (4 : Nat) (Option.some Jvm.ClassFile.FieldType.long)]
set_option maxRecDepth 65536 in
theorem codes_eq : words1.filter isCode = codes1 := rfl
theorem w_codes : ∀ c ∈ words1.filter isCode, c.before args0 about1 = true := by
  rw [codes_eq]
  intro c hc
  simp only [codes1, List.mem_cons, List.not_mem_nil, or_false] at hc
  rcases hc with rfl | rfl
  · exact w_c0
  · exact w_c1
set_option maxRecDepth 65536 in
theorem w_t1 : words1.all (fun c => isCode c || c.before args0 about1) = true := by decide +kernel
theorem w_tables : (allAtoms (Jvm.Cond.code x code maxLocals ret :: tables_1)).before args0 about1 = true := by
  rw [allAtoms_all]
  show words1.all (fun c => c.before args0 about1) = true
  refine all_split ?_ w_codes
  rw [w_t1]
set_option maxRecDepth 65536 in
theorem w_case : (Jvm.Cond.and given_1 narrow_1).before args0 about1 = true := by decide +kernel
theorem w_applies : (headSpec (Jvm.Cond.code x code maxLocals ret :: tables_1) room_1).applies x e0.platform about1 = true :=
  (Spec.applies_iff w_frames).mpr ⟨w_running, w_runnable, w_alone, w_named, w_hears, w_ripe, w_room, w_tables⟩
theorem atStart : AtStart classFile x code maxLocals ret World_1 tables_1 room_1 Calls_1 rest_1 Pre_1 launch0 p0 e0 about1 theMethod args0 below0 :=
  ⟨lists_1, trivial, launch0.admits_env _ _ _, launch0.least_env, fairChoices_fair.cas, fairChoices_fair.clock, w_frames, w_args, w_heap, w_applies, trivial, trivial, w_case⟩
end start1
theorem witness_1 : WitnessClaimed_1 := ⟨start1.p0, start1.e0, start1.about1, start1.theMethod, start1.args0, start1.below0, start1.atStart⟩
end Jvm.Pilot.@@N@@
