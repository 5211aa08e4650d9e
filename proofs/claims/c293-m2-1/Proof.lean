import JvmDerived
import JvmDerived.Pilot.@@N@@Statement
import JvmDerived.Pilot.@@N@@Code
set_option linter.unusedVariables false
set_option linter.unusedSimpArgs false

namespace Jvm.Pilot.@@N@@
open Jvm Jvm.ClassFile Sem Op Lib Jvm.Free Jvm.Stand Jvm.LawKit Jvm.RoadKit Bundle Jvm.Pilot.@@N@@.Jvm.D
/-! ## The walk, forwards: from here the method comes to its end as Q says -/
section OwnFin
variable {p : Program} {l : Launch} {e : Env} {R : Room} {s : State} {m : MethodId} {args : Array Value} {below : List Frame} {meth : Method} {c : Code} {T T' : State} {locs : List Loc} {cells slots K N : Nat} {Q : Option Value → Heap → List Loc → Prop}
def own_Fin (p : Program) (e : Env) (below : List Frame) (s : State) (K N : Nat) (Q : Option Value → Heap → List Loc → Prop) (T : State) (g : JFrame) : Prop :=
  ∃ t o, Steps p.tables e below (T.setTop g) t ∧ t.status = .running ∧ Ended t below o ∧ ∃ v L, o = .returned v ∧ Q v t.heap L ∧ FrameEnd s o t L K N
theorem own_in {g g' : JFrame} (q : g = g') (h : own_Fin p e below s K N Q T g') : ∃ t o, Steps p.tables e below (T.setTop g) t ∧ t.status = .running ∧ Ended t below o ∧ ∃ v L, o = .returned v ∧ Q v t.heap L ∧ FrameEnd s o t L K N := q ▸ h
theorem own_st {g g' : JFrame} (h : ∀ t, Steps p.tables e below (T'.setTop g') t → Steps p.tables e below (T.setTop g) t) (k : own_Fin p e below s K N Q T' g') : own_Fin p e below s K N Q T g := by
  obtain ⟨t, o, h1, h2⟩ := k; exact ⟨t, o, h t h1, h2⟩
theorem own_end {g : JFrame} {v : Option Value} (X : Stand p l e R s m args below meth c T locs cells slots) (hl : meth.locks = false) (hv : meth.sig.returnType = none → v = none)
    (h : ∀ fs, (∀ (f : JFrame) (acts : List Action), f.method = m → f.locked = none → f.entered = [] → (doReturn e (T.setTop f) acts v).1 = T.setFrames fs) → Steps p.tables e below (T.setTop g) (T.setFrames fs)) (hQ : Q v T.heap locs) (hc : cells ≤ K) (hs : slots ≤ N) : own_Fin p e below s K N Q T g := by
  obtain ⟨fs, hr, hrun, hended, hW, hsame⟩ := X.leave (v := v) hv hl
  exact ⟨_, _, h fs hr, hrun, hended, _, _, rfl, hQ, ⟨_, rfl⟩, hW, hsame.mono hc hs⟩
theorem own_retI {pc : Nat} {Ls : Array Slot} {z : Int32} {rest : List Value} (X : Stand p l e R s m args below meth c T locs cells slots) (hx : p.tables.exec = Jvm.exec) (hret : meth.sig.returnType = some .int) (hl : meth.locks = false) (hd : decode c.code pc = .ok (.ireturn, 1)) (hQ : Q (some (.int z)) T.heap locs) (hc : cells ≤ K) (hs : slots ≤ N) :
    own_Fin p e below s K N Q T (mkF m pc Ls (.int z :: rest)) :=
  own_end X hl (fun h => by rw [hret] at h; cases h) (fun fs hr => retOut X hx hret rfl (Or.inl ⟨rfl, Or.inl rfl, z, rfl⟩) hd hr) hQ hc hs
theorem own_retN {pc : Nat} {Ls : Array Slot} {z : Int32} {t : FieldType} {rest : List Value} (X : Stand p l e R s m args below meth c T locs cells slots) (hx : p.tables.exec = Jvm.exec) (hret : meth.sig.returnType = some t) (hl : meth.locks = false) (ht : t = .boolean ∨ t = .byte ∨ t = .char ∨ t = .short) (hd : decode c.code pc = .ok (.ireturn, 1)) (hQ : Q (some (.int (nar t z))) T.heap locs) (hc : cells ≤ K) (hs : slots ≤ N) :
    own_Fin p e below s K N Q T (mkF m pc Ls (.int z :: rest)) :=
  own_end X hl (fun h => by rw [hret] at h; cases h) (fun fs hr => retN X hx hret ht hd hr) hQ hc hs
theorem own_retJ {pc : Nat} {Ls : Array Slot} {z : Int64} {rest : List Value} (X : Stand p l e R s m args below meth c T locs cells slots) (hx : p.tables.exec = Jvm.exec) (hret : meth.sig.returnType = some .long) (hl : meth.locks = false) (hd : decode c.code pc = .ok (.lreturn, 1)) (hQ : Q (some (.long z)) T.heap locs) (hc : cells ≤ K) (hs : slots ≤ N) :
    own_Fin p e below s K N Q T (mkF m pc Ls (.long z :: rest)) :=
  own_end X hl (fun h => by rw [hret] at h; cases h) (fun fs hr => retOut X hx hret rfl (Or.inr (Or.inl ⟨rfl, rfl, z, rfl⟩)) hd hr) hQ hc hs
theorem own_retA {pc : Nat} {Ls : Array Slot} {a : Addr} {t : FieldType} {rest : List Value} (X : Stand p l e R s m args below meth c T locs cells slots) (hx : p.tables.exec = Jvm.exec) (hret : meth.sig.returnType = some t) (hl : meth.locks = false) (ht : t.isReference = true) (hd : decode c.code pc = .ok (.areturn, 1)) (hQ : Q (some (.ref a)) T.heap locs) (hc : cells ≤ K) (hs : slots ≤ N) :
    own_Fin p e below s K N Q T (mkF m pc Ls (.ref a :: rest)) :=
  own_end X hl (fun h => by rw [hret] at h; cases h) (fun fs hr => retOut X hx hret (by cases t <;> first | rfl | cases ht) (Or.inr (Or.inr (Or.inr (Or.inr ⟨rfl, ht, rfl⟩)))) hd hr) hQ hc hs
theorem own_retV {pc : Nat} {Ls : Array Slot} (X : Stand p l e R s m args below meth c T locs cells slots) (hx : p.tables.exec = Jvm.exec) (hret : meth.sig.returnType = none) (hl : meth.locks = false) (hd : decode c.code pc = .ok (.return_, 1)) (hQ : Q none T.heap locs) (hc : cells ≤ K) (hs : slots ≤ N) :
    own_Fin p e below s K N Q T (mkF m pc Ls []) :=
  own_end X hl (fun _ => rfl) (fun fs hr => X.returnOut hx hret hd hr) hQ hc hs
theorem own_lremM {g : JFrame} {target : State} (X : Stand p l e R s m args below meth c T locs cells slots) (hx : p.tables.exec = Jvm.exec) (hg : g.method = m) {x y : Int64} {rest : List Value} (hd : decode c.code g.pc = .ok (.lrem, 1)) (hs : g.stack = .long y :: .long x :: rest) (hy : y ≠ 0)
    (hr : Steps p.tables e below (T.setTop { g with pc := g.pc + 1, stack := .long (x % y) :: rest }) target) : Steps p.tables e below (T.setTop g) target := by
  have q : x - x / y * y = x % y := lrem_mod x y
  exact XS.lrem X.here hx hg hd hs hy (by rw [q]; exact hr)
end OwnFin
/-- a private method is selected by its own class -/
theorem own_selp {s : State} {args : Array Value} {n : Nat} {y : MethodName} (hy : y.cls ≠ "java/lang/invoke/MethodHandle" ∧ y.cls ≠ "java/lang/invoke/VarHandle") (hins : (Jvm.Cond.instantiable y.cls n).before args s = true) (hpriv : (Jvm.Cond.privateMethod y).before args s = true) (hinst : (Jvm.Cond.instanceMethod y).before args s = true) : (Jvm.Cond.selects y.cls y y).before args s = true := by
  obtain ⟨c, k, hc, hk, -, hniab, -, -⟩ := Cond.instantiable_spec hins
  have hni : k.isInterface = false := (Bool.or_eq_false_iff.mp hniab).1
  obtain ⟨mk, methM, hnamed, hmethM, -, -⟩ := Cond.instanceMethod_spec hinst
  have hfound : s.methodFound? y.cls y.name y.desc = some mk := State.methodFound?_of_named hnamed hy
  have hcls : mk.cls = c := Option.some.inj ((findClass_of_methodNamed hnamed).symm.trans hc)
  have hsel : selectMethod {} s.vm c mk = .method mk := selectMethod_private hmethM (Cond.privateMethod_at hpriv mk methM hnamed hmethM)
  simp only [Cond.before, Cond.holds, Cond.value, hc, hfound, hnamed, hsel, hcls, hk]
  simp; exact hni

def own_f1_37 (p0 : Int32) : Int32 := (if p0 < (65 : Int32) then (-1 : Int32) else (if (70 : Int32) < p0 then (-1 : Int32) else ((p0 - (65 : Int32)) + (10 : Int32))))
theorem own_f1_37_eq (p0 : Int32) : own_f1_37 p0 = (if p0 < (65 : Int32) then (-1 : Int32) else (if (70 : Int32) < p0 then (-1 : Int32) else ((p0 - (65 : Int32)) + (10 : Int32)))) := rfl
def own_f1_17 (p0 : Int32) : Int32 := (if p0 < (97 : Int32) then (own_f1_37 p0) else (if (102 : Int32) < p0 then (own_f1_37 p0) else ((p0 - (97 : Int32)) + (10 : Int32))))
theorem own_f1_17_eq (p0 : Int32) : own_f1_17 p0 = (if p0 < (97 : Int32) then (own_f1_37 p0) else (if (102 : Int32) < p0 then (own_f1_37 p0) else ((p0 - (97 : Int32)) + (10 : Int32)))) := rfl
def own_F1 (p0 : Int32) : Int32 := (if p0 < (48 : Int32) then (own_f1_17 p0) else (if (57 : Int32) < p0 then (own_f1_17 p0) else (p0 - (48 : Int32))))
theorem own_F1_eq (p0 : Int32) : own_F1 p0 = (if p0 < (48 : Int32) then (own_f1_17 p0) else (if (57 : Int32) < p0 then (own_f1_17 p0) else (p0 - (48 : Int32)))) := rfl
theorem d1_0 : decode prog_67_method_5_code 0 = .ok (.iload_n 0, 1) := by decide +kernel
theorem d1_1 : decode prog_67_method_5_code 1 = .ok (.bipush 48, 2) := by decide +kernel
theorem d1_3 : decode prog_67_method_5_code 3 = .ok (.if_icmp .lt 14, 3) := by decide +kernel
theorem d1_6 : decode prog_67_method_5_code 6 = .ok (.iload_n 0, 1) := by decide +kernel
theorem d1_7 : decode prog_67_method_5_code 7 = .ok (.bipush 57, 2) := by decide +kernel
theorem d1_9 : decode prog_67_method_5_code 9 = .ok (.if_icmp .gt 8, 3) := by decide +kernel
theorem d1_12 : decode prog_67_method_5_code 12 = .ok (.iload_n 0, 1) := by decide +kernel
theorem d1_13 : decode prog_67_method_5_code 13 = .ok (.bipush 48, 2) := by decide +kernel
theorem d1_15 : decode prog_67_method_5_code 15 = .ok (.isub, 1) := by decide +kernel
theorem d1_16 : decode prog_67_method_5_code 16 = .ok (.ireturn, 1) := by decide +kernel
theorem d1_17 : decode prog_67_method_5_code 17 = .ok (.iload_n 0, 1) := by decide +kernel
theorem d1_18 : decode prog_67_method_5_code 18 = .ok (.bipush 97, 2) := by decide +kernel
theorem d1_20 : decode prog_67_method_5_code 20 = .ok (.if_icmp .lt 17, 3) := by decide +kernel
theorem d1_23 : decode prog_67_method_5_code 23 = .ok (.iload_n 0, 1) := by decide +kernel
theorem d1_24 : decode prog_67_method_5_code 24 = .ok (.bipush 102, 2) := by decide +kernel
theorem d1_26 : decode prog_67_method_5_code 26 = .ok (.if_icmp .gt 11, 3) := by decide +kernel
theorem d1_29 : decode prog_67_method_5_code 29 = .ok (.iload_n 0, 1) := by decide +kernel
theorem d1_30 : decode prog_67_method_5_code 30 = .ok (.bipush 97, 2) := by decide +kernel
theorem d1_32 : decode prog_67_method_5_code 32 = .ok (.isub, 1) := by decide +kernel
theorem d1_33 : decode prog_67_method_5_code 33 = .ok (.bipush 10, 2) := by decide +kernel
theorem d1_35 : decode prog_67_method_5_code 35 = .ok (.iadd, 1) := by decide +kernel
theorem d1_36 : decode prog_67_method_5_code 36 = .ok (.ireturn, 1) := by decide +kernel
theorem d1_37 : decode prog_67_method_5_code 37 = .ok (.iload_n 0, 1) := by decide +kernel
theorem d1_38 : decode prog_67_method_5_code 38 = .ok (.bipush 65, 2) := by decide +kernel
theorem d1_40 : decode prog_67_method_5_code 40 = .ok (.if_icmp .lt 17, 3) := by decide +kernel
theorem d1_43 : decode prog_67_method_5_code 43 = .ok (.iload_n 0, 1) := by decide +kernel
theorem d1_44 : decode prog_67_method_5_code 44 = .ok (.bipush 70, 2) := by decide +kernel
theorem d1_46 : decode prog_67_method_5_code 46 = .ok (.if_icmp .gt 11, 3) := by decide +kernel
theorem d1_49 : decode prog_67_method_5_code 49 = .ok (.iload_n 0, 1) := by decide +kernel
theorem d1_50 : decode prog_67_method_5_code 50 = .ok (.bipush 65, 2) := by decide +kernel
theorem d1_52 : decode prog_67_method_5_code 52 = .ok (.isub, 1) := by decide +kernel
theorem d1_53 : decode prog_67_method_5_code 53 = .ok (.bipush 10, 2) := by decide +kernel
theorem d1_55 : decode prog_67_method_5_code 55 = .ok (.iadd, 1) := by decide +kernel
theorem d1_56 : decode prog_67_method_5_code 56 = .ok (.ireturn, 1) := by decide +kernel
theorem d1_57 : decode prog_67_method_5_code 57 = .ok (.iconst (-1), 1) := by decide +kernel
theorem d1_58 : decode prog_67_method_5_code 58 = .ok (.ireturn, 1) := by decide +kernel
theorem pn_1 : plainName "com/example/dehull/dehull/url/PercentCoding" = true := by first | (simp [plainName, overriddenIn]; done) | decide +kernel
theorem ef_1 (m : MethodId) (x0 : Int32) : entryFrame m #[(.int x0)] 1 = mkF m 0 #[.val (.int x0)] [] := by first | (simp [entryFrame, mkF, argsToLocals, Value.category]; done) | rfl
def Q1 (Z : State) (p0 : Int32) (h0 : Heap) (n0 : Nat) (v : Option Value) (h : Heap) (L : List Loc) : Prop := v = some (.int (own_F1 p0)) ∧ Fr n0 L ∧ h = h0
set_option maxRecDepth 65536 in
set_option maxHeartbeats 40000000 in
theorem rm1 (l : Launch) (Z : State) (a0 : Array Value) (hw : ∀ d ∈ tables_1, d.before a0 Z = true) (ws : List Jvm.Cond) (p0 : Int32) (h0 : Heap) (n0 : Nat) (Z0 : n0 ≤ h0.size) :
    MetFree l (⟨"com/example/dehull/dehull/url/PercentCoding", "hexValue", "(B)I"⟩ : MethodName) (head1 (Jvm.Cond.code (⟨"com/example/dehull/dehull/url/PercentCoding", "hexValue", "(B)I"⟩ : MethodName) prog_67_method_5_code 1 (some .int) :: ws) ({ frames := 0, cells := 0, slots := 0, locals := 0 } : Room)) (fun a U => a = #[(.int p0)] ∧ Z.Warmed39 U.vm ∧ U.heap = h0) (fun _ _ _ _ _ => True) (fun _ U o U' => ∃ v L, o = .returned v ∧ Q1 Z p0 h0 n0 v U'.heap L ∧ FrameEnd U o U' L ({ frames := 0, cells := 0, slots := 0, locals := 0 } : Room).cells ({ frames := 0, cells := 0, slots := 0, locals := 0 } : Room).slots) := by
  refine MetFree.of_bodySF (plainFor_of_name pn_1) hisR ?_
  intro p e s m args below meth c s₁ Bd hml0 hP hK
  obtain ⟨rfl, hZ, hh⟩ := hP
  have hx := Bd.exec
  have hby := Bd.bytes
  have hml : c.maxLocals = 1 := hml0
  have hown : s.vm.findClass "com/example/dehull/dehull/url/PercentCoding" = some m.cls := findClass_of_methodNamed Bd.named
  have hnm := (name_of_methodNamed Bd.named Bd.method).1
  have X0 : Stand p l e ({ frames := 0, cells := 0, slots := 0, locals := 0 } : Room) s m #[(.int p0)] below meth c s₁ [] 0 0 := Stand.of_body Bd
  have e0 : s₁.heap = h0 := by rw [← hh, Bd.state]; rfl
  have N0 := Fr.nil n0
  refine own_in (ef_1 m p0) ?_
  have hr0 := (own_F1_eq p0).symm
  refine own_st (g' := (mkF m 1 #[.val (.int p0)] [(.int p0)])) (fun t k => XS.iloadN X0.here hx rfl (hb hby d1_0) rfl  k) ?_
  refine own_st (g' := (mkF m 3 #[.val (.int p0)] [(.int (48 : Int32)), (.int p0)])) (fun t k => XS.bipush X0.here hx rfl (hb hby d1_1) k) ?_
  have J17 : ∀ (T : State) (locs : List Loc) , Stand p l e ({ frames := 0, cells := 0, slots := 0, locals := 0 } : Room) s m #[(.int p0)] below meth c T locs 0 0 → T.heap = h0 → Fr n0 locs → own_f1_17 p0 = own_F1 p0 → own_Fin p e below s ({ frames := 0, cells := 0, slots := 0, locals := 0 } : Room).cells ({ frames := 0, cells := 0, slots := 0, locals := 0 } : Room).slots (Q1 Z p0 h0 n0) T (mkF m 17 #[.val (.int p0)] []) := by
    intro T13 locs13   X13 e13 N13 hr13
    have hr13a := (own_f1_17_eq (p0)).symm.trans hr13
    refine own_st (g' := (mkF m 18 #[.val (.int p0)] [(.int p0)])) (fun t k => XS.iloadN X13.here hx rfl (hb hby d1_17) rfl  k) ?_
    refine own_st (g' := (mkF m 20 #[.val (.int p0)] [(.int (97 : Int32)), (.int p0)])) (fun t k => XS.bipush X13.here hx rfl (hb hby d1_18) k) ?_
    have J37 : ∀ (T : State) (locs : List Loc) , Stand p l e ({ frames := 0, cells := 0, slots := 0, locals := 0 } : Room) s m #[(.int p0)] below meth c T locs 0 0 → T.heap = h0 → Fr n0 locs → own_f1_37 p0 = own_F1 p0 → own_Fin p e below s ({ frames := 0, cells := 0, slots := 0, locals := 0 } : Room).cells ({ frames := 0, cells := 0, slots := 0, locals := 0 } : Room).slots (Q1 Z p0 h0 n0) T (mkF m 37 #[.val (.int p0)] []) := by
      intro T14 locs14   X14 e14 N14 hr14
      have hr14a := (own_f1_37_eq (p0)).symm.trans hr14
      refine own_st (g' := (mkF m 38 #[.val (.int p0)] [(.int p0)])) (fun t k => XS.iloadN X14.here hx rfl (hb hby d1_37) rfl  k) ?_
      refine own_st (g' := (mkF m 40 #[.val (.int p0)] [(.int (65 : Int32)), (.int p0)])) (fun t k => XS.bipush X14.here hx rfl (hb hby d1_38) k) ?_
      by_cases hc40_15 : p0 < (65 : Int32)
      · have hr16 := (if_pos hc40_15).symm.trans hr14a
        refine own_st (g' := (mkF m 57 #[.val (.int p0)] [])) (fun t k => XS.icmpYes X14.here hx rfl (pc0 := 40) (pc' := 57) rfl (hb hby d1_40) rfl (tlt hc40_15).1 (by decide) (by decide) k) ?_
        refine own_st (g' := (mkF m 58 #[.val (.int p0)] [(.int (-1 : Int32))])) (fun t k => XS.iconst X14.here hx rfl (hb hby d1_57) k) ?_
        exact own_retI X14 hx Bd.returns Bd.notSynchronized (hb hby d1_58) ⟨congrArg (fun q => some (Value.int q)) hr16, N14, e14⟩ (by decide) (by decide)
      · have hr17 := (if_neg hc40_15).symm.trans hr14a
        refine own_st (g' := (mkF m 43 #[.val (.int p0)] [])) (fun t k => XS.icmpNo X14.here hx rfl (hb hby d1_40) rfl (flt hc40_15).1 k) ?_
        refine own_st (g' := (mkF m 44 #[.val (.int p0)] [(.int p0)])) (fun t k => XS.iloadN X14.here hx rfl (hb hby d1_43) rfl  k) ?_
        refine own_st (g' := (mkF m 46 #[.val (.int p0)] [(.int (70 : Int32)), (.int p0)])) (fun t k => XS.bipush X14.here hx rfl (hb hby d1_44) k) ?_
        by_cases hc46_18 : (70 : Int32) < p0
        · have hr19 := (if_pos hc46_18).symm.trans hr17
          refine own_st (g' := (mkF m 57 #[.val (.int p0)] [])) (fun t k => XS.icmpYes X14.here hx rfl (pc0 := 46) (pc' := 57) rfl (hb hby d1_46) rfl (tlt hc46_18).2.2.1 (by decide) (by decide) k) ?_
          refine own_st (g' := (mkF m 58 #[.val (.int p0)] [(.int (-1 : Int32))])) (fun t k => XS.iconst X14.here hx rfl (hb hby d1_57) k) ?_
          exact own_retI X14 hx Bd.returns Bd.notSynchronized (hb hby d1_58) ⟨congrArg (fun q => some (Value.int q)) hr19, N14, e14⟩ (by decide) (by decide)
        · have hr20 := (if_neg hc46_18).symm.trans hr17
          refine own_st (g' := (mkF m 49 #[.val (.int p0)] [])) (fun t k => XS.icmpNo X14.here hx rfl (hb hby d1_46) rfl (flt hc46_18).2.2.1 k) ?_
          refine own_st (g' := (mkF m 50 #[.val (.int p0)] [(.int p0)])) (fun t k => XS.iloadN X14.here hx rfl (hb hby d1_49) rfl  k) ?_
          refine own_st (g' := (mkF m 52 #[.val (.int p0)] [(.int (65 : Int32)), (.int p0)])) (fun t k => XS.bipush X14.here hx rfl (hb hby d1_50) k) ?_
          refine own_st (g' := (mkF m 53 #[.val (.int p0)] [(.int (p0 - (65 : Int32)))])) (fun t k => XS.isub X14.here hx rfl (hb hby d1_52) rfl k) ?_
          refine own_st (g' := (mkF m 55 #[.val (.int p0)] [(.int (10 : Int32)), (.int (p0 - (65 : Int32)))])) (fun t k => XS.bipush X14.here hx rfl (hb hby d1_53) k) ?_
          refine own_st (g' := (mkF m 56 #[.val (.int p0)] [(.int ((p0 - (65 : Int32)) + (10 : Int32)))])) (fun t k => XS.iadd X14.here hx rfl (hb hby d1_55) rfl k) ?_
          exact own_retI X14 hx Bd.returns Bd.notSynchronized (hb hby d1_56) ⟨congrArg (fun q => some (Value.int q)) hr20, N14, e14⟩ (by decide) (by decide)
    by_cases hc20_21 : p0 < (97 : Int32)
    · have hr22 := (if_pos hc20_21).symm.trans hr13a
      refine own_st (g' := (mkF m 37 #[.val (.int p0)] [])) (fun t k => XS.icmpYes X13.here hx rfl (pc0 := 20) (pc' := 37) rfl (hb hby d1_20) rfl (tlt hc20_21).1 (by decide) (by decide) k) ?_
      exact J37 T13 _   X13 e13 N13 hr22
    · have hr23 := (if_neg hc20_21).symm.trans hr13a
      refine own_st (g' := (mkF m 23 #[.val (.int p0)] [])) (fun t k => XS.icmpNo X13.here hx rfl (hb hby d1_20) rfl (flt hc20_21).1 k) ?_
      refine own_st (g' := (mkF m 24 #[.val (.int p0)] [(.int p0)])) (fun t k => XS.iloadN X13.here hx rfl (hb hby d1_23) rfl  k) ?_
      refine own_st (g' := (mkF m 26 #[.val (.int p0)] [(.int (102 : Int32)), (.int p0)])) (fun t k => XS.bipush X13.here hx rfl (hb hby d1_24) k) ?_
      by_cases hc26_24 : (102 : Int32) < p0
      · have hr25 := (if_pos hc26_24).symm.trans hr23
        refine own_st (g' := (mkF m 37 #[.val (.int p0)] [])) (fun t k => XS.icmpYes X13.here hx rfl (pc0 := 26) (pc' := 37) rfl (hb hby d1_26) rfl (tlt hc26_24).2.2.1 (by decide) (by decide) k) ?_
        exact J37 T13 _   X13 e13 N13 hr25
      · have hr26 := (if_neg hc26_24).symm.trans hr23
        refine own_st (g' := (mkF m 29 #[.val (.int p0)] [])) (fun t k => XS.icmpNo X13.here hx rfl (hb hby d1_26) rfl (flt hc26_24).2.2.1 k) ?_
        refine own_st (g' := (mkF m 30 #[.val (.int p0)] [(.int p0)])) (fun t k => XS.iloadN X13.here hx rfl (hb hby d1_29) rfl  k) ?_
        refine own_st (g' := (mkF m 32 #[.val (.int p0)] [(.int (97 : Int32)), (.int p0)])) (fun t k => XS.bipush X13.here hx rfl (hb hby d1_30) k) ?_
        refine own_st (g' := (mkF m 33 #[.val (.int p0)] [(.int (p0 - (97 : Int32)))])) (fun t k => XS.isub X13.here hx rfl (hb hby d1_32) rfl k) ?_
        refine own_st (g' := (mkF m 35 #[.val (.int p0)] [(.int (10 : Int32)), (.int (p0 - (97 : Int32)))])) (fun t k => XS.bipush X13.here hx rfl (hb hby d1_33) k) ?_
        refine own_st (g' := (mkF m 36 #[.val (.int p0)] [(.int ((p0 - (97 : Int32)) + (10 : Int32)))])) (fun t k => XS.iadd X13.here hx rfl (hb hby d1_35) rfl k) ?_
        exact own_retI X13 hx Bd.returns Bd.notSynchronized (hb hby d1_36) ⟨congrArg (fun q => some (Value.int q)) hr26, N13, e13⟩ (by decide) (by decide)
  by_cases hc3_27 : p0 < (48 : Int32)
  · have hr28 := (if_pos hc3_27).symm.trans hr0
    refine own_st (g' := (mkF m 17 #[.val (.int p0)] [])) (fun t k => XS.icmpYes X0.here hx rfl (pc0 := 3) (pc' := 17) rfl (hb hby d1_3) rfl (tlt hc3_27).1 (by decide) (by decide) k) ?_
    exact J17 s₁ _   X0 e0 N0 hr28
  · have hr29 := (if_neg hc3_27).symm.trans hr0
    refine own_st (g' := (mkF m 6 #[.val (.int p0)] [])) (fun t k => XS.icmpNo X0.here hx rfl (hb hby d1_3) rfl (flt hc3_27).1 k) ?_
    refine own_st (g' := (mkF m 7 #[.val (.int p0)] [(.int p0)])) (fun t k => XS.iloadN X0.here hx rfl (hb hby d1_6) rfl  k) ?_
    refine own_st (g' := (mkF m 9 #[.val (.int p0)] [(.int (57 : Int32)), (.int p0)])) (fun t k => XS.bipush X0.here hx rfl (hb hby d1_7) k) ?_
    by_cases hc9_30 : (57 : Int32) < p0
    · have hr31 := (if_pos hc9_30).symm.trans hr29
      refine own_st (g' := (mkF m 17 #[.val (.int p0)] [])) (fun t k => XS.icmpYes X0.here hx rfl (pc0 := 9) (pc' := 17) rfl (hb hby d1_9) rfl (tlt hc9_30).2.2.1 (by decide) (by decide) k) ?_
      exact J17 s₁ _   X0 e0 N0 hr31
    · have hr32 := (if_neg hc9_30).symm.trans hr29
      refine own_st (g' := (mkF m 12 #[.val (.int p0)] [])) (fun t k => XS.icmpNo X0.here hx rfl (hb hby d1_9) rfl (flt hc9_30).2.2.1 k) ?_
      refine own_st (g' := (mkF m 13 #[.val (.int p0)] [(.int p0)])) (fun t k => XS.iloadN X0.here hx rfl (hb hby d1_12) rfl  k) ?_
      refine own_st (g' := (mkF m 15 #[.val (.int p0)] [(.int (48 : Int32)), (.int p0)])) (fun t k => XS.bipush X0.here hx rfl (hb hby d1_13) k) ?_
      refine own_st (g' := (mkF m 16 #[.val (.int p0)] [(.int (p0 - (48 : Int32)))])) (fun t k => XS.isub X0.here hx rfl (hb hby d1_15) rfl k) ?_
      exact own_retI X0 hx Bd.returns Bd.notSynchronized (hb hby d1_16) ⟨congrArg (fun q => some (Value.int q)) hr32, N0, e0⟩ (by decide) (by decide)
def own_F2 (p0 : Int32) (p1 : Int32) : Int32 := (if p0 < (10 : Int32) then (nar .byte ((((48 : Int32) + p0)).toInt8.toInt32)) else (if p1 = (0 : Int32) then (nar .byte ((((97 : Int32) + (p0 - (10 : Int32)))).toInt8.toInt32)) else (nar .byte ((((65 : Int32) + (p0 - (10 : Int32)))).toInt8.toInt32))))
theorem own_F2_eq (p0 : Int32) (p1 : Int32) : own_F2 p0 p1 = (if p0 < (10 : Int32) then (nar .byte ((((48 : Int32) + p0)).toInt8.toInt32)) else (if p1 = (0 : Int32) then (nar .byte ((((97 : Int32) + (p0 - (10 : Int32)))).toInt8.toInt32)) else (nar .byte ((((65 : Int32) + (p0 - (10 : Int32)))).toInt8.toInt32)))) := rfl
theorem d2_0 : decode method_2_code 0 = .ok (.iload_n 0, 1) := by decide +kernel
theorem d2_1 : decode method_2_code 1 = .ok (.bipush 10, 2) := by decide +kernel
theorem d2_3 : decode method_2_code 3 = .ok (.if_icmp .ge 9, 3) := by decide +kernel
theorem d2_6 : decode method_2_code 6 = .ok (.bipush 48, 2) := by decide +kernel
theorem d2_8 : decode method_2_code 8 = .ok (.iload_n 0, 1) := by decide +kernel
theorem d2_9 : decode method_2_code 9 = .ok (.iadd, 1) := by decide +kernel
theorem d2_10 : decode method_2_code 10 = .ok (.i2b, 1) := by decide +kernel
theorem d2_11 : decode method_2_code 11 = .ok (.ireturn, 1) := by decide +kernel
theorem d2_12 : decode method_2_code 12 = .ok (.iload_n 1, 1) := by decide +kernel
theorem d2_13 : decode method_2_code 13 = .ok (.ifCond .eq 12, 3) := by decide +kernel
theorem d2_16 : decode method_2_code 16 = .ok (.bipush 65, 2) := by decide +kernel
theorem d2_18 : decode method_2_code 18 = .ok (.iload_n 0, 1) := by decide +kernel
theorem d2_19 : decode method_2_code 19 = .ok (.bipush 10, 2) := by decide +kernel
theorem d2_21 : decode method_2_code 21 = .ok (.isub, 1) := by decide +kernel
theorem d2_22 : decode method_2_code 22 = .ok (.iadd, 1) := by decide +kernel
theorem d2_23 : decode method_2_code 23 = .ok (.i2b, 1) := by decide +kernel
theorem d2_24 : decode method_2_code 24 = .ok (.ireturn, 1) := by decide +kernel
theorem d2_25 : decode method_2_code 25 = .ok (.bipush 97, 2) := by decide +kernel
theorem d2_27 : decode method_2_code 27 = .ok (.iload_n 0, 1) := by decide +kernel
theorem d2_28 : decode method_2_code 28 = .ok (.bipush 10, 2) := by decide +kernel
theorem d2_30 : decode method_2_code 30 = .ok (.isub, 1) := by decide +kernel
theorem d2_31 : decode method_2_code 31 = .ok (.iadd, 1) := by decide +kernel
theorem d2_32 : decode method_2_code 32 = .ok (.i2b, 1) := by decide +kernel
theorem d2_33 : decode method_2_code 33 = .ok (.ireturn, 1) := by decide +kernel
theorem pn_2 : plainName "com/example/dehull/dehull/url/PercentCodingHexValuePinLaw" = true := by first | (simp [plainName, overriddenIn]; done) | decide +kernel
theorem ef_2 (m : MethodId) (x0 : Int32) (x1 : Int32) : entryFrame m #[(.int x0), (.int x1)] 2 = mkF m 0 #[.val (.int x0), .val (.int x1)] [] := by first | (simp [entryFrame, mkF, argsToLocals, Value.category]; done) | rfl
def Q2 (Z : State) (p0 : Int32) (p1 : Int32) (h0 : Heap) (n0 : Nat) (v : Option Value) (h : Heap) (L : List Loc) : Prop := v = some (.int (own_F2 p0 p1)) ∧ Fr n0 L ∧ h = h0
set_option maxRecDepth 65536 in
set_option maxHeartbeats 40000000 in
theorem rm2 (l : Launch) (Z : State) (a0 : Array Value) (hw : ∀ d ∈ tables_1, d.before a0 Z = true) (ws : List Jvm.Cond) (p0 : Int32) (p1 : Int32) (h0 : Heap) (n0 : Nat) (Z0 : n0 ≤ h0.size) :
    MetFree l (⟨"com/example/dehull/dehull/url/PercentCodingHexValuePinLaw", "digitChar", "(IZ)B"⟩ : MethodName) (head1 (Jvm.Cond.code (⟨"com/example/dehull/dehull/url/PercentCodingHexValuePinLaw", "digitChar", "(IZ)B"⟩ : MethodName) method_2_code 2 (some .byte) :: ws) ({ frames := 0, cells := 0, slots := 0, locals := 0 } : Room)) (fun a U => a = #[(.int p0), (.int p1)] ∧ Z.Warmed39 U.vm ∧ U.heap = h0) (fun _ _ _ _ _ => True) (fun _ U o U' => ∃ v L, o = .returned v ∧ Q2 Z p0 p1 h0 n0 v U'.heap L ∧ FrameEnd U o U' L ({ frames := 0, cells := 0, slots := 0, locals := 0 } : Room).cells ({ frames := 0, cells := 0, slots := 0, locals := 0 } : Room).slots) := by
  refine MetFree.of_bodySF (plainFor_of_name pn_2) hisR ?_
  intro p e s m args below meth c s₁ Bd hml0 hP hK
  obtain ⟨rfl, hZ, hh⟩ := hP
  have hx := Bd.exec
  have hby := Bd.bytes
  have hml : c.maxLocals = 2 := hml0
  have hown : s.vm.findClass "com/example/dehull/dehull/url/PercentCodingHexValuePinLaw" = some m.cls := findClass_of_methodNamed Bd.named
  have hnm := (name_of_methodNamed Bd.named Bd.method).1
  have X0 : Stand p l e ({ frames := 0, cells := 0, slots := 0, locals := 0 } : Room) s m #[(.int p0), (.int p1)] below meth c s₁ [] 0 0 := Stand.of_body Bd
  have e0 : s₁.heap = h0 := by rw [← hh, Bd.state]; rfl
  have N0 := Fr.nil n0
  refine own_in (ef_2 m p0 p1) ?_
  have hr0 := (own_F2_eq p0 p1).symm
  refine own_st (g' := (mkF m 1 #[.val (.int p0), .val (.int p1)] [(.int p0)])) (fun t k => XS.iloadN X0.here hx rfl (hb hby d2_0) rfl  k) ?_
  refine own_st (g' := (mkF m 3 #[.val (.int p0), .val (.int p1)] [(.int (10 : Int32)), (.int p0)])) (fun t k => XS.bipush X0.here hx rfl (hb hby d2_1) k) ?_
  by_cases hc3_5 : p0 < (10 : Int32)
  · have hr6 := (if_pos hc3_5).symm.trans hr0
    refine own_st (g' := (mkF m 6 #[.val (.int p0), .val (.int p1)] [])) (fun t k => XS.icmpNo X0.here hx rfl (hb hby d2_3) rfl (tlt hc3_5).2.1 k) ?_
    refine own_st (g' := (mkF m 8 #[.val (.int p0), .val (.int p1)] [(.int (48 : Int32))])) (fun t k => XS.bipush X0.here hx rfl (hb hby d2_6) k) ?_
    refine own_st (g' := (mkF m 9 #[.val (.int p0), .val (.int p1)] [(.int p0), (.int (48 : Int32))])) (fun t k => XS.iloadN X0.here hx rfl (hb hby d2_8) rfl  k) ?_
    refine own_st (g' := (mkF m 10 #[.val (.int p0), .val (.int p1)] [(.int ((48 : Int32) + p0))])) (fun t k => XS.iadd X0.here hx rfl (hb hby d2_9) rfl k) ?_
    refine own_st (g' := (mkF m 11 #[.val (.int p0), .val (.int p1)] [(.int ((((48 : Int32) + p0)).toInt8.toInt32))])) (fun t k => XS.i2b X0.here hx rfl (hb hby d2_10) rfl k) ?_
    exact own_retN (t := .byte) X0 hx Bd.returns Bd.notSynchronized (by simp) (hb hby d2_11) ⟨congrArg (fun q => some (Value.int q)) hr6, N0, e0⟩ (by decide) (by decide)
  · have hr7 := (if_neg hc3_5).symm.trans hr0
    refine own_st (g' := (mkF m 12 #[.val (.int p0), .val (.int p1)] [])) (fun t k => XS.icmpYes X0.here hx rfl (pc0 := 3) (pc' := 12) rfl (hb hby d2_3) rfl (flt hc3_5).2.1 (by decide) (by decide) k) ?_
    refine own_st (g' := (mkF m 13 #[.val (.int p0), .val (.int p1)] [(.int p1)])) (fun t k => XS.iloadN X0.here hx rfl (hb hby d2_12) rfl  k) ?_
    by_cases hc13_8 : p1 = (0 : Int32)
    · have hr9 := (if_pos hc13_8).symm.trans hr7
      refine own_st (g' := (mkF m 25 #[.val (.int p0), .val (.int p1)] [])) (fun t k => XS.ifYes X0.here hx rfl (pc0 := 13) (pc' := 25) rfl (hb hby d2_13) rfl ((if0 _ _).trans (teq hc13_8).1) (by decide) (by decide) k) ?_
      refine own_st (g' := (mkF m 27 #[.val (.int p0), .val (.int p1)] [(.int (97 : Int32))])) (fun t k => XS.bipush X0.here hx rfl (hb hby d2_25) k) ?_
      refine own_st (g' := (mkF m 28 #[.val (.int p0), .val (.int p1)] [(.int p0), (.int (97 : Int32))])) (fun t k => XS.iloadN X0.here hx rfl (hb hby d2_27) rfl  k) ?_
      refine own_st (g' := (mkF m 30 #[.val (.int p0), .val (.int p1)] [(.int (10 : Int32)), (.int p0), (.int (97 : Int32))])) (fun t k => XS.bipush X0.here hx rfl (hb hby d2_28) k) ?_
      refine own_st (g' := (mkF m 31 #[.val (.int p0), .val (.int p1)] [(.int (p0 - (10 : Int32))), (.int (97 : Int32))])) (fun t k => XS.isub X0.here hx rfl (hb hby d2_30) rfl k) ?_
      refine own_st (g' := (mkF m 32 #[.val (.int p0), .val (.int p1)] [(.int ((97 : Int32) + (p0 - (10 : Int32))))])) (fun t k => XS.iadd X0.here hx rfl (hb hby d2_31) rfl k) ?_
      refine own_st (g' := (mkF m 33 #[.val (.int p0), .val (.int p1)] [(.int ((((97 : Int32) + (p0 - (10 : Int32)))).toInt8.toInt32))])) (fun t k => XS.i2b X0.here hx rfl (hb hby d2_32) rfl k) ?_
      exact own_retN (t := .byte) X0 hx Bd.returns Bd.notSynchronized (by simp) (hb hby d2_33) ⟨congrArg (fun q => some (Value.int q)) hr9, N0, e0⟩ (by decide) (by decide)
    · have hr10 := (if_neg hc13_8).symm.trans hr7
      refine own_st (g' := (mkF m 16 #[.val (.int p0), .val (.int p1)] [])) (fun t k => XS.ifNo X0.here hx rfl (hb hby d2_13) rfl ((if0 _ _).trans (feq hc13_8).1) k) ?_
      refine own_st (g' := (mkF m 18 #[.val (.int p0), .val (.int p1)] [(.int (65 : Int32))])) (fun t k => XS.bipush X0.here hx rfl (hb hby d2_16) k) ?_
      refine own_st (g' := (mkF m 19 #[.val (.int p0), .val (.int p1)] [(.int p0), (.int (65 : Int32))])) (fun t k => XS.iloadN X0.here hx rfl (hb hby d2_18) rfl  k) ?_
      refine own_st (g' := (mkF m 21 #[.val (.int p0), .val (.int p1)] [(.int (10 : Int32)), (.int p0), (.int (65 : Int32))])) (fun t k => XS.bipush X0.here hx rfl (hb hby d2_19) k) ?_
      refine own_st (g' := (mkF m 22 #[.val (.int p0), .val (.int p1)] [(.int (p0 - (10 : Int32))), (.int (65 : Int32))])) (fun t k => XS.isub X0.here hx rfl (hb hby d2_21) rfl k) ?_
      refine own_st (g' := (mkF m 23 #[.val (.int p0), .val (.int p1)] [(.int ((65 : Int32) + (p0 - (10 : Int32))))])) (fun t k => XS.iadd X0.here hx rfl (hb hby d2_22) rfl k) ?_
      refine own_st (g' := (mkF m 24 #[.val (.int p0), .val (.int p1)] [(.int ((((65 : Int32) + (p0 - (10 : Int32)))).toInt8.toInt32))])) (fun t k => XS.i2b X0.here hx rfl (hb hby d2_23) rfl k) ?_
      exact own_retN (t := .byte) X0 hx Bd.returns Bd.notSynchronized (by simp) (hb hby d2_24) ⟨congrArg (fun q => some (Value.int q)) hr10, N0, e0⟩ (by decide) (by decide)
def own_f0_133 (p0 : Int32) (p1 : Int32) (t0_24 : Int32) (t0_64 : Int32) (t0_85 : Int32) (t0_111 : Int32) (t0_133 : Int32) : Int32 := (nar .boolean t0_133)
theorem own_f0_133_eq (p0 : Int32) (p1 : Int32) (t0_24 : Int32) (t0_64 : Int32) (t0_85 : Int32) (t0_111 : Int32) (t0_133 : Int32) : own_f0_133 p0 p1 t0_24 t0_64 t0_85 t0_111 t0_133 = (nar .boolean t0_133) := rfl
def own_f0_111 (p0 : Int32) (p1 : Int32) (t0_24 : Int32) (t0_64 : Int32) (t0_85 : Int32) (t0_111 : Int32) : Int32 := (if t0_24 = (0 : Int32) then (own_f0_133 p0 p1 t0_24 t0_64 t0_85 t0_111 (0 : Int32)) else (if t0_64 = (0 : Int32) then (own_f0_133 p0 p1 t0_24 t0_64 t0_85 t0_111 (0 : Int32)) else (if t0_111 = (0 : Int32) then (own_f0_133 p0 p1 t0_24 t0_64 t0_85 t0_111 (0 : Int32)) else (own_f0_133 p0 p1 t0_24 t0_64 t0_85 t0_111 (1 : Int32)))))
theorem own_f0_111_eq (p0 : Int32) (p1 : Int32) (t0_24 : Int32) (t0_64 : Int32) (t0_85 : Int32) (t0_111 : Int32) : own_f0_111 p0 p1 t0_24 t0_64 t0_85 t0_111 = (if t0_24 = (0 : Int32) then (own_f0_133 p0 p1 t0_24 t0_64 t0_85 t0_111 (0 : Int32)) else (if t0_64 = (0 : Int32) then (own_f0_133 p0 p1 t0_24 t0_64 t0_85 t0_111 (0 : Int32)) else (if t0_111 = (0 : Int32) then (own_f0_133 p0 p1 t0_24 t0_64 t0_85 t0_111 (0 : Int32)) else (own_f0_133 p0 p1 t0_24 t0_64 t0_85 t0_111 (1 : Int32))))) := rfl
def own_f0_85 (p0 : Int32) (p1 : Int32) (t0_24 : Int32) (t0_64 : Int32) (t0_85 : Int32) : Int32 := (if (own_F1 (own_F2 (p1 &&& (15 : Int32)) t0_85)) = (p1 &&& (15 : Int32)) then (own_f0_111 p0 p1 t0_24 t0_64 t0_85 (1 : Int32)) else (own_f0_111 p0 p1 t0_24 t0_64 t0_85 (0 : Int32)))
theorem own_f0_85_eq (p0 : Int32) (p1 : Int32) (t0_24 : Int32) (t0_64 : Int32) (t0_85 : Int32) : own_f0_85 p0 p1 t0_24 t0_64 t0_85 = (if (own_F1 (own_F2 (p1 &&& (15 : Int32)) t0_85)) = (p1 &&& (15 : Int32)) then (own_f0_111 p0 p1 t0_24 t0_64 t0_85 (1 : Int32)) else (own_f0_111 p0 p1 t0_24 t0_64 t0_85 (0 : Int32))) := rfl
def own_f0_64 (p0 : Int32) (p1 : Int32) (t0_24 : Int32) (t0_64 : Int32) : Int32 := (if (((p1 >>> ((4 : Int32) &&& 31))) &&& (1 : Int32)) = (0 : Int32) then (own_f0_85 p0 p1 t0_24 t0_64 (0 : Int32)) else (own_f0_85 p0 p1 t0_24 t0_64 (1 : Int32)))
theorem own_f0_64_eq (p0 : Int32) (p1 : Int32) (t0_24 : Int32) (t0_64 : Int32) : own_f0_64 p0 p1 t0_24 t0_64 = (if (((p1 >>> ((4 : Int32) &&& 31))) &&& (1 : Int32)) = (0 : Int32) then (own_f0_85 p0 p1 t0_24 t0_64 (0 : Int32)) else (own_f0_85 p0 p1 t0_24 t0_64 (1 : Int32))) := rfl
def own_f0_24 (p0 : Int32) (p1 : Int32) (t0_24 : Int32) : Int32 := (if (own_F1 ((p0).toInt8.toInt32)) = (-1 : Int32) then (own_f0_64 p0 p1 t0_24 (1 : Int32)) else (if (own_F1 ((p0).toInt8.toInt32)) < (0 : Int32) then (own_f0_64 p0 p1 t0_24 (0 : Int32)) else (if (15 : Int32) < (own_F1 ((p0).toInt8.toInt32)) then (own_f0_64 p0 p1 t0_24 (0 : Int32)) else (if ((p0).toInt8.toInt32) = (own_F2 (own_F1 ((p0).toInt8.toInt32)) (0 : Int32)) then (own_f0_64 p0 p1 t0_24 (1 : Int32)) else (if ((p0).toInt8.toInt32) = (own_F2 (own_F1 ((p0).toInt8.toInt32)) (1 : Int32)) then (own_f0_64 p0 p1 t0_24 (1 : Int32)) else (own_f0_64 p0 p1 t0_24 (0 : Int32)))))))
theorem own_f0_24_eq (p0 : Int32) (p1 : Int32) (t0_24 : Int32) : own_f0_24 p0 p1 t0_24 = (if (own_F1 ((p0).toInt8.toInt32)) = (-1 : Int32) then (own_f0_64 p0 p1 t0_24 (1 : Int32)) else (if (own_F1 ((p0).toInt8.toInt32)) < (0 : Int32) then (own_f0_64 p0 p1 t0_24 (0 : Int32)) else (if (15 : Int32) < (own_F1 ((p0).toInt8.toInt32)) then (own_f0_64 p0 p1 t0_24 (0 : Int32)) else (if ((p0).toInt8.toInt32) = (own_F2 (own_F1 ((p0).toInt8.toInt32)) (0 : Int32)) then (own_f0_64 p0 p1 t0_24 (1 : Int32)) else (if ((p0).toInt8.toInt32) = (own_F2 (own_F1 ((p0).toInt8.toInt32)) (1 : Int32)) then (own_f0_64 p0 p1 t0_24 (1 : Int32)) else (own_f0_64 p0 p1 t0_24 (0 : Int32))))))) := rfl
def own_F0 (p0 : Int32) (p1 : Int32) : Int32 := (if (own_F1 ((p0).toInt8.toInt32)) < (-1 : Int32) then (own_f0_24 p0 p1 (0 : Int32)) else (if (15 : Int32) < (own_F1 ((p0).toInt8.toInt32)) then (own_f0_24 p0 p1 (0 : Int32)) else (own_f0_24 p0 p1 (1 : Int32))))
theorem own_F0_eq (p0 : Int32) (p1 : Int32) : own_F0 p0 p1 = (if (own_F1 ((p0).toInt8.toInt32)) < (-1 : Int32) then (own_f0_24 p0 p1 (0 : Int32)) else (if (15 : Int32) < (own_F1 ((p0).toInt8.toInt32)) then (own_f0_24 p0 p1 (0 : Int32)) else (own_f0_24 p0 p1 (1 : Int32)))) := rfl
theorem pn_0 : plainName "com/example/dehull/dehull/url/PercentCodingHexValuePinLaw" = true := by first | (simp [plainName, overriddenIn]; done) | decide +kernel
theorem pd_0_0 : parseMethodDescriptor "(B)I" = some ⟨[.byte], some .int⟩ := by decide +kernel
theorem pd_0_1 : parseMethodDescriptor "(IZ)B" = some ⟨[.int, .boolean], some .byte⟩ := by decide +kernel
theorem ef_0 (m : MethodId) (x0 : Int32) (x1 : Int32) : entryFrame m #[(.int x0), (.int x1)] maxLocals = mkF m 0 #[.val (.int x0), .val (.int x1), .unset, .unset, .unset, .unset, .unset, .unset, .unset, .unset] [] := by first | (simp [entryFrame, mkF, argsToLocals, Value.category, maxLocals]; done) | rfl
def Q0 (Z : State) (p0 : Int32) (p1 : Int32) (h0 : Heap) (n0 : Nat) (v : Option Value) (h : Heap) (L : List Loc) : Prop := v = some (.int 1) ∧ Fr n0 L
set_option maxRecDepth 65536 in
set_option maxHeartbeats 40000000 in
theorem rm0 (l : Launch) (Z : State) (a0 : Array Value) (hw : ∀ d ∈ tables_1, d.before a0 Z = true) (ws : List Jvm.Cond) (p0 : Int32) (p1 : Int32) (h0 : Heap) (n0 : Nat) (Z0 : n0 ≤ h0.size) (hlaw : own_F0 p0 p1 = 1) :
    MetFree l x (head1 (Jvm.Cond.code x code maxLocals ret :: ws) room_1) (fun a U => a = #[(.int p0), (.int p1)] ∧ Z.Warmed39 U.vm ∧ U.heap = h0) (fun _ _ _ _ _ => True) (fun _ U o U' => ∃ v L, o = .returned v ∧ Q0 Z p0 p1 h0 n0 v U'.heap L ∧ FrameEnd U o U' L 0 0) := by
  refine MetFree.of_bodySF (plainFor_of_name pn_0) hisR ?_
  intro p e s m args below meth c s₁ Bd hml0 hP hK
  obtain ⟨rfl, hZ, hh⟩ := hP
  have hx := Bd.exec
  have hby := Bd.bytes
  have hml : c.maxLocals = 10 := hml0
  have hown : s.vm.findClass "com/example/dehull/dehull/url/PercentCodingHexValuePinLaw" = some m.cls := findClass_of_methodNamed Bd.named
  have hnm := (name_of_methodNamed Bd.named Bd.method).1
  have X0 : Stand p l e room_1 s m #[(.int p0), (.int p1)] below meth c s₁ [] 0 0 := Stand.of_body Bd
  have e0 : s₁.heap = h0 := by rw [← hh, Bd.state]; rfl
  have N0 := Fr.nil n0
  refine own_in (ef_0 m p0 p1) ?_
  have hr0 := (own_F0_eq p0 p1).symm.trans hlaw
  refine own_st (g' := (mkF m 1 #[.val (.int p0), .val (.int p1), .unset, .unset, .unset, .unset, .unset, .unset, .unset, .unset] [(.int p0)])) (fun t k => XS.iloadN X0.here hx rfl (hb hby at_0) rfl  k) ?_
  refine own_st (g' := (mkF m 2 #[.val (.int p0), .val (.int p1), .unset, .unset, .unset, .unset, .unset, .unset, .unset, .unset] [(.int ((p0).toInt8.toInt32))])) (fun t k => XS.i2b X0.here hx rfl (hb hby at_1) rfl k) ?_
  refine own_st (g' := (mkF m 3 #[.val (.int p0), .val (.int p1), .val (.int ((p0).toInt8.toInt32)), .unset, .unset, .unset, .unset, .unset, .unset, .unset] [])) (fun t k => XS.istoreN X0.here hx rfl (hb hby at_2) rfl (l' := #[.val (.int p0), .val (.int p1), .val (.int ((p0).toInt8.toInt32)), .unset, .unset, .unset, .unset, .unset, .unset, .unset]) rfl k) ?_
  refine own_st (g' := (mkF m 4 #[.val (.int p0), .val (.int p1), .val (.int ((p0).toInt8.toInt32)), .unset, .unset, .unset, .unset, .unset, .unset, .unset] [(.int ((p0).toInt8.toInt32))])) (fun t k => XS.iloadN X0.here hx rfl (hb hby at_3) rfl  k) ?_
  obtain ⟨_, _, ⟨T35, L35, k35, n35⟩, -, X35, ⟨Lc35, hQ35, l35, y35, z35⟩, st35⟩ := Jvm.LawKit.callS X0 hx (y := (⟨"com/example/dehull/dehull/url/PercentCoding", "hexValue", "(B)I"⟩ : MethodName)) hown (mvT hZ (hw _ (List.mem_of_getElem? (i := 0) rfl))) (mvT hZ (hw _ (List.mem_of_getElem? (i := 1) rfl))) (mvT hZ (hw _ (List.mem_of_getElem? (i := 2) rfl))) (mvT hZ (hw _ (List.mem_of_getElem? (i := 3) rfl))) (by decide) (backOf (W := 0) (rm1 l Z a0 hw [] ((p0).toInt8.toInt32) h0 n0 Z0  ) hZ (hw _ (List.mem_of_getElem? (i := 3) rfl)) (hw _ (List.mem_of_getElem? (i := 2) rfl)) (by decide) (by decide)) (g := (mkF m 4 #[.val (.int p0), .val (.int p1), .val (.int ((p0).toInt8.toInt32)), .unset, .unset, .unset, .unset, .unset, .unset, .unset] [(.int ((p0).toInt8.toInt32))])) rfl (by rw [hml]; rfl) (argsL := [(.int ((p0).toInt8.toInt32))]) (rest := []) (lenOf pd_0_0 rfl) rfl (by show 2 * 0 + _ ≤ _; exact Nat.le_of_eq rfl) (hb hby at_4) (fun _ _ => ⟨rfl, e0, (by decide : 0 + 0 ≤ _), (by decide : 0 + 0 ≤ _)⟩)
  dsimp only [Pt.U, Pt.locs, Pt.cells, Pt.slots] at X35 l35 y35 z35 st35 hQ35
  subst l35 y35 z35
  obtain ⟨rfl, N35q, e35⟩ := hQ35
  have N35 := Fr.app N0 N35q
  refine own_st (g' := (mkF m 7 #[.val (.int p0), .val (.int p1), .val (.int ((p0).toInt8.toInt32)), .unset, .unset, .unset, .unset, .unset, .unset, .unset] [(.int (own_F1 ((p0).toInt8.toInt32)))])) (fun t k => st35 t k) ?_
  refine own_st (g' := (mkF m 8 #[.val (.int p0), .val (.int p1), .val (.int ((p0).toInt8.toInt32)), .val (.int (own_F1 ((p0).toInt8.toInt32))), .unset, .unset, .unset, .unset, .unset, .unset] [])) (fun t k => XS.istoreN X35.here hx rfl (hb hby at_7) rfl (l' := #[.val (.int p0), .val (.int p1), .val (.int ((p0).toInt8.toInt32)), .val (.int (own_F1 ((p0).toInt8.toInt32))), .unset, .unset, .unset, .unset, .unset, .unset]) rfl k) ?_
  refine own_st (g' := (mkF m 9 #[.val (.int p0), .val (.int p1), .val (.int ((p0).toInt8.toInt32)), .val (.int (own_F1 ((p0).toInt8.toInt32))), .unset, .unset, .unset, .unset, .unset, .unset] [(.int (own_F1 ((p0).toInt8.toInt32)))])) (fun t k => XS.iloadN X35.here hx rfl (hb hby at_8) rfl  k) ?_
  refine own_st (g' := (mkF m 10 #[.val (.int p0), .val (.int p1), .val (.int ((p0).toInt8.toInt32)), .val (.int (own_F1 ((p0).toInt8.toInt32))), .unset, .unset, .unset, .unset, .unset, .unset] [(.int (-1 : Int32)), (.int (own_F1 ((p0).toInt8.toInt32)))])) (fun t k => XS.iconst X35.here hx rfl (hb hby at_9) k) ?_
  have J24 : ∀ (T : State) (locs : List Loc) (t0_24 : Int32), Stand p l e room_1 s m #[(.int p0), (.int p1)] below meth c T locs 0 0 → T.heap = h0 → Fr n0 locs → own_f0_24 p0 p1 t0_24 = (1 : Int32) → own_Fin p e below s 0 0 (Q0 Z p0 p1 h0 n0) T (mkF m 24 #[.val (.int p0), .val (.int p1), .val (.int ((p0).toInt8.toInt32)), .val (.int (own_F1 ((p0).toInt8.toInt32))), .unset, .unset, .unset, .unset, .unset, .unset] [(.int t0_24)]) := by
    intro T36 locs36 t0_24  X36 e36 N36 hr36
    have hr36a := (own_f0_24_eq (p0) (p1) (t0_24)).symm.trans hr36
    refine own_st (g' := (mkF m 26 #[.val (.int p0), .val (.int p1), .val (.int ((p0).toInt8.toInt32)), .val (.int (own_F1 ((p0).toInt8.toInt32))), .val (.int t0_24), .unset, .unset, .unset, .unset, .unset] [])) (fun t k => XS.istore X36.here hx rfl (hb hby at_24) rfl (l' := #[.val (.int p0), .val (.int p1), .val (.int ((p0).toInt8.toInt32)), .val (.int (own_F1 ((p0).toInt8.toInt32))), .val (.int t0_24), .unset, .unset, .unset, .unset, .unset]) rfl k) ?_
    refine own_st (g' := (mkF m 27 #[.val (.int p0), .val (.int p1), .val (.int ((p0).toInt8.toInt32)), .val (.int (own_F1 ((p0).toInt8.toInt32))), .val (.int t0_24), .unset, .unset, .unset, .unset, .unset] [(.int (own_F1 ((p0).toInt8.toInt32)))])) (fun t k => XS.iloadN X36.here hx rfl (hb hby at_26) rfl  k) ?_
    refine own_st (g' := (mkF m 28 #[.val (.int p0), .val (.int p1), .val (.int ((p0).toInt8.toInt32)), .val (.int (own_F1 ((p0).toInt8.toInt32))), .val (.int t0_24), .unset, .unset, .unset, .unset, .unset] [(.int (-1 : Int32)), (.int (own_F1 ((p0).toInt8.toInt32)))])) (fun t k => XS.iconst X36.here hx rfl (hb hby at_27) k) ?_
    have J64 : ∀ (T : State) (locs : List Loc) (t0_64 : Int32), Stand p l e room_1 s m #[(.int p0), (.int p1)] below meth c T locs 0 0 → T.heap = h0 → Fr n0 locs → own_f0_64 p0 p1 t0_24 t0_64 = (1 : Int32) → own_Fin p e below s 0 0 (Q0 Z p0 p1 h0 n0) T (mkF m 64 #[.val (.int p0), .val (.int p1), .val (.int ((p0).toInt8.toInt32)), .val (.int (own_F1 ((p0).toInt8.toInt32))), .val (.int t0_24), .unset, .unset, .unset, .unset, .unset] [(.int t0_64)]) := by
      intro T37 locs37 t0_64  X37 e37 N37 hr37
      have hr37a := (own_f0_64_eq (p0) (p1) (t0_24) (t0_64)).symm.trans hr37
      refine own_st (g' := (mkF m 66 #[.val (.int p0), .val (.int p1), .val (.int ((p0).toInt8.toInt32)), .val (.int (own_F1 ((p0).toInt8.toInt32))), .val (.int t0_24), .val (.int t0_64), .unset, .unset, .unset, .unset] [])) (fun t k => XS.istore X37.here hx rfl (hb hby at_64) rfl (l' := #[.val (.int p0), .val (.int p1), .val (.int ((p0).toInt8.toInt32)), .val (.int (own_F1 ((p0).toInt8.toInt32))), .val (.int t0_24), .val (.int t0_64), .unset, .unset, .unset, .unset]) rfl k) ?_
      refine own_st (g' := (mkF m 67 #[.val (.int p0), .val (.int p1), .val (.int ((p0).toInt8.toInt32)), .val (.int (own_F1 ((p0).toInt8.toInt32))), .val (.int t0_24), .val (.int t0_64), .unset, .unset, .unset, .unset] [(.int p1)])) (fun t k => XS.iloadN X37.here hx rfl (hb hby at_66) rfl  k) ?_
      refine own_st (g' := (mkF m 69 #[.val (.int p0), .val (.int p1), .val (.int ((p0).toInt8.toInt32)), .val (.int (own_F1 ((p0).toInt8.toInt32))), .val (.int t0_24), .val (.int t0_64), .unset, .unset, .unset, .unset] [(.int (15 : Int32)), (.int p1)])) (fun t k => XS.bipush X37.here hx rfl (hb hby at_67) k) ?_
      refine own_st (g' := (mkF m 70 #[.val (.int p0), .val (.int p1), .val (.int ((p0).toInt8.toInt32)), .val (.int (own_F1 ((p0).toInt8.toInt32))), .val (.int t0_24), .val (.int t0_64), .unset, .unset, .unset, .unset] [(.int (p1 &&& (15 : Int32)))])) (fun t k => XS.iand X37.here hx rfl (hb hby at_69) rfl k) ?_
      refine own_st (g' := (mkF m 72 #[.val (.int p0), .val (.int p1), .val (.int ((p0).toInt8.toInt32)), .val (.int (own_F1 ((p0).toInt8.toInt32))), .val (.int t0_24), .val (.int t0_64), .val (.int (p1 &&& (15 : Int32))), .unset, .unset, .unset] [])) (fun t k => XS.istore X37.here hx rfl (hb hby at_70) rfl (l' := #[.val (.int p0), .val (.int p1), .val (.int ((p0).toInt8.toInt32)), .val (.int (own_F1 ((p0).toInt8.toInt32))), .val (.int t0_24), .val (.int t0_64), .val (.int (p1 &&& (15 : Int32))), .unset, .unset, .unset]) rfl k) ?_
      refine own_st (g' := (mkF m 73 #[.val (.int p0), .val (.int p1), .val (.int ((p0).toInt8.toInt32)), .val (.int (own_F1 ((p0).toInt8.toInt32))), .val (.int t0_24), .val (.int t0_64), .val (.int (p1 &&& (15 : Int32))), .unset, .unset, .unset] [(.int p1)])) (fun t k => XS.iloadN X37.here hx rfl (hb hby at_72) rfl  k) ?_
      refine own_st (g' := (mkF m 74 #[.val (.int p0), .val (.int p1), .val (.int ((p0).toInt8.toInt32)), .val (.int (own_F1 ((p0).toInt8.toInt32))), .val (.int t0_24), .val (.int t0_64), .val (.int (p1 &&& (15 : Int32))), .unset, .unset, .unset] [(.int (4 : Int32)), (.int p1)])) (fun t k => XS.iconst X37.here hx rfl (hb hby at_73) k) ?_
      refine own_st (g' := (mkF m 75 #[.val (.int p0), .val (.int p1), .val (.int ((p0).toInt8.toInt32)), .val (.int (own_F1 ((p0).toInt8.toInt32))), .val (.int t0_24), .val (.int t0_64), .val (.int (p1 &&& (15 : Int32))), .unset, .unset, .unset] [(.int ((p1 >>> ((4 : Int32) &&& 31))))])) (fun t k => XS.ishr X37.here hx rfl (hb hby at_74) rfl k) ?_
      refine own_st (g' := (mkF m 76 #[.val (.int p0), .val (.int p1), .val (.int ((p0).toInt8.toInt32)), .val (.int (own_F1 ((p0).toInt8.toInt32))), .val (.int t0_24), .val (.int t0_64), .val (.int (p1 &&& (15 : Int32))), .unset, .unset, .unset] [(.int (1 : Int32)), (.int ((p1 >>> ((4 : Int32) &&& 31))))])) (fun t k => XS.iconst X37.here hx rfl (hb hby at_75) k) ?_
      refine own_st (g' := (mkF m 77 #[.val (.int p0), .val (.int p1), .val (.int ((p0).toInt8.toInt32)), .val (.int (own_F1 ((p0).toInt8.toInt32))), .val (.int t0_24), .val (.int t0_64), .val (.int (p1 &&& (15 : Int32))), .unset, .unset, .unset] [(.int (((p1 >>> ((4 : Int32) &&& 31))) &&& (1 : Int32)))])) (fun t k => XS.iand X37.here hx rfl (hb hby at_76) rfl k) ?_
      have J85 : ∀ (T : State) (locs : List Loc) (t0_85 : Int32), Stand p l e room_1 s m #[(.int p0), (.int p1)] below meth c T locs 0 0 → T.heap = h0 → Fr n0 locs → own_f0_85 p0 p1 t0_24 t0_64 t0_85 = (1 : Int32) → own_Fin p e below s 0 0 (Q0 Z p0 p1 h0 n0) T (mkF m 85 #[.val (.int p0), .val (.int p1), .val (.int ((p0).toInt8.toInt32)), .val (.int (own_F1 ((p0).toInt8.toInt32))), .val (.int t0_24), .val (.int t0_64), .val (.int (p1 &&& (15 : Int32))), .unset, .unset, .unset] [(.int t0_85)]) := by
        intro T38 locs38 t0_85  X38 e38 N38 hr38
        have hr38a := (own_f0_85_eq (p0) (p1) (t0_24) (t0_64) (t0_85)).symm.trans hr38
        refine own_st (g' := (mkF m 87 #[.val (.int p0), .val (.int p1), .val (.int ((p0).toInt8.toInt32)), .val (.int (own_F1 ((p0).toInt8.toInt32))), .val (.int t0_24), .val (.int t0_64), .val (.int (p1 &&& (15 : Int32))), .val (.int t0_85), .unset, .unset] [])) (fun t k => XS.istore X38.here hx rfl (hb hby at_85) rfl (l' := #[.val (.int p0), .val (.int p1), .val (.int ((p0).toInt8.toInt32)), .val (.int (own_F1 ((p0).toInt8.toInt32))), .val (.int t0_24), .val (.int t0_64), .val (.int (p1 &&& (15 : Int32))), .val (.int t0_85), .unset, .unset]) rfl k) ?_
        refine own_st (g' := (mkF m 89 #[.val (.int p0), .val (.int p1), .val (.int ((p0).toInt8.toInt32)), .val (.int (own_F1 ((p0).toInt8.toInt32))), .val (.int t0_24), .val (.int t0_64), .val (.int (p1 &&& (15 : Int32))), .val (.int t0_85), .unset, .unset] [(.int (p1 &&& (15 : Int32)))])) (fun t k => XS.iload X38.here hx rfl (hb hby at_87) rfl  k) ?_
        refine own_st (g' := (mkF m 91 #[.val (.int p0), .val (.int p1), .val (.int ((p0).toInt8.toInt32)), .val (.int (own_F1 ((p0).toInt8.toInt32))), .val (.int t0_24), .val (.int t0_64), .val (.int (p1 &&& (15 : Int32))), .val (.int t0_85), .unset, .unset] [(.int t0_85), (.int (p1 &&& (15 : Int32)))])) (fun t k => XS.iload X38.here hx rfl (hb hby at_89) rfl  k) ?_
        obtain ⟨_, _, ⟨T39, L39, k39, n39⟩, -, X39, ⟨Lc39, hQ39, l39, y39, z39⟩, st39⟩ := Jvm.LawKit.callS X38 hx (y := (⟨"com/example/dehull/dehull/url/PercentCodingHexValuePinLaw", "digitChar", "(IZ)B"⟩ : MethodName)) hown (mvT hZ (hw _ (List.mem_of_getElem? (i := 4) rfl))) (mvT hZ (hw _ (List.mem_of_getElem? (i := 5) rfl))) (mvT hZ (hw _ (List.mem_of_getElem? (i := 6) rfl))) (mvT hZ (hw _ (List.mem_of_getElem? (i := 7) rfl))) (by decide) (backOf (W := 0) (rm2 l Z a0 hw [] (p1 &&& (15 : Int32)) t0_85 h0 n0 Z0  ) hZ (hw _ (List.mem_of_getElem? (i := 7) rfl)) (hw _ (List.mem_of_getElem? (i := 6) rfl)) (by decide) (by decide)) (g := (mkF m 91 #[.val (.int p0), .val (.int p1), .val (.int ((p0).toInt8.toInt32)), .val (.int (own_F1 ((p0).toInt8.toInt32))), .val (.int t0_24), .val (.int t0_64), .val (.int (p1 &&& (15 : Int32))), .val (.int t0_85), .unset, .unset] [(.int t0_85), (.int (p1 &&& (15 : Int32)))])) rfl (by rw [hml]; rfl) (argsL := [(.int (p1 &&& (15 : Int32))), (.int t0_85)]) (rest := []) (lenOf pd_0_1 rfl) rfl (by show 2 * 0 + _ ≤ _; exact Nat.le_of_eq rfl) (hb hby at_91) (fun _ _ => ⟨rfl, e38, (by decide : 0 + 0 ≤ _), (by decide : 0 + 0 ≤ _)⟩)
        dsimp only [Pt.U, Pt.locs, Pt.cells, Pt.slots] at X39 l39 y39 z39 st39 hQ39
        subst l39 y39 z39
        obtain ⟨rfl, N39q, e39⟩ := hQ39
        have N39 := Fr.app N38 N39q
        refine own_st (g' := (mkF m 94 #[.val (.int p0), .val (.int p1), .val (.int ((p0).toInt8.toInt32)), .val (.int (own_F1 ((p0).toInt8.toInt32))), .val (.int t0_24), .val (.int t0_64), .val (.int (p1 &&& (15 : Int32))), .val (.int t0_85), .unset, .unset] [(.int (own_F2 (p1 &&& (15 : Int32)) t0_85))])) (fun t k => st39 t k) ?_
        refine own_st (g' := (mkF m 96 #[.val (.int p0), .val (.int p1), .val (.int ((p0).toInt8.toInt32)), .val (.int (own_F1 ((p0).toInt8.toInt32))), .val (.int t0_24), .val (.int t0_64), .val (.int (p1 &&& (15 : Int32))), .val (.int t0_85), .val (.int (own_F2 (p1 &&& (15 : Int32)) t0_85)), .unset] [])) (fun t k => XS.istore X39.here hx rfl (hb hby at_94) rfl (l' := #[.val (.int p0), .val (.int p1), .val (.int ((p0).toInt8.toInt32)), .val (.int (own_F1 ((p0).toInt8.toInt32))), .val (.int t0_24), .val (.int t0_64), .val (.int (p1 &&& (15 : Int32))), .val (.int t0_85), .val (.int (own_F2 (p1 &&& (15 : Int32)) t0_85)), .unset]) rfl k) ?_
        refine own_st (g' := (mkF m 98 #[.val (.int p0), .val (.int p1), .val (.int ((p0).toInt8.toInt32)), .val (.int (own_F1 ((p0).toInt8.toInt32))), .val (.int t0_24), .val (.int t0_64), .val (.int (p1 &&& (15 : Int32))), .val (.int t0_85), .val (.int (own_F2 (p1 &&& (15 : Int32)) t0_85)), .unset] [(.int (own_F2 (p1 &&& (15 : Int32)) t0_85))])) (fun t k => XS.iload X39.here hx rfl (hb hby at_96) rfl  k) ?_
        obtain ⟨_, _, ⟨T40, L40, k40, n40⟩, -, X40, ⟨Lc40, hQ40, l40, y40, z40⟩, st40⟩ := Jvm.LawKit.callS X39 hx (y := (⟨"com/example/dehull/dehull/url/PercentCoding", "hexValue", "(B)I"⟩ : MethodName)) hown (mvT hZ (hw _ (List.mem_of_getElem? (i := 0) rfl))) (mvT hZ (hw _ (List.mem_of_getElem? (i := 1) rfl))) (mvT hZ (hw _ (List.mem_of_getElem? (i := 2) rfl))) (mvT hZ (hw _ (List.mem_of_getElem? (i := 3) rfl))) (by decide) (backOf (W := 0) (rm1 l Z a0 hw [] (own_F2 (p1 &&& (15 : Int32)) t0_85) h0 n0 Z0  ) hZ (hw _ (List.mem_of_getElem? (i := 3) rfl)) (hw _ (List.mem_of_getElem? (i := 2) rfl)) (by decide) (by decide)) (g := (mkF m 98 #[.val (.int p0), .val (.int p1), .val (.int ((p0).toInt8.toInt32)), .val (.int (own_F1 ((p0).toInt8.toInt32))), .val (.int t0_24), .val (.int t0_64), .val (.int (p1 &&& (15 : Int32))), .val (.int t0_85), .val (.int (own_F2 (p1 &&& (15 : Int32)) t0_85)), .unset] [(.int (own_F2 (p1 &&& (15 : Int32)) t0_85))])) rfl (by rw [hml]; rfl) (argsL := [(.int (own_F2 (p1 &&& (15 : Int32)) t0_85))]) (rest := []) (lenOf pd_0_0 rfl) rfl (by show 2 * 0 + _ ≤ _; exact Nat.le_of_eq rfl) (hb hby at_98) (fun _ _ => ⟨rfl, e39, (by decide : 0 + 0 ≤ _), (by decide : 0 + 0 ≤ _)⟩)
        dsimp only [Pt.U, Pt.locs, Pt.cells, Pt.slots] at X40 l40 y40 z40 st40 hQ40
        subst l40 y40 z40
        obtain ⟨rfl, N40q, e40⟩ := hQ40
        have N40 := Fr.app N39 N40q
        refine own_st (g' := (mkF m 101 #[.val (.int p0), .val (.int p1), .val (.int ((p0).toInt8.toInt32)), .val (.int (own_F1 ((p0).toInt8.toInt32))), .val (.int t0_24), .val (.int t0_64), .val (.int (p1 &&& (15 : Int32))), .val (.int t0_85), .val (.int (own_F2 (p1 &&& (15 : Int32)) t0_85)), .unset] [(.int (own_F1 (own_F2 (p1 &&& (15 : Int32)) t0_85)))])) (fun t k => st40 t k) ?_
        refine own_st (g' := (mkF m 103 #[.val (.int p0), .val (.int p1), .val (.int ((p0).toInt8.toInt32)), .val (.int (own_F1 ((p0).toInt8.toInt32))), .val (.int t0_24), .val (.int t0_64), .val (.int (p1 &&& (15 : Int32))), .val (.int t0_85), .val (.int (own_F2 (p1 &&& (15 : Int32)) t0_85)), .unset] [(.int (p1 &&& (15 : Int32))), (.int (own_F1 (own_F2 (p1 &&& (15 : Int32)) t0_85)))])) (fun t k => XS.iload X40.here hx rfl (hb hby at_101) rfl  k) ?_
        have J111 : ∀ (T : State) (locs : List Loc) (t0_111 : Int32), Stand p l e room_1 s m #[(.int p0), (.int p1)] below meth c T locs 0 0 → T.heap = h0 → Fr n0 locs → own_f0_111 p0 p1 t0_24 t0_64 t0_85 t0_111 = (1 : Int32) → own_Fin p e below s 0 0 (Q0 Z p0 p1 h0 n0) T (mkF m 111 #[.val (.int p0), .val (.int p1), .val (.int ((p0).toInt8.toInt32)), .val (.int (own_F1 ((p0).toInt8.toInt32))), .val (.int t0_24), .val (.int t0_64), .val (.int (p1 &&& (15 : Int32))), .val (.int t0_85), .val (.int (own_F2 (p1 &&& (15 : Int32)) t0_85)), .unset] [(.int t0_111)]) := by
          intro T41 locs41 t0_111  X41 e41 N41 hr41
          have hr41a := (own_f0_111_eq (p0) (p1) (t0_24) (t0_64) (t0_85) (t0_111)).symm.trans hr41
          refine own_st (g' := (mkF m 113 #[.val (.int p0), .val (.int p1), .val (.int ((p0).toInt8.toInt32)), .val (.int (own_F1 ((p0).toInt8.toInt32))), .val (.int t0_24), .val (.int t0_64), .val (.int (p1 &&& (15 : Int32))), .val (.int t0_85), .val (.int (own_F2 (p1 &&& (15 : Int32)) t0_85)), .val (.int t0_111)] [])) (fun t k => XS.istore X41.here hx rfl (hb hby at_111) rfl (l' := #[.val (.int p0), .val (.int p1), .val (.int ((p0).toInt8.toInt32)), .val (.int (own_F1 ((p0).toInt8.toInt32))), .val (.int t0_24), .val (.int t0_64), .val (.int (p1 &&& (15 : Int32))), .val (.int t0_85), .val (.int (own_F2 (p1 &&& (15 : Int32)) t0_85)), .val (.int t0_111)]) rfl k) ?_
          refine own_st (g' := (mkF m 115 #[.val (.int p0), .val (.int p1), .val (.int ((p0).toInt8.toInt32)), .val (.int (own_F1 ((p0).toInt8.toInt32))), .val (.int t0_24), .val (.int t0_64), .val (.int (p1 &&& (15 : Int32))), .val (.int t0_85), .val (.int (own_F2 (p1 &&& (15 : Int32)) t0_85)), .val (.int t0_111)] [(.int t0_24)])) (fun t k => XS.iload X41.here hx rfl (hb hby at_113) rfl  k) ?_
          have J133 : ∀ (T : State) (locs : List Loc) (t0_133 : Int32), Stand p l e room_1 s m #[(.int p0), (.int p1)] below meth c T locs 0 0 → T.heap = h0 → Fr n0 locs → own_f0_133 p0 p1 t0_24 t0_64 t0_85 t0_111 t0_133 = (1 : Int32) → own_Fin p e below s 0 0 (Q0 Z p0 p1 h0 n0) T (mkF m 133 #[.val (.int p0), .val (.int p1), .val (.int ((p0).toInt8.toInt32)), .val (.int (own_F1 ((p0).toInt8.toInt32))), .val (.int t0_24), .val (.int t0_64), .val (.int (p1 &&& (15 : Int32))), .val (.int t0_85), .val (.int (own_F2 (p1 &&& (15 : Int32)) t0_85)), .val (.int t0_111)] [(.int t0_133)]) := by
            intro T42 locs42 t0_133  X42 e42 N42 hr42
            have hr42a := (own_f0_133_eq (p0) (p1) (t0_24) (t0_64) (t0_85) (t0_111) (t0_133)).symm.trans hr42
            exact own_retN (t := .boolean) X42 hx Bd.returns Bd.notSynchronized (by simp) (hb hby at_133) ⟨congrArg (fun q => some (Value.int q)) hr42a, N42⟩ (by decide) (by decide)
          by_cases hc115_43 : t0_24 = (0 : Int32)
          · have hr44 := (if_pos hc115_43).symm.trans hr41a
            refine own_st (g' := (mkF m 132 #[.val (.int p0), .val (.int p1), .val (.int ((p0).toInt8.toInt32)), .val (.int (own_F1 ((p0).toInt8.toInt32))), .val (.int t0_24), .val (.int t0_64), .val (.int (p1 &&& (15 : Int32))), .val (.int t0_85), .val (.int (own_F2 (p1 &&& (15 : Int32)) t0_85)), .val (.int t0_111)] [])) (fun t k => XS.ifYes X41.here hx rfl (pc0 := 115) (pc' := 132) rfl (hb hby at_115) rfl ((if0 _ _).trans (teq hc115_43).1) (by decide) (by decide) k) ?_
            refine own_st (g' := (mkF m 133 #[.val (.int p0), .val (.int p1), .val (.int ((p0).toInt8.toInt32)), .val (.int (own_F1 ((p0).toInt8.toInt32))), .val (.int t0_24), .val (.int t0_64), .val (.int (p1 &&& (15 : Int32))), .val (.int t0_85), .val (.int (own_F2 (p1 &&& (15 : Int32)) t0_85)), .val (.int t0_111)] [(.int (0 : Int32))])) (fun t k => XS.iconst X41.here hx rfl (hb hby at_132) k) ?_
            exact J133 T41 _ (0 : Int32)  X41 e41 N41 hr44
          · have hr45 := (if_neg hc115_43).symm.trans hr41a
            refine own_st (g' := (mkF m 118 #[.val (.int p0), .val (.int p1), .val (.int ((p0).toInt8.toInt32)), .val (.int (own_F1 ((p0).toInt8.toInt32))), .val (.int t0_24), .val (.int t0_64), .val (.int (p1 &&& (15 : Int32))), .val (.int t0_85), .val (.int (own_F2 (p1 &&& (15 : Int32)) t0_85)), .val (.int t0_111)] [])) (fun t k => XS.ifNo X41.here hx rfl (hb hby at_115) rfl ((if0 _ _).trans (feq hc115_43).1) k) ?_
            refine own_st (g' := (mkF m 120 #[.val (.int p0), .val (.int p1), .val (.int ((p0).toInt8.toInt32)), .val (.int (own_F1 ((p0).toInt8.toInt32))), .val (.int t0_24), .val (.int t0_64), .val (.int (p1 &&& (15 : Int32))), .val (.int t0_85), .val (.int (own_F2 (p1 &&& (15 : Int32)) t0_85)), .val (.int t0_111)] [(.int t0_64)])) (fun t k => XS.iload X41.here hx rfl (hb hby at_118) rfl  k) ?_
            by_cases hc120_46 : t0_64 = (0 : Int32)
            · have hr47 := (if_pos hc120_46).symm.trans hr45
              refine own_st (g' := (mkF m 132 #[.val (.int p0), .val (.int p1), .val (.int ((p0).toInt8.toInt32)), .val (.int (own_F1 ((p0).toInt8.toInt32))), .val (.int t0_24), .val (.int t0_64), .val (.int (p1 &&& (15 : Int32))), .val (.int t0_85), .val (.int (own_F2 (p1 &&& (15 : Int32)) t0_85)), .val (.int t0_111)] [])) (fun t k => XS.ifYes X41.here hx rfl (pc0 := 120) (pc' := 132) rfl (hb hby at_120) rfl ((if0 _ _).trans (teq hc120_46).1) (by decide) (by decide) k) ?_
              refine own_st (g' := (mkF m 133 #[.val (.int p0), .val (.int p1), .val (.int ((p0).toInt8.toInt32)), .val (.int (own_F1 ((p0).toInt8.toInt32))), .val (.int t0_24), .val (.int t0_64), .val (.int (p1 &&& (15 : Int32))), .val (.int t0_85), .val (.int (own_F2 (p1 &&& (15 : Int32)) t0_85)), .val (.int t0_111)] [(.int (0 : Int32))])) (fun t k => XS.iconst X41.here hx rfl (hb hby at_132) k) ?_
              exact J133 T41 _ (0 : Int32)  X41 e41 N41 hr47
            · have hr48 := (if_neg hc120_46).symm.trans hr45
              refine own_st (g' := (mkF m 123 #[.val (.int p0), .val (.int p1), .val (.int ((p0).toInt8.toInt32)), .val (.int (own_F1 ((p0).toInt8.toInt32))), .val (.int t0_24), .val (.int t0_64), .val (.int (p1 &&& (15 : Int32))), .val (.int t0_85), .val (.int (own_F2 (p1 &&& (15 : Int32)) t0_85)), .val (.int t0_111)] [])) (fun t k => XS.ifNo X41.here hx rfl (hb hby at_120) rfl ((if0 _ _).trans (feq hc120_46).1) k) ?_
              refine own_st (g' := (mkF m 125 #[.val (.int p0), .val (.int p1), .val (.int ((p0).toInt8.toInt32)), .val (.int (own_F1 ((p0).toInt8.toInt32))), .val (.int t0_24), .val (.int t0_64), .val (.int (p1 &&& (15 : Int32))), .val (.int t0_85), .val (.int (own_F2 (p1 &&& (15 : Int32)) t0_85)), .val (.int t0_111)] [(.int t0_111)])) (fun t k => XS.iload X41.here hx rfl (hb hby at_123) rfl  k) ?_
              by_cases hc125_49 : t0_111 = (0 : Int32)
              · have hr50 := (if_pos hc125_49).symm.trans hr48
                refine own_st (g' := (mkF m 132 #[.val (.int p0), .val (.int p1), .val (.int ((p0).toInt8.toInt32)), .val (.int (own_F1 ((p0).toInt8.toInt32))), .val (.int t0_24), .val (.int t0_64), .val (.int (p1 &&& (15 : Int32))), .val (.int t0_85), .val (.int (own_F2 (p1 &&& (15 : Int32)) t0_85)), .val (.int t0_111)] [])) (fun t k => XS.ifYes X41.here hx rfl (pc0 := 125) (pc' := 132) rfl (hb hby at_125) rfl ((if0 _ _).trans (teq hc125_49).1) (by decide) (by decide) k) ?_
                refine own_st (g' := (mkF m 133 #[.val (.int p0), .val (.int p1), .val (.int ((p0).toInt8.toInt32)), .val (.int (own_F1 ((p0).toInt8.toInt32))), .val (.int t0_24), .val (.int t0_64), .val (.int (p1 &&& (15 : Int32))), .val (.int t0_85), .val (.int (own_F2 (p1 &&& (15 : Int32)) t0_85)), .val (.int t0_111)] [(.int (0 : Int32))])) (fun t k => XS.iconst X41.here hx rfl (hb hby at_132) k) ?_
                exact J133 T41 _ (0 : Int32)  X41 e41 N41 hr50
              · have hr51 := (if_neg hc125_49).symm.trans hr48
                refine own_st (g' := (mkF m 128 #[.val (.int p0), .val (.int p1), .val (.int ((p0).toInt8.toInt32)), .val (.int (own_F1 ((p0).toInt8.toInt32))), .val (.int t0_24), .val (.int t0_64), .val (.int (p1 &&& (15 : Int32))), .val (.int t0_85), .val (.int (own_F2 (p1 &&& (15 : Int32)) t0_85)), .val (.int t0_111)] [])) (fun t k => XS.ifNo X41.here hx rfl (hb hby at_125) rfl ((if0 _ _).trans (feq hc125_49).1) k) ?_
                refine own_st (g' := (mkF m 129 #[.val (.int p0), .val (.int p1), .val (.int ((p0).toInt8.toInt32)), .val (.int (own_F1 ((p0).toInt8.toInt32))), .val (.int t0_24), .val (.int t0_64), .val (.int (p1 &&& (15 : Int32))), .val (.int t0_85), .val (.int (own_F2 (p1 &&& (15 : Int32)) t0_85)), .val (.int t0_111)] [(.int (1 : Int32))])) (fun t k => XS.iconst X41.here hx rfl (hb hby at_128) k) ?_
                refine own_st (g' := (mkF m 133 #[.val (.int p0), .val (.int p1), .val (.int ((p0).toInt8.toInt32)), .val (.int (own_F1 ((p0).toInt8.toInt32))), .val (.int t0_24), .val (.int t0_64), .val (.int (p1 &&& (15 : Int32))), .val (.int t0_85), .val (.int (own_F2 (p1 &&& (15 : Int32)) t0_85)), .val (.int t0_111)] [(.int (1 : Int32))])) (fun t k => XS.goto X41.here hx rfl (pc0 := 129) (pc' := 133) rfl (hb hby at_129) (by decide) (by decide) k) ?_
                exact J133 T41 _ (1 : Int32)  X41 e41 N41 hr51
        by_cases hc103_52 : (own_F1 (own_F2 (p1 &&& (15 : Int32)) t0_85)) = (p1 &&& (15 : Int32))
        · have hr53 := (if_pos hc103_52).symm.trans hr38a
          refine own_st (g' := (mkF m 106 #[.val (.int p0), .val (.int p1), .val (.int ((p0).toInt8.toInt32)), .val (.int (own_F1 ((p0).toInt8.toInt32))), .val (.int t0_24), .val (.int t0_64), .val (.int (p1 &&& (15 : Int32))), .val (.int t0_85), .val (.int (own_F2 (p1 &&& (15 : Int32)) t0_85)), .unset] [])) (fun t k => XS.icmpNo X40.here hx rfl (hb hby at_103) rfl (teq hc103_52).2 k) ?_
          refine own_st (g' := (mkF m 107 #[.val (.int p0), .val (.int p1), .val (.int ((p0).toInt8.toInt32)), .val (.int (own_F1 ((p0).toInt8.toInt32))), .val (.int t0_24), .val (.int t0_64), .val (.int (p1 &&& (15 : Int32))), .val (.int t0_85), .val (.int (own_F2 (p1 &&& (15 : Int32)) t0_85)), .unset] [(.int (1 : Int32))])) (fun t k => XS.iconst X40.here hx rfl (hb hby at_106) k) ?_
          refine own_st (g' := (mkF m 111 #[.val (.int p0), .val (.int p1), .val (.int ((p0).toInt8.toInt32)), .val (.int (own_F1 ((p0).toInt8.toInt32))), .val (.int t0_24), .val (.int t0_64), .val (.int (p1 &&& (15 : Int32))), .val (.int t0_85), .val (.int (own_F2 (p1 &&& (15 : Int32)) t0_85)), .unset] [(.int (1 : Int32))])) (fun t k => XS.goto X40.here hx rfl (pc0 := 107) (pc' := 111) rfl (hb hby at_107) (by decide) (by decide) k) ?_
          exact J111 T40 _ (1 : Int32)  X40 e40 N40 hr53
        · have hr54 := (if_neg hc103_52).symm.trans hr38a
          refine own_st (g' := (mkF m 110 #[.val (.int p0), .val (.int p1), .val (.int ((p0).toInt8.toInt32)), .val (.int (own_F1 ((p0).toInt8.toInt32))), .val (.int t0_24), .val (.int t0_64), .val (.int (p1 &&& (15 : Int32))), .val (.int t0_85), .val (.int (own_F2 (p1 &&& (15 : Int32)) t0_85)), .unset] [])) (fun t k => XS.icmpYes X40.here hx rfl (pc0 := 103) (pc' := 110) rfl (hb hby at_103) rfl (feq hc103_52).2 (by decide) (by decide) k) ?_
          refine own_st (g' := (mkF m 111 #[.val (.int p0), .val (.int p1), .val (.int ((p0).toInt8.toInt32)), .val (.int (own_F1 ((p0).toInt8.toInt32))), .val (.int t0_24), .val (.int t0_64), .val (.int (p1 &&& (15 : Int32))), .val (.int t0_85), .val (.int (own_F2 (p1 &&& (15 : Int32)) t0_85)), .unset] [(.int (0 : Int32))])) (fun t k => XS.iconst X40.here hx rfl (hb hby at_110) k) ?_
          exact J111 T40 _ (0 : Int32)  X40 e40 N40 hr54
      by_cases hc77_55 : (((p1 >>> ((4 : Int32) &&& 31))) &&& (1 : Int32)) = (0 : Int32)
      · have hr56 := (if_pos hc77_55).symm.trans hr37a
        refine own_st (g' := (mkF m 84 #[.val (.int p0), .val (.int p1), .val (.int ((p0).toInt8.toInt32)), .val (.int (own_F1 ((p0).toInt8.toInt32))), .val (.int t0_24), .val (.int t0_64), .val (.int (p1 &&& (15 : Int32))), .unset, .unset, .unset] [])) (fun t k => XS.ifYes X37.here hx rfl (pc0 := 77) (pc' := 84) rfl (hb hby at_77) rfl ((if0 _ _).trans (teq hc77_55).1) (by decide) (by decide) k) ?_
        refine own_st (g' := (mkF m 85 #[.val (.int p0), .val (.int p1), .val (.int ((p0).toInt8.toInt32)), .val (.int (own_F1 ((p0).toInt8.toInt32))), .val (.int t0_24), .val (.int t0_64), .val (.int (p1 &&& (15 : Int32))), .unset, .unset, .unset] [(.int (0 : Int32))])) (fun t k => XS.iconst X37.here hx rfl (hb hby at_84) k) ?_
        exact J85 T37 _ (0 : Int32)  X37 e37 N37 hr56
      · have hr57 := (if_neg hc77_55).symm.trans hr37a
        refine own_st (g' := (mkF m 80 #[.val (.int p0), .val (.int p1), .val (.int ((p0).toInt8.toInt32)), .val (.int (own_F1 ((p0).toInt8.toInt32))), .val (.int t0_24), .val (.int t0_64), .val (.int (p1 &&& (15 : Int32))), .unset, .unset, .unset] [])) (fun t k => XS.ifNo X37.here hx rfl (hb hby at_77) rfl ((if0 _ _).trans (feq hc77_55).1) k) ?_
        refine own_st (g' := (mkF m 81 #[.val (.int p0), .val (.int p1), .val (.int ((p0).toInt8.toInt32)), .val (.int (own_F1 ((p0).toInt8.toInt32))), .val (.int t0_24), .val (.int t0_64), .val (.int (p1 &&& (15 : Int32))), .unset, .unset, .unset] [(.int (1 : Int32))])) (fun t k => XS.iconst X37.here hx rfl (hb hby at_80) k) ?_
        refine own_st (g' := (mkF m 85 #[.val (.int p0), .val (.int p1), .val (.int ((p0).toInt8.toInt32)), .val (.int (own_F1 ((p0).toInt8.toInt32))), .val (.int t0_24), .val (.int t0_64), .val (.int (p1 &&& (15 : Int32))), .unset, .unset, .unset] [(.int (1 : Int32))])) (fun t k => XS.goto X37.here hx rfl (pc0 := 81) (pc' := 85) rfl (hb hby at_81) (by decide) (by decide) k) ?_
        exact J85 T37 _ (1 : Int32)  X37 e37 N37 hr57
    by_cases hc28_58 : (own_F1 ((p0).toInt8.toInt32)) = (-1 : Int32)
    · have hr59 := (if_pos hc28_58).symm.trans hr36a
      refine own_st (g' := (mkF m 59 #[.val (.int p0), .val (.int p1), .val (.int ((p0).toInt8.toInt32)), .val (.int (own_F1 ((p0).toInt8.toInt32))), .val (.int t0_24), .unset, .unset, .unset, .unset, .unset] [])) (fun t k => XS.icmpYes X36.here hx rfl (pc0 := 28) (pc' := 59) rfl (hb hby at_28) rfl (teq hc28_58).1 (by decide) (by decide) k) ?_
      refine own_st (g' := (mkF m 60 #[.val (.int p0), .val (.int p1), .val (.int ((p0).toInt8.toInt32)), .val (.int (own_F1 ((p0).toInt8.toInt32))), .val (.int t0_24), .unset, .unset, .unset, .unset, .unset] [(.int (1 : Int32))])) (fun t k => XS.iconst X36.here hx rfl (hb hby at_59) k) ?_
      refine own_st (g' := (mkF m 64 #[.val (.int p0), .val (.int p1), .val (.int ((p0).toInt8.toInt32)), .val (.int (own_F1 ((p0).toInt8.toInt32))), .val (.int t0_24), .unset, .unset, .unset, .unset, .unset] [(.int (1 : Int32))])) (fun t k => XS.goto X36.here hx rfl (pc0 := 60) (pc' := 64) rfl (hb hby at_60) (by decide) (by decide) k) ?_
      exact J64 T36 _ (1 : Int32)  X36 e36 N36 hr59
    · have hr60 := (if_neg hc28_58).symm.trans hr36a
      refine own_st (g' := (mkF m 31 #[.val (.int p0), .val (.int p1), .val (.int ((p0).toInt8.toInt32)), .val (.int (own_F1 ((p0).toInt8.toInt32))), .val (.int t0_24), .unset, .unset, .unset, .unset, .unset] [])) (fun t k => XS.icmpNo X36.here hx rfl (hb hby at_28) rfl (feq hc28_58).1 k) ?_
      refine own_st (g' := (mkF m 32 #[.val (.int p0), .val (.int p1), .val (.int ((p0).toInt8.toInt32)), .val (.int (own_F1 ((p0).toInt8.toInt32))), .val (.int t0_24), .unset, .unset, .unset, .unset, .unset] [(.int (own_F1 ((p0).toInt8.toInt32)))])) (fun t k => XS.iloadN X36.here hx rfl (hb hby at_31) rfl  k) ?_
      by_cases hc32_61 : (own_F1 ((p0).toInt8.toInt32)) < (0 : Int32)
      · have hr62 := (if_pos hc32_61).symm.trans hr60
        refine own_st (g' := (mkF m 63 #[.val (.int p0), .val (.int p1), .val (.int ((p0).toInt8.toInt32)), .val (.int (own_F1 ((p0).toInt8.toInt32))), .val (.int t0_24), .unset, .unset, .unset, .unset, .unset] [])) (fun t k => XS.ifYes X36.here hx rfl (pc0 := 32) (pc' := 63) rfl (hb hby at_32) rfl ((if0 _ _).trans (tlt hc32_61).1) (by decide) (by decide) k) ?_
        refine own_st (g' := (mkF m 64 #[.val (.int p0), .val (.int p1), .val (.int ((p0).toInt8.toInt32)), .val (.int (own_F1 ((p0).toInt8.toInt32))), .val (.int t0_24), .unset, .unset, .unset, .unset, .unset] [(.int (0 : Int32))])) (fun t k => XS.iconst X36.here hx rfl (hb hby at_63) k) ?_
        exact J64 T36 _ (0 : Int32)  X36 e36 N36 hr62
      · have hr63 := (if_neg hc32_61).symm.trans hr60
        refine own_st (g' := (mkF m 35 #[.val (.int p0), .val (.int p1), .val (.int ((p0).toInt8.toInt32)), .val (.int (own_F1 ((p0).toInt8.toInt32))), .val (.int t0_24), .unset, .unset, .unset, .unset, .unset] [])) (fun t k => XS.ifNo X36.here hx rfl (hb hby at_32) rfl ((if0 _ _).trans (flt hc32_61).1) k) ?_
        refine own_st (g' := (mkF m 36 #[.val (.int p0), .val (.int p1), .val (.int ((p0).toInt8.toInt32)), .val (.int (own_F1 ((p0).toInt8.toInt32))), .val (.int t0_24), .unset, .unset, .unset, .unset, .unset] [(.int (own_F1 ((p0).toInt8.toInt32)))])) (fun t k => XS.iloadN X36.here hx rfl (hb hby at_35) rfl  k) ?_
        refine own_st (g' := (mkF m 38 #[.val (.int p0), .val (.int p1), .val (.int ((p0).toInt8.toInt32)), .val (.int (own_F1 ((p0).toInt8.toInt32))), .val (.int t0_24), .unset, .unset, .unset, .unset, .unset] [(.int (15 : Int32)), (.int (own_F1 ((p0).toInt8.toInt32)))])) (fun t k => XS.bipush X36.here hx rfl (hb hby at_36) k) ?_
        by_cases hc38_64 : (15 : Int32) < (own_F1 ((p0).toInt8.toInt32))
        · have hr65 := (if_pos hc38_64).symm.trans hr63
          refine own_st (g' := (mkF m 63 #[.val (.int p0), .val (.int p1), .val (.int ((p0).toInt8.toInt32)), .val (.int (own_F1 ((p0).toInt8.toInt32))), .val (.int t0_24), .unset, .unset, .unset, .unset, .unset] [])) (fun t k => XS.icmpYes X36.here hx rfl (pc0 := 38) (pc' := 63) rfl (hb hby at_38) rfl (tlt hc38_64).2.2.1 (by decide) (by decide) k) ?_
          refine own_st (g' := (mkF m 64 #[.val (.int p0), .val (.int p1), .val (.int ((p0).toInt8.toInt32)), .val (.int (own_F1 ((p0).toInt8.toInt32))), .val (.int t0_24), .unset, .unset, .unset, .unset, .unset] [(.int (0 : Int32))])) (fun t k => XS.iconst X36.here hx rfl (hb hby at_63) k) ?_
          exact J64 T36 _ (0 : Int32)  X36 e36 N36 hr65
        · have hr66 := (if_neg hc38_64).symm.trans hr63
          refine own_st (g' := (mkF m 41 #[.val (.int p0), .val (.int p1), .val (.int ((p0).toInt8.toInt32)), .val (.int (own_F1 ((p0).toInt8.toInt32))), .val (.int t0_24), .unset, .unset, .unset, .unset, .unset] [])) (fun t k => XS.icmpNo X36.here hx rfl (hb hby at_38) rfl (flt hc38_64).2.2.1 k) ?_
          refine own_st (g' := (mkF m 42 #[.val (.int p0), .val (.int p1), .val (.int ((p0).toInt8.toInt32)), .val (.int (own_F1 ((p0).toInt8.toInt32))), .val (.int t0_24), .unset, .unset, .unset, .unset, .unset] [(.int ((p0).toInt8.toInt32))])) (fun t k => XS.iloadN X36.here hx rfl (hb hby at_41) rfl  k) ?_
          refine own_st (g' := (mkF m 43 #[.val (.int p0), .val (.int p1), .val (.int ((p0).toInt8.toInt32)), .val (.int (own_F1 ((p0).toInt8.toInt32))), .val (.int t0_24), .unset, .unset, .unset, .unset, .unset] [(.int (own_F1 ((p0).toInt8.toInt32))), (.int ((p0).toInt8.toInt32))])) (fun t k => XS.iloadN X36.here hx rfl (hb hby at_42) rfl  k) ?_
          refine own_st (g' := (mkF m 44 #[.val (.int p0), .val (.int p1), .val (.int ((p0).toInt8.toInt32)), .val (.int (own_F1 ((p0).toInt8.toInt32))), .val (.int t0_24), .unset, .unset, .unset, .unset, .unset] [(.int (0 : Int32)), (.int (own_F1 ((p0).toInt8.toInt32))), (.int ((p0).toInt8.toInt32))])) (fun t k => XS.iconst X36.here hx rfl (hb hby at_43) k) ?_
          obtain ⟨_, _, ⟨T67, L67, k67, n67⟩, -, X67, ⟨Lc67, hQ67, l67, y67, z67⟩, st67⟩ := Jvm.LawKit.callS X36 hx (y := (⟨"com/example/dehull/dehull/url/PercentCodingHexValuePinLaw", "digitChar", "(IZ)B"⟩ : MethodName)) hown (mvT hZ (hw _ (List.mem_of_getElem? (i := 4) rfl))) (mvT hZ (hw _ (List.mem_of_getElem? (i := 5) rfl))) (mvT hZ (hw _ (List.mem_of_getElem? (i := 6) rfl))) (mvT hZ (hw _ (List.mem_of_getElem? (i := 7) rfl))) (by decide) (backOf (W := 1) (rm2 l Z a0 hw [] (own_F1 ((p0).toInt8.toInt32)) (0 : Int32) h0 n0 Z0  ) hZ (hw _ (List.mem_of_getElem? (i := 7) rfl)) (hw _ (List.mem_of_getElem? (i := 6) rfl)) (by decide) (by decide)) (g := (mkF m 44 #[.val (.int p0), .val (.int p1), .val (.int ((p0).toInt8.toInt32)), .val (.int (own_F1 ((p0).toInt8.toInt32))), .val (.int t0_24), .unset, .unset, .unset, .unset, .unset] [(.int (0 : Int32)), (.int (own_F1 ((p0).toInt8.toInt32))), (.int ((p0).toInt8.toInt32))])) rfl (by rw [hml]; rfl) (argsL := [(.int (own_F1 ((p0).toInt8.toInt32))), (.int (0 : Int32))]) (rest := [(.int ((p0).toInt8.toInt32))]) (lenOf pd_0_1 rfl) rfl (by show 2 * 0 + _ ≤ _; exact Nat.le_of_eq rfl) (hb hby at_44) (fun _ _ => ⟨rfl, e36, (by decide : 0 + 0 ≤ _), (by decide : 0 + 0 ≤ _)⟩)
          dsimp only [Pt.U, Pt.locs, Pt.cells, Pt.slots] at X67 l67 y67 z67 st67 hQ67
          subst l67 y67 z67
          obtain ⟨rfl, N67q, e67⟩ := hQ67
          have N67 := Fr.app N36 N67q
          refine own_st (g' := (mkF m 47 #[.val (.int p0), .val (.int p1), .val (.int ((p0).toInt8.toInt32)), .val (.int (own_F1 ((p0).toInt8.toInt32))), .val (.int t0_24), .unset, .unset, .unset, .unset, .unset] [(.int (own_F2 (own_F1 ((p0).toInt8.toInt32)) (0 : Int32))), (.int ((p0).toInt8.toInt32))])) (fun t k => st67 t k) ?_
          by_cases hc47_68 : ((p0).toInt8.toInt32) = (own_F2 (own_F1 ((p0).toInt8.toInt32)) (0 : Int32))
          · have hr69 := (if_pos hc47_68).symm.trans hr66
            refine own_st (g' := (mkF m 59 #[.val (.int p0), .val (.int p1), .val (.int ((p0).toInt8.toInt32)), .val (.int (own_F1 ((p0).toInt8.toInt32))), .val (.int t0_24), .unset, .unset, .unset, .unset, .unset] [])) (fun t k => XS.icmpYes X67.here hx rfl (pc0 := 47) (pc' := 59) rfl (hb hby at_47) rfl (teq hc47_68).1 (by decide) (by decide) k) ?_
            refine own_st (g' := (mkF m 60 #[.val (.int p0), .val (.int p1), .val (.int ((p0).toInt8.toInt32)), .val (.int (own_F1 ((p0).toInt8.toInt32))), .val (.int t0_24), .unset, .unset, .unset, .unset, .unset] [(.int (1 : Int32))])) (fun t k => XS.iconst X67.here hx rfl (hb hby at_59) k) ?_
            refine own_st (g' := (mkF m 64 #[.val (.int p0), .val (.int p1), .val (.int ((p0).toInt8.toInt32)), .val (.int (own_F1 ((p0).toInt8.toInt32))), .val (.int t0_24), .unset, .unset, .unset, .unset, .unset] [(.int (1 : Int32))])) (fun t k => XS.goto X67.here hx rfl (pc0 := 60) (pc' := 64) rfl (hb hby at_60) (by decide) (by decide) k) ?_
            exact J64 T67 _ (1 : Int32)  X67 e67 N67 hr69
          · have hr70 := (if_neg hc47_68).symm.trans hr66
            refine own_st (g' := (mkF m 50 #[.val (.int p0), .val (.int p1), .val (.int ((p0).toInt8.toInt32)), .val (.int (own_F1 ((p0).toInt8.toInt32))), .val (.int t0_24), .unset, .unset, .unset, .unset, .unset] [])) (fun t k => XS.icmpNo X67.here hx rfl (hb hby at_47) rfl (feq hc47_68).1 k) ?_
            refine own_st (g' := (mkF m 51 #[.val (.int p0), .val (.int p1), .val (.int ((p0).toInt8.toInt32)), .val (.int (own_F1 ((p0).toInt8.toInt32))), .val (.int t0_24), .unset, .unset, .unset, .unset, .unset] [(.int ((p0).toInt8.toInt32))])) (fun t k => XS.iloadN X67.here hx rfl (hb hby at_50) rfl  k) ?_
            refine own_st (g' := (mkF m 52 #[.val (.int p0), .val (.int p1), .val (.int ((p0).toInt8.toInt32)), .val (.int (own_F1 ((p0).toInt8.toInt32))), .val (.int t0_24), .unset, .unset, .unset, .unset, .unset] [(.int (own_F1 ((p0).toInt8.toInt32))), (.int ((p0).toInt8.toInt32))])) (fun t k => XS.iloadN X67.here hx rfl (hb hby at_51) rfl  k) ?_
            refine own_st (g' := (mkF m 53 #[.val (.int p0), .val (.int p1), .val (.int ((p0).toInt8.toInt32)), .val (.int (own_F1 ((p0).toInt8.toInt32))), .val (.int t0_24), .unset, .unset, .unset, .unset, .unset] [(.int (1 : Int32)), (.int (own_F1 ((p0).toInt8.toInt32))), (.int ((p0).toInt8.toInt32))])) (fun t k => XS.iconst X67.here hx rfl (hb hby at_52) k) ?_
            obtain ⟨_, _, ⟨T71, L71, k71, n71⟩, -, X71, ⟨Lc71, hQ71, l71, y71, z71⟩, st71⟩ := Jvm.LawKit.callS X67 hx (y := (⟨"com/example/dehull/dehull/url/PercentCodingHexValuePinLaw", "digitChar", "(IZ)B"⟩ : MethodName)) hown (mvT hZ (hw _ (List.mem_of_getElem? (i := 4) rfl))) (mvT hZ (hw _ (List.mem_of_getElem? (i := 5) rfl))) (mvT hZ (hw _ (List.mem_of_getElem? (i := 6) rfl))) (mvT hZ (hw _ (List.mem_of_getElem? (i := 7) rfl))) (by decide) (backOf (W := 1) (rm2 l Z a0 hw [] (own_F1 ((p0).toInt8.toInt32)) (1 : Int32) h0 n0 Z0  ) hZ (hw _ (List.mem_of_getElem? (i := 7) rfl)) (hw _ (List.mem_of_getElem? (i := 6) rfl)) (by decide) (by decide)) (g := (mkF m 53 #[.val (.int p0), .val (.int p1), .val (.int ((p0).toInt8.toInt32)), .val (.int (own_F1 ((p0).toInt8.toInt32))), .val (.int t0_24), .unset, .unset, .unset, .unset, .unset] [(.int (1 : Int32)), (.int (own_F1 ((p0).toInt8.toInt32))), (.int ((p0).toInt8.toInt32))])) rfl (by rw [hml]; rfl) (argsL := [(.int (own_F1 ((p0).toInt8.toInt32))), (.int (1 : Int32))]) (rest := [(.int ((p0).toInt8.toInt32))]) (lenOf pd_0_1 rfl) rfl (by show 2 * 0 + _ ≤ _; exact Nat.le_of_eq rfl) (hb hby at_53) (fun _ _ => ⟨rfl, e67, (by decide : 0 + 0 ≤ _), (by decide : 0 + 0 ≤ _)⟩)
            dsimp only [Pt.U, Pt.locs, Pt.cells, Pt.slots] at X71 l71 y71 z71 st71 hQ71
            subst l71 y71 z71
            obtain ⟨rfl, N71q, e71⟩ := hQ71
            have N71 := Fr.app N67 N71q
            refine own_st (g' := (mkF m 56 #[.val (.int p0), .val (.int p1), .val (.int ((p0).toInt8.toInt32)), .val (.int (own_F1 ((p0).toInt8.toInt32))), .val (.int t0_24), .unset, .unset, .unset, .unset, .unset] [(.int (own_F2 (own_F1 ((p0).toInt8.toInt32)) (1 : Int32))), (.int ((p0).toInt8.toInt32))])) (fun t k => st71 t k) ?_
            by_cases hc56_72 : ((p0).toInt8.toInt32) = (own_F2 (own_F1 ((p0).toInt8.toInt32)) (1 : Int32))
            · have hr73 := (if_pos hc56_72).symm.trans hr70
              refine own_st (g' := (mkF m 59 #[.val (.int p0), .val (.int p1), .val (.int ((p0).toInt8.toInt32)), .val (.int (own_F1 ((p0).toInt8.toInt32))), .val (.int t0_24), .unset, .unset, .unset, .unset, .unset] [])) (fun t k => XS.icmpNo X71.here hx rfl (hb hby at_56) rfl (teq hc56_72).2 k) ?_
              refine own_st (g' := (mkF m 60 #[.val (.int p0), .val (.int p1), .val (.int ((p0).toInt8.toInt32)), .val (.int (own_F1 ((p0).toInt8.toInt32))), .val (.int t0_24), .unset, .unset, .unset, .unset, .unset] [(.int (1 : Int32))])) (fun t k => XS.iconst X71.here hx rfl (hb hby at_59) k) ?_
              refine own_st (g' := (mkF m 64 #[.val (.int p0), .val (.int p1), .val (.int ((p0).toInt8.toInt32)), .val (.int (own_F1 ((p0).toInt8.toInt32))), .val (.int t0_24), .unset, .unset, .unset, .unset, .unset] [(.int (1 : Int32))])) (fun t k => XS.goto X71.here hx rfl (pc0 := 60) (pc' := 64) rfl (hb hby at_60) (by decide) (by decide) k) ?_
              exact J64 T71 _ (1 : Int32)  X71 e71 N71 hr73
            · have hr74 := (if_neg hc56_72).symm.trans hr70
              refine own_st (g' := (mkF m 63 #[.val (.int p0), .val (.int p1), .val (.int ((p0).toInt8.toInt32)), .val (.int (own_F1 ((p0).toInt8.toInt32))), .val (.int t0_24), .unset, .unset, .unset, .unset, .unset] [])) (fun t k => XS.icmpYes X71.here hx rfl (pc0 := 56) (pc' := 63) rfl (hb hby at_56) rfl (feq hc56_72).2 (by decide) (by decide) k) ?_
              refine own_st (g' := (mkF m 64 #[.val (.int p0), .val (.int p1), .val (.int ((p0).toInt8.toInt32)), .val (.int (own_F1 ((p0).toInt8.toInt32))), .val (.int t0_24), .unset, .unset, .unset, .unset, .unset] [(.int (0 : Int32))])) (fun t k => XS.iconst X71.here hx rfl (hb hby at_63) k) ?_
              exact J64 T71 _ (0 : Int32)  X71 e71 N71 hr74
  by_cases hc10_75 : (own_F1 ((p0).toInt8.toInt32)) < (-1 : Int32)
  · have hr76 := (if_pos hc10_75).symm.trans hr0
    refine own_st (g' := (mkF m 23 #[.val (.int p0), .val (.int p1), .val (.int ((p0).toInt8.toInt32)), .val (.int (own_F1 ((p0).toInt8.toInt32))), .unset, .unset, .unset, .unset, .unset, .unset] [])) (fun t k => XS.icmpYes X35.here hx rfl (pc0 := 10) (pc' := 23) rfl (hb hby at_10) rfl (tlt hc10_75).1 (by decide) (by decide) k) ?_
    refine own_st (g' := (mkF m 24 #[.val (.int p0), .val (.int p1), .val (.int ((p0).toInt8.toInt32)), .val (.int (own_F1 ((p0).toInt8.toInt32))), .unset, .unset, .unset, .unset, .unset, .unset] [(.int (0 : Int32))])) (fun t k => XS.iconst X35.here hx rfl (hb hby at_23) k) ?_
    exact J24 T35 _ (0 : Int32)  X35 e35 N35 hr76
  · have hr77 := (if_neg hc10_75).symm.trans hr0
    refine own_st (g' := (mkF m 13 #[.val (.int p0), .val (.int p1), .val (.int ((p0).toInt8.toInt32)), .val (.int (own_F1 ((p0).toInt8.toInt32))), .unset, .unset, .unset, .unset, .unset, .unset] [])) (fun t k => XS.icmpNo X35.here hx rfl (hb hby at_10) rfl (flt hc10_75).1 k) ?_
    refine own_st (g' := (mkF m 14 #[.val (.int p0), .val (.int p1), .val (.int ((p0).toInt8.toInt32)), .val (.int (own_F1 ((p0).toInt8.toInt32))), .unset, .unset, .unset, .unset, .unset, .unset] [(.int (own_F1 ((p0).toInt8.toInt32)))])) (fun t k => XS.iloadN X35.here hx rfl (hb hby at_13) rfl  k) ?_
    refine own_st (g' := (mkF m 16 #[.val (.int p0), .val (.int p1), .val (.int ((p0).toInt8.toInt32)), .val (.int (own_F1 ((p0).toInt8.toInt32))), .unset, .unset, .unset, .unset, .unset, .unset] [(.int (15 : Int32)), (.int (own_F1 ((p0).toInt8.toInt32)))])) (fun t k => XS.bipush X35.here hx rfl (hb hby at_14) k) ?_
    by_cases hc16_78 : (15 : Int32) < (own_F1 ((p0).toInt8.toInt32))
    · have hr79 := (if_pos hc16_78).symm.trans hr77
      refine own_st (g' := (mkF m 23 #[.val (.int p0), .val (.int p1), .val (.int ((p0).toInt8.toInt32)), .val (.int (own_F1 ((p0).toInt8.toInt32))), .unset, .unset, .unset, .unset, .unset, .unset] [])) (fun t k => XS.icmpYes X35.here hx rfl (pc0 := 16) (pc' := 23) rfl (hb hby at_16) rfl (tlt hc16_78).2.2.1 (by decide) (by decide) k) ?_
      refine own_st (g' := (mkF m 24 #[.val (.int p0), .val (.int p1), .val (.int ((p0).toInt8.toInt32)), .val (.int (own_F1 ((p0).toInt8.toInt32))), .unset, .unset, .unset, .unset, .unset, .unset] [(.int (0 : Int32))])) (fun t k => XS.iconst X35.here hx rfl (hb hby at_23) k) ?_
      exact J24 T35 _ (0 : Int32)  X35 e35 N35 hr79
    · have hr80 := (if_neg hc16_78).symm.trans hr77
      refine own_st (g' := (mkF m 19 #[.val (.int p0), .val (.int p1), .val (.int ((p0).toInt8.toInt32)), .val (.int (own_F1 ((p0).toInt8.toInt32))), .unset, .unset, .unset, .unset, .unset, .unset] [])) (fun t k => XS.icmpNo X35.here hx rfl (hb hby at_16) rfl (flt hc16_78).2.2.1 k) ?_
      refine own_st (g' := (mkF m 20 #[.val (.int p0), .val (.int p1), .val (.int ((p0).toInt8.toInt32)), .val (.int (own_F1 ((p0).toInt8.toInt32))), .unset, .unset, .unset, .unset, .unset, .unset] [(.int (1 : Int32))])) (fun t k => XS.iconst X35.here hx rfl (hb hby at_19) k) ?_
      refine own_st (g' := (mkF m 24 #[.val (.int p0), .val (.int p1), .val (.int ((p0).toInt8.toInt32)), .val (.int (own_F1 ((p0).toInt8.toInt32))), .unset, .unset, .unset, .unset, .unset, .unset] [(.int (1 : Int32))])) (fun t k => XS.goto X35.here hx rfl (pc0 := 20) (pc' := 24) rfl (hb hby at_20) (by decide) (by decide) k) ?_
      exact J24 T35 _ (1 : Int32)  X35 e35 N35 hr80
/-! ## The plain law -/
theorem own_n1 : nar .boolean (1 : Int32) = 1 := by decide
theorem own_low (b : Int32) (h1 : -128 ≤ b.toInt) (h2 : b.toInt < 128) : -1 ≤ (own_F1 b).toInt ∧ (own_F1 b).toInt ≤ 15 := by
  have e1 := c_isub b 48; have e2 := c_isub b 97; have e3 := c_iadd (b - 97) 10; have e4 := c_isub b 65; have e5 := c_iadd (b - 65) 10
  have r1 := Int32.toInt_lt (b - 48); have r2 := Int32.le_toInt (b - 48)
  have r3 := Int32.toInt_lt (b - 97 + 10); have r4 := Int32.le_toInt (b - 97 + 10)
  have r5 := Int32.toInt_lt (b - 65 + 10); have r6 := Int32.le_toInt (b - 65 + 10)
  simp only [Int32.reduceToInt] at e1 e2 e3 e4 e5
  simp only [own_F1, own_f1_17, own_f1_37, Int32.lt_iff_toInt_lt, Int32.reduceToInt]
  (repeat' split) <;> first | (constructor <;> omega) | decide
theorem own_spell : ∀ i : Fin 256, (own_F1 ((Int8.ofBitVec (BitVec.ofFin i)).toInt32) = -1 ∨ ((Int8.ofBitVec (BitVec.ofFin i)).toInt32) = own_F2 (own_F1 ((Int8.ofBitVec (BitVec.ofFin i)).toInt32)) 0 ∨ ((Int8.ofBitVec (BitVec.ofFin i)).toInt32) = own_F2 (own_F1 ((Int8.ofBitVec (BitVec.ofFin i)).toInt32)) 1) := by decide +kernel
theorem own_spelled (x : Int8) : own_F1 x.toInt32 = -1 ∨ x.toInt32 = own_F2 (own_F1 x.toInt32) 0 ∨ x.toInt32 = own_F2 (own_F1 x.toInt32) 1 := own_spell x.toBitVec.toFin
theorem own_round : ∀ i : Fin 16, own_F1 (own_F2 (Int32.ofInt (i.val : Int)) 0) = Int32.ofInt (i.val : Int) ∧ own_F1 (own_F2 (Int32.ofInt (i.val : Int)) 1) = Int32.ofInt (i.val : Int) := by decide +kernel
theorem own_rounds (y : Int32) : own_F1 (own_F2 (y &&& 15) 0) = y &&& 15 ∧ own_F1 (own_F2 (y &&& 15) 1) = y &&& 15 := by
  have e := c_mask y 15 4 (by decide) (by decide)
  have q : ((y &&& 15).toInt.toNat : Int) = (y &&& 15).toInt := Int.toNat_of_nonneg (by omega)
  have r := own_round ⟨(y &&& 15).toInt.toNat, by omega⟩
  rw [show Int32.ofInt ((((⟨(y &&& 15).toInt.toNat, by omega⟩ : Fin 16).val : Nat) : Int)) = y &&& 15 by rw [q]; exact Int32.ofInt_toInt _] at r
  exact r
theorem own_111 (x y t : Int32) : own_f0_111 x y 1 1 t 1 = 1 := by
  rw [own_f0_111_eq, if_neg (by decide), if_neg (by decide), if_neg (by decide), own_f0_133_eq, own_n1]
theorem own_64 (x y : Int32) : own_f0_64 x y 1 1 = 1 := by
  rw [own_f0_64_eq]; split <;> rw [own_f0_85_eq]
  · rw [if_pos (own_rounds y).1, own_111]
  · rw [if_pos (own_rounds y).2, own_111]
theorem own_law (p0 p1 : Int32) : own_F0 p0 p1 = 1 := by
  have hb := c_i2b p0
  obtain ⟨l1, l2⟩ := own_low p0.toInt8.toInt32 hb.2.1 hb.2.2
  have hs := own_spelled p0.toInt8
  have k1 : ¬ own_F1 p0.toInt8.toInt32 < (-1 : Int32) := fun z => by have := Int32.lt_iff_toInt_lt.mp z; rw [show (-1 : Int32).toInt = -1 from by decide] at this; omega
  have k2 : ¬ (15 : Int32) < own_F1 p0.toInt8.toInt32 := fun z => by have := Int32.lt_iff_toInt_lt.mp z; rw [show (15 : Int32).toInt = 15 from by decide] at this; omega
  rw [own_F0_eq, if_neg k1, if_neg k2, own_f0_24_eq]
  by_cases q1 : own_F1 p0.toInt8.toInt32 = (-1 : Int32)
  · rw [if_pos q1]; exact own_64 _ _
  · have k3 : ¬ own_F1 p0.toInt8.toInt32 < (0 : Int32) := fun z => by
      have := Int32.lt_iff_toInt_lt.mp z; rw [show (0 : Int32).toInt = 0 from by decide] at this
      exact q1 (Int32.toInt_inj.mp (by rw [show (-1 : Int32).toInt = -1 from by decide]; omega))
    rw [if_neg q1, if_neg k3, if_neg k2]
    rcases hs with hs | hs | hs
    · exact absurd hs q1
    · rw [if_pos hs]; exact own_64 _ _
    · split
      · exact own_64 _ _
      · first | exact own_64 _ _ | (rw [if_pos hs]; exact own_64 _ _)

set_option maxRecDepth 65536 in
set_option maxHeartbeats 40000000 in
theorem comes_1 {Post : Tables → Env → Array Value → State → Outcome → State → Prop} (hpost : ∀ tb e args s v u, (limb_1_1.after args s (.returned v) u = true ∧ limb_1_2.after args s (.returned v) u = true ∧ True) → FrameEnd s (.returned v) u (Jvm.fieldLocs frame_1_writes args s ++ Jvm.arrayLocs frame_1_arrays args s ++ Jvm.staticLocs frame_1_statics s) 0 0 → Post tb e args s (.returned v) u) :
    ArmFor flags0 classFile x code maxLocals ret World_1 tables_1 room_1 Calls_1 rest_1 Pre_1 Post := by
  intro l hfl _ _ p e ha hc hk s m args below hf hA hF happ hP
  obtain ⟨hcalls, hrest, hpre⟩ := hP
  obtain ⟨-, -, -, hnamed, -, -, -, hat⟩ := (Spec.applies_iff hf).mp happ
  obtain ⟨hg, hn⟩ := and_e (Cond.before_iff.mp (show (Jvm.Cond.and given_1 narrow_1).before args s = true from hpre))
  obtain ⟨hg0, hq0⟩ := and_e hg
  obtain ⟨ha0, hq1⟩ := and_e hq0
  have ha1 := hq1
  obtain ⟨w0, w1, rfl⟩ : ∃ w0 w1 : Value, args = #[w0, w1] := by
    have hs : args.size = 2 := by simpa [Cond.value, given_1] using hg0
    obtain ⟨L⟩ := args
    match L, hs with
    | [w0, w1], _ => exact ⟨w0, w1, rfl⟩
  have hw := fun d (hd : d ∈ tables_1) => atoms_spec (ws := Jvm.Cond.code x code maxLocals ret :: tables_1) hat d (List.mem_cons_of_mem _ hd)
  obtain ⟨i0, ei0⟩ := is_v ha0
  obtain rfl : w0 = (.int i0) := Option.some.inj ei0
  obtain ⟨i1, ei1⟩ := is_v ha1
  obtain rfl : w1 = (.int i1) := Option.some.inj ei1
  obtain ⟨n, o, h1, h2, h3, _, L, rfl, ⟨rfl, N⟩, hq⟩ := rm0 l s _ hw tables_1 i0 i1 s.heap s.heap.size (Nat.le_refl _) (own_law i0 i1) p e ha hc hk s m _ below hf ((Spec.applies_iff_loose hf).mp happ).1 ⟨rfl, State.Warmed39.refl s, rfl⟩ trivial
  refine ⟨n, _, h1, h2, h3, hpost _ _ _ _ _ _ ⟨Cond.after_iff.mpr rfl, Cond.after_iff.mpr (eq_i res_at (Term.int_eval (1)) rfl), trivial⟩ ⟨hq.1, hq.2.1, (hq.2.2.sift fun y hy => Or.inr (N y hy)).mono (by decide) (by decide)⟩⟩
theorem main_1_1 : Claimed_1_1 := comes_1 fun _ _ _ _ _ _ h hF => ⟨h.1, hF⟩
theorem main_1_2 : Claimed_1_2 := comes_1 fun _ _ _ _ _ _ h hF => ⟨h.2.1, hF⟩
end Jvm.Pilot.@@N@@
namespace Jvm.Pilot.@@N@@
open Jvm Jvm.ClassFile Sem Op Lib Jvm.Free Jvm.Stand Jvm.Pilot.@@N@@.Jvm.D
/-! MADE BY PROGRAM (witnessworld.py) out of the Statement's table words and the real class files: 9 classes; the members and pool entries that the words name. The judged class is class 1, her method 2. -/
namespace start1
open Jvm.ClassFile
def u (s : String) : CpInfo := .utf8 (stringToUtf16 s)
/-- a pool by its gaps: so many unusable entries, then the entry; so many at the end -/
def gap : Nat → List CpInfo → List CpInfo
  | 0, r => r
  | n + 1, r => .unusable :: gap n r
def poolList (es : List (Nat × CpInfo)) (last : Nat) : List CpInfo := es.foldr (fun e r => gap e.1 (e.2 :: r)) (gap last [])
def pool (es : List (Nat × CpInfo)) (last : Nat) : Array CpInfo := ⟨poolList es last⟩
def fileOf (pool : Array CpInfo) (this : Nat) (attrs : Array Attribute := #[]) (ms : Array MethodInfo := #[]) (fl : Nat := 33) (sup : Nat := 0) (ifs : Array Nat := #[]) (fds : Array FieldInfo := #[]) : ClassFile where
  minorVersion := 0
  majorVersion := 65
  constantPool := pool
  accessFlags := fl
  thisClass := this
  superClass := sup
  interfaces := ifs
  fields := fds
  methods := ms
  attributes := attrs
def plain (name : String) (sup : Option ClassId) : Class where
  name := name
  kind := .ordinary
  loader := none
  accessFlags := 33
  super := sup
  interfaces := #[]
  cf := none
  fields := #[]
  methods := #[]
  instanceTypes := #[]
  staticTypes := #[]
  resolved := #[]
  callSites := []
  init := .initialized
  statics := none
  mirror := none

def pool0 : Array CpInfo := pool [(5, u "<init>"), (0, u "()V"), (1, .class_ 10), (1, u "java/lang/Object")] 113

def k0m0 : Method := { name := "<init>", desc := "()V", sig := { parameters := [], returnType := none }, accessFlags := 1, code := none }
/-- java/lang/Object -/
def k0 : Class := { plain "java/lang/Object" none with
  accessFlags := 33
  interfaces := #[]
  cf := some (fileOf pool0 8 #[] #[{ accessFlags := 1, nameIndex := 5, descriptorIndex := 6, attributes := #[] }] 33 0 #[] #[])
  fields := #[]
  methods := #[k0m0]
  instanceTypes := #[]
  staticTypes := #[]
  resolved := Array.replicate 124 none
  statics := none }

def pool1 : Array CpInfo := pool [(2, .class_ 4), (1, u "java/lang/Object"), (0, u "<init>"), (0, u "()V"), (0, .methodref 8 9), (0, .class_ 10), (0, .nameAndType 11 12), (0, u "com/example/dehull/dehull/url/PercentCoding"), (0, u "hexValue"), (0, u "(B)I"), (0, .methodref 14 15), (0, .class_ 16), (0, .nameAndType 17 18), (0, u "com/example/dehull/dehull/url/PercentCodingHexValuePinLaw"), (0, u "digitChar"), (0, u "(IZ)B"), (3, u "law"), (0, u "(II)Z")] 2

def k1m0 : Method := { name := "<init>", desc := "()V", sig := { parameters := [], returnType := none }, accessFlags := 2, code := none }
def k1c1 : Code := { maxStack := 3, maxLocals := 2, code := method_2_code, exceptionTable := #[], attributes := #[] }
def k1m1 : Method := { name := "digitChar", desc := "(IZ)B", sig := { parameters := [.int, .boolean], returnType := some .byte }, accessFlags := 10, code := some k1c1 }
def k1c2 : Code := { maxStack := 3, maxLocals := 10, code := code, exceptionTable := #[], attributes := #[] }
def k1m2 : Method := { name := "law", desc := "(II)Z", sig := { parameters := [.int, .int], returnType := some .boolean }, accessFlags := 9, code := some k1c2 }
/-- com/example/dehull/dehull/url/PercentCodingHexValuePinLaw -/
def k1 : Class := { plain "com/example/dehull/dehull/url/PercentCodingHexValuePinLaw" (some 0) with
  accessFlags := 49
  interfaces := #[]
  cf := some (fileOf pool1 14 #[] #[{ accessFlags := 2, nameIndex := 5, descriptorIndex := 6, attributes := #[] }, { accessFlags := 10, nameIndex := 17, descriptorIndex := 18, attributes := #[] }, { accessFlags := 9, nameIndex := 22, descriptorIndex := 23, attributes := #[] }] 49 2 #[] #[])
  fields := #[]
  methods := #[k1m0, k1m1, k1m2]
  instanceTypes := #[]
  staticTypes := #[]
  resolved := Array.replicate 26 none
  statics := none }

def pool2 : Array CpInfo := pool [(2, .class_ 4), (1, u "java/lang/Object"), (0, u "<init>"), (0, u "()V"), (1, .class_ 10), (1, u "com/example/dehull/dehull/url/PercentCoding"), (0, u "hexValue"), (0, u "(B)I"), (25, u "UPPER_HEX"), (0, u "[C")] 20

def k2m0 : Method := { name := "<init>", desc := "()V", sig := { parameters := [], returnType := none }, accessFlags := 2, code := none }
def k2c1 : Code := { maxStack := 2, maxLocals := 1, code := prog_67_method_5_code, exceptionTable := #[], attributes := #[] }
def k2m1 : Method := { name := "hexValue", desc := "(B)I", sig := { parameters := [.byte], returnType := some .int }, accessFlags := 8, code := some k2c1 }
/-- com/example/dehull/dehull/url/PercentCoding -/
def k2 : Class := { plain "com/example/dehull/dehull/url/PercentCoding" (some 0) with
  accessFlags := 48
  interfaces := #[]
  cf := some (fileOf pool2 8 #[] #[{ accessFlags := 2, nameIndex := 5, descriptorIndex := 6, attributes := #[] }, { accessFlags := 8, nameIndex := 11, descriptorIndex := 12, attributes := #[] }] 48 2 #[] #[{ accessFlags := 26, nameIndex := 38, descriptorIndex := 39, attributes := #[] }])
  fields := #[{ name := "UPPER_HEX", type := (.array .char), accessFlags := 26, slot := 0, constantValue := 0 }]
  methods := #[k2m0, k2m1]
  instanceTypes := #[]
  staticTypes := #[(.array .char)]
  resolved := Array.replicate 60 none
  statics := none }

def pool3 : Array CpInfo := pool [(1, u "java/lang/Cloneable"), (0, .class_ 1), (0, u "java/lang/Object"), (0, .class_ 3)] 3

/-- java/lang/Cloneable -/
def k3 : Class := { plain "java/lang/Cloneable" (some 0) with
  accessFlags := 1537
  interfaces := #[]
  cf := some (fileOf pool3 2 #[] #[] 1537 4 #[] #[])
  fields := #[]
  methods := #[]
  instanceTypes := #[]
  staticTypes := #[]
  resolved := Array.replicate 8 none
  statics := none }

def pool4 : Array CpInfo := pool [(1, u "java/io/Serializable"), (0, .class_ 1), (0, u "java/lang/Object"), (0, .class_ 3)] 3

/-- java/io/Serializable -/
def k4 : Class := { plain "java/io/Serializable" (some 0) with
  accessFlags := 1537
  interfaces := #[]
  cf := some (fileOf pool4 2 #[] #[] 1537 4 #[] #[])
  fields := #[]
  methods := #[]
  instanceTypes := #[]
  staticTypes := #[]
  resolved := Array.replicate 8 none
  statics := none }

/-- the primitive byte -/
def k5 : Class := { plain "byte" none with kind := .primitive 'B', accessFlags := 0x411 }
/-- [B -/
def k6 : Class := { plain "[B" (some 0) with kind := .array 5 .byte, interfaces := #[3, 4], accessFlags := 1041 }

/-- the primitive int -/
def k7 : Class := { plain "int" none with kind := .primitive 'I', accessFlags := 0x411 }
/-- [I -/
def k8 : Class := { plain "[I" (some 0) with kind := .array 7 .int, interfaces := #[3, 4], accessFlags := 1041 }

def heap : Heap := #[]
def classes : Array Class := #[k0, k1, k2, k3, k4, k5, k6, k7, k8]
def interned : List (Array UInt16 × Addr) := []
def slotsUsed : Nat := 0
def theMethod : MethodId := ⟨1, 2⟩
def args0 : Array Value := #[.int 5, .int 5]
def aboutOver (below : List Frame) : State where
  vm := { classes := classes, interned := interned.toArray }
  heap := heap
  slotsUsed := slotsUsed
  threads := #[{ frames := .invoking theMethod args0 :: below }]
def below0 : List Frame := [.native { method := ⟨0, 0⟩, args := #[] }]
def about1 : State := aboutOver below0
def p0 : Program := .bare "" "" ""
def e0 : Env := launch0.env 0 0 0
theorem w_frames : about1.frames = Frame.invoking theMethod args0 :: below0 := rfl
set_option maxRecDepth 65536 in
theorem w_args : argsFit about1.vm theMethod args0 = true := by decide +kernel
set_option maxRecDepth 65536 in
theorem w_heap : heapFits about1 = true := by decide +kernel
set_option maxRecDepth 65536 in
theorem w_runnable : about1.curStatus? = some .runnable := by decide +kernel
set_option maxRecDepth 65536 in
theorem w_alone : about1.alone = true := by decide +kernel
set_option maxRecDepth 65536 in
theorem w_named : about1.methodNamed? x = some theMethod := by decide +kernel
set_option maxRecDepth 65536 in
theorem w_hears : about1.hears theMethod below0 = true := by decide +kernel
set_option maxRecDepth 65536 in
theorem w_ripe : about1.ripe theMethod args0 below0 = true := by decide +kernel
theorem w_running : about1.status = .running := rfl
set_option maxRecDepth 65536 in
theorem w_room : about1.hasRoom e0.platform room_1 = true :=
  launch0.hasRoom_least _ room_1 (by decide +kernel) (by decide +kernel) (by decide +kernel) (by decide +kernel) (by decide +kernel) (by decide +kernel)
theorem allAtoms_all (ts : List Jvm.Cond) (a : Array Jvm.Value) (st : Jvm.State) : (allAtoms ts).before a st = ts.all (fun c => c.before a st) := by
  induction ts with
  | nil => rfl
  | cons c t ih =>
    show (Jvm.Cond.and c (allAtoms t)).before a st = _
    rw [Jvm.Cond.before_and, ih, List.all_cons]
def words1 : List Jvm.Cond := Jvm.Cond.code x code maxLocals ret :: tables_1
/-- a 'code' word, met by the world's own term for the bytes: nothing is compared byte by byte -/
theorem code_word {y : MethodName} {bytes : ByteArray} {mx : Nat} {rt : Option FieldType} {a : Array Value} {s : State} {m : MethodId} {meth : Method} {c : Code} (h1 : s.methodNamed? y = some m) (h2 : s.vm.method? m = some meth) (h3 : meth.code = some c) (h4 : c.code = bytes)
    (h5 : (c.maxLocals == mx && c.exceptionTable.isEmpty && decide (c.maxStack ≤ mostOperands) && decide (meth.sig.returnType = rt) && !meth.locks && decide (parseMethodDescriptor y.desc = some meth.sig)) = true) : (Jvm.Cond.code y bytes mx rt).before a s = true := by
  simp only [Bool.and_eq_true, beq_iff_eq, Bool.not_eq_true', decide_eq_true_eq] at h5
  obtain ⟨⟨⟨⟨⟨g1, g2⟩, g3⟩, g4⟩, g5⟩, g6⟩ := h5
  simp [Cond.before, Cond.holds, Cond.value, h1, h2, h3, h4, g1, g2, g3, g4, g5, g6]
def isCode : Jvm.Cond → Bool
  | .code _ _ _ _ => true
  | _ => false
theorem all_split {L : List Jvm.Cond} {P : Jvm.Cond → Bool} (h1 : L.all (fun c => isCode c || P c) = true) (h2 : ∀ c ∈ L.filter isCode, P c = true) : L.all P = true := by
  refine List.all_eq_true.mpr fun c hc => ?_
  have h := List.all_eq_true.mp h1 c hc
  rcases Bool.eq_false_or_eq_true (isCode c) with hi | hi
  · exact h2 c (List.mem_filter.mpr ⟨hc, hi⟩)
  · simpa [hi] using h
set_option maxRecDepth 65536 in
theorem w_c0 : (Jvm.Cond.code x code maxLocals ret).before args0 about1 = true := code_word (m := ⟨1, 2⟩) (meth := k1m2) (c := k1c2) (by decide +kernel) rfl rfl rfl (by decide +kernel)
set_option maxRecDepth 65536 in
theorem w_c1 : (Jvm.Cond.code ({ cls := "com/example/dehull/dehull/url/PercentCoding", name := "hexValue", desc := "(B)I" } : Jvm.MethodName) prog_67_method_5_code (1 : Nat) (Option.some Jvm.ClassFile.FieldType.int)).before args0 about1 = true := code_word (m := ⟨2, 1⟩) (meth := k2m1) (c := k2c1) (by decide +kernel) rfl rfl rfl (by decide +kernel)
set_option maxRecDepth 65536 in
theorem w_c2 : (Jvm.Cond.code ({ cls := "com/example/dehull/dehull/url/PercentCodingHexValuePinLaw", name := "digitChar", desc := "(IZ)B" } : Jvm.MethodName) method_2_code (2 : Nat) (Option.some Jvm.ClassFile.FieldType.byte)).before args0 about1 = true := code_word (m := ⟨1, 1⟩) (meth := k1m1) (c := k1c1) (by decide +kernel) rfl rfl rfl (by decide +kernel)
def codes1 : List Jvm.Cond := [Jvm.Cond.code x code maxLocals ret, Jvm.Cond.code ({ cls := "com/example/dehull/dehull/url/PercentCoding", name := "hexValue", desc := "(B)I" } : Jvm.MethodName) prog_67_method_5_code (1 : Nat) (Option.some Jvm.ClassFile.FieldType.int), Jvm.Cond.code ({ cls := "com/example/dehull/dehull/url/PercentCodingHexValuePinLaw", name := "digitChar", desc := "(IZ)B" } : Jvm.MethodName) method_2_code (2 : Nat) (Option.some Jvm.ClassFile.FieldType.byte)]
set_option maxRecDepth 65536 in
theorem codes_eq : words1.filter isCode = codes1 := rfl
theorem w_codes : ∀ c ∈ words1.filter isCode, c.before args0 about1 = true := by
  rw [codes_eq]
  intro c hc
  simp only [codes1, List.mem_cons, List.not_mem_nil, or_false] at hc
  rcases hc with rfl | rfl | rfl
  · exact w_c0
  · exact w_c1
  · exact w_c2
set_option maxRecDepth 65536 in
theorem w_t1 : words1.all (fun c => isCode c || c.before args0 about1) = true := by decide +kernel
theorem w_tables : (allAtoms (Jvm.Cond.code x code maxLocals ret :: tables_1)).before args0 about1 = true := by
  rw [allAtoms_all]
  show words1.all (fun c => c.before args0 about1) = true
  refine all_split ?_ w_codes
  rw [w_t1]
set_option maxRecDepth 65536 in
theorem w_case : (Jvm.Cond.and given_1 narrow_1).before args0 about1 = true := by decide +kernel
theorem w_applies : (headSpec (Jvm.Cond.code x code maxLocals ret :: tables_1) room_1).applies x e0.platform about1 = true :=
  (Spec.applies_iff w_frames).mpr ⟨w_running, w_runnable, w_alone, w_named, w_hears, w_ripe, w_room, w_tables⟩
theorem atStart : AtStart classFile x code maxLocals ret World_1 tables_1 room_1 Calls_1 rest_1 Pre_1 launch0 p0 e0 about1 theMethod args0 below0 :=
  ⟨lists_1, trivial, launch0.admits_env _ _ _, launch0.least_env, fairChoices_fair.cas, fairChoices_fair.clock, w_frames, w_args, w_heap, w_applies, trivial, trivial, w_case⟩
end start1
theorem witness_1 : WitnessClaimed_1 := ⟨start1.p0, start1.e0, start1.about1, start1.theMethod, start1.args0, start1.below0, start1.atStart⟩
end Jvm.Pilot.@@N@@
