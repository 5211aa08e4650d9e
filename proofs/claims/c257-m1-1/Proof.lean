import JvmDerived
import JvmDerived.Pilot.@@N@@Statement
import JvmDerived.Pilot.@@N@@Code
set_option linter.unusedVariables false
set_option linter.unusedSimpArgs false

namespace Jvm.Pilot.@@N@@
open Jvm Jvm.ClassFile Sem Op Lib Jvm.Free Jvm.Stand Jvm.LawKit Jvm.RoadKit Bundle Jvm.Pilot.@@N@@.Jvm.D
/-! ## The walk, forwards: from here the method comes to its end as Q says -/
section OwnFin
variable {p : Program} {l : Launch} {e : Env} {R : Room} {s : State} {m : MethodId} {args : Array Value} {below : List Frame} {meth : Method} {c : Code} {T T' : State} {locs : List Loc} {cells slots K N : Nat} {Q : Option Value → Heap → List Loc → Prop}
def own_Fin (p : Program) (e : Env) (below : List Frame) (s : State) (K N : Nat) (Q : Option Value → Heap → List Loc → Prop) (T : State) (g : JFrame) : Prop :=
  ∃ t o, Steps p.tables e below (T.setTop g) t ∧ t.status = .running ∧ Ended t below o ∧ ∃ v L, o = .returned v ∧ Q v t.heap L ∧ FrameEnd s o t L K N
theorem own_in {g g' : JFrame} (q : g = g') (h : own_Fin p e below s K N Q T g') : ∃ t o, Steps p.tables e below (T.setTop g) t ∧ t.status = .running ∧ Ended t below o ∧ ∃ v L, o = .returned v ∧ Q v t.heap L ∧ FrameEnd s o t L K N := q ▸ h
theorem own_st {g g' : JFrame} (h : ∀ t, Steps p.tables e below (T'.setTop g') t → Steps p.tables e below (T.setTop g) t) (k : own_Fin p e below s K N Q T' g') : own_Fin p e below s K N Q T g := by
  obtain ⟨t, o, h1, h2⟩ := k; exact ⟨t, o, h t h1, h2⟩
theorem own_end {g : JFrame} {v : Option Value} (X : Stand p l e R s m args below meth c T locs cells slots) (hl : meth.locks = false) (hv : meth.sig.returnType = none → v = none)
    (h : ∀ fs, (∀ (f : JFrame) (acts : List Action), f.method = m → f.locked = none → f.entered = [] → (doReturn e (T.setTop f) acts v).1 = T.setFrames fs) → Steps p.tables e below (T.setTop g) (T.setFrames fs)) (hQ : Q v T.heap locs) (hc : cells ≤ K) (hs : slots ≤ N) : own_Fin p e below s K N Q T g := by
  obtain ⟨fs, hr, hrun, hended, hW, hsame⟩ := X.leave (v := v) hv hl
  exact ⟨_, _, h fs hr, hrun, hended, _, _, rfl, hQ, ⟨_, rfl⟩, hW, hsame.mono hc hs⟩
theorem own_retI {pc : Nat} {Ls : Array Slot} {z : Int32} {rest : List Value} (X : Stand p l e R s m args below meth c T locs cells slots) (hx : p.tables.exec = Jvm.exec) (hret : meth.sig.returnType = some .int) (hl : meth.locks = false) (hd : decode c.code pc = .ok (.ireturn, 1)) (hQ : Q (some (.int z)) T.heap locs) (hc : cells ≤ K) (hs : slots ≤ N) :
    own_Fin p e below s K N Q T (mkF m pc Ls (.int z :: rest)) :=
  own_end X hl (fun h => by rw [hret] at h; cases h) (fun fs hr => retOut X hx hret rfl (Or.inl ⟨rfl, Or.inl rfl, z, rfl⟩) hd hr) hQ hc hs
theorem own_retN {pc : Nat} {Ls : Array Slot} {z : Int32} {t : FieldType} {rest : List Value} (X : Stand p l e R s m args below meth c T locs cells slots) (hx : p.tables.exec = Jvm.exec) (hret : meth.sig.returnType = some t) (hl : meth.locks = false) (ht : t = .boolean ∨ t = .byte ∨ t = .char ∨ t = .short) (hd : decode c.code pc = .ok (.ireturn, 1)) (hQ : Q (some (.int (nar t z))) T.heap locs) (hc : cells ≤ K) (hs : slots ≤ N) :
    own_Fin p e below s K N Q T (mkF m pc Ls (.int z :: rest)) :=
  own_end X hl (fun h => by rw [hret] at h; cases h) (fun fs hr => retN X hx hret ht hd hr) hQ hc hs
theorem own_retJ {pc : Nat} {Ls : Array Slot} {z : Int64} {rest : List Value} (X : Stand p l e R s m args below meth c T locs cells slots) (hx : p.tables.exec = Jvm.exec) (hret : meth.sig.returnType = some .long) (hl : meth.locks = false) (hd : decode c.code pc = .ok (.lreturn, 1)) (hQ : Q (some (.long z)) T.heap locs) (hc : cells ≤ K) (hs : slots ≤ N) :
    own_Fin p e below s K N Q T (mkF m pc Ls (.long z :: rest)) :=
  own_end X hl (fun h => by rw [hret] at h; cases h) (fun fs hr => retOut X hx hret rfl (Or.inr (Or.inl ⟨rfl, rfl, z, rfl⟩)) hd hr) hQ hc hs
theorem own_retA {pc : Nat} {Ls : Array Slot} {a : Addr} {t : FieldType} {rest : List Value} (X : Stand p l e R s m args below meth c T locs cells slots) (hx : p.tables.exec = Jvm.exec) (hret : meth.sig.returnType = some t) (hl : meth.locks = false) (ht : t.isReference = true) (hd : decode c.code pc = .ok (.areturn, 1)) (hQ : Q (some (.ref a)) T.heap locs) (hc : cells ≤ K) (hs : slots ≤ N) :
    own_Fin p e below s K N Q T (mkF m pc Ls (.ref a :: rest)) :=
  own_end X hl (fun h => by rw [hret] at h; cases h) (fun fs hr => retOut X hx hret (by cases t <;> first | rfl | cases ht) (Or.inr (Or.inr (Or.inr (Or.inr ⟨rfl, ht, rfl⟩)))) hd hr) hQ hc hs
theorem own_retV {pc : Nat} {Ls : Array Slot} (X : Stand p l e R s m args below meth c T locs cells slots) (hx : p.tables.exec = Jvm.exec) (hret : meth.sig.returnType = none) (hl : meth.locks = false) (hd : decode c.code pc = .ok (.return_, 1)) (hQ : Q none T.heap locs) (hc : cells ≤ K) (hs : slots ≤ N) :
    own_Fin p e below s K N Q T (mkF m pc Ls []) :=
  own_end X hl (fun _ => rfl) (fun fs hr => X.returnOut hx hret hd hr) hQ hc hs
theorem own_lremM {g : JFrame} {target : State} (X : Stand p l e R s m args below meth c T locs cells slots) (hx : p.tables.exec = Jvm.exec) (hg : g.method = m) {x y : Int64} {rest : List Value} (hd : decode c.code g.pc = .ok (.lrem, 1)) (hs : g.stack = .long y :: .long x :: rest) (hy : y ≠ 0)
    (hr : Steps p.tables e below (T.setTop { g with pc := g.pc + 1, stack := .long (x % y) :: rest }) target) : Steps p.tables e below (T.setTop g) target := by
  have q : x - x / y * y = x % y := lrem_mod x y
  exact XS.lrem X.here hx hg hd hs hy (by rw [q]; exact hr)
end OwnFin
/-- a private method is selected by its own class -/
theorem own_selp {s : State} {args : Array Value} {n : Nat} {y : MethodName} (hy : y.cls ≠ "java/lang/invoke/MethodHandle" ∧ y.cls ≠ "java/lang/invoke/VarHandle") (hins : (Jvm.Cond.instantiable y.cls n).before args s = true) (hpriv : (Jvm.Cond.privateMethod y).before args s = true) (hinst : (Jvm.Cond.instanceMethod y).before args s = true) : (Jvm.Cond.selects y.cls y y).before args s = true := by
  obtain ⟨c, k, hc, hk, -, hniab, -, -⟩ := Cond.instantiable_spec hins
  have hni : k.isInterface = false := (Bool.or_eq_false_iff.mp hniab).1
  obtain ⟨mk, methM, hnamed, hmethM, -, -⟩ := Cond.instanceMethod_spec hinst
  have hfound : s.methodFound? y.cls y.name y.desc = some mk := State.methodFound?_of_named hnamed hy
  have hcls : mk.cls = c := Option.some.inj ((findClass_of_methodNamed hnamed).symm.trans hc)
  have hsel : selectMethod {} s.vm c mk = .method mk := selectMethod_private hmethM (Cond.privateMethod_at hpriv mk methM hnamed hmethM)
  simp only [Cond.before, Cond.holds, Cond.value, hc, hfound, hnamed, hsel, hcls, hk]
  simp; exact hni

def own_f1_53 (p0 : Int32) (t0_53 : Int32) : Int32 := (nar .boolean t0_53)
theorem own_f1_53_eq (p0 : Int32) (t0_53 : Int32) : own_f1_53 p0 t0_53 = (nar .boolean t0_53) := rfl
def own_f1_36 (p0 : Int32) : Int32 := (if p0 < (97 : Int32) then (own_f1_53 p0 (1 : Int32)) else (if (122 : Int32) < p0 then (own_f1_53 p0 (1 : Int32)) else (own_f1_53 p0 (0 : Int32))))
theorem own_f1_36_eq (p0 : Int32) : own_f1_36 p0 = (if p0 < (97 : Int32) then (own_f1_53 p0 (1 : Int32)) else (if (122 : Int32) < p0 then (own_f1_53 p0 (1 : Int32)) else (own_f1_53 p0 (0 : Int32)))) := rfl
def own_f1_24 (p0 : Int32) : Int32 := (if p0 < (65 : Int32) then (own_f1_36 p0) else (if (90 : Int32) < p0 then (own_f1_36 p0) else (own_f1_53 p0 (0 : Int32))))
theorem own_f1_24_eq (p0 : Int32) : own_f1_24 p0 = (if p0 < (65 : Int32) then (own_f1_36 p0) else (if (90 : Int32) < p0 then (own_f1_36 p0) else (own_f1_53 p0 (0 : Int32)))) := rfl
def own_F1 (p0 : Int32) : Int32 := (if (32 : Int32) < p0 then (if p0 < (127 : Int32) then (if p0 < (48 : Int32) then (own_f1_24 p0) else (if (57 : Int32) < p0 then (own_f1_24 p0) else (own_f1_53 p0 (0 : Int32)))) else (own_f1_53 p0 (0 : Int32))) else (own_f1_53 p0 (0 : Int32)))
theorem own_F1_eq (p0 : Int32) : own_F1 p0 = (if (32 : Int32) < p0 then (if p0 < (127 : Int32) then (if p0 < (48 : Int32) then (own_f1_24 p0) else (if (57 : Int32) < p0 then (own_f1_24 p0) else (own_f1_53 p0 (0 : Int32)))) else (own_f1_53 p0 (0 : Int32))) else (own_f1_53 p0 (0 : Int32))) := rfl
theorem d1_0 : decode prog_107_method_2_code 0 = .ok (.iload_n 0, 1) := by decide +kernel
theorem d1_1 : decode prog_107_method_2_code 1 = .ok (.bipush 32, 2) := by decide +kernel
theorem d1_3 : decode prog_107_method_2_code 3 = .ok (.if_icmp .le 49, 3) := by decide +kernel
theorem d1_6 : decode prog_107_method_2_code 6 = .ok (.iload_n 0, 1) := by decide +kernel
theorem d1_7 : decode prog_107_method_2_code 7 = .ok (.bipush 127, 2) := by decide +kernel
theorem d1_9 : decode prog_107_method_2_code 9 = .ok (.if_icmp .ge 43, 3) := by decide +kernel
theorem d1_12 : decode prog_107_method_2_code 12 = .ok (.iload_n 0, 1) := by decide +kernel
theorem d1_13 : decode prog_107_method_2_code 13 = .ok (.bipush 48, 2) := by decide +kernel
theorem d1_15 : decode prog_107_method_2_code 15 = .ok (.if_icmp .lt 9, 3) := by decide +kernel
theorem d1_18 : decode prog_107_method_2_code 18 = .ok (.iload_n 0, 1) := by decide +kernel
theorem d1_19 : decode prog_107_method_2_code 19 = .ok (.bipush 57, 2) := by decide +kernel
theorem d1_21 : decode prog_107_method_2_code 21 = .ok (.if_icmp .le 31, 3) := by decide +kernel
theorem d1_24 : decode prog_107_method_2_code 24 = .ok (.iload_n 0, 1) := by decide +kernel
theorem d1_25 : decode prog_107_method_2_code 25 = .ok (.bipush 65, 2) := by decide +kernel
theorem d1_27 : decode prog_107_method_2_code 27 = .ok (.if_icmp .lt 9, 3) := by decide +kernel
theorem d1_30 : decode prog_107_method_2_code 30 = .ok (.iload_n 0, 1) := by decide +kernel
theorem d1_31 : decode prog_107_method_2_code 31 = .ok (.bipush 90, 2) := by decide +kernel
theorem d1_33 : decode prog_107_method_2_code 33 = .ok (.if_icmp .le 19, 3) := by decide +kernel
theorem d1_36 : decode prog_107_method_2_code 36 = .ok (.iload_n 0, 1) := by decide +kernel
theorem d1_37 : decode prog_107_method_2_code 37 = .ok (.bipush 97, 2) := by decide +kernel
theorem d1_39 : decode prog_107_method_2_code 39 = .ok (.if_icmp .lt 9, 3) := by decide +kernel
theorem d1_42 : decode prog_107_method_2_code 42 = .ok (.iload_n 0, 1) := by decide +kernel
theorem d1_43 : decode prog_107_method_2_code 43 = .ok (.bipush 122, 2) := by decide +kernel
theorem d1_45 : decode prog_107_method_2_code 45 = .ok (.if_icmp .le 7, 3) := by decide +kernel
theorem d1_48 : decode prog_107_method_2_code 48 = .ok (.iconst 1, 1) := by decide +kernel
theorem d1_49 : decode prog_107_method_2_code 49 = .ok (.goto 4, 3) := by decide +kernel
theorem d1_52 : decode prog_107_method_2_code 52 = .ok (.iconst 0, 1) := by decide +kernel
theorem d1_53 : decode prog_107_method_2_code 53 = .ok (.ireturn, 1) := by decide +kernel
theorem pn_1 : plainName "com/example/labrelay/labrelay/model/Delimiters" = true := by first | (simp [plainName, overriddenIn]; done) | decide +kernel
theorem ef_1 (m : MethodId) (x0 : Int32) : entryFrame m #[(.int x0)] 1 = mkF m 0 #[.val (.int x0)] [] := by first | (simp [entryFrame, mkF, argsToLocals, Value.category]; done) | rfl
def Q1 (Z : State) (p0 : Int32) (h0 : Heap) (n0 : Nat) (v : Option Value) (h : Heap) (L : List Loc) : Prop := v = some (.int (own_F1 p0)) ∧ Fr n0 L ∧ h = h0
set_option maxRecDepth 65536 in
set_option maxHeartbeats 40000000 in
theorem rm1 (l : Launch) (Z : State) (a0 : Array Value) (hw : ∀ d ∈ tables_1, d.before a0 Z = true) (ws : List Jvm.Cond) (p0 : Int32) (h0 : Heap) (n0 : Nat) (Z0 : n0 ≤ h0.size) :
    MetFree l (⟨"com/example/labrelay/labrelay/model/Delimiters", "canSeparate", "(C)Z"⟩ : MethodName) (head1 (Jvm.Cond.code (⟨"com/example/labrelay/labrelay/model/Delimiters", "canSeparate", "(C)Z"⟩ : MethodName) prog_107_method_2_code 1 (some .boolean) :: ws) ({ frames := 0, cells := 0, slots := 0, locals := 0 } : Room)) (fun a U => a = #[(.int p0)] ∧ Z.Warmed39 U.vm ∧ U.heap = h0) (fun _ _ _ _ _ => True) (fun _ U o U' => ∃ v L, o = .returned v ∧ Q1 Z p0 h0 n0 v U'.heap L ∧ FrameEnd U o U' L ({ frames := 0, cells := 0, slots := 0, locals := 0 } : Room).cells ({ frames := 0, cells := 0, slots := 0, locals := 0 } : Room).slots) := by
  refine MetFree.of_bodySF (plainFor_of_name pn_1) hisR ?_
  intro p e s m args below meth c s₁ Bd hml0 hP hK
  obtain ⟨rfl, hZ, hh⟩ := hP
  have hx := Bd.exec
  have hby := Bd.bytes
  have hml : c.maxLocals = 1 := hml0
  have hown : s.vm.findClass "com/example/labrelay/labrelay/model/Delimiters" = some m.cls := findClass_of_methodNamed Bd.named
  have hnm := (name_of_methodNamed Bd.named Bd.method).1
  have X0 : Stand p l e ({ frames := 0, cells := 0, slots := 0, locals := 0 } : Room) s m #[(.int p0)] below meth c s₁ [] 0 0 := Stand.of_body Bd
  have e0 : s₁.heap = h0 := by rw [← hh, Bd.state]; rfl
  have N0 := Fr.nil n0
  refine own_in (ef_1 m p0) ?_
  have hr0 := (own_F1_eq p0).symm
  refine own_st (g' := (mkF m 1 #[.val (.int p0)] [(.int p0)])) (fun t k => XS.iloadN X0.here hx rfl (hb hby d1_0) rfl  k) ?_
  refine own_st (g' := (mkF m 3 #[.val (.int p0)] [(.int (32 : Int32)), (.int p0)])) (fun t k => XS.bipush X0.here hx rfl (hb hby d1_1) k) ?_
  have J53 : ∀ (T : State) (locs : List Loc) (t0_53 : Int32), Stand p l e ({ frames := 0, cells := 0, slots := 0, locals := 0 } : Room) s m #[(.int p0)] below meth c T locs 0 0 → T.heap = h0 → Fr n0 locs → own_f1_53 p0 t0_53 = own_F1 p0 → own_Fin p e below s ({ frames := 0, cells := 0, slots := 0, locals := 0 } : Room).cells ({ frames := 0, cells := 0, slots := 0, locals := 0 } : Room).slots (Q1 Z p0 h0 n0) T (mkF m 53 #[.val (.int p0)] [(.int t0_53)]) := by
    intro T17 locs17 t0_53  X17 e17 N17 hr17
    have hr17a := (own_f1_53_eq (p0) (t0_53)).symm.trans hr17
    exact own_retN (t := .boolean) X17 hx Bd.returns Bd.notSynchronized (by simp) (hb hby d1_53) ⟨congrArg (fun q => some (Value.int q)) hr17a, N17, e17⟩ (by decide) (by decide)
  have J24 : ∀ (T : State) (locs : List Loc) , Stand p l e ({ frames := 0, cells := 0, slots := 0, locals := 0 } : Room) s m #[(.int p0)] below meth c T locs 0 0 → T.heap = h0 → Fr n0 locs → own_f1_24 p0 = own_F1 p0 → own_Fin p e below s ({ frames := 0, cells := 0, slots := 0, locals := 0 } : Room).cells ({ frames := 0, cells := 0, slots := 0, locals := 0 } : Room).slots (Q1 Z p0 h0 n0) T (mkF m 24 #[.val (.int p0)] []) := by
    intro T18 locs18   X18 e18 N18 hr18
    have hr18a := (own_f1_24_eq (p0)).symm.trans hr18
    refine own_st (g' := (mkF m 25 #[.val (.int p0)] [(.int p0)])) (fun t k => XS.iloadN X18.here hx rfl (hb hby d1_24) rfl  k) ?_
    refine own_st (g' := (mkF m 27 #[.val (.int p0)] [(.int (65 : Int32)), (.int p0)])) (fun t k => XS.bipush X18.here hx rfl (hb hby d1_25) k) ?_
    have J36 : ∀ (T : State) (locs : List Loc) , Stand p l e ({ frames := 0, cells := 0, slots := 0, locals := 0 } : Room) s m #[(.int p0)] below meth c T locs 0 0 → T.heap = h0 → Fr n0 locs → own_f1_36 p0 = own_F1 p0 → own_Fin p e below s ({ frames := 0, cells := 0, slots := 0, locals := 0 } : Room).cells ({ frames := 0, cells := 0, slots := 0, locals := 0 } : Room).slots (Q1 Z p0 h0 n0) T (mkF m 36 #[.val (.int p0)] []) := by
      intro T19 locs19   X19 e19 N19 hr19
      have hr19a := (own_f1_36_eq (p0)).symm.trans hr19
      refine own_st (g' := (mkF m 37 #[.val (.int p0)] [(.int p0)])) (fun t k => XS.iloadN X19.here hx rfl (hb hby d1_36) rfl  k) ?_
      refine own_st (g' := (mkF m 39 #[.val (.int p0)] [(.int (97 : Int32)), (.int p0)])) (fun t k => XS.bipush X19.here hx rfl (hb hby d1_37) k) ?_
      by_cases hc39_20 : p0 < (97 : Int32)
      · have hr21 := (if_pos hc39_20).symm.trans hr19a
        refine own_st (g' := (mkF m 48 #[.val (.int p0)] [])) (fun t k => XS.icmpYes X19.here hx rfl (pc0 := 39) (pc' := 48) rfl (hb hby d1_39) rfl (tlt hc39_20).1 (by decide) (by decide) k) ?_
        refine own_st (g' := (mkF m 49 #[.val (.int p0)] [(.int (1 : Int32))])) (fun t k => XS.iconst X19.here hx rfl (hb hby d1_48) k) ?_
        refine own_st (g' := (mkF m 53 #[.val (.int p0)] [(.int (1 : Int32))])) (fun t k => XS.goto X19.here hx rfl (pc0 := 49) (pc' := 53) rfl (hb hby d1_49) (by decide) (by decide) k) ?_
        exact J53 T19 _ (1 : Int32)  X19 e19 N19 hr21
      · have hr22 := (if_neg hc39_20).symm.trans hr19a
        refine own_st (g' := (mkF m 42 #[.val (.int p0)] [])) (fun t k => XS.icmpNo X19.here hx rfl (hb hby d1_39) rfl (flt hc39_20).1 k) ?_
        refine own_st (g' := (mkF m 43 #[.val (.int p0)] [(.int p0)])) (fun t k => XS.iloadN X19.here hx rfl (hb hby d1_42) rfl  k) ?_
        refine own_st (g' := (mkF m 45 #[.val (.int p0)] [(.int (122 : Int32)), (.int p0)])) (fun t k => XS.bipush X19.here hx rfl (hb hby d1_43) k) ?_
        by_cases hc45_23 : (122 : Int32) < p0
        · have hr24 := (if_pos hc45_23).symm.trans hr22
          refine own_st (g' := (mkF m 48 #[.val (.int p0)] [])) (fun t k => XS.icmpNo X19.here hx rfl (hb hby d1_45) rfl (tlt hc45_23).2.2.2 k) ?_
          refine own_st (g' := (mkF m 49 #[.val (.int p0)] [(.int (1 : Int32))])) (fun t k => XS.iconst X19.here hx rfl (hb hby d1_48) k) ?_
          refine own_st (g' := (mkF m 53 #[.val (.int p0)] [(.int (1 : Int32))])) (fun t k => XS.goto X19.here hx rfl (pc0 := 49) (pc' := 53) rfl (hb hby d1_49) (by decide) (by decide) k) ?_
          exact J53 T19 _ (1 : Int32)  X19 e19 N19 hr24
        · have hr25 := (if_neg hc45_23).symm.trans hr22
          refine own_st (g' := (mkF m 52 #[.val (.int p0)] [])) (fun t k => XS.icmpYes X19.here hx rfl (pc0 := 45) (pc' := 52) rfl (hb hby d1_45) rfl (flt hc45_23).2.2.2 (by decide) (by decide) k) ?_
          refine own_st (g' := (mkF m 53 #[.val (.int p0)] [(.int (0 : Int32))])) (fun t k => XS.iconst X19.here hx rfl (hb hby d1_52) k) ?_
          exact J53 T19 _ (0 : Int32)  X19 e19 N19 hr25
    by_cases hc27_26 : p0 < (65 : Int32)
    · have hr27 := (if_pos hc27_26).symm.trans hr18a
      refine own_st (g' := (mkF m 36 #[.val (.int p0)] [])) (fun t k => XS.icmpYes X18.here hx rfl (pc0 := 27) (pc' := 36) rfl (hb hby d1_27) rfl (tlt hc27_26).1 (by decide) (by decide) k) ?_
      exact J36 T18 _   X18 e18 N18 hr27
    · have hr28 := (if_neg hc27_26).symm.trans hr18a
      refine own_st (g' := (mkF m 30 #[.val (.int p0)] [])) (fun t k => XS.icmpNo X18.here hx rfl (hb hby d1_27) rfl (flt hc27_26).1 k) ?_
      refine own_st (g' := (mkF m 31 #[.val (.int p0)] [(.int p0)])) (fun t k => XS.iloadN X18.here hx rfl (hb hby d1_30) rfl  k) ?_
      refine own_st (g' := (mkF m 33 #[.val (.int p0)] [(.int (90 : Int32)), (.int p0)])) (fun t k => XS.bipush X18.here hx rfl (hb hby d1_31) k) ?_
      by_cases hc33_29 : (90 : Int32) < p0
      · have hr30 := (if_pos hc33_29).symm.trans hr28
        refine own_st (g' := (mkF m 36 #[.val (.int p0)] [])) (fun t k => XS.icmpNo X18.here hx rfl (hb hby d1_33) rfl (tlt hc33_29).2.2.2 k) ?_
        exact J36 T18 _   X18 e18 N18 hr30
      · have hr31 := (if_neg hc33_29).symm.trans hr28
        refine own_st (g' := (mkF m 52 #[.val (.int p0)] [])) (fun t k => XS.icmpYes X18.here hx rfl (pc0 := 33) (pc' := 52) rfl (hb hby d1_33) rfl (flt hc33_29).2.2.2 (by decide) (by decide) k) ?_
        refine own_st (g' := (mkF m 53 #[.val (.int p0)] [(.int (0 : Int32))])) (fun t k => XS.iconst X18.here hx rfl (hb hby d1_52) k) ?_
        exact J53 T18 _ (0 : Int32)  X18 e18 N18 hr31
  by_cases hc3_32 : (32 : Int32) < p0
  · have hr33 := (if_pos hc3_32).symm.trans hr0
    refine own_st (g' := (mkF m 6 #[.val (.int p0)] [])) (fun t k => XS.icmpNo X0.here hx rfl (hb hby d1_3) rfl (tlt hc3_32).2.2.2 k) ?_
    refine own_st (g' := (mkF m 7 #[.val (.int p0)] [(.int p0)])) (fun t k => XS.iloadN X0.here hx rfl (hb hby d1_6) rfl  k) ?_
    refine own_st (g' := (mkF m 9 #[.val (.int p0)] [(.int (127 : Int32)), (.int p0)])) (fun t k => XS.bipush X0.here hx rfl (hb hby d1_7) k) ?_
    by_cases hc9_34 : p0 < (127 : Int32)
    · have hr35 := (if_pos hc9_34).symm.trans hr33
      refine own_st (g' := (mkF m 12 #[.val (.int p0)] [])) (fun t k => XS.icmpNo X0.here hx rfl (hb hby d1_9) rfl (tlt hc9_34).2.1 k) ?_
      refine own_st (g' := (mkF m 13 #[.val (.int p0)] [(.int p0)])) (fun t k => XS.iloadN X0.here hx rfl (hb hby d1_12) rfl  k) ?_
      refine own_st (g' := (mkF m 15 #[.val (.int p0)] [(.int (48 : Int32)), (.int p0)])) (fun t k => XS.bipush X0.here hx rfl (hb hby d1_13) k) ?_
      by_cases hc15_36 : p0 < (48 : Int32)
      · have hr37 := (if_pos hc15_36).symm.trans hr35
        refine own_st (g' := (mkF m 24 #[.val (.int p0)] [])) (fun t k => XS.icmpYes X0.here hx rfl (pc0 := 15) (pc' := 24) rfl (hb hby d1_15) rfl (tlt hc15_36).1 (by decide) (by decide) k) ?_
        exact J24 s₁ _   X0 e0 N0 hr37
      · have hr38 := (if_neg hc15_36).symm.trans hr35
        refine own_st (g' := (mkF m 18 #[.val (.int p0)] [])) (fun t k => XS.icmpNo X0.here hx rfl (hb hby d1_15) rfl (flt hc15_36).1 k) ?_
        refine own_st (g' := (mkF m 19 #[.val (.int p0)] [(.int p0)])) (fun t k => XS.iloadN X0.here hx rfl (hb hby d1_18) rfl  k) ?_
        refine own_st (g' := (mkF m 21 #[.val (.int p0)] [(.int (57 : Int32)), (.int p0)])) (fun t k => XS.bipush X0.here hx rfl (hb hby d1_19) k) ?_
        by_cases hc21_39 : (57 : Int32) < p0
        · have hr40 := (if_pos hc21_39).symm.trans hr38
          refine own_st (g' := (mkF m 24 #[.val (.int p0)] [])) (fun t k => XS.icmpNo X0.here hx rfl (hb hby d1_21) rfl (tlt hc21_39).2.2.2 k) ?_
          exact J24 s₁ _   X0 e0 N0 hr40
        · have hr41 := (if_neg hc21_39).symm.trans hr38
          refine own_st (g' := (mkF m 52 #[.val (.int p0)] [])) (fun t k => XS.icmpYes X0.here hx rfl (pc0 := 21) (pc' := 52) rfl (hb hby d1_21) rfl (flt hc21_39).2.2.2 (by decide) (by decide) k) ?_
          refine own_st (g' := (mkF m 53 #[.val (.int p0)] [(.int (0 : Int32))])) (fun t k => XS.iconst X0.here hx rfl (hb hby d1_52) k) ?_
          exact J53 s₁ _ (0 : Int32)  X0 e0 N0 hr41
    · have hr42 := (if_neg hc9_34).symm.trans hr33
      refine own_st (g' := (mkF m 52 #[.val (.int p0)] [])) (fun t k => XS.icmpYes X0.here hx rfl (pc0 := 9) (pc' := 52) rfl (hb hby d1_9) rfl (flt hc9_34).2.1 (by decide) (by decide) k) ?_
      refine own_st (g' := (mkF m 53 #[.val (.int p0)] [(.int (0 : Int32))])) (fun t k => XS.iconst X0.here hx rfl (hb hby d1_52) k) ?_
      exact J53 s₁ _ (0 : Int32)  X0 e0 N0 hr42
  · have hr43 := (if_neg hc3_32).symm.trans hr0
    refine own_st (g' := (mkF m 52 #[.val (.int p0)] [])) (fun t k => XS.icmpYes X0.here hx rfl (pc0 := 3) (pc' := 52) rfl (hb hby d1_3) rfl (flt hc3_32).2.2.2 (by decide) (by decide) k) ?_
    refine own_st (g' := (mkF m 53 #[.val (.int p0)] [(.int (0 : Int32))])) (fun t k => XS.iconst X0.here hx rfl (hb hby d1_52) k) ?_
    exact J53 s₁ _ (0 : Int32)  X0 e0 N0 hr43
def own_f2_42 (p0 : Int32) : Int32 := (if p0 < (123 : Int32) then (nar .boolean (0 : Int32)) else (if (126 : Int32) < p0 then (nar .boolean (0 : Int32)) else (nar .boolean (1 : Int32))))
theorem own_f2_42_eq (p0 : Int32) : own_f2_42 p0 = (if p0 < (123 : Int32) then (nar .boolean (0 : Int32)) else (if (126 : Int32) < p0 then (nar .boolean (0 : Int32)) else (nar .boolean (1 : Int32)))) := rfl
def own_f2_28 (p0 : Int32) : Int32 := (if p0 < (91 : Int32) then (own_f2_42 p0) else (if (96 : Int32) < p0 then (own_f2_42 p0) else (nar .boolean (1 : Int32))))
theorem own_f2_28_eq (p0 : Int32) : own_f2_28 p0 = (if p0 < (91 : Int32) then (own_f2_42 p0) else (if (96 : Int32) < p0 then (own_f2_42 p0) else (nar .boolean (1 : Int32)))) := rfl
def own_f2_14 (p0 : Int32) : Int32 := (if p0 < (58 : Int32) then (own_f2_28 p0) else (if (64 : Int32) < p0 then (own_f2_28 p0) else (nar .boolean (1 : Int32))))
theorem own_f2_14_eq (p0 : Int32) : own_f2_14 p0 = (if p0 < (58 : Int32) then (own_f2_28 p0) else (if (64 : Int32) < p0 then (own_f2_28 p0) else (nar .boolean (1 : Int32)))) := rfl
def own_F2 (p0 : Int32) : Int32 := (if p0 < (33 : Int32) then (own_f2_14 p0) else (if (47 : Int32) < p0 then (own_f2_14 p0) else (nar .boolean (1 : Int32))))
theorem own_F2_eq (p0 : Int32) : own_F2 p0 = (if p0 < (33 : Int32) then (own_f2_14 p0) else (if (47 : Int32) < p0 then (own_f2_14 p0) else (nar .boolean (1 : Int32)))) := rfl
theorem d2_0 : decode method_2_code 0 = .ok (.iload_n 0, 1) := by decide +kernel
theorem d2_1 : decode method_2_code 1 = .ok (.bipush 33, 2) := by decide +kernel
theorem d2_3 : decode method_2_code 3 = .ok (.if_icmp .lt 11, 3) := by decide +kernel
theorem d2_6 : decode method_2_code 6 = .ok (.iload_n 0, 1) := by decide +kernel
theorem d2_7 : decode method_2_code 7 = .ok (.bipush 47, 2) := by decide +kernel
theorem d2_9 : decode method_2_code 9 = .ok (.if_icmp .gt 5, 3) := by decide +kernel
theorem d2_12 : decode method_2_code 12 = .ok (.iconst 1, 1) := by decide +kernel
theorem d2_13 : decode method_2_code 13 = .ok (.ireturn, 1) := by decide +kernel
theorem d2_14 : decode method_2_code 14 = .ok (.iload_n 0, 1) := by decide +kernel
theorem d2_15 : decode method_2_code 15 = .ok (.bipush 58, 2) := by decide +kernel
theorem d2_17 : decode method_2_code 17 = .ok (.if_icmp .lt 11, 3) := by decide +kernel
theorem d2_20 : decode method_2_code 20 = .ok (.iload_n 0, 1) := by decide +kernel
theorem d2_21 : decode method_2_code 21 = .ok (.bipush 64, 2) := by decide +kernel
theorem d2_23 : decode method_2_code 23 = .ok (.if_icmp .gt 5, 3) := by decide +kernel
theorem d2_26 : decode method_2_code 26 = .ok (.iconst 1, 1) := by decide +kernel
theorem d2_27 : decode method_2_code 27 = .ok (.ireturn, 1) := by decide +kernel
theorem d2_28 : decode method_2_code 28 = .ok (.iload_n 0, 1) := by decide +kernel
theorem d2_29 : decode method_2_code 29 = .ok (.bipush 91, 2) := by decide +kernel
theorem d2_31 : decode method_2_code 31 = .ok (.if_icmp .lt 11, 3) := by decide +kernel
theorem d2_34 : decode method_2_code 34 = .ok (.iload_n 0, 1) := by decide +kernel
theorem d2_35 : decode method_2_code 35 = .ok (.bipush 96, 2) := by decide +kernel
theorem d2_37 : decode method_2_code 37 = .ok (.if_icmp .gt 5, 3) := by decide +kernel
theorem d2_40 : decode method_2_code 40 = .ok (.iconst 1, 1) := by decide +kernel
theorem d2_41 : decode method_2_code 41 = .ok (.ireturn, 1) := by decide +kernel
theorem d2_42 : decode method_2_code 42 = .ok (.iload_n 0, 1) := by decide +kernel
theorem d2_43 : decode method_2_code 43 = .ok (.bipush 123, 2) := by decide +kernel
theorem d2_45 : decode method_2_code 45 = .ok (.if_icmp .lt 11, 3) := by decide +kernel
theorem d2_48 : decode method_2_code 48 = .ok (.iload_n 0, 1) := by decide +kernel
theorem d2_49 : decode method_2_code 49 = .ok (.bipush 126, 2) := by decide +kernel
theorem d2_51 : decode method_2_code 51 = .ok (.if_icmp .gt 5, 3) := by decide +kernel
theorem d2_54 : decode method_2_code 54 = .ok (.iconst 1, 1) := by decide +kernel
theorem d2_55 : decode method_2_code 55 = .ok (.ireturn, 1) := by decide +kernel
theorem d2_56 : decode method_2_code 56 = .ok (.iconst 0, 1) := by decide +kernel
theorem d2_57 : decode method_2_code 57 = .ok (.ireturn, 1) := by decide +kernel
theorem pn_2 : plainName "com/example/labrelay/labrelay/model/DelimitersCanSeparatePinLaw" = true := by first | (simp [plainName, overriddenIn]; done) | decide +kernel
theorem ef_2 (m : MethodId) (x0 : Int32) : entryFrame m #[(.int x0)] 1 = mkF m 0 #[.val (.int x0)] [] := by first | (simp [entryFrame, mkF, argsToLocals, Value.category]; done) | rfl
def Q2 (Z : State) (p0 : Int32) (h0 : Heap) (n0 : Nat) (v : Option Value) (h : Heap) (L : List Loc) : Prop := v = some (.int (own_F2 p0)) ∧ Fr n0 L ∧ h = h0
set_option maxRecDepth 65536 in
set_option maxHeartbeats 40000000 in
theorem rm2 (l : Launch) (Z : State) (a0 : Array Value) (hw : ∀ d ∈ tables_1, d.before a0 Z = true) (ws : List Jvm.Cond) (p0 : Int32) (h0 : Heap) (n0 : Nat) (Z0 : n0 ≤ h0.size) :
    MetFree l (⟨"com/example/labrelay/labrelay/model/DelimitersCanSeparatePinLaw", "expected", "(C)Z"⟩ : MethodName) (head1 (Jvm.Cond.code (⟨"com/example/labrelay/labrelay/model/DelimitersCanSeparatePinLaw", "expected", "(C)Z"⟩ : MethodName) method_2_code 1 (some .boolean) :: ws) ({ frames := 0, cells := 0, slots := 0, locals := 0 } : Room)) (fun a U => a = #[(.int p0)] ∧ Z.Warmed39 U.vm ∧ U.heap = h0) (fun _ _ _ _ _ => True) (fun _ U o U' => ∃ v L, o = .returned v ∧ Q2 Z p0 h0 n0 v U'.heap L ∧ FrameEnd U o U' L ({ frames := 0, cells := 0, slots := 0, locals := 0 } : Room).cells ({ frames := 0, cells := 0, slots := 0, locals := 0 } : Room).slots) := by
  refine MetFree.of_bodySF (plainFor_of_name pn_2) hisR ?_
  intro p e s m args below meth c s₁ Bd hml0 hP hK
  obtain ⟨rfl, hZ, hh⟩ := hP
  have hx := Bd.exec
  have hby := Bd.bytes
  have hml : c.maxLocals = 1 := hml0
  have hown : s.vm.findClass "com/example/labrelay/labrelay/model/DelimitersCanSeparatePinLaw" = some m.cls := findClass_of_methodNamed Bd.named
  have hnm := (name_of_methodNamed Bd.named Bd.method).1
  have X0 : Stand p l e ({ frames := 0, cells := 0, slots := 0, locals := 0 } : Room) s m #[(.int p0)] below meth c s₁ [] 0 0 := Stand.of_body Bd
  have e0 : s₁.heap = h0 := by rw [← hh, Bd.state]; rfl
  have N0 := Fr.nil n0
  refine own_in (ef_2 m p0) ?_
  have hr0 := (own_F2_eq p0).symm
  refine own_st (g' := (mkF m 1 #[.val (.int p0)] [(.int p0)])) (fun t k => XS.iloadN X0.here hx rfl (hb hby d2_0) rfl  k) ?_
  refine own_st (g' := (mkF m 3 #[.val (.int p0)] [(.int (33 : Int32)), (.int p0)])) (fun t k => XS.bipush X0.here hx rfl (hb hby d2_1) k) ?_
  have J14 : ∀ (T : State) (locs : List Loc) , Stand p l e ({ frames := 0, cells := 0, slots := 0, locals := 0 } : Room) s m #[(.int p0)] below meth c T locs 0 0 → T.heap = h0 → Fr n0 locs → own_f2_14 p0 = own_F2 p0 → own_Fin p e below s ({ frames := 0, cells := 0, slots := 0, locals := 0 } : Room).cells ({ frames := 0, cells := 0, slots := 0, locals := 0 } : Room).slots (Q2 Z p0 h0 n0) T (mkF m 14 #[.val (.int p0)] []) := by
    intro T17 locs17   X17 e17 N17 hr17
    have hr17a := (own_f2_14_eq (p0)).symm.trans hr17
    refine own_st (g' := (mkF m 15 #[.val (.int p0)] [(.int p0)])) (fun t k => XS.iloadN X17.here hx rfl (hb hby d2_14) rfl  k) ?_
    refine own_st (g' := (mkF m 17 #[.val (.int p0)] [(.int (58 : Int32)), (.int p0)])) (fun t k => XS.bipush X17.here hx rfl (hb hby d2_15) k) ?_
    have J28 : ∀ (T : State) (locs : List Loc) , Stand p l e ({ frames := 0, cells := 0, slots := 0, locals := 0 } : Room) s m #[(.int p0)] below meth c T locs 0 0 → T.heap = h0 → Fr n0 locs → own_f2_28 p0 = own_F2 p0 → own_Fin p e below s ({ frames := 0, cells := 0, slots := 0, locals := 0 } : Room).cells ({ frames := 0, cells := 0, slots := 0, locals := 0 } : Room).slots (Q2 Z p0 h0 n0) T (mkF m 28 #[.val (.int p0)] []) := by
      intro T18 locs18   X18 e18 N18 hr18
      have hr18a := (own_f2_28_eq (p0)).symm.trans hr18
      refine own_st (g' := (mkF m 29 #[.val (.int p0)] [(.int p0)])) (fun t k => XS.iloadN X18.here hx rfl (hb hby d2_28) rfl  k) ?_
      refine own_st (g' := (mkF m 31 #[.val (.int p0)] [(.int (91 : Int32)), (.int p0)])) (fun t k => XS.bipush X18.here hx rfl (hb hby d2_29) k) ?_
      have J42 : ∀ (T : State) (locs : List Loc) , Stand p l e ({ frames := 0, cells := 0, slots := 0, locals := 0 } : Room) s m #[(.int p0)] below meth c T locs 0 0 → T.heap = h0 → Fr n0 locs → own_f2_42 p0 = own_F2 p0 → own_Fin p e below s ({ frames := 0, cells := 0, slots := 0, locals := 0 } : Room).cells ({ frames := 0, cells := 0, slots := 0, locals := 0 } : Room).slots (Q2 Z p0 h0 n0) T (mkF m 42 #[.val (.int p0)] []) := by
        intro T19 locs19   X19 e19 N19 hr19
        have hr19a := (own_f2_42_eq (p0)).symm.trans hr19
        refine own_st (g' := (mkF m 43 #[.val (.int p0)] [(.int p0)])) (fun t k => XS.iloadN X19.here hx rfl (hb hby d2_42) rfl  k) ?_
        refine own_st (g' := (mkF m 45 #[.val (.int p0)] [(.int (123 : Int32)), (.int p0)])) (fun t k => XS.bipush X19.here hx rfl (hb hby d2_43) k) ?_
        by_cases hc45_20 : p0 < (123 : Int32)
        · have hr21 := (if_pos hc45_20).symm.trans hr19a
          refine own_st (g' := (mkF m 56 #[.val (.int p0)] [])) (fun t k => XS.icmpYes X19.here hx rfl (pc0 := 45) (pc' := 56) rfl (hb hby d2_45) rfl (tlt hc45_20).1 (by decide) (by decide) k) ?_
          refine own_st (g' := (mkF m 57 #[.val (.int p0)] [(.int (0 : Int32))])) (fun t k => XS.iconst X19.here hx rfl (hb hby d2_56) k) ?_
          exact own_retN (t := .boolean) X19 hx Bd.returns Bd.notSynchronized (by simp) (hb hby d2_57) ⟨congrArg (fun q => some (Value.int q)) hr21, N19, e19⟩ (by decide) (by decide)
        · have hr22 := (if_neg hc45_20).symm.trans hr19a
          refine own_st (g' := (mkF m 48 #[.val (.int p0)] [])) (fun t k => XS.icmpNo X19.here hx rfl (hb hby d2_45) rfl (flt hc45_20).1 k) ?_
          refine own_st (g' := (mkF m 49 #[.val (.int p0)] [(.int p0)])) (fun t k => XS.iloadN X19.here hx rfl (hb hby d2_48) rfl  k) ?_
          refine own_st (g' := (mkF m 51 #[.val (.int p0)] [(.int (126 : Int32)), (.int p0)])) (fun t k => XS.bipush X19.here hx rfl (hb hby d2_49) k) ?_
          by_cases hc51_23 : (126 : Int32) < p0
          · have hr24 := (if_pos hc51_23).symm.trans hr22
            refine own_st (g' := (mkF m 56 #[.val (.int p0)] [])) (fun t k => XS.icmpYes X19.here hx rfl (pc0 := 51) (pc' := 56) rfl (hb hby d2_51) rfl (tlt hc51_23).2.2.1 (by decide) (by decide) k) ?_
            refine own_st (g' := (mkF m 57 #[.val (.int p0)] [(.int (0 : Int32))])) (fun t k => XS.iconst X19.here hx rfl (hb hby d2_56) k) ?_
            exact own_retN (t := .boolean) X19 hx Bd.returns Bd.notSynchronized (by simp) (hb hby d2_57) ⟨congrArg (fun q => some (Value.int q)) hr24, N19, e19⟩ (by decide) (by decide)
          · have hr25 := (if_neg hc51_23).symm.trans hr22
            refine own_st (g' := (mkF m 54 #[.val (.int p0)] [])) (fun t k => XS.icmpNo X19.here hx rfl (hb hby d2_51) rfl (flt hc51_23).2.2.1 k) ?_
            refine own_st (g' := (mkF m 55 #[.val (.int p0)] [(.int (1 : Int32))])) (fun t k => XS.iconst X19.here hx rfl (hb hby d2_54) k) ?_
            exact own_retN (t := .boolean) X19 hx Bd.returns Bd.notSynchronized (by simp) (hb hby d2_55) ⟨congrArg (fun q => some (Value.int q)) hr25, N19, e19⟩ (by decide) (by decide)
      by_cases hc31_26 : p0 < (91 : Int32)
      · have hr27 := (if_pos hc31_26).symm.trans hr18a
        refine own_st (g' := (mkF m 42 #[.val (.int p0)] [])) (fun t k => XS.icmpYes X18.here hx rfl (pc0 := 31) (pc' := 42) rfl (hb hby d2_31) rfl (tlt hc31_26).1 (by decide) (by decide) k) ?_
        exact J42 T18 _   X18 e18 N18 hr27
      · have hr28 := (if_neg hc31_26).symm.trans hr18a
        refine own_st (g' := (mkF m 34 #[.val (.int p0)] [])) (fun t k => XS.icmpNo X18.here hx rfl (hb hby d2_31) rfl (flt hc31_26).1 k) ?_
        refine own_st (g' := (mkF m 35 #[.val (.int p0)] [(.int p0)])) (fun t k => XS.iloadN X18.here hx rfl (hb hby d2_34) rfl  k) ?_
        refine own_st (g' := (mkF m 37 #[.val (.int p0)] [(.int (96 : Int32)), (.int p0)])) (fun t k => XS.bipush X18.here hx rfl (hb hby d2_35) k) ?_
        by_cases hc37_29 : (96 : Int32) < p0
        · have hr30 := (if_pos hc37_29).symm.trans hr28
          refine own_st (g' := (mkF m 42 #[.val (.int p0)] [])) (fun t k => XS.icmpYes X18.here hx rfl (pc0 := 37) (pc' := 42) rfl (hb hby d2_37) rfl (tlt hc37_29).2.2.1 (by decide) (by decide) k) ?_
          exact J42 T18 _   X18 e18 N18 hr30
        · have hr31 := (if_neg hc37_29).symm.trans hr28
          refine own_st (g' := (mkF m 40 #[.val (.int p0)] [])) (fun t k => XS.icmpNo X18.here hx rfl (hb hby d2_37) rfl (flt hc37_29).2.2.1 k) ?_
          refine own_st (g' := (mkF m 41 #[.val (.int p0)] [(.int (1 : Int32))])) (fun t k => XS.iconst X18.here hx rfl (hb hby d2_40) k) ?_
          exact own_retN (t := .boolean) X18 hx Bd.returns Bd.notSynchronized (by simp) (hb hby d2_41) ⟨congrArg (fun q => some (Value.int q)) hr31, N18, e18⟩ (by decide) (by decide)
    by_cases hc17_32 : p0 < (58 : Int32)
    · have hr33 := (if_pos hc17_32).symm.trans hr17a
      refine own_st (g' := (mkF m 28 #[.val (.int p0)] [])) (fun t k => XS.icmpYes X17.here hx rfl (pc0 := 17) (pc' := 28) rfl (hb hby d2_17) rfl (tlt hc17_32).1 (by decide) (by decide) k) ?_
      exact J28 T17 _   X17 e17 N17 hr33
    · have hr34 := (if_neg hc17_32).symm.trans hr17a
      refine own_st (g' := (mkF m 20 #[.val (.int p0)] [])) (fun t k => XS.icmpNo X17.here hx rfl (hb hby d2_17) rfl (flt hc17_32).1 k) ?_
      refine own_st (g' := (mkF m 21 #[.val (.int p0)] [(.int p0)])) (fun t k => XS.iloadN X17.here hx rfl (hb hby d2_20) rfl  k) ?_
      refine own_st (g' := (mkF m 23 #[.val (.int p0)] [(.int (64 : Int32)), (.int p0)])) (fun t k => XS.bipush X17.here hx rfl (hb hby d2_21) k) ?_
      by_cases hc23_35 : (64 : Int32) < p0
      · have hr36 := (if_pos hc23_35).symm.trans hr34
        refine own_st (g' := (mkF m 28 #[.val (.int p0)] [])) (fun t k => XS.icmpYes X17.here hx rfl (pc0 := 23) (pc' := 28) rfl (hb hby d2_23) rfl (tlt hc23_35).2.2.1 (by decide) (by decide) k) ?_
        exact J28 T17 _   X17 e17 N17 hr36
      · have hr37 := (if_neg hc23_35).symm.trans hr34
        refine own_st (g' := (mkF m 26 #[.val (.int p0)] [])) (fun t k => XS.icmpNo X17.here hx rfl (hb hby d2_23) rfl (flt hc23_35).2.2.1 k) ?_
        refine own_st (g' := (mkF m 27 #[.val (.int p0)] [(.int (1 : Int32))])) (fun t k => XS.iconst X17.here hx rfl (hb hby d2_26) k) ?_
        exact own_retN (t := .boolean) X17 hx Bd.returns Bd.notSynchronized (by simp) (hb hby d2_27) ⟨congrArg (fun q => some (Value.int q)) hr37, N17, e17⟩ (by decide) (by decide)
  by_cases hc3_38 : p0 < (33 : Int32)
  · have hr39 := (if_pos hc3_38).symm.trans hr0
    refine own_st (g' := (mkF m 14 #[.val (.int p0)] [])) (fun t k => XS.icmpYes X0.here hx rfl (pc0 := 3) (pc' := 14) rfl (hb hby d2_3) rfl (tlt hc3_38).1 (by decide) (by decide) k) ?_
    exact J14 s₁ _   X0 e0 N0 hr39
  · have hr40 := (if_neg hc3_38).symm.trans hr0
    refine own_st (g' := (mkF m 6 #[.val (.int p0)] [])) (fun t k => XS.icmpNo X0.here hx rfl (hb hby d2_3) rfl (flt hc3_38).1 k) ?_
    refine own_st (g' := (mkF m 7 #[.val (.int p0)] [(.int p0)])) (fun t k => XS.iloadN X0.here hx rfl (hb hby d2_6) rfl  k) ?_
    refine own_st (g' := (mkF m 9 #[.val (.int p0)] [(.int (47 : Int32)), (.int p0)])) (fun t k => XS.bipush X0.here hx rfl (hb hby d2_7) k) ?_
    by_cases hc9_41 : (47 : Int32) < p0
    · have hr42 := (if_pos hc9_41).symm.trans hr40
      refine own_st (g' := (mkF m 14 #[.val (.int p0)] [])) (fun t k => XS.icmpYes X0.here hx rfl (pc0 := 9) (pc' := 14) rfl (hb hby d2_9) rfl (tlt hc9_41).2.2.1 (by decide) (by decide) k) ?_
      exact J14 s₁ _   X0 e0 N0 hr42
    · have hr43 := (if_neg hc9_41).symm.trans hr40
      refine own_st (g' := (mkF m 12 #[.val (.int p0)] [])) (fun t k => XS.icmpNo X0.here hx rfl (hb hby d2_9) rfl (flt hc9_41).2.2.1 k) ?_
      refine own_st (g' := (mkF m 13 #[.val (.int p0)] [(.int (1 : Int32))])) (fun t k => XS.iconst X0.here hx rfl (hb hby d2_12) k) ?_
      exact own_retN (t := .boolean) X0 hx Bd.returns Bd.notSynchronized (by simp) (hb hby d2_13) ⟨congrArg (fun q => some (Value.int q)) hr43, N0, e0⟩ (by decide) (by decide)
def own_f0_19 (p0 : Int32) (t0_19 : Int32) : Int32 := (nar .boolean t0_19)
theorem own_f0_19_eq (p0 : Int32) (t0_19 : Int32) : own_f0_19 p0 t0_19 = (nar .boolean t0_19) := rfl
def own_F0 (p0 : Int32) : Int32 := (if (own_F1 ((p0).toUInt32.toUInt16.toUInt32.toInt32)) = (own_F2 ((p0).toUInt32.toUInt16.toUInt32.toInt32)) then (own_f0_19 p0 (1 : Int32)) else (own_f0_19 p0 (0 : Int32)))
theorem own_F0_eq (p0 : Int32) : own_F0 p0 = (if (own_F1 ((p0).toUInt32.toUInt16.toUInt32.toInt32)) = (own_F2 ((p0).toUInt32.toUInt16.toUInt32.toInt32)) then (own_f0_19 p0 (1 : Int32)) else (own_f0_19 p0 (0 : Int32))) := rfl
theorem pn_0 : plainName "com/example/labrelay/labrelay/model/DelimitersCanSeparatePinLaw" = true := by first | (simp [plainName, overriddenIn]; done) | decide +kernel
theorem pd_0_0 : parseMethodDescriptor "(C)Z" = some ⟨[.char], some .boolean⟩ := by decide +kernel
theorem ef_0 (m : MethodId) (x0 : Int32) : entryFrame m #[(.int x0)] maxLocals = mkF m 0 #[.val (.int x0), .unset] [] := by first | (simp [entryFrame, mkF, argsToLocals, Value.category, maxLocals]; done) | rfl
def Q0 (Z : State) (p0 : Int32) (h0 : Heap) (n0 : Nat) (v : Option Value) (h : Heap) (L : List Loc) : Prop := v = some (.int 1) ∧ Fr n0 L
set_option maxRecDepth 65536 in
set_option maxHeartbeats 40000000 in
theorem rm0 (l : Launch) (Z : State) (a0 : Array Value) (hw : ∀ d ∈ tables_1, d.before a0 Z = true) (ws : List Jvm.Cond) (p0 : Int32) (h0 : Heap) (n0 : Nat) (Z0 : n0 ≤ h0.size) (hlaw : own_F0 p0 = 1) :
    MetFree l x (head1 (Jvm.Cond.code x code maxLocals ret :: ws) room_1) (fun a U => a = #[(.int p0)] ∧ Z.Warmed39 U.vm ∧ U.heap = h0) (fun _ _ _ _ _ => True) (fun _ U o U' => ∃ v L, o = .returned v ∧ Q0 Z p0 h0 n0 v U'.heap L ∧ FrameEnd U o U' L 0 0) := by
  refine MetFree.of_bodySF (plainFor_of_name pn_0) hisR ?_
  intro p e s m args below meth c s₁ Bd hml0 hP hK
  obtain ⟨rfl, hZ, hh⟩ := hP
  have hx := Bd.exec
  have hby := Bd.bytes
  have hml : c.maxLocals = 2 := hml0
  have hown : s.vm.findClass "com/example/labrelay/labrelay/model/DelimitersCanSeparatePinLaw" = some m.cls := findClass_of_methodNamed Bd.named
  have hnm := (name_of_methodNamed Bd.named Bd.method).1
  have X0 : Stand p l e room_1 s m #[(.int p0)] below meth c s₁ [] 0 0 := Stand.of_body Bd
  have e0 : s₁.heap = h0 := by rw [← hh, Bd.state]; rfl
  have N0 := Fr.nil n0
  refine own_in (ef_0 m p0) ?_
  have hr0 := (own_F0_eq p0).symm.trans hlaw
  refine own_st (g' := (mkF m 1 #[.val (.int p0), .unset] [(.int p0)])) (fun t k => XS.iloadN X0.here hx rfl (hb hby at_0) rfl  k) ?_
  refine own_st (g' := (mkF m 2 #[.val (.int p0), .unset] [(.int ((p0).toUInt32.toUInt16.toUInt32.toInt32))])) (fun t k => XS.i2c X0.here hx rfl (hb hby at_1) rfl k) ?_
  refine own_st (g' := (mkF m 3 #[.val (.int p0), .val (.int ((p0).toUInt32.toUInt16.toUInt32.toInt32))] [])) (fun t k => XS.istoreN X0.here hx rfl (hb hby at_2) rfl (l' := #[.val (.int p0), .val (.int ((p0).toUInt32.toUInt16.toUInt32.toInt32))]) rfl k) ?_
  refine own_st (g' := (mkF m 4 #[.val (.int p0), .val (.int ((p0).toUInt32.toUInt16.toUInt32.toInt32))] [(.int ((p0).toUInt32.toUInt16.toUInt32.toInt32))])) (fun t k => XS.iloadN X0.here hx rfl (hb hby at_3) rfl  k) ?_
  obtain ⟨_, _, ⟨T7, L7, k7, n7⟩, -, X7, ⟨Lc7, hQ7, l7, y7, z7⟩, st7⟩ := Jvm.LawKit.callS X0 hx (y := (⟨"com/example/labrelay/labrelay/model/Delimiters", "canSeparate", "(C)Z"⟩ : MethodName)) hown (mvT hZ (hw _ (List.mem_of_getElem? (i := 0) rfl))) (mvT hZ (hw _ (List.mem_of_getElem? (i := 1) rfl))) (mvT hZ (hw _ (List.mem_of_getElem? (i := 2) rfl))) (mvT hZ (hw _ (List.mem_of_getElem? (i := 3) rfl))) (by decide) (backOf (W := 0) (rm1 l Z a0 hw [] ((p0).toUInt32.toUInt16.toUInt32.toInt32) h0 n0 Z0  ) hZ (hw _ (List.mem_of_getElem? (i := 3) rfl)) (hw _ (List.mem_of_getElem? (i := 2) rfl)) (by decide) (by decide)) (g := (mkF m 4 #[.val (.int p0), .val (.int ((p0).toUInt32.toUInt16.toUInt32.toInt32))] [(.int ((p0).toUInt32.toUInt16.toUInt32.toInt32))])) rfl (by rw [hml]; rfl) (argsL := [(.int ((p0).toUInt32.toUInt16.toUInt32.toInt32))]) (rest := []) (lenOf pd_0_0 rfl) rfl (by show 2 * 0 + _ ≤ _; exact Nat.le_of_eq rfl) (hb hby at_4) (fun _ _ => ⟨rfl, e0, (by decide : 0 + 0 ≤ _), (by decide : 0 + 0 ≤ _)⟩)
  dsimp only [Pt.U, Pt.locs, Pt.cells, Pt.slots] at X7 l7 y7 z7 st7 hQ7
  subst l7 y7 z7
  obtain ⟨rfl, N7q, e7⟩ := hQ7
  have N7 := Fr.app N0 N7q
  refine own_st (g' := (mkF m 7 #[.val (.int p0), .val (.int ((p0).toUInt32.toUInt16.toUInt32.toInt32))] [(.int (own_F1 ((p0).toUInt32.toUInt16.toUInt32.toInt32)))])) (fun t k => st7 t k) ?_
  refine own_st (g' := (mkF m 8 #[.val (.int p0), .val (.int ((p0).toUInt32.toUInt16.toUInt32.toInt32))] [(.int ((p0).toUInt32.toUInt16.toUInt32.toInt32)), (.int (own_F1 ((p0).toUInt32.toUInt16.toUInt32.toInt32)))])) (fun t k => XS.iloadN X7.here hx rfl (hb hby at_7) rfl  k) ?_
  obtain ⟨_, _, ⟨T8, L8, k8, n8⟩, -, X8, ⟨Lc8, hQ8, l8, y8, z8⟩, st8⟩ := Jvm.LawKit.callS X7 hx (y := (⟨"com/example/labrelay/labrelay/model/DelimitersCanSeparatePinLaw", "expected", "(C)Z"⟩ : MethodName)) hown (mvT hZ (hw _ (List.mem_of_getElem? (i := 4) rfl))) (mvT hZ (hw _ (List.mem_of_getElem? (i := 5) rfl))) (mvT hZ (hw _ (List.mem_of_getElem? (i := 6) rfl))) (mvT hZ (hw _ (List.mem_of_getElem? (i := 7) rfl))) (by decide) (backOf (W := 1) (rm2 l Z a0 hw [] ((p0).toUInt32.toUInt16.toUInt32.toInt32) h0 n0 Z0  ) hZ (hw _ (List.mem_of_getElem? (i := 7) rfl)) (hw _ (List.mem_of_getElem? (i := 6) rfl)) (by decide) (by decide)) (g := (mkF m 8 #[.val (.int p0), .val (.int ((p0).toUInt32.toUInt16.toUInt32.toInt32))] [(.int ((p0).toUInt32.toUInt16.toUInt32.toInt32)), (.int (own_F1 ((p0).toUInt32.toUInt16.toUInt32.toInt32)))])) rfl (by rw [hml]; rfl) (argsL := [(.int ((p0).toUInt32.toUInt16.toUInt32.toInt32))]) (rest := [(.int (own_F1 ((p0).toUInt32.toUInt16.toUInt32.toInt32)))]) (lenOf pd_0_0 rfl) rfl (by show 2 * 0 + _ ≤ _; exact Nat.le_of_eq rfl) (hb hby at_8) (fun _ _ => ⟨rfl, e7, (by decide : 0 + 0 ≤ _), (by decide : 0 + 0 ≤ _)⟩)
  dsimp only [Pt.U, Pt.locs, Pt.cells, Pt.slots] at X8 l8 y8 z8 st8 hQ8
  subst l8 y8 z8
  obtain ⟨rfl, N8q, e8⟩ := hQ8
  have N8 := Fr.app N7 N8q
  refine own_st (g' := (mkF m 11 #[.val (.int p0), .val (.int ((p0).toUInt32.toUInt16.toUInt32.toInt32))] [(.int (own_F2 ((p0).toUInt32.toUInt16.toUInt32.toInt32))), (.int (own_F1 ((p0).toUInt32.toUInt16.toUInt32.toInt32)))])) (fun t k => st8 t k) ?_
  have J19 : ∀ (T : State) (locs : List Loc) (t0_19 : Int32), Stand p l e room_1 s m #[(.int p0)] below meth c T locs 0 0 → T.heap = h0 → Fr n0 locs → own_f0_19 p0 t0_19 = (1 : Int32) → own_Fin p e below s 0 0 (Q0 Z p0 h0 n0) T (mkF m 19 #[.val (.int p0), .val (.int ((p0).toUInt32.toUInt16.toUInt32.toInt32))] [(.int t0_19)]) := by
    intro T9 locs9 t0_19  X9 e9 N9 hr9
    have hr9a := (own_f0_19_eq (p0) (t0_19)).symm.trans hr9
    exact own_retN (t := .boolean) X9 hx Bd.returns Bd.notSynchronized (by simp) (hb hby at_19) ⟨congrArg (fun q => some (Value.int q)) hr9a, N9⟩ (by decide) (by decide)
  by_cases hc11_10 : (own_F1 ((p0).toUInt32.toUInt16.toUInt32.toInt32)) = (own_F2 ((p0).toUInt32.toUInt16.toUInt32.toInt32))
  · have hr11 := (if_pos hc11_10).symm.trans hr0
    refine own_st (g' := (mkF m 14 #[.val (.int p0), .val (.int ((p0).toUInt32.toUInt16.toUInt32.toInt32))] [])) (fun t k => XS.icmpNo X8.here hx rfl (hb hby at_11) rfl (teq hc11_10).2 k) ?_
    refine own_st (g' := (mkF m 15 #[.val (.int p0), .val (.int ((p0).toUInt32.toUInt16.toUInt32.toInt32))] [(.int (1 : Int32))])) (fun t k => XS.iconst X8.here hx rfl (hb hby at_14) k) ?_
    refine own_st (g' := (mkF m 19 #[.val (.int p0), .val (.int ((p0).toUInt32.toUInt16.toUInt32.toInt32))] [(.int (1 : Int32))])) (fun t k => XS.goto X8.here hx rfl (pc0 := 15) (pc' := 19) rfl (hb hby at_15) (by decide) (by decide) k) ?_
    exact J19 T8 _ (1 : Int32)  X8 e8 N8 hr11
  · have hr12 := (if_neg hc11_10).symm.trans hr0
    refine own_st (g' := (mkF m 18 #[.val (.int p0), .val (.int ((p0).toUInt32.toUInt16.toUInt32.toInt32))] [])) (fun t k => XS.icmpYes X8.here hx rfl (pc0 := 11) (pc' := 18) rfl (hb hby at_11) rfl (feq hc11_10).2 (by decide) (by decide) k) ?_
    refine own_st (g' := (mkF m 19 #[.val (.int p0), .val (.int ((p0).toUInt32.toUInt16.toUInt32.toInt32))] [(.int (0 : Int32))])) (fun t k => XS.iconst X8.here hx rfl (hb hby at_18) k) ?_
    exact J19 T8 _ (0 : Int32)  X8 e8 N8 hr12
/-! ## The plain law -/
theorem own_n0 : nar .boolean (0 : Int32) = 0 := by decide
theorem own_n1 : nar .boolean (1 : Int32) = 1 := by decide
set_option maxHeartbeats 4000000 in
theorem own_same (c : Int32) : own_F1 c = own_F2 c := by
  simp only [own_F1, own_f1_24, own_f1_36, own_f1_53, own_F2, own_f2_14, own_f2_28, own_f2_42, own_n0, own_n1, Int32.lt_iff_toInt_lt, Int32.reduceToInt]
  generalize c.toInt = n
  (repeat' split) <;> first | rfl | (exfalso; omega)
theorem own_law (p0 : Int32) : own_F0 p0 = 1 := by
  rw [own_F0_eq, if_pos (own_same _), own_f0_19_eq, own_n1]

set_option maxRecDepth 65536 in
set_option maxHeartbeats 40000000 in
theorem comes_1 {Post : Tables → Env → Array Value → State → Outcome → State → Prop} (hpost : ∀ tb e args s v u, (limb_1_1.after args s (.returned v) u = true ∧ limb_1_2.after args s (.returned v) u = true ∧ True) → FrameEnd s (.returned v) u (Jvm.fieldLocs frame_1_writes args s ++ Jvm.arrayLocs frame_1_arrays args s ++ Jvm.staticLocs frame_1_statics s) 0 0 → Post tb e args s (.returned v) u) :
    ArmFor flags0 classFile x code maxLocals ret World_1 tables_1 room_1 Calls_1 rest_1 Pre_1 Post := by
  intro l hfl _ _ p e ha hc hk s m args below hf hA hF happ hP
  obtain ⟨hcalls, hrest, hpre⟩ := hP
  obtain ⟨-, -, -, hnamed, -, -, -, hat⟩ := (Spec.applies_iff hf).mp happ
  obtain ⟨hg, hn⟩ := and_e (Cond.before_iff.mp (show (Jvm.Cond.and given_1 narrow_1).before args s = true from hpre))
  obtain ⟨hg0, hq0⟩ := and_e hg
  have ha0 := hq0
  obtain ⟨w0, rfl⟩ : ∃ w0 : Value, args = #[w0] := by
    have hs : args.size = 1 := by simpa [Cond.value, given_1] using hg0
    obtain ⟨L⟩ := args
    match L, hs with
    | [w0], _ => exact ⟨w0, rfl⟩
  have hw := fun d (hd : d ∈ tables_1) => atoms_spec (ws := Jvm.Cond.code x code maxLocals ret :: tables_1) hat d (List.mem_cons_of_mem _ hd)
  obtain ⟨i0, ei0⟩ := is_v ha0
  obtain rfl : w0 = (.int i0) := Option.some.inj ei0
  obtain ⟨n, o, h1, h2, h3, _, L, rfl, ⟨rfl, N⟩, hq⟩ := rm0 l s _ hw tables_1 i0 s.heap s.heap.size (Nat.le_refl _) (own_law i0) p e ha hc hk s m _ below hf ((Spec.applies_iff_loose hf).mp happ).1 ⟨rfl, State.Warmed39.refl s, rfl⟩ trivial
  refine ⟨n, _, h1, h2, h3, hpost _ _ _ _ _ _ ⟨Cond.after_iff.mpr rfl, Cond.after_iff.mpr (eq_i res_at (Term.int_eval (1)) rfl), trivial⟩ ⟨hq.1, hq.2.1, (hq.2.2.sift fun y hy => Or.inr (N y hy)).mono (by decide) (by decide)⟩⟩
theorem main_1_1 : Claimed_1_1 := comes_1 fun _ _ _ _ _ _ h hF => ⟨h.1, hF⟩
theorem main_1_2 : Claimed_1_2 := comes_1 fun _ _ _ _ _ _ h hF => ⟨h.2.1, hF⟩
end Jvm.Pilot.@@N@@
namespace Jvm.Pilot.@@N@@
open Jvm Jvm.ClassFile Sem Op Lib Jvm.Free Jvm.Stand Jvm.Pilot.@@N@@.Jvm.D
/-! MADE BY PROGRAM (witnessworld.py) out of the Statement's table words and the real class files: 10 classes; the members and pool entries that the words name. The judged class is class 1, her method 2. -/
namespace start1
open Jvm.ClassFile
def u (s : String) : CpInfo := .utf8 (stringToUtf16 s)
/-- a pool by its gaps: so many unusable entries, then the entry; so many at the end -/
def gap : Nat → List CpInfo → List CpInfo
  | 0, r => r
  | n + 1, r => .unusable :: gap n r
def poolList (es : List (Nat × CpInfo)) (last : Nat) : List CpInfo := es.foldr (fun e r => gap e.1 (e.2 :: r)) (gap last [])
def pool (es : List (Nat × CpInfo)) (last : Nat) : Array CpInfo := ⟨poolList es last⟩
def fileOf (pool : Array CpInfo) (this : Nat) (attrs : Array Attribute := #[]) (ms : Array MethodInfo := #[]) (fl : Nat := 33) (sup : Nat := 0) (ifs : Array Nat := #[]) (fds : Array FieldInfo := #[]) : ClassFile where
  minorVersion := 0
  majorVersion := 65
  constantPool := pool
  accessFlags := fl
  thisClass := this
  superClass := sup
  interfaces := ifs
  fields := fds
  methods := ms
  attributes := attrs
def plain (name : String) (sup : Option ClassId) : Class where
  name := name
  kind := .ordinary
  loader := none
  accessFlags := 33
  super := sup
  interfaces := #[]
  cf := none
  fields := #[]
  methods := #[]
  instanceTypes := #[]
  staticTypes := #[]
  resolved := #[]
  callSites := []
  init := .initialized
  statics := none
  mirror := none

def pool0 : Array CpInfo := pool [(5, u "<init>"), (0, u "()V"), (1, .class_ 10), (1, u "java/lang/Object")] 113

def k0m0 : Method := { name := "<init>", desc := "()V", sig := { parameters := [], returnType := none }, accessFlags := 1, code := none }
/-- java/lang/Object -/
def k0 : Class := { plain "java/lang/Object" none with
  accessFlags := 33
  interfaces := #[]
  cf := some (fileOf pool0 8 #[] #[{ accessFlags := 1, nameIndex := 5, descriptorIndex := 6, attributes := #[] }] 33 0 #[] #[])
  fields := #[]
  methods := #[k0m0]
  instanceTypes := #[]
  staticTypes := #[]
  resolved := Array.replicate 124 none
  statics := none }

def pool1 : Array CpInfo := pool [(2, .class_ 4), (1, u "java/lang/Object"), (0, u "<init>"), (0, u "()V"), (0, .methodref 8 9), (0, .class_ 10), (0, .nameAndType 11 12), (0, u "com/example/labrelay/labrelay/model/Delimiters"), (0, u "canSeparate"), (0, u "(C)Z"), (0, .methodref 14 15), (0, .class_ 16), (0, .nameAndType 17 12), (0, u "com/example/labrelay/labrelay/model/DelimitersCanSeparatePinLaw"), (0, u "expected"), (3, u "law"), (0, u "(I)Z")] 2

def k1m0 : Method := { name := "<init>", desc := "()V", sig := { parameters := [], returnType := none }, accessFlags := 2, code := none }
def k1c1 : Code := { maxStack := 2, maxLocals := 1, code := method_2_code, exceptionTable := #[], attributes := #[] }
def k1m1 : Method := { name := "expected", desc := "(C)Z", sig := { parameters := [.char], returnType := some .boolean }, accessFlags := 10, code := some k1c1 }
def k1c2 : Code := { maxStack := 2, maxLocals := 2, code := code, exceptionTable := #[], attributes := #[] }
def k1m2 : Method := { name := "law", desc := "(I)Z", sig := { parameters := [.int], returnType := some .boolean }, accessFlags := 9, code := some k1c2 }
/-- com/example/labrelay/labrelay/model/DelimitersCanSeparatePinLaw -/
def k1 : Class := { plain "com/example/labrelay/labrelay/model/DelimitersCanSeparatePinLaw" (some 0) with
  accessFlags := 49
  interfaces := #[]
  cf := some (fileOf pool1 14 #[] #[{ accessFlags := 2, nameIndex := 5, descriptorIndex := 6, attributes := #[] }, { accessFlags := 10, nameIndex := 17, descriptorIndex := 12, attributes := #[] }, { accessFlags := 9, nameIndex := 21, descriptorIndex := 22, attributes := #[] }] 49 2 #[] #[])
  fields := #[]
  methods := #[k1m0, k1m1, k1m2]
  instanceTypes := #[]
  staticTypes := #[]
  resolved := Array.replicate 25 none
  statics := none }

def pool2 : Array CpInfo := pool [(2, .class_ 4), (1, u "java/lang/Object"), (0, u "<init>"), (0, u "()V"), (0, .class_ 8), (0, u "java/lang/Record")] 13

def k2m0 : Method := { name := "<init>", desc := "()V", sig := { parameters := [], returnType := none }, accessFlags := 4, code := none }
/-- java/lang/Record -/
def k2 : Class := { plain "java/lang/Record" (some 0) with
  accessFlags := 1057
  interfaces := #[]
  cf := some (fileOf pool2 7 #[] #[{ accessFlags := 4, nameIndex := 5, descriptorIndex := 6, attributes := #[] }] 1057 2 #[] #[])
  fields := #[]
  methods := #[k2m0]
  instanceTypes := #[]
  staticTypes := #[]
  resolved := Array.replicate 22 none
  statics := none }

def pool3 : Array CpInfo := pool [(2, .class_ 4), (1, u "java/lang/Record"), (25, .class_ 32), (1, u "com/example/labrelay/labrelay/model/Delimiters"), (0, u "canSeparate"), (0, u "(C)Z"), (10, u "field"), (0, u "C"), (2, u "encoding"), (0, u "Ljava/lang/String;"), (117, u "STANDARD"), (0, u "Lcom/example/labrelay/labrelay/model/Delimiters;"), (9, u "COMPARED"), (0, u "Ljava/nio/charset/Charset;"), (36, u "HEX"), (0, u "Ljava/util/HexFormat;"), (39, u "ESCAPE_NAMES"), (1, u "ESCAPED_MOST"), (0, u "I"), (1, u "GROWN_MOST")] 53

def k3c0 : Code := { maxStack := 2, maxLocals := 1, code := prog_107_method_2_code, exceptionTable := #[], attributes := #[] }
def k3m0 : Method := { name := "canSeparate", desc := "(C)Z", sig := { parameters := [.char], returnType := some .boolean }, accessFlags := 9, code := some k3c0 }
/-- com/example/labrelay/labrelay/model/Delimiters -/
def k3 : Class := { plain "com/example/labrelay/labrelay/model/Delimiters" (some 2) with
  accessFlags := 49
  interfaces := #[]
  cf := some (fileOf pool3 30 #[] #[{ accessFlags := 9, nameIndex := 33, descriptorIndex := 34, attributes := #[] }] 49 2 #[] #[{ accessFlags := 18, nameIndex := 45, descriptorIndex := 46, attributes := #[] }, { accessFlags := 18, nameIndex := 49, descriptorIndex := 50, attributes := #[] }, { accessFlags := 25, nameIndex := 168, descriptorIndex := 169, attributes := #[] }, { accessFlags := 26, nameIndex := 258, descriptorIndex := 50, attributes := #[] }, { accessFlags := 24, nameIndex := 260, descriptorIndex := 261, attributes := #[] }, { accessFlags := 26, nameIndex := 263, descriptorIndex := 261, attributes := #[] }, { accessFlags := 26, nameIndex := 179, descriptorIndex := 180, attributes := #[] }, { accessFlags := 26, nameIndex := 217, descriptorIndex := 218, attributes := #[] }])
  fields := #[{ name := "field", type := .char, accessFlags := 18, slot := 0, constantValue := 0 }, { name := "encoding", type := (.object "java/lang/String"), accessFlags := 18, slot := 1, constantValue := 0 }, { name := "STANDARD", type := (.object "com/example/labrelay/labrelay/model/Delimiters"), accessFlags := 25, slot := 0, constantValue := 0 }, { name := "ESCAPE_NAMES", type := (.object "java/lang/String"), accessFlags := 26, slot := 1, constantValue := 0 }, { name := "ESCAPED_MOST", type := .int, accessFlags := 24, slot := 2, constantValue := 0 }, { name := "GROWN_MOST", type := .int, accessFlags := 26, slot := 3, constantValue := 0 }, { name := "COMPARED", type := (.object "java/nio/charset/Charset"), accessFlags := 26, slot := 4, constantValue := 0 }, { name := "HEX", type := (.object "java/util/HexFormat"), accessFlags := 26, slot := 5, constantValue := 0 }]
  methods := #[k3m0]
  instanceTypes := #[.char, (.object "java/lang/String")]
  staticTypes := #[(.object "com/example/labrelay/labrelay/model/Delimiters"), (.object "java/lang/String"), .int, .int, (.object "java/nio/charset/Charset"), (.object "java/util/HexFormat")]
  resolved := Array.replicate 317 none
  statics := none }

def pool4 : Array CpInfo := pool [(1, u "java/lang/Cloneable"), (0, .class_ 1), (0, u "java/lang/Object"), (0, .class_ 3)] 3

/-- java/lang/Cloneable -/
def k4 : Class := { plain "java/lang/Cloneable" (some 0) with
  accessFlags := 1537
  interfaces := #[]
  cf := some (fileOf pool4 2 #[] #[] 1537 4 #[] #[])
  fields := #[]
  methods := #[]
  instanceTypes := #[]
  staticTypes := #[]
  resolved := Array.replicate 8 none
  statics := none }

def pool5 : Array CpInfo := pool [(1, u "java/io/Serializable"), (0, .class_ 1), (0, u "java/lang/Object"), (0, .class_ 3)] 3

/-- java/io/Serializable -/
def k5 : Class := { plain "java/io/Serializable" (some 0) with
  accessFlags := 1537
  interfaces := #[]
  cf := some (fileOf pool5 2 #[] #[] 1537 4 #[] #[])
  fields := #[]
  methods := #[]
  instanceTypes := #[]
  staticTypes := #[]
  resolved := Array.replicate 8 none
  statics := none }

/-- the primitive byte -/
def k6 : Class := { plain "byte" none with kind := .primitive 'B', accessFlags := 0x411 }
/-- [B -/
def k7 : Class := { plain "[B" (some 0) with kind := .array 6 .byte, interfaces := #[4, 5], accessFlags := 1041 }

/-- the primitive int -/
def k8 : Class := { plain "int" none with kind := .primitive 'I', accessFlags := 0x411 }
/-- [I -/
def k9 : Class := { plain "[I" (some 0) with kind := .array 8 .int, interfaces := #[4, 5], accessFlags := 1041 }

def heap : Heap := #[]
def classes : Array Class := #[k0, k1, k2, k3, k4, k5, k6, k7, k8, k9]
def interned : List (Array UInt16 × Addr) := []
def slotsUsed : Nat := 0
def theMethod : MethodId := ⟨1, 2⟩
def args0 : Array Value := #[.int 5]
def aboutOver (below : List Frame) : State where
  vm := { classes := classes, interned := interned.toArray }
  heap := heap
  slotsUsed := slotsUsed
  threads := #[{ frames := .invoking theMethod args0 :: below }]
def below0 : List Frame := [.native { method := ⟨0, 0⟩, args := #[] }]
def about1 : State := aboutOver below0
def p0 : Program := .bare "" "" ""
def e0 : Env := launch0.env 0 0 0
theorem w_frames : about1.frames = Frame.invoking theMethod args0 :: below0 := rfl
set_option maxRecDepth 65536 in
theorem w_args : argsFit about1.vm theMethod args0 = true := by decide +kernel
set_option maxRecDepth 65536 in
theorem w_heap : heapFits about1 = true := by decide +kernel
set_option maxRecDepth 65536 in
theorem w_runnable : about1.curStatus? = some .runnable := by decide +kernel
set_option maxRecDepth 65536 in
theorem w_alone : about1.alone = true := by decide +kernel
set_option maxRecDepth 65536 in
theorem w_named : about1.methodNamed? x = some theMethod := by decide +kernel
set_option maxRecDepth 65536 in
theorem w_hears : about1.hears theMethod below0 = true := by decide +kernel
set_option maxRecDepth 65536 in
theorem w_ripe : about1.ripe theMethod args0 below0 = true := by decide +kernel
theorem w_running : about1.status = .running := rfl
set_option maxRecDepth 65536 in
theorem w_room : about1.hasRoom e0.platform room_1 = true :=
  launch0.hasRoom_least _ room_1 (by decide +kernel) (by decide +kernel) (by decide +kernel) (by decide +kernel) (by decide +kernel) (by decide +kernel)
theorem allAtoms_all (ts : List Jvm.Cond) (a : Array Jvm.Value) (st : Jvm.State) : (allAtoms ts).before a st = ts.all (fun c => c.before a st) := by
  induction ts with
  | nil => rfl
  | cons c t ih =>
    show (Jvm.Cond.and c (allAtoms t)).before a st = _
    rw [Jvm.Cond.before_and, ih, List.all_cons]
def words1 : List Jvm.Cond := Jvm.Cond.code x code maxLocals ret :: tables_1
/-- a 'code' word, met by the world's own term for the bytes: nothing is compared byte by byte -/
theorem code_word {y : MethodName} {bytes : ByteArray} {mx : Nat} {rt : Option FieldType} {a : Array Value} {s : State} {m : MethodId} {meth : Method} {c : Code} (h1 : s.methodNamed? y = some m) (h2 : s.vm.method? m = some meth) (h3 : meth.code = some c) (h4 : c.code = bytes)
    (h5 : (c.maxLocals == mx && c.exceptionTable.isEmpty && decide (c.maxStack ≤ mostOperands) && decide (meth.sig.returnType = rt) && !meth.locks && decide (parseMethodDescriptor y.desc = some meth.sig)) = true) : (Jvm.Cond.code y bytes mx rt).before a s = true := by
  simp only [Bool.and_eq_true, beq_iff_eq, Bool.not_eq_true', decide_eq_true_eq] at h5
  obtain ⟨⟨⟨⟨⟨g1, g2⟩, g3⟩, g4⟩, g5⟩, g6⟩ := h5
  simp [Cond.before, Cond.holds, Cond.value, h1, h2, h3, h4, g1, g2, g3, g4, g5, g6]
def isCode : Jvm.Cond → Bool
  | .code _ _ _ _ => true
  | _ => false
theorem all_split {L : List Jvm.Cond} {P : Jvm.Cond → Bool} (h1 : L.all (fun c => isCode c || P c) = true) (h2 : ∀ c ∈ L.filter isCode, P c = true) : L.all P = true := by
  refine List.all_eq_true.mpr fun c hc => ?_
  have h := List.all_eq_true.mp h1 c hc
  rcases Bool.eq_false_or_eq_true (isCode c) with hi | hi
  · exact h2 c (List.mem_filter.mpr ⟨hc, hi⟩)
  · simpa [hi] using h
set_option maxRecDepth 65536 in
theorem w_c0 : (Jvm.Cond.code x code maxLocals ret).before args0 about1 = true := code_word (m := ⟨1, 2⟩) (meth := k1m2) (c := k1c2) (by decide +kernel) rfl rfl rfl (by decide +kernel)
set_option maxRecDepth 65536 in
theorem w_c1 : (Jvm.Cond.code ({ cls := "com/example/labrelay/labrelay/model/Delimiters", name := "canSeparate", desc := "(C)Z" } : Jvm.MethodName) prog_107_method_2_code (1 : Nat) (Option.some Jvm.ClassFile.FieldType.boolean)).before args0 about1 = true := code_word (m := ⟨3, 0⟩) (meth := k3m0) (c := k3c0) (by decide +kernel) rfl rfl rfl (by decide +kernel)
set_option maxRecDepth 65536 in
theorem w_c2 : (Jvm.Cond.code ({ cls := "com/example/labrelay/labrelay/model/DelimitersCanSeparatePinLaw", name := "expected", desc := "(C)Z" } : Jvm.MethodName) method_2_code (1 : Nat) (Option.some Jvm.ClassFile.FieldType.boolean)).before args0 about1 = true := code_word (m := ⟨1, 1⟩) (meth := k1m1) (c := k1c1) (by decide +kernel) rfl rfl rfl (by decide +kernel)
def codes1 : List Jvm.Cond := [Jvm.Cond.code x code maxLocals ret, Jvm.Cond.code ({ cls := "com/example/labrelay/labrelay/model/Delimiters", name := "canSeparate", desc := "(C)Z" } : Jvm.MethodName) prog_107_method_2_code (1 : Nat) (Option.some Jvm.ClassFile.FieldType.boolean), Jvm.Cond.code ({ cls := "com/example/labrelay/labrelay/model/DelimitersCanSeparatePinLaw", name := "expected", desc := "(C)Z" } : Jvm.MethodName) method_2_code (1 : Nat) (Option.some Jvm.ClassFile.FieldType.boolean)]
set_option maxRecDepth 65536 in
theorem codes_eq : words1.filter isCode = codes1 := rfl
theorem w_codes : ∀ c ∈ words1.filter isCode, c.before args0 about1 = true := by
  rw [codes_eq]
  intro c hc
  simp only [codes1, List.mem_cons, List.not_mem_nil, or_false] at hc
  rcases hc with rfl | rfl | rfl
  · exact w_c0
  · exact w_c1
  · exact w_c2
set_option maxRecDepth 65536 in
theorem w_t1 : words1.all (fun c => isCode c || c.before args0 about1) = true := by decide +kernel
theorem w_tables : (allAtoms (Jvm.Cond.code x code maxLocals ret :: tables_1)).before args0 about1 = true := by
  rw [allAtoms_all]
  show words1.all (fun c => c.before args0 about1) = true
  refine all_split ?_ w_codes
  rw [w_t1]
set_option maxRecDepth 65536 in
theorem w_case : (Jvm.Cond.and given_1 narrow_1).before args0 about1 = true := by decide +kernel
theorem w_applies : (headSpec (Jvm.Cond.code x code maxLocals ret :: tables_1) room_1).applies x e0.platform about1 = true :=
  (Spec.applies_iff w_frames).mpr ⟨w_running, w_runnable, w_alone, w_named, w_hears, w_ripe, w_room, w_tables⟩
theorem atStart : AtStart classFile x code maxLocals ret World_1 tables_1 room_1 Calls_1 rest_1 Pre_1 launch0 p0 e0 about1 theMethod args0 below0 :=
  ⟨lists_1, trivial, launch0.admits_env _ _ _, launch0.least_env, fairChoices_fair.cas, fairChoices_fair.clock, w_frames, w_args, w_heap, w_applies, trivial, trivial, w_case⟩
end start1
theorem witness_1 : WitnessClaimed_1 := ⟨start1.p0, start1.e0, start1.about1, start1.theMethod, start1.args0, start1.below0, start1.atStart⟩
end Jvm.Pilot.@@N@@
