import JvmDerived
import JvmDerived.Pilot.@@N@@Statement
import JvmDerived.Pilot.@@N@@Code
set_option linter.unusedVariables false
set_option linter.unusedSimpArgs false

namespace Jvm.Pilot.@@N@@
open Jvm Jvm.ClassFile Sem Op Lib Jvm.Free Jvm.Stand Jvm.LawKit Jvm.RoadKit Bundle Jvm.Pilot.@@N@@.Jvm.D
/-! ## The walk, forwards: from here the method comes to its end as Q says -/
section OwnFin
variable {p : Program} {l : Launch} {e : Env} {R : Room} {s : State} {m : MethodId} {args : Array Value} {below : List Frame} {meth : Method} {c : Code} {T T' : State} {locs : List Loc} {cells slots K N : Nat} {Q : Option Value → Heap → List Loc → Prop}
def own_Fin (p : Program) (e : Env) (below : List Frame) (s : State) (K N : Nat) (Q : Option Value → Heap → List Loc → Prop) (T : State) (g : JFrame) : Prop :=
  ∃ t o, Steps p.tables e below (T.setTop g) t ∧ t.status = .running ∧ Ended t below o ∧ ∃ v L, o = .returned v ∧ Q v t.heap L ∧ FrameEnd s o t L K N
theorem own_in {g g' : JFrame} (q : g = g') (h : own_Fin p e below s K N Q T g') : ∃ t o, Steps p.tables e below (T.setTop g) t ∧ t.status = .running ∧ Ended t below o ∧ ∃ v L, o = .returned v ∧ Q v t.heap L ∧ FrameEnd s o t L K N := q ▸ h
theorem own_st {g g' : JFrame} (h : ∀ t, Steps p.tables e below (T'.setTop g') t → Steps p.tables e below (T.setTop g) t) (k : own_Fin p e below s K N Q T' g') : own_Fin p e below s K N Q T g := by
  obtain ⟨t, o, h1, h2⟩ := k; exact ⟨t, o, h t h1, h2⟩
theorem own_end {g : JFrame} {v : Option Value} (X : Stand p l e R s m args below meth c T locs cells slots) (hl : meth.locks = false) (hv : meth.sig.returnType = none → v = none)
    (h : ∀ fs, (∀ (f : JFrame) (acts : List Action), f.method = m → f.locked = none → f.entered = [] → (doReturn e (T.setTop f) acts v).1 = T.setFrames fs) → Steps p.tables e below (T.setTop g) (T.setFrames fs)) (hQ : Q v T.heap locs) (hc : cells ≤ K) (hs : slots ≤ N) : own_Fin p e below s K N Q T g := by
  obtain ⟨fs, hr, hrun, hended, hW, hsame⟩ := X.leave (v := v) hv hl
  exact ⟨_, _, h fs hr, hrun, hended, _, _, rfl, hQ, ⟨_, rfl⟩, hW, hsame.mono hc hs⟩
theorem own_retI {pc : Nat} {Ls : Array Slot} {z : Int32} {rest : List Value} (X : Stand p l e R s m args below meth c T locs cells slots) (hx : p.tables.exec = Jvm.exec) (hret : meth.sig.returnType = some .int) (hl : meth.locks = false) (hd : decode c.code pc = .ok (.ireturn, 1)) (hQ : Q (some (.int z)) T.heap locs) (hc : cells ≤ K) (hs : slots ≤ N) :
    own_Fin p e below s K N Q T (mkF m pc Ls (.int z :: rest)) :=
  own_end X hl (fun h => by rw [hret] at h; cases h) (fun fs hr => retOut X hx hret rfl (Or.inl ⟨rfl, Or.inl rfl, z, rfl⟩) hd hr) hQ hc hs
theorem own_retN {pc : Nat} {Ls : Array Slot} {z : Int32} {t : FieldType} {rest : List Value} (X : Stand p l e R s m args below meth c T locs cells slots) (hx : p.tables.exec = Jvm.exec) (hret : meth.sig.returnType = some t) (hl : meth.locks = false) (ht : t = .boolean ∨ t = .byte ∨ t = .char ∨ t = .short) (hd : decode c.code pc = .ok (.ireturn, 1)) (hQ : Q (some (.int (nar t z))) T.heap locs) (hc : cells ≤ K) (hs : slots ≤ N) :
    own_Fin p e below s K N Q T (mkF m pc Ls (.int z :: rest)) :=
  own_end X hl (fun h => by rw [hret] at h; cases h) (fun fs hr => retN X hx hret ht hd hr) hQ hc hs
theorem own_retJ {pc : Nat} {Ls : Array Slot} {z : Int64} {rest : List Value} (X : Stand p l e R s m args below meth c T locs cells slots) (hx : p.tables.exec = Jvm.exec) (hret : meth.sig.returnType = some .long) (hl : meth.locks = false) (hd : decode c.code pc = .ok (.lreturn, 1)) (hQ : Q (some (.long z)) T.heap locs) (hc : cells ≤ K) (hs : slots ≤ N) :
    own_Fin p e below s K N Q T (mkF m pc Ls (.long z :: rest)) :=
  own_end X hl (fun h => by rw [hret] at h; cases h) (fun fs hr => retOut X hx hret rfl (Or.inr (Or.inl ⟨rfl, rfl, z, rfl⟩)) hd hr) hQ hc hs
theorem own_retA {pc : Nat} {Ls : Array Slot} {a : Addr} {t : FieldType} {rest : List Value} (X : Stand p l e R s m args below meth c T locs cells slots) (hx : p.tables.exec = Jvm.exec) (hret : meth.sig.returnType = some t) (hl : meth.locks = false) (ht : t.isReference = true) (hd : decode c.code pc = .ok (.areturn, 1)) (hQ : Q (some (.ref a)) T.heap locs) (hc : cells ≤ K) (hs : slots ≤ N) :
    own_Fin p e below s K N Q T (mkF m pc Ls (.ref a :: rest)) :=
  own_end X hl (fun h => by rw [hret] at h; cases h) (fun fs hr => retOut X hx hret (by cases t <;> first | rfl | cases ht) (Or.inr (Or.inr (Or.inr (Or.inr ⟨rfl, ht, rfl⟩)))) hd hr) hQ hc hs
theorem own_retV {pc : Nat} {Ls : Array Slot} (X : Stand p l e R s m args below meth c T locs cells slots) (hx : p.tables.exec = Jvm.exec) (hret : meth.sig.returnType = none) (hl : meth.locks = false) (hd : decode c.code pc = .ok (.return_, 1)) (hQ : Q none T.heap locs) (hc : cells ≤ K) (hs : slots ≤ N) :
    own_Fin p e below s K N Q T (mkF m pc Ls []) :=
  own_end X hl (fun _ => rfl) (fun fs hr => X.returnOut hx hret hd hr) hQ hc hs
theorem own_lremM {g : JFrame} {target : State} (X : Stand p l e R s m args below meth c T locs cells slots) (hx : p.tables.exec = Jvm.exec) (hg : g.method = m) {x y : Int64} {rest : List Value} (hd : decode c.code g.pc = .ok (.lrem, 1)) (hs : g.stack = .long y :: .long x :: rest) (hy : y ≠ 0)
    (hr : Steps p.tables e below (T.setTop { g with pc := g.pc + 1, stack := .long (x % y) :: rest }) target) : Steps p.tables e below (T.setTop g) target := by
  have q : x - x / y * y = x % y := lrem_mod x y
  exact XS.lrem X.here hx hg hd hs hy (by rw [q]; exact hr)
end OwnFin
/-- a private method is selected by its own class -/
theorem own_selp {s : State} {args : Array Value} {n : Nat} {y : MethodName} (hy : y.cls ≠ "java/lang/invoke/MethodHandle" ∧ y.cls ≠ "java/lang/invoke/VarHandle") (hins : (Jvm.Cond.instantiable y.cls n).before args s = true) (hpriv : (Jvm.Cond.privateMethod y).before args s = true) (hinst : (Jvm.Cond.instanceMethod y).before args s = true) : (Jvm.Cond.selects y.cls y y).before args s = true := by
  obtain ⟨c, k, hc, hk, -, hniab, -, -⟩ := Cond.instantiable_spec hins
  have hni : k.isInterface = false := (Bool.or_eq_false_iff.mp hniab).1
  obtain ⟨mk, methM, hnamed, hmethM, -, -⟩ := Cond.instanceMethod_spec hinst
  have hfound : s.methodFound? y.cls y.name y.desc = some mk := State.methodFound?_of_named hnamed hy
  have hcls : mk.cls = c := Option.some.inj ((findClass_of_methodNamed hnamed).symm.trans hc)
  have hsel : selectMethod {} s.vm c mk = .method mk := selectMethod_private hmethM (Cond.privateMethod_at hpriv mk methM hnamed hmethM)
  simp only [Cond.before, Cond.holds, Cond.value, hc, hfound, hnamed, hsel, hcls, hk]
  simp; exact hni

/-! ## Arrays whose every component is known: the list xs, by the kind's own constructor f -/
section OwnArr
variable {p : Program} {l : Launch} {e : Env} {R : Room} {s : State} {m : MethodId} {args : Array Value} {below : List Frame} {meth : Method} {c : Code} {T : State} {locs : List Loc} {cells slots : Nat} {Z : State} {h h' : Heap} {a b : Addr} {k : ClassId} {ty : FieldType} {z j : Int32} {α : Type} {f : α → Value} {d x : α} {xs : List α} {ws : List Addr} {sl : Nat} {v : Value}
def own_Ar (Z : State) (h : Heap) (a : Addr) (k : ClassId) (ty : FieldType) (z : Int32) (f : α → Value) (d : α) (xs : List α) : Prop := Arv Z h a k ty z (xs.map f) (f d) ∧ xs.length = z.toNatClampNeg
theorem own_Ar.lt (F : own_Ar Z h a k ty z f d xs) : a < h.size := F.1.lt
theorem own_Ar.ext (F : own_Ar Z h a k ty z f d xs) (E : Ext h h') : own_Ar Z h' a k ty z f d xs := ⟨F.1.ext E, F.2⟩
theorem own_Ar.other (F : own_Ar Z h b k ty z f d xs) (W : Wr h h' a sl v) (q : b ≠ a) : own_Ar Z h' b k ty z f d xs := ⟨F.1.other W q, F.2⟩
theorem own_Ar.keep (F : own_Ar Z h a k ty z f d xs) (K : Keep h h' ws) (q : a ∉ ws) : own_Ar Z h' a k ty z f d xs := ⟨F.1.keep K q, F.2⟩
theorem own_Ar.new (A : Arr Z h a (newA k ty z) ty) (q : ¬ z < 0) (hd : defaultValue ty = f d) : own_Ar Z h a k ty z f d (List.replicate z.toNatClampNeg d) := by
  refine ⟨?_, List.length_replicate⟩
  have V := Arv.new A q
  rw [hd] at V
  refine V.pad fun i => ?_
  rw [List.map_replicate]; exact pad_rep [] (f d) _ i
theorem own_getD (xs : List α) (i : Nat) : (xs.map f).getD i (f d) = f (xs.getD i d) := by
  rw [List.getD_eq_getElem?_getD, List.getD_eq_getElem?_getD, List.getElem?_map]
  cases xs[i]? <;> rfl
theorem own_Ar.get (F : own_Ar Z h a k ty z f d xs) (q : ¬ j < 0 ∧ j < z) : ∃ cl, Arr Z h a cl ty ∧ ¬ (j < 0 ∨ cl.slots.size ≤ j.toNatClampNeg) ∧ cl.slots[j.toNatClampNeg]? = some (f (xs.getD j.toNatClampNeg d)) := by
  obtain ⟨⟨c, A, r1, S, r3, H, G⟩, l⟩ := F
  have hin := inb_of S q
  exact ⟨c, A, hin, H.at hin (own_getD xs _)⟩
theorem own_Ar.set (F : own_Ar Z h a k ty z f d xs) (q : ¬ j < 0 ∧ j < z) (hv : fits ty (f x) = true) (W : Wr h h' a j.toNatClampNeg (f x)) : own_Ar Z h' a k ty z f d (xs.set j.toNatClampNeg x) := by
  obtain ⟨⟨c, A, r1, S, r3, H, G⟩, l⟩ := F
  have hin := inb_of S q
  refine ⟨?_, by rw [List.length_set]; exact l⟩
  rw [List.map_set]
  refine Arv.set A r1 S r3 H G hv W _ rfl ?_
  rw [List.length_map, l, ← S]; exact Nat.lt_of_not_le fun y => hin (Or.inr y)
theorem own_alen {g : JFrame} (X : Stand p l e R s m args below meth c T locs cells slots) (hx : p.tables.exec = Jvm.exec) (hZ : Z.Warmed39 s.vm) (eT : T.heap = h) (F : own_Ar Z h a k ty z f d xs) (hg : g.method = m) {rest : List Value} (hs : g.stack = .ref a :: rest) (hd : decode c.code g.pc = .ok (.arraylength, 1)) (target : State)
    (hr : Steps p.tables e below (T.setTop { g with pc := g.pc + 1, stack := .int z :: rest }) target) : Steps p.tables e below (T.setTop g) target := by
  obtain ⟨⟨c', A, r1, S, r3, H, G⟩, l⟩ := F
  refine X.arraylength hx (by rw [eT]; exact A.1) (State.isArrayOf_alike hZ.alike A.2.1) hg hs hd target ?_
  rw [len_of S r3]; exact hr
theorem own_iald {g : JFrame} {d : Int32} {xs : List Int32} (X : Stand p l e R s m args below meth c T locs cells slots) (hx : p.tables.exec = Jvm.exec) (hZ : Z.Warmed39 s.vm) (eT : T.heap = h) (F : own_Ar Z h a k .int z Value.int d xs) (q : ¬ j < 0 ∧ j < z) (hg : g.method = m) {rest : List Value} (hs : g.stack = .int j :: .ref a :: rest) (hd : decode c.code g.pc = .ok (.iaload, 1)) (target : State)
    (hr : Steps p.tables e below (T.setTop { g with pc := g.pc + 1, stack := .int (xs.getD j.toNatClampNeg d) :: rest }) target) : Steps p.tables e below (T.setTop g) target := by
  obtain ⟨cl, A, hin, hat⟩ := F.get q
  exact X.iaload hx (by rw [eT]; exact A.1) (State.isArrayOf_alike hZ.alike A.2.1) A.2.2 hin hat hg hs hd target hr
theorem own_cald {g : JFrame} {d : Int32} {xs : List Int32} (X : Stand p l e R s m args below meth c T locs cells slots) (hx : p.tables.exec = Jvm.exec) (hZ : Z.Warmed39 s.vm) (eT : T.heap = h) (F : own_Ar Z h a k .char z Value.int d xs) (q : ¬ j < 0 ∧ j < z) (hg : g.method = m) {rest : List Value} (hs : g.stack = .int j :: .ref a :: rest) (hd : decode c.code g.pc = .ok (.caload, 1)) (target : State)
    (hr : Steps p.tables e below (T.setTop { g with pc := g.pc + 1, stack := .int (xs.getD j.toNatClampNeg d) :: rest }) target) : Steps p.tables e below (T.setTop g) target := by
  obtain ⟨cl, A, hin, hat⟩ := F.get q
  exact X.caload hx (by rw [eT]; exact A.1) (State.isArrayOf_alike hZ.alike A.2.1) A.2.2 hin hat hg hs hd target hr
theorem own_bald {g : JFrame} {d : Int32} {xs : List Int32} (X : Stand p l e R s m args below meth c T locs cells slots) (hx : p.tables.exec = Jvm.exec) (hZ : Z.Warmed39 s.vm) (eT : T.heap = h) (F : own_Ar Z h a k .byte z Value.int d xs) (q : ¬ j < 0 ∧ j < z) (hg : g.method = m) {rest : List Value} (hs : g.stack = .int j :: .ref a :: rest) (hd : decode c.code g.pc = .ok (.baload, 1)) (target : State)
    (hr : Steps p.tables e below (T.setTop { g with pc := g.pc + 1, stack := .int (xs.getD j.toNatClampNeg d) :: rest }) target) : Steps p.tables e below (T.setTop g) target := by
  obtain ⟨cl, A, hin, hat⟩ := F.get q
  exact X.baloadBytes hx (by rw [eT]; exact A.1) (State.isArrayOf_alike hZ.alike A.2.1) A.2.2 hin hat hg hs hd target hr
theorem own_lald {g : JFrame} {d : Int64} {xs : List Int64} (X : Stand p l e R s m args below meth c T locs cells slots) (hx : p.tables.exec = Jvm.exec) (hZ : Z.Warmed39 s.vm) (eT : T.heap = h) (F : own_Ar Z h a k .long z Value.long d xs) (q : ¬ j < 0 ∧ j < z) (hg : g.method = m) {rest : List Value} (hs : g.stack = .int j :: .ref a :: rest) (hd : decode c.code g.pc = .ok (.laload, 1)) (target : State)
    (hr : Steps p.tables e below (T.setTop { g with pc := g.pc + 1, stack := .long (xs.getD j.toNatClampNeg d) :: rest }) target) : Steps p.tables e below (T.setTop g) target := by
  obtain ⟨cl, A, hin, hat⟩ := F.get q
  exact X.laload hx (by rw [eT]; exact A.1) (State.isArrayOf_alike hZ.alike A.2.1) A.2.2 hin hat hg hs hd target hr
theorem own_iast {g : JFrame} {d x : Int32} {xs : List Int32} (X : Stand p l e R s m args below meth c T locs cells slots) (hx : p.tables.exec = Jvm.exec) (hZ : Z.Warmed39 s.vm) (eT : T.heap = h) (F : own_Ar Z h a k .int z Value.int d xs) (q : ¬ j < 0 ∧ j < z) (hg : g.method = m) {rest : List Value} (hs : g.stack = .int x :: .int j :: .ref a :: rest) (hd : decode c.code g.pc = .ok (.iastore, 1)) :
    ∃ T' h', Stand p l e R s m args below meth c T' (locs ++ [⟨a, j.toNatClampNeg⟩]) cells slots ∧ T'.heap = h' ∧ Wr h h' a j.toNatClampNeg (.int x) ∧ own_Ar Z h' a k .int z Value.int d (xs.set j.toNatClampNeg x) ∧ ∀ target, Steps p.tables e below (T'.setTop { g with pc := g.pc + 1, stack := rest }) target → Steps p.tables e below (T.setTop g) target := by
  obtain ⟨cl, A, hin, hat⟩ := F.get q
  obtain ⟨T', h', X', e', W, st⟩ := stI X hx hZ eT A hin hg hs hd
  exact ⟨T', h', X', e', W, F.set q rfl W, st⟩
theorem own_cast {g : JFrame} {d x : Int32} {xs : List Int32} (X : Stand p l e R s m args below meth c T locs cells slots) (hx : p.tables.exec = Jvm.exec) (hZ : Z.Warmed39 s.vm) (eT : T.heap = h) (F : own_Ar Z h a k .char z Value.int d xs) (q : ¬ j < 0 ∧ j < z) (hg : g.method = m) {rest : List Value} (hs : g.stack = .int x :: .int j :: .ref a :: rest) (hd : decode c.code g.pc = .ok (.castore, 1)) :
    ∃ T' h', Stand p l e R s m args below meth c T' (locs ++ [⟨a, j.toNatClampNeg⟩]) cells slots ∧ T'.heap = h' ∧ Wr h h' a j.toNatClampNeg (.int (nar .char x)) ∧ own_Ar Z h' a k .char z Value.int d (xs.set j.toNatClampNeg (nar .char x)) ∧ ∀ target, Steps p.tables e below (T'.setTop { g with pc := g.pc + 1, stack := rest }) target → Steps p.tables e below (T.setTop g) target := by
  obtain ⟨cl, A, hin, hat⟩ := F.get q
  obtain ⟨T', h', X', e', W, st⟩ := stC X hx hZ eT A hin hg hs hd
  exact ⟨T', h', X', e', W, F.set q (fits_nar_char _) W, st⟩
theorem own_bast {g : JFrame} {d x : Int32} {xs : List Int32} (X : Stand p l e R s m args below meth c T locs cells slots) (hx : p.tables.exec = Jvm.exec) (hZ : Z.Warmed39 s.vm) (eT : T.heap = h) (F : own_Ar Z h a k .byte z Value.int d xs) (q : ¬ j < 0 ∧ j < z) (hg : g.method = m) {rest : List Value} (hs : g.stack = .int x :: .int j :: .ref a :: rest) (hd : decode c.code g.pc = .ok (.bastore, 1)) :
    ∃ T' h', Stand p l e R s m args below meth c T' (locs ++ [⟨a, j.toNatClampNeg⟩]) cells slots ∧ T'.heap = h' ∧ Wr h h' a j.toNatClampNeg (.int (nar .byte x)) ∧ own_Ar Z h' a k .byte z Value.int d (xs.set j.toNatClampNeg (nar .byte x)) ∧ ∀ target, Steps p.tables e below (T'.setTop { g with pc := g.pc + 1, stack := rest }) target → Steps p.tables e below (T.setTop g) target := by
  obtain ⟨cl, A, hin, hat⟩ := F.get q
  obtain ⟨T', h', X', e', W, st⟩ := stB X hx hZ eT A hin hg hs hd
  exact ⟨T', h', X', e', W, F.set q (fits_nar_byte _) W, st⟩
theorem own_last {g : JFrame} {d x : Int64} {xs : List Int64} (X : Stand p l e R s m args below meth c T locs cells slots) (hx : p.tables.exec = Jvm.exec) (hZ : Z.Warmed39 s.vm) (eT : T.heap = h) (F : own_Ar Z h a k .long z Value.long d xs) (q : ¬ j < 0 ∧ j < z) (hg : g.method = m) {rest : List Value} (hs : g.stack = .long x :: .int j :: .ref a :: rest) (hd : decode c.code g.pc = .ok (.lastore, 1)) :
    ∃ T' h', Stand p l e R s m args below meth c T' (locs ++ [⟨a, j.toNatClampNeg⟩]) cells slots ∧ T'.heap = h' ∧ Wr h h' a j.toNatClampNeg (.long x) ∧ own_Ar Z h' a k .long z Value.long d (xs.set j.toNatClampNeg x) ∧ ∀ target, Steps p.tables e below (T'.setTop { g with pc := g.pc + 1, stack := rest }) target → Steps p.tables e below (T.setTop g) target := by
  obtain ⟨cl, A, hin, hat⟩ := F.get q
  obtain ⟨T', h', X', e', W, st⟩ := stJ X hx hZ eT A hin hg hs hd
  exact ⟨T', h', X', e', W, F.set q rfl W, st⟩
end OwnArr

def own_f3_10 (p0 : Int32) (p1 : Int32) (t0_10 : Int32) : Int32 := t0_10
theorem own_f3_10_eq (p0 : Int32) (p1 : Int32) (t0_10 : Int32) : own_f3_10 p0 p1 t0_10 = t0_10 := rfl
def own_F3 (p0 : Int32) (p1 : Int32) : Int32 := (if p1 < p0 then (own_f3_10 p0 p1 p1) else (own_f3_10 p0 p1 p0))
theorem own_F3_eq (p0 : Int32) (p1 : Int32) : own_F3 p0 p1 = (if p1 < p0 then (own_f3_10 p0 p1 p1) else (own_f3_10 p0 p1 p0)) := rfl
theorem d3_0 : decode jdk_29_method_69_code 0 = .ok (.iload_n 0, 1) := by decide +kernel
theorem d3_1 : decode jdk_29_method_69_code 1 = .ok (.iload_n 1, 1) := by decide +kernel
theorem d3_2 : decode jdk_29_method_69_code 2 = .ok (.if_icmp .gt 7, 3) := by decide +kernel
theorem d3_5 : decode jdk_29_method_69_code 5 = .ok (.iload_n 0, 1) := by decide +kernel
theorem d3_6 : decode jdk_29_method_69_code 6 = .ok (.goto 4, 3) := by decide +kernel
theorem d3_9 : decode jdk_29_method_69_code 9 = .ok (.iload_n 1, 1) := by decide +kernel
theorem d3_10 : decode jdk_29_method_69_code 10 = .ok (.ireturn, 1) := by decide +kernel
theorem ef_3 (m : MethodId) (x0 : Int32) (x1 : Int32) : entryFrame m #[(.int x0), (.int x1)] 2 = mkF m 0 #[.val (.int x0), .val (.int x1)] [] := by first | (simp [entryFrame, mkF, argsToLocals, Value.category]; done) | rfl
def Q3 (Z : State) (p0 : Int32) (p1 : Int32) (h0 : Heap) (n0 : Nat) (v : Option Value) (h : Heap) (L : List Loc) : Prop := v = some (.int (own_F3 p0 p1)) ∧ Fr n0 L ∧ h = h0
set_option maxRecDepth 65536 in
set_option maxHeartbeats 40000000 in
theorem rm3 (l : Launch) (Z : State) (a0 : Array Value) (hw : ∀ d ∈ tables_1, d.before a0 Z = true) (ws : List Jvm.Cond) (p0 : Int32) (p1 : Int32) (h0 : Heap) (n0 : Nat) (Z0 : n0 ≤ h0.size) :
    MetFree l (⟨"java/lang/Math", "min", "(II)I"⟩ : MethodName) (head1 (Jvm.Cond.code (⟨"java/lang/Math", "min", "(II)I"⟩ : MethodName) jdk_29_method_69_code 2 (some .int) :: ws) ({ frames := 0, cells := 0, slots := 0, locals := 0 } : Room)) (fun a U => a = #[(.int p0), (.int p1)] ∧ Z.Warmed39 U.vm ∧ U.heap = h0) (fun _ _ _ _ _ => True) (fun _ U o U' => ∃ v L, o = .returned v ∧ Q3 Z p0 p1 h0 n0 v U'.heap L ∧ FrameEnd U o U' L ({ frames := 0, cells := 0, slots := 0, locals := 0 } : Room).cells ({ frames := 0, cells := 0, slots := 0, locals := 0 } : Room).slots) := by
  refine MetFree.of_bodySF (Jvm.Free.JP.mathPlain rfl (by decide +kernel)) hisR ?_
  intro p e s m args below meth c s₁ Bd hml0 hP hK
  obtain ⟨rfl, hZ, hh⟩ := hP
  have hx := Bd.exec
  have hby := Bd.bytes
  have hml : c.maxLocals = 2 := hml0
  have hown : s.vm.findClass "java/lang/Math" = some m.cls := findClass_of_methodNamed Bd.named
  have hnm := (name_of_methodNamed Bd.named Bd.method).1
  have X0 : Stand p l e ({ frames := 0, cells := 0, slots := 0, locals := 0 } : Room) s m #[(.int p0), (.int p1)] below meth c s₁ [] 0 0 := Stand.of_body Bd
  have e0 : s₁.heap = h0 := by rw [← hh, Bd.state]; rfl
  have N0 := Fr.nil n0
  refine own_in (ef_3 m p0 p1) ?_
  have hr0 := (own_F3_eq p0 p1).symm
  refine own_st (g' := (mkF m 1 #[.val (.int p0), .val (.int p1)] [(.int p0)])) (fun t k => XS.iloadN X0.here hx rfl (hb hby d3_0) rfl  k) ?_
  refine own_st (g' := (mkF m 2 #[.val (.int p0), .val (.int p1)] [(.int p1), (.int p0)])) (fun t k => XS.iloadN X0.here hx rfl (hb hby d3_1) rfl  k) ?_
  have J10 : ∀ (T : State) (locs : List Loc) (t0_10 : Int32), Stand p l e ({ frames := 0, cells := 0, slots := 0, locals := 0 } : Room) s m #[(.int p0), (.int p1)] below meth c T locs 0 0 → T.heap = h0 → Fr n0 locs → own_f3_10 p0 p1 t0_10 = own_F3 p0 p1 → own_Fin p e below s ({ frames := 0, cells := 0, slots := 0, locals := 0 } : Room).cells ({ frames := 0, cells := 0, slots := 0, locals := 0 } : Room).slots (Q3 Z p0 p1 h0 n0) T (mkF m 10 #[.val (.int p0), .val (.int p1)] [(.int t0_10)]) := by
    intro T3 locs3 t0_10  X3 e3 N3 hr3
    have hr3a := (own_f3_10_eq (p0) (p1) (t0_10)).symm.trans hr3
    exact own_retI X3 hx Bd.returns Bd.notSynchronized (hb hby d3_10) ⟨congrArg (fun q => some (Value.int q)) hr3a, N3, e3⟩ (by decide) (by decide)
  by_cases hc2_4 : p1 < p0
  · have hr5 := (if_pos hc2_4).symm.trans hr0
    refine own_st (g' := (mkF m 9 #[.val (.int p0), .val (.int p1)] [])) (fun t k => XS.icmpYes X0.here hx rfl (pc0 := 2) (pc' := 9) rfl (hb hby d3_2) rfl (tlt hc2_4).2.2.1 (by decide) (by decide) k) ?_
    refine own_st (g' := (mkF m 10 #[.val (.int p0), .val (.int p1)] [(.int p1)])) (fun t k => XS.iloadN X0.here hx rfl (hb hby d3_9) rfl  k) ?_
    exact J10 s₁ _ p1  X0 e0 N0 hr5
  · have hr6 := (if_neg hc2_4).symm.trans hr0
    refine own_st (g' := (mkF m 5 #[.val (.int p0), .val (.int p1)] [])) (fun t k => XS.icmpNo X0.here hx rfl (hb hby d3_2) rfl (flt hc2_4).2.2.1 k) ?_
    refine own_st (g' := (mkF m 6 #[.val (.int p0), .val (.int p1)] [(.int p0)])) (fun t k => XS.iloadN X0.here hx rfl (hb hby d3_5) rfl  k) ?_
    refine own_st (g' := (mkF m 10 #[.val (.int p0), .val (.int p1)] [(.int p0)])) (fun t k => XS.goto X0.here hx rfl (pc0 := 6) (pc' := 10) rfl (hb hby d3_6) (by decide) (by decide) k) ?_
    exact J10 s₁ _ p0  X0 e0 N0 hr6
def own_f4_10 (p0 : Int32) (p1 : Int32) (t0_10 : Int32) : Int32 := t0_10
theorem own_f4_10_eq (p0 : Int32) (p1 : Int32) (t0_10 : Int32) : own_f4_10 p0 p1 t0_10 = t0_10 := rfl
def own_F4 (p0 : Int32) (p1 : Int32) : Int32 := (if p0 < p1 then (own_f4_10 p0 p1 p1) else (own_f4_10 p0 p1 p0))
theorem own_F4_eq (p0 : Int32) (p1 : Int32) : own_F4 p0 p1 = (if p0 < p1 then (own_f4_10 p0 p1 p1) else (own_f4_10 p0 p1 p0)) := rfl
theorem d4_0 : decode jdk_29_method_65_code 0 = .ok (.iload_n 0, 1) := by decide +kernel
theorem d4_1 : decode jdk_29_method_65_code 1 = .ok (.iload_n 1, 1) := by decide +kernel
theorem d4_2 : decode jdk_29_method_65_code 2 = .ok (.if_icmp .lt 7, 3) := by decide +kernel
theorem d4_5 : decode jdk_29_method_65_code 5 = .ok (.iload_n 0, 1) := by decide +kernel
theorem d4_6 : decode jdk_29_method_65_code 6 = .ok (.goto 4, 3) := by decide +kernel
theorem d4_9 : decode jdk_29_method_65_code 9 = .ok (.iload_n 1, 1) := by decide +kernel
theorem d4_10 : decode jdk_29_method_65_code 10 = .ok (.ireturn, 1) := by decide +kernel
theorem ef_4 (m : MethodId) (x0 : Int32) (x1 : Int32) : entryFrame m #[(.int x0), (.int x1)] 2 = mkF m 0 #[.val (.int x0), .val (.int x1)] [] := by first | (simp [entryFrame, mkF, argsToLocals, Value.category]; done) | rfl
def Q4 (Z : State) (p0 : Int32) (p1 : Int32) (h0 : Heap) (n0 : Nat) (v : Option Value) (h : Heap) (L : List Loc) : Prop := v = some (.int (own_F4 p0 p1)) ∧ Fr n0 L ∧ h = h0
set_option maxRecDepth 65536 in
set_option maxHeartbeats 40000000 in
theorem rm4 (l : Launch) (Z : State) (a0 : Array Value) (hw : ∀ d ∈ tables_1, d.before a0 Z = true) (ws : List Jvm.Cond) (p0 : Int32) (p1 : Int32) (h0 : Heap) (n0 : Nat) (Z0 : n0 ≤ h0.size) :
    MetFree l (⟨"java/lang/Math", "max", "(II)I"⟩ : MethodName) (head1 (Jvm.Cond.code (⟨"java/lang/Math", "max", "(II)I"⟩ : MethodName) jdk_29_method_65_code 2 (some .int) :: ws) ({ frames := 0, cells := 0, slots := 0, locals := 0 } : Room)) (fun a U => a = #[(.int p0), (.int p1)] ∧ Z.Warmed39 U.vm ∧ U.heap = h0) (fun _ _ _ _ _ => True) (fun _ U o U' => ∃ v L, o = .returned v ∧ Q4 Z p0 p1 h0 n0 v U'.heap L ∧ FrameEnd U o U' L ({ frames := 0, cells := 0, slots := 0, locals := 0 } : Room).cells ({ frames := 0, cells := 0, slots := 0, locals := 0 } : Room).slots) := by
  refine MetFree.of_bodySF (Jvm.Free.JP.mathPlain rfl (by decide +kernel)) hisR ?_
  intro p e s m args below meth c s₁ Bd hml0 hP hK
  obtain ⟨rfl, hZ, hh⟩ := hP
  have hx := Bd.exec
  have hby := Bd.bytes
  have hml : c.maxLocals = 2 := hml0
  have hown : s.vm.findClass "java/lang/Math" = some m.cls := findClass_of_methodNamed Bd.named
  have hnm := (name_of_methodNamed Bd.named Bd.method).1
  have X0 : Stand p l e ({ frames := 0, cells := 0, slots := 0, locals := 0 } : Room) s m #[(.int p0), (.int p1)] below meth c s₁ [] 0 0 := Stand.of_body Bd
  have e0 : s₁.heap = h0 := by rw [← hh, Bd.state]; rfl
  have N0 := Fr.nil n0
  refine own_in (ef_4 m p0 p1) ?_
  have hr0 := (own_F4_eq p0 p1).symm
  refine own_st (g' := (mkF m 1 #[.val (.int p0), .val (.int p1)] [(.int p0)])) (fun t k => XS.iloadN X0.here hx rfl (hb hby d4_0) rfl  k) ?_
  refine own_st (g' := (mkF m 2 #[.val (.int p0), .val (.int p1)] [(.int p1), (.int p0)])) (fun t k => XS.iloadN X0.here hx rfl (hb hby d4_1) rfl  k) ?_
  have J10 : ∀ (T : State) (locs : List Loc) (t0_10 : Int32), Stand p l e ({ frames := 0, cells := 0, slots := 0, locals := 0 } : Room) s m #[(.int p0), (.int p1)] below meth c T locs 0 0 → T.heap = h0 → Fr n0 locs → own_f4_10 p0 p1 t0_10 = own_F4 p0 p1 → own_Fin p e below s ({ frames := 0, cells := 0, slots := 0, locals := 0 } : Room).cells ({ frames := 0, cells := 0, slots := 0, locals := 0 } : Room).slots (Q4 Z p0 p1 h0 n0) T (mkF m 10 #[.val (.int p0), .val (.int p1)] [(.int t0_10)]) := by
    intro T3 locs3 t0_10  X3 e3 N3 hr3
    have hr3a := (own_f4_10_eq (p0) (p1) (t0_10)).symm.trans hr3
    exact own_retI X3 hx Bd.returns Bd.notSynchronized (hb hby d4_10) ⟨congrArg (fun q => some (Value.int q)) hr3a, N3, e3⟩ (by decide) (by decide)
  by_cases hc2_4 : p0 < p1
  · have hr5 := (if_pos hc2_4).symm.trans hr0
    refine own_st (g' := (mkF m 9 #[.val (.int p0), .val (.int p1)] [])) (fun t k => XS.icmpYes X0.here hx rfl (pc0 := 2) (pc' := 9) rfl (hb hby d4_2) rfl (tlt hc2_4).1 (by decide) (by decide) k) ?_
    refine own_st (g' := (mkF m 10 #[.val (.int p0), .val (.int p1)] [(.int p1)])) (fun t k => XS.iloadN X0.here hx rfl (hb hby d4_9) rfl  k) ?_
    exact J10 s₁ _ p1  X0 e0 N0 hr5
  · have hr6 := (if_neg hc2_4).symm.trans hr0
    refine own_st (g' := (mkF m 5 #[.val (.int p0), .val (.int p1)] [])) (fun t k => XS.icmpNo X0.here hx rfl (hb hby d4_2) rfl (flt hc2_4).1 k) ?_
    refine own_st (g' := (mkF m 6 #[.val (.int p0), .val (.int p1)] [(.int p0)])) (fun t k => XS.iloadN X0.here hx rfl (hb hby d4_5) rfl  k) ?_
    refine own_st (g' := (mkF m 10 #[.val (.int p0), .val (.int p1)] [(.int p0)])) (fun t k => XS.goto X0.here hx rfl (pc0 := 6) (pc' := 10) rfl (hb hby d4_6) (by decide) (by decide) k) ?_
    exact J10 s₁ _ p0  X0 e0 N0 hr6
def own_F5 (p0 : Int32) : Int64 := ((72340172838076673 : Int64) * (((p0 &&& (255 : Int32))).toInt64))
theorem own_F5_eq (p0 : Int32) : own_F5 p0 = ((72340172838076673 : Int64) * (((p0 &&& (255 : Int32))).toInt64)) := rfl
theorem d5_0 : decode prog_45_method_2_code 0 = .ok (.ldc2_w 63, 3) := by decide +kernel
theorem d5_3 : decode prog_45_method_2_code 3 = .ok (.iload_n 0, 1) := by decide +kernel
theorem d5_4 : decode prog_45_method_2_code 4 = .ok (.sipush 255, 3) := by decide +kernel
theorem d5_7 : decode prog_45_method_2_code 7 = .ok (.iand, 1) := by decide +kernel
theorem d5_8 : decode prog_45_method_2_code 8 = .ok (.i2l, 1) := by decide +kernel
theorem d5_9 : decode prog_45_method_2_code 9 = .ok (.lmul, 1) := by decide +kernel
theorem d5_10 : decode prog_45_method_2_code 10 = .ok (.lreturn, 1) := by decide +kernel
theorem pn_5 : plainName "com/example/mudskipper/mudskipper/UnitPair" = true := by first | (simp [plainName, overriddenIn]; done) | decide +kernel
theorem ef_5 (m : MethodId) (x0 : Int32) : entryFrame m #[(.int x0)] 1 = mkF m 0 #[.val (.int x0)] [] := by first | (simp [entryFrame, mkF, argsToLocals, Value.category]; done) | rfl
def Q5 (Z : State) (p0 : Int32) (h0 : Heap) (n0 : Nat) (v : Option Value) (h : Heap) (L : List Loc) : Prop := v = some (.long (own_F5 p0)) ∧ Fr n0 L ∧ h = h0
set_option maxRecDepth 65536 in
set_option maxHeartbeats 40000000 in
theorem rm5 (l : Launch) (Z : State) (a0 : Array Value) (hw : ∀ d ∈ tables_1, d.before a0 Z = true) (ws : List Jvm.Cond) (p0 : Int32) (h0 : Heap) (n0 : Nat) (Z0 : n0 ≤ h0.size) :
    MetFree l (⟨"com/example/mudskipper/mudskipper/UnitPair", "lowBytes", "(C)J"⟩ : MethodName) (head1 (Jvm.Cond.code (⟨"com/example/mudskipper/mudskipper/UnitPair", "lowBytes", "(C)J"⟩ : MethodName) prog_45_method_2_code 1 (some .long) :: ws) ({ frames := 0, cells := 0, slots := 0, locals := 0 } : Room)) (fun a U => a = #[(.int p0)] ∧ Z.Warmed39 U.vm ∧ U.heap = h0) (fun _ _ _ _ _ => True) (fun _ U o U' => ∃ v L, o = .returned v ∧ Q5 Z p0 h0 n0 v U'.heap L ∧ FrameEnd U o U' L ({ frames := 0, cells := 0, slots := 0, locals := 0 } : Room).cells ({ frames := 0, cells := 0, slots := 0, locals := 0 } : Room).slots) := by
  refine MetFree.of_bodySF (plainFor_of_name pn_5) hisR ?_
  intro p e s m args below meth c s₁ Bd hml0 hP hK
  obtain ⟨rfl, hZ, hh⟩ := hP
  have hx := Bd.exec
  have hby := Bd.bytes
  have hml : c.maxLocals = 1 := hml0
  have hown : s.vm.findClass "com/example/mudskipper/mudskipper/UnitPair" = some m.cls := findClass_of_methodNamed Bd.named
  have hnm := (name_of_methodNamed Bd.named Bd.method).1
  have X0 : Stand p l e ({ frames := 0, cells := 0, slots := 0, locals := 0 } : Room) s m #[(.int p0)] below meth c s₁ [] 0 0 := Stand.of_body Bd
  have e0 : s₁.heap = h0 := by rw [← hh, Bd.state]; rfl
  have N0 := Fr.nil n0
  refine own_in (ef_5 m p0) ?_
  have hr0 := (own_F5_eq p0).symm
  refine own_st (g' := (mkF m 3 #[.val (.int p0)] [(.long (72340172838076673 : Int64))])) (fun t k => X0.ldc2Long hx hown (mvT hZ (hw _ (List.mem_of_getElem? (i := 28) rfl))) (g := (mkF m 0 #[.val (.int p0)] [])) rfl (hb hby d5_0) t k) ?_
  refine own_st (g' := (mkF m 4 #[.val (.int p0)] [(.int p0), (.long (72340172838076673 : Int64))])) (fun t k => XS.iloadN X0.here hx rfl (hb hby d5_3) rfl  k) ?_
  refine own_st (g' := (mkF m 7 #[.val (.int p0)] [(.int (255 : Int32)), (.int p0), (.long (72340172838076673 : Int64))])) (fun t k => XS.sipush X0.here hx rfl (hb hby d5_4) k) ?_
  refine own_st (g' := (mkF m 8 #[.val (.int p0)] [(.int (p0 &&& (255 : Int32))), (.long (72340172838076673 : Int64))])) (fun t k => XS.iand X0.here hx rfl (hb hby d5_7) rfl k) ?_
  refine own_st (g' := (mkF m 9 #[.val (.int p0)] [(.long (((p0 &&& (255 : Int32))).toInt64)), (.long (72340172838076673 : Int64))])) (fun t k => XS.i2l X0.here hx rfl (hb hby d5_8) rfl k) ?_
  refine own_st (g' := (mkF m 10 #[.val (.int p0)] [(.long ((72340172838076673 : Int64) * (((p0 &&& (255 : Int32))).toInt64)))])) (fun t k => XS.lmul X0.here hx rfl (hb hby d5_9) rfl k) ?_
  exact own_retJ X0 hx Bd.returns Bd.notSynchronized (hb hby d5_10) ⟨congrArg (fun q => some (Value.long q)) hr0, N0, e0⟩ (by decide) (by decide)
def own_F12 (p0 : Int32) : Int64 := ((((((((((p0 &&& (255 : Int32))).toInt64) ||| (((((p0 &&& (255 : Int32))).toInt64) <<< ((8 : Int32) &&& 0x3f).toInt64))) ||| (((((p0 &&& (255 : Int32))).toInt64) <<< ((16 : Int32) &&& 0x3f).toInt64))) ||| (((((p0 &&& (255 : Int32))).toInt64) <<< ((24 : Int32) &&& 0x3f).toInt64))) ||| (((((p0 &&& (255 : Int32))).toInt64) <<< ((32 : Int32) &&& 0x3f).toInt64))) ||| (((((p0 &&& (255 : Int32))).toInt64) <<< ((40 : Int32) &&& 0x3f).toInt64))) ||| (((((p0 &&& (255 : Int32))).toInt64) <<< ((48 : Int32) &&& 0x3f).toInt64))) ||| (((((p0 &&& (255 : Int32))).toInt64) <<< ((56 : Int32) &&& 0x3f).toInt64)))
theorem own_F12_eq (p0 : Int32) : own_F12 p0 = ((((((((((p0 &&& (255 : Int32))).toInt64) ||| (((((p0 &&& (255 : Int32))).toInt64) <<< ((8 : Int32) &&& 0x3f).toInt64))) ||| (((((p0 &&& (255 : Int32))).toInt64) <<< ((16 : Int32) &&& 0x3f).toInt64))) ||| (((((p0 &&& (255 : Int32))).toInt64) <<< ((24 : Int32) &&& 0x3f).toInt64))) ||| (((((p0 &&& (255 : Int32))).toInt64) <<< ((32 : Int32) &&& 0x3f).toInt64))) ||| (((((p0 &&& (255 : Int32))).toInt64) <<< ((40 : Int32) &&& 0x3f).toInt64))) ||| (((((p0 &&& (255 : Int32))).toInt64) <<< ((48 : Int32) &&& 0x3f).toInt64))) ||| (((((p0 &&& (255 : Int32))).toInt64) <<< ((56 : Int32) &&& 0x3f).toInt64))) := rfl
theorem d12_0 : decode method_2_code 0 = .ok (.iload_n 0, 1) := by decide +kernel
theorem d12_1 : decode method_2_code 1 = .ok (.sipush 255, 3) := by decide +kernel
theorem d12_4 : decode method_2_code 4 = .ok (.iand, 1) := by decide +kernel
theorem d12_5 : decode method_2_code 5 = .ok (.i2l, 1) := by decide +kernel
theorem d12_6 : decode method_2_code 6 = .ok (.lstore_n 1, 1) := by decide +kernel
theorem d12_7 : decode method_2_code 7 = .ok (.lload_n 1, 1) := by decide +kernel
theorem d12_8 : decode method_2_code 8 = .ok (.lload_n 1, 1) := by decide +kernel
theorem d12_9 : decode method_2_code 9 = .ok (.bipush 8, 2) := by decide +kernel
theorem d12_11 : decode method_2_code 11 = .ok (.lshl, 1) := by decide +kernel
theorem d12_12 : decode method_2_code 12 = .ok (.lor, 1) := by decide +kernel
theorem d12_13 : decode method_2_code 13 = .ok (.lload_n 1, 1) := by decide +kernel
theorem d12_14 : decode method_2_code 14 = .ok (.bipush 16, 2) := by decide +kernel
theorem d12_16 : decode method_2_code 16 = .ok (.lshl, 1) := by decide +kernel
theorem d12_17 : decode method_2_code 17 = .ok (.lor, 1) := by decide +kernel
theorem d12_18 : decode method_2_code 18 = .ok (.lload_n 1, 1) := by decide +kernel
theorem d12_19 : decode method_2_code 19 = .ok (.bipush 24, 2) := by decide +kernel
theorem d12_21 : decode method_2_code 21 = .ok (.lshl, 1) := by decide +kernel
theorem d12_22 : decode method_2_code 22 = .ok (.lor, 1) := by decide +kernel
theorem d12_23 : decode method_2_code 23 = .ok (.lload_n 1, 1) := by decide +kernel
theorem d12_24 : decode method_2_code 24 = .ok (.bipush 32, 2) := by decide +kernel
theorem d12_26 : decode method_2_code 26 = .ok (.lshl, 1) := by decide +kernel
theorem d12_27 : decode method_2_code 27 = .ok (.lor, 1) := by decide +kernel
theorem d12_28 : decode method_2_code 28 = .ok (.lload_n 1, 1) := by decide +kernel
theorem d12_29 : decode method_2_code 29 = .ok (.bipush 40, 2) := by decide +kernel
theorem d12_31 : decode method_2_code 31 = .ok (.lshl, 1) := by decide +kernel
theorem d12_32 : decode method_2_code 32 = .ok (.lor, 1) := by decide +kernel
theorem d12_33 : decode method_2_code 33 = .ok (.lload_n 1, 1) := by decide +kernel
theorem d12_34 : decode method_2_code 34 = .ok (.bipush 48, 2) := by decide +kernel
theorem d12_36 : decode method_2_code 36 = .ok (.lshl, 1) := by decide +kernel
theorem d12_37 : decode method_2_code 37 = .ok (.lor, 1) := by decide +kernel
theorem d12_38 : decode method_2_code 38 = .ok (.lload_n 1, 1) := by decide +kernel
theorem d12_39 : decode method_2_code 39 = .ok (.bipush 56, 2) := by decide +kernel
theorem d12_41 : decode method_2_code 41 = .ok (.lshl, 1) := by decide +kernel
theorem d12_42 : decode method_2_code 42 = .ok (.lor, 1) := by decide +kernel
theorem d12_43 : decode method_2_code 43 = .ok (.lreturn, 1) := by decide +kernel
theorem pn_12 : plainName "com/example/mudskipper/mudskipper/UnitPairLowBytesPinLaw" = true := by first | (simp [plainName, overriddenIn]; done) | decide +kernel
theorem ef_12 (m : MethodId) (x0 : Int32) : entryFrame m #[(.int x0)] 3 = mkF m 0 #[.val (.int x0), .unset, .unset] [] := by first | (simp [entryFrame, mkF, argsToLocals, Value.category]; done) | rfl
def Q12 (Z : State) (p0 : Int32) (h0 : Heap) (n0 : Nat) (v : Option Value) (h : Heap) (L : List Loc) : Prop := v = some (.long (own_F12 p0)) ∧ Fr n0 L ∧ h = h0
set_option maxRecDepth 65536 in
set_option maxHeartbeats 40000000 in
theorem rm12 (l : Launch) (Z : State) (a0 : Array Value) (hw : ∀ d ∈ tables_1, d.before a0 Z = true) (ws : List Jvm.Cond) (p0 : Int32) (h0 : Heap) (n0 : Nat) (Z0 : n0 ≤ h0.size) :
    MetFree l (⟨"com/example/mudskipper/mudskipper/UnitPairLowBytesPinLaw", "spread", "(C)J"⟩ : MethodName) (head1 (Jvm.Cond.code (⟨"com/example/mudskipper/mudskipper/UnitPairLowBytesPinLaw", "spread", "(C)J"⟩ : MethodName) method_2_code 3 (some .long) :: ws) ({ frames := 0, cells := 0, slots := 0, locals := 0 } : Room)) (fun a U => a = #[(.int p0)] ∧ Z.Warmed39 U.vm ∧ U.heap = h0) (fun _ _ _ _ _ => True) (fun _ U o U' => ∃ v L, o = .returned v ∧ Q12 Z p0 h0 n0 v U'.heap L ∧ FrameEnd U o U' L ({ frames := 0, cells := 0, slots := 0, locals := 0 } : Room).cells ({ frames := 0, cells := 0, slots := 0, locals := 0 } : Room).slots) := by
  refine MetFree.of_bodySF (plainFor_of_name pn_12) hisR ?_
  intro p e s m args below meth c s₁ Bd hml0 hP hK
  obtain ⟨rfl, hZ, hh⟩ := hP
  have hx := Bd.exec
  have hby := Bd.bytes
  have hml : c.maxLocals = 3 := hml0
  have hown : s.vm.findClass "com/example/mudskipper/mudskipper/UnitPairLowBytesPinLaw" = some m.cls := findClass_of_methodNamed Bd.named
  have hnm := (name_of_methodNamed Bd.named Bd.method).1
  have X0 : Stand p l e ({ frames := 0, cells := 0, slots := 0, locals := 0 } : Room) s m #[(.int p0)] below meth c s₁ [] 0 0 := Stand.of_body Bd
  have e0 : s₁.heap = h0 := by rw [← hh, Bd.state]; rfl
  have N0 := Fr.nil n0
  refine own_in (ef_12 m p0) ?_
  have hr0 := (own_F12_eq p0).symm
  refine own_st (g' := (mkF m 1 #[.val (.int p0), .unset, .unset] [(.int p0)])) (fun t k => XS.iloadN X0.here hx rfl (hb hby d12_0) rfl  k) ?_
  refine own_st (g' := (mkF m 4 #[.val (.int p0), .unset, .unset] [(.int (255 : Int32)), (.int p0)])) (fun t k => XS.sipush X0.here hx rfl (hb hby d12_1) k) ?_
  refine own_st (g' := (mkF m 5 #[.val (.int p0), .unset, .unset] [(.int (p0 &&& (255 : Int32)))])) (fun t k => XS.iand X0.here hx rfl (hb hby d12_4) rfl k) ?_
  refine own_st (g' := (mkF m 6 #[.val (.int p0), .unset, .unset] [(.long (((p0 &&& (255 : Int32))).toInt64))])) (fun t k => XS.i2l X0.here hx rfl (hb hby d12_5) rfl k) ?_
  refine own_st (g' := (mkF m 7 #[.val (.int p0), .val (.long (((p0 &&& (255 : Int32))).toInt64)), .second] [])) (fun t k => XS.lstoreN X0.here hx rfl (hb hby d12_6) rfl (l' := #[.val (.int p0), .val (.long (((p0 &&& (255 : Int32))).toInt64)), .second]) rfl k) ?_
  refine own_st (g' := (mkF m 8 #[.val (.int p0), .val (.long (((p0 &&& (255 : Int32))).toInt64)), .second] [(.long (((p0 &&& (255 : Int32))).toInt64))])) (fun t k => XS.lloadN X0.here hx rfl (hb hby d12_7) rfl  k) ?_
  refine own_st (g' := (mkF m 9 #[.val (.int p0), .val (.long (((p0 &&& (255 : Int32))).toInt64)), .second] [(.long (((p0 &&& (255 : Int32))).toInt64)), (.long (((p0 &&& (255 : Int32))).toInt64))])) (fun t k => XS.lloadN X0.here hx rfl (hb hby d12_8) rfl  k) ?_
  refine own_st (g' := (mkF m 11 #[.val (.int p0), .val (.long (((p0 &&& (255 : Int32))).toInt64)), .second] [(.int (8 : Int32)), (.long (((p0 &&& (255 : Int32))).toInt64)), (.long (((p0 &&& (255 : Int32))).toInt64))])) (fun t k => XS.bipush X0.here hx rfl (hb hby d12_9) k) ?_
  refine own_st (g' := (mkF m 12 #[.val (.int p0), .val (.long (((p0 &&& (255 : Int32))).toInt64)), .second] [(.long (((((p0 &&& (255 : Int32))).toInt64) <<< ((8 : Int32) &&& 0x3f).toInt64))), (.long (((p0 &&& (255 : Int32))).toInt64))])) (fun t k => XS.lshl X0.here hx rfl (hb hby d12_11) rfl k) ?_
  refine own_st (g' := (mkF m 13 #[.val (.int p0), .val (.long (((p0 &&& (255 : Int32))).toInt64)), .second] [(.long ((((p0 &&& (255 : Int32))).toInt64) ||| (((((p0 &&& (255 : Int32))).toInt64) <<< ((8 : Int32) &&& 0x3f).toInt64))))])) (fun t k => XS.lor X0.here hx rfl (hb hby d12_12) rfl k) ?_
  refine own_st (g' := (mkF m 14 #[.val (.int p0), .val (.long (((p0 &&& (255 : Int32))).toInt64)), .second] [(.long (((p0 &&& (255 : Int32))).toInt64)), (.long ((((p0 &&& (255 : Int32))).toInt64) ||| (((((p0 &&& (255 : Int32))).toInt64) <<< ((8 : Int32) &&& 0x3f).toInt64))))])) (fun t k => XS.lloadN X0.here hx rfl (hb hby d12_13) rfl  k) ?_
  refine own_st (g' := (mkF m 16 #[.val (.int p0), .val (.long (((p0 &&& (255 : Int32))).toInt64)), .second] [(.int (16 : Int32)), (.long (((p0 &&& (255 : Int32))).toInt64)), (.long ((((p0 &&& (255 : Int32))).toInt64) ||| (((((p0 &&& (255 : Int32))).toInt64) <<< ((8 : Int32) &&& 0x3f).toInt64))))])) (fun t k => XS.bipush X0.here hx rfl (hb hby d12_14) k) ?_
  refine own_st (g' := (mkF m 17 #[.val (.int p0), .val (.long (((p0 &&& (255 : Int32))).toInt64)), .second] [(.long (((((p0 &&& (255 : Int32))).toInt64) <<< ((16 : Int32) &&& 0x3f).toInt64))), (.long ((((p0 &&& (255 : Int32))).toInt64) ||| (((((p0 &&& (255 : Int32))).toInt64) <<< ((8 : Int32) &&& 0x3f).toInt64))))])) (fun t k => XS.lshl X0.here hx rfl (hb hby d12_16) rfl k) ?_
  refine own_st (g' := (mkF m 18 #[.val (.int p0), .val (.long (((p0 &&& (255 : Int32))).toInt64)), .second] [(.long (((((p0 &&& (255 : Int32))).toInt64) ||| (((((p0 &&& (255 : Int32))).toInt64) <<< ((8 : Int32) &&& 0x3f).toInt64))) ||| (((((p0 &&& (255 : Int32))).toInt64) <<< ((16 : Int32) &&& 0x3f).toInt64))))])) (fun t k => XS.lor X0.here hx rfl (hb hby d12_17) rfl k) ?_
  refine own_st (g' := (mkF m 19 #[.val (.int p0), .val (.long (((p0 &&& (255 : Int32))).toInt64)), .second] [(.long (((p0 &&& (255 : Int32))).toInt64)), (.long (((((p0 &&& (255 : Int32))).toInt64) ||| (((((p0 &&& (255 : Int32))).toInt64) <<< ((8 : Int32) &&& 0x3f).toInt64))) ||| (((((p0 &&& (255 : Int32))).toInt64) <<< ((16 : Int32) &&& 0x3f).toInt64))))])) (fun t k => XS.lloadN X0.here hx rfl (hb hby d12_18) rfl  k) ?_
  refine own_st (g' := (mkF m 21 #[.val (.int p0), .val (.long (((p0 &&& (255 : Int32))).toInt64)), .second] [(.int (24 : Int32)), (.long (((p0 &&& (255 : Int32))).toInt64)), (.long (((((p0 &&& (255 : Int32))).toInt64) ||| (((((p0 &&& (255 : Int32))).toInt64) <<< ((8 : Int32) &&& 0x3f).toInt64))) ||| (((((p0 &&& (255 : Int32))).toInt64) <<< ((16 : Int32) &&& 0x3f).toInt64))))])) (fun t k => XS.bipush X0.here hx rfl (hb hby d12_19) k) ?_
  refine own_st (g' := (mkF m 22 #[.val (.int p0), .val (.long (((p0 &&& (255 : Int32))).toInt64)), .second] [(.long (((((p0 &&& (255 : Int32))).toInt64) <<< ((24 : Int32) &&& 0x3f).toInt64))), (.long (((((p0 &&& (255 : Int32))).toInt64) ||| (((((p0 &&& (255 : Int32))).toInt64) <<< ((8 : Int32) &&& 0x3f).toInt64))) ||| (((((p0 &&& (255 : Int32))).toInt64) <<< ((16 : Int32) &&& 0x3f).toInt64))))])) (fun t k => XS.lshl X0.here hx rfl (hb hby d12_21) rfl k) ?_
  refine own_st (g' := (mkF m 23 #[.val (.int p0), .val (.long (((p0 &&& (255 : Int32))).toInt64)), .second] [(.long ((((((p0 &&& (255 : Int32))).toInt64) ||| (((((p0 &&& (255 : Int32))).toInt64) <<< ((8 : Int32) &&& 0x3f).toInt64))) ||| (((((p0 &&& (255 : Int32))).toInt64) <<< ((16 : Int32) &&& 0x3f).toInt64))) ||| (((((p0 &&& (255 : Int32))).toInt64) <<< ((24 : Int32) &&& 0x3f).toInt64))))])) (fun t k => XS.lor X0.here hx rfl (hb hby d12_22) rfl k) ?_
  refine own_st (g' := (mkF m 24 #[.val (.int p0), .val (.long (((p0 &&& (255 : Int32))).toInt64)), .second] [(.long (((p0 &&& (255 : Int32))).toInt64)), (.long ((((((p0 &&& (255 : Int32))).toInt64) ||| (((((p0 &&& (255 : Int32))).toInt64) <<< ((8 : Int32) &&& 0x3f).toInt64))) ||| (((((p0 &&& (255 : Int32))).toInt64) <<< ((16 : Int32) &&& 0x3f).toInt64))) ||| (((((p0 &&& (255 : Int32))).toInt64) <<< ((24 : Int32) &&& 0x3f).toInt64))))])) (fun t k => XS.lloadN X0.here hx rfl (hb hby d12_23) rfl  k) ?_
  refine own_st (g' := (mkF m 26 #[.val (.int p0), .val (.long (((p0 &&& (255 : Int32))).toInt64)), .second] [(.int (32 : Int32)), (.long (((p0 &&& (255 : Int32))).toInt64)), (.long ((((((p0 &&& (255 : Int32))).toInt64) ||| (((((p0 &&& (255 : Int32))).toInt64) <<< ((8 : Int32) &&& 0x3f).toInt64))) ||| (((((p0 &&& (255 : Int32))).toInt64) <<< ((16 : Int32) &&& 0x3f).toInt64))) ||| (((((p0 &&& (255 : Int32))).toInt64) <<< ((24 : Int32) &&& 0x3f).toInt64))))])) (fun t k => XS.bipush X0.here hx rfl (hb hby d12_24) k) ?_
  refine own_st (g' := (mkF m 27 #[.val (.int p0), .val (.long (((p0 &&& (255 : Int32))).toInt64)), .second] [(.long (((((p0 &&& (255 : Int32))).toInt64) <<< ((32 : Int32) &&& 0x3f).toInt64))), (.long ((((((p0 &&& (255 : Int32))).toInt64) ||| (((((p0 &&& (255 : Int32))).toInt64) <<< ((8 : Int32) &&& 0x3f).toInt64))) ||| (((((p0 &&& (255 : Int32))).toInt64) <<< ((16 : Int32) &&& 0x3f).toInt64))) ||| (((((p0 &&& (255 : Int32))).toInt64) <<< ((24 : Int32) &&& 0x3f).toInt64))))])) (fun t k => XS.lshl X0.here hx rfl (hb hby d12_26) rfl k) ?_
  refine own_st (g' := (mkF m 28 #[.val (.int p0), .val (.long (((p0 &&& (255 : Int32))).toInt64)), .second] [(.long (((((((p0 &&& (255 : Int32))).toInt64) ||| (((((p0 &&& (255 : Int32))).toInt64) <<< ((8 : Int32) &&& 0x3f).toInt64))) ||| (((((p0 &&& (255 : Int32))).toInt64) <<< ((16 : Int32) &&& 0x3f).toInt64))) ||| (((((p0 &&& (255 : Int32))).toInt64) <<< ((24 : Int32) &&& 0x3f).toInt64))) ||| (((((p0 &&& (255 : Int32))).toInt64) <<< ((32 : Int32) &&& 0x3f).toInt64))))])) (fun t k => XS.lor X0.here hx rfl (hb hby d12_27) rfl k) ?_
  refine own_st (g' := (mkF m 29 #[.val (.int p0), .val (.long (((p0 &&& (255 : Int32))).toInt64)), .second] [(.long (((p0 &&& (255 : Int32))).toInt64)), (.long (((((((p0 &&& (255 : Int32))).toInt64) ||| (((((p0 &&& (255 : Int32))).toInt64) <<< ((8 : Int32) &&& 0x3f).toInt64))) ||| (((((p0 &&& (255 : Int32))).toInt64) <<< ((16 : Int32) &&& 0x3f).toInt64))) ||| (((((p0 &&& (255 : Int32))).toInt64) <<< ((24 : Int32) &&& 0x3f).toInt64))) ||| (((((p0 &&& (255 : Int32))).toInt64) <<< ((32 : Int32) &&& 0x3f).toInt64))))])) (fun t k => XS.lloadN X0.here hx rfl (hb hby d12_28) rfl  k) ?_
  refine own_st (g' := (mkF m 31 #[.val (.int p0), .val (.long (((p0 &&& (255 : Int32))).toInt64)), .second] [(.int (40 : Int32)), (.long (((p0 &&& (255 : Int32))).toInt64)), (.long (((((((p0 &&& (255 : Int32))).toInt64) ||| (((((p0 &&& (255 : Int32))).toInt64) <<< ((8 : Int32) &&& 0x3f).toInt64))) ||| (((((p0 &&& (255 : Int32))).toInt64) <<< ((16 : Int32) &&& 0x3f).toInt64))) ||| (((((p0 &&& (255 : Int32))).toInt64) <<< ((24 : Int32) &&& 0x3f).toInt64))) ||| (((((p0 &&& (255 : Int32))).toInt64) <<< ((32 : Int32) &&& 0x3f).toInt64))))])) (fun t k => XS.bipush X0.here hx rfl (hb hby d12_29) k) ?_
  refine own_st (g' := (mkF m 32 #[.val (.int p0), .val (.long (((p0 &&& (255 : Int32))).toInt64)), .second] [(.long (((((p0 &&& (255 : Int32))).toInt64) <<< ((40 : Int32) &&& 0x3f).toInt64))), (.long (((((((p0 &&& (255 : Int32))).toInt64) ||| (((((p0 &&& (255 : Int32))).toInt64) <<< ((8 : Int32) &&& 0x3f).toInt64))) ||| (((((p0 &&& (255 : Int32))).toInt64) <<< ((16 : Int32) &&& 0x3f).toInt64))) ||| (((((p0 &&& (255 : Int32))).toInt64) <<< ((24 : Int32) &&& 0x3f).toInt64))) ||| (((((p0 &&& (255 : Int32))).toInt64) <<< ((32 : Int32) &&& 0x3f).toInt64))))])) (fun t k => XS.lshl X0.here hx rfl (hb hby d12_31) rfl k) ?_
  refine own_st (g' := (mkF m 33 #[.val (.int p0), .val (.long (((p0 &&& (255 : Int32))).toInt64)), .second] [(.long ((((((((p0 &&& (255 : Int32))).toInt64) ||| (((((p0 &&& (255 : Int32))).toInt64) <<< ((8 : Int32) &&& 0x3f).toInt64))) ||| (((((p0 &&& (255 : Int32))).toInt64) <<< ((16 : Int32) &&& 0x3f).toInt64))) ||| (((((p0 &&& (255 : Int32))).toInt64) <<< ((24 : Int32) &&& 0x3f).toInt64))) ||| (((((p0 &&& (255 : Int32))).toInt64) <<< ((32 : Int32) &&& 0x3f).toInt64))) ||| (((((p0 &&& (255 : Int32))).toInt64) <<< ((40 : Int32) &&& 0x3f).toInt64))))])) (fun t k => XS.lor X0.here hx rfl (hb hby d12_32) rfl k) ?_
  refine own_st (g' := (mkF m 34 #[.val (.int p0), .val (.long (((p0 &&& (255 : Int32))).toInt64)), .second] [(.long (((p0 &&& (255 : Int32))).toInt64)), (.long ((((((((p0 &&& (255 : Int32))).toInt64) ||| (((((p0 &&& (255 : Int32))).toInt64) <<< ((8 : Int32) &&& 0x3f).toInt64))) ||| (((((p0 &&& (255 : Int32))).toInt64) <<< ((16 : Int32) &&& 0x3f).toInt64))) ||| (((((p0 &&& (255 : Int32))).toInt64) <<< ((24 : Int32) &&& 0x3f).toInt64))) ||| (((((p0 &&& (255 : Int32))).toInt64) <<< ((32 : Int32) &&& 0x3f).toInt64))) ||| (((((p0 &&& (255 : Int32))).toInt64) <<< ((40 : Int32) &&& 0x3f).toInt64))))])) (fun t k => XS.lloadN X0.here hx rfl (hb hby d12_33) rfl  k) ?_
  refine own_st (g' := (mkF m 36 #[.val (.int p0), .val (.long (((p0 &&& (255 : Int32))).toInt64)), .second] [(.int (48 : Int32)), (.long (((p0 &&& (255 : Int32))).toInt64)), (.long ((((((((p0 &&& (255 : Int32))).toInt64) ||| (((((p0 &&& (255 : Int32))).toInt64) <<< ((8 : Int32) &&& 0x3f).toInt64))) ||| (((((p0 &&& (255 : Int32))).toInt64) <<< ((16 : Int32) &&& 0x3f).toInt64))) ||| (((((p0 &&& (255 : Int32))).toInt64) <<< ((24 : Int32) &&& 0x3f).toInt64))) ||| (((((p0 &&& (255 : Int32))).toInt64) <<< ((32 : Int32) &&& 0x3f).toInt64))) ||| (((((p0 &&& (255 : Int32))).toInt64) <<< ((40 : Int32) &&& 0x3f).toInt64))))])) (fun t k => XS.bipush X0.here hx rfl (hb hby d12_34) k) ?_
  refine own_st (g' := (mkF m 37 #[.val (.int p0), .val (.long (((p0 &&& (255 : Int32))).toInt64)), .second] [(.long (((((p0 &&& (255 : Int32))).toInt64) <<< ((48 : Int32) &&& 0x3f).toInt64))), (.long ((((((((p0 &&& (255 : Int32))).toInt64) ||| (((((p0 &&& (255 : Int32))).toInt64) <<< ((8 : Int32) &&& 0x3f).toInt64))) ||| (((((p0 &&& (255 : Int32))).toInt64) <<< ((16 : Int32) &&& 0x3f).toInt64))) ||| (((((p0 &&& (255 : Int32))).toInt64) <<< ((24 : Int32) &&& 0x3f).toInt64))) ||| (((((p0 &&& (255 : Int32))).toInt64) <<< ((32 : Int32) &&& 0x3f).toInt64))) ||| (((((p0 &&& (255 : Int32))).toInt64) <<< ((40 : Int32) &&& 0x3f).toInt64))))])) (fun t k => XS.lshl X0.here hx rfl (hb hby d12_36) rfl k) ?_
  refine own_st (g' := (mkF m 38 #[.val (.int p0), .val (.long (((p0 &&& (255 : Int32))).toInt64)), .second] [(.long (((((((((p0 &&& (255 : Int32))).toInt64) ||| (((((p0 &&& (255 : Int32))).toInt64) <<< ((8 : Int32) &&& 0x3f).toInt64))) ||| (((((p0 &&& (255 : Int32))).toInt64) <<< ((16 : Int32) &&& 0x3f).toInt64))) ||| (((((p0 &&& (255 : Int32))).toInt64) <<< ((24 : Int32) &&& 0x3f).toInt64))) ||| (((((p0 &&& (255 : Int32))).toInt64) <<< ((32 : Int32) &&& 0x3f).toInt64))) ||| (((((p0 &&& (255 : Int32))).toInt64) <<< ((40 : Int32) &&& 0x3f).toInt64))) ||| (((((p0 &&& (255 : Int32))).toInt64) <<< ((48 : Int32) &&& 0x3f).toInt64))))])) (fun t k => XS.lor X0.here hx rfl (hb hby d12_37) rfl k) ?_
  refine own_st (g' := (mkF m 39 #[.val (.int p0), .val (.long (((p0 &&& (255 : Int32))).toInt64)), .second] [(.long (((p0 &&& (255 : Int32))).toInt64)), (.long (((((((((p0 &&& (255 : Int32))).toInt64) ||| (((((p0 &&& (255 : Int32))).toInt64) <<< ((8 : Int32) &&& 0x3f).toInt64))) ||| (((((p0 &&& (255 : Int32))).toInt64) <<< ((16 : Int32) &&& 0x3f).toInt64))) ||| (((((p0 &&& (255 : Int32))).toInt64) <<< ((24 : Int32) &&& 0x3f).toInt64))) ||| (((((p0 &&& (255 : Int32))).toInt64) <<< ((32 : Int32) &&& 0x3f).toInt64))) ||| (((((p0 &&& (255 : Int32))).toInt64) <<< ((40 : Int32) &&& 0x3f).toInt64))) ||| (((((p0 &&& (255 : Int32))).toInt64) <<< ((48 : Int32) &&& 0x3f).toInt64))))])) (fun t k => XS.lloadN X0.here hx rfl (hb hby d12_38) rfl  k) ?_
  refine own_st (g' := (mkF m 41 #[.val (.int p0), .val (.long (((p0 &&& (255 : Int32))).toInt64)), .second] [(.int (56 : Int32)), (.long (((p0 &&& (255 : Int32))).toInt64)), (.long (((((((((p0 &&& (255 : Int32))).toInt64) ||| (((((p0 &&& (255 : Int32))).toInt64) <<< ((8 : Int32) &&& 0x3f).toInt64))) ||| (((((p0 &&& (255 : Int32))).toInt64) <<< ((16 : Int32) &&& 0x3f).toInt64))) ||| (((((p0 &&& (255 : Int32))).toInt64) <<< ((24 : Int32) &&& 0x3f).toInt64))) ||| (((((p0 &&& (255 : Int32))).toInt64) <<< ((32 : Int32) &&& 0x3f).toInt64))) ||| (((((p0 &&& (255 : Int32))).toInt64) <<< ((40 : Int32) &&& 0x3f).toInt64))) ||| (((((p0 &&& (255 : Int32))).toInt64) <<< ((48 : Int32) &&& 0x3f).toInt64))))])) (fun t k => XS.bipush X0.here hx rfl (hb hby d12_39) k) ?_
  refine own_st (g' := (mkF m 42 #[.val (.int p0), .val (.long (((p0 &&& (255 : Int32))).toInt64)), .second] [(.long (((((p0 &&& (255 : Int32))).toInt64) <<< ((56 : Int32) &&& 0x3f).toInt64))), (.long (((((((((p0 &&& (255 : Int32))).toInt64) ||| (((((p0 &&& (255 : Int32))).toInt64) <<< ((8 : Int32) &&& 0x3f).toInt64))) ||| (((((p0 &&& (255 : Int32))).toInt64) <<< ((16 : Int32) &&& 0x3f).toInt64))) ||| (((((p0 &&& (255 : Int32))).toInt64) <<< ((24 : Int32) &&& 0x3f).toInt64))) ||| (((((p0 &&& (255 : Int32))).toInt64) <<< ((32 : Int32) &&& 0x3f).toInt64))) ||| (((((p0 &&& (255 : Int32))).toInt64) <<< ((40 : Int32) &&& 0x3f).toInt64))) ||| (((((p0 &&& (255 : Int32))).toInt64) <<< ((48 : Int32) &&& 0x3f).toInt64))))])) (fun t k => XS.lshl X0.here hx rfl (hb hby d12_41) rfl k) ?_
  refine own_st (g' := (mkF m 43 #[.val (.int p0), .val (.long (((p0 &&& (255 : Int32))).toInt64)), .second] [(.long ((((((((((p0 &&& (255 : Int32))).toInt64) ||| (((((p0 &&& (255 : Int32))).toInt64) <<< ((8 : Int32) &&& 0x3f).toInt64))) ||| (((((p0 &&& (255 : Int32))).toInt64) <<< ((16 : Int32) &&& 0x3f).toInt64))) ||| (((((p0 &&& (255 : Int32))).toInt64) <<< ((24 : Int32) &&& 0x3f).toInt64))) ||| (((((p0 &&& (255 : Int32))).toInt64) <<< ((32 : Int32) &&& 0x3f).toInt64))) ||| (((((p0 &&& (255 : Int32))).toInt64) <<< ((40 : Int32) &&& 0x3f).toInt64))) ||| (((((p0 &&& (255 : Int32))).toInt64) <<< ((48 : Int32) &&& 0x3f).toInt64))) ||| (((((p0 &&& (255 : Int32))).toInt64) <<< ((56 : Int32) &&& 0x3f).toInt64))))])) (fun t k => XS.lor X0.here hx rfl (hb hby d12_42) rfl k) ?_
  exact own_retJ X0 hx Bd.returns Bd.notSynchronized (hb hby d12_43) ⟨congrArg (fun q => some (Value.long q)) hr0, N0, e0⟩ (by decide) (by decide)
theorem d9_0 : decode jdk_2529_method_6_code 0 = .ok (.iload_n 1, 1) := by decide +kernel
theorem d9_1 : decode jdk_2529_method_6_code 1 = .ok (.istore 4, 2) := by decide +kernel
theorem d9_3 : decode jdk_2529_method_6_code 3 = .ok (.iinc 4 1, 3) := by decide +kernel
theorem d9_6 : decode jdk_2529_method_6_code 6 = .ok (.iload 4, 2) := by decide +kernel
theorem d9_8 : decode jdk_2529_method_6_code 8 = .ok (.iload_n 2, 1) := by decide +kernel
theorem d9_9 : decode jdk_2529_method_6_code 9 = .ok (.if_icmp .ge 58, 3) := by decide +kernel
theorem d9_12 : decode jdk_2529_method_6_code 12 = .ok (.aload_n 0, 1) := by decide +kernel
theorem d9_13 : decode jdk_2529_method_6_code 13 = .ok (.iload 4, 2) := by decide +kernel
theorem d9_15 : decode jdk_2529_method_6_code 15 = .ok (.dup, 1) := by decide +kernel
theorem d9_16 : decode jdk_2529_method_6_code 16 = .ok (.istore_n 3, 1) := by decide +kernel
theorem d9_17 : decode jdk_2529_method_6_code 17 = .ok (.iaload, 1) := by decide +kernel
theorem d9_18 : decode jdk_2529_method_6_code 18 = .ok (.istore 5, 2) := by decide +kernel
theorem d9_20 : decode jdk_2529_method_6_code 20 = .ok (.iload 5, 2) := by decide +kernel
theorem d9_22 : decode jdk_2529_method_6_code 22 = .ok (.aload_n 0, 1) := by decide +kernel
theorem d9_23 : decode jdk_2529_method_6_code 23 = .ok (.iload_n 3, 1) := by decide +kernel
theorem d9_24 : decode jdk_2529_method_6_code 24 = .ok (.iconst 1, 1) := by decide +kernel
theorem d9_25 : decode jdk_2529_method_6_code 25 = .ok (.isub, 1) := by decide +kernel
theorem d9_26 : decode jdk_2529_method_6_code 26 = .ok (.iaload, 1) := by decide +kernel
theorem d9_27 : decode jdk_2529_method_6_code 27 = .ok (.if_icmp .ge 37, 3) := by decide +kernel
theorem d9_64 : decode jdk_2529_method_6_code 64 = .ok (.goto (-61), 3) := by decide +kernel
theorem d9_67 : decode jdk_2529_method_6_code 67 = .ok (.return_, 1) := by decide +kernel
theorem pn_9 : plainName "java/util/DualPivotQuicksort" = true := by first | (simp [plainName, overriddenIn]; done) | decide +kernel
theorem ef_9 (m : MethodId) (x0 : Addr) (x1 : Int32) (x2 : Int32) : entryFrame m #[(.ref x0), (.int x1), (.int x2)] 6 = mkF m 0 #[.val (.ref x0), .val (.int x1), .val (.int x2), .unset, .unset, .unset] [] := by first | (simp [entryFrame, mkF, argsToLocals, Value.category]; done) | rfl
def Q9 (Z : State) (o0 : Addr) (k_o0 : ClassId) (h0 : Heap) (n0 : Nat) (v : Option Value) (h : Heap) (L : List Loc) : Prop := v = none ∧ Fr n0 L ∧ Keep h0 h []
set_option maxRecDepth 65536 in
set_option maxHeartbeats 40000000 in
theorem rm9 (l : Launch) (Z : State) (a0 : Array Value) (hw : ∀ d ∈ tables_1, d.before a0 Z = true) (ws : List Jvm.Cond) (o0 : Addr) (k_o0 : ClassId) (h0 : Heap) (n0 : Nat) (Z0 : n0 ≤ h0.size) (G0 : own_Ar Z h0 o0 k_o0 .int (3 : Int32) Value.int (0 : Int32) [(0 : Int32), (1 : Int32), (2 : Int32)]) :
    MetFree l (⟨"java/util/DualPivotQuicksort", "insertionSort", "([III)V"⟩ : MethodName) (head1 (Jvm.Cond.code (⟨"java/util/DualPivotQuicksort", "insertionSort", "([III)V"⟩ : MethodName) jdk_2529_method_6_code 6 none :: ws) ({ frames := 0, cells := 0, slots := 0, locals := 0 } : Room)) (fun a U => a = #[(.ref o0), (.int (0 : Int32)), (.int (3 : Int32))] ∧ Z.Warmed39 U.vm ∧ U.heap = h0) (fun _ _ _ _ _ => True) (fun _ U o U' => ∃ v L, o = .returned v ∧ Q9 Z o0 k_o0 h0 n0 v U'.heap L ∧ FrameEnd U o U' L ({ frames := 0, cells := 0, slots := 0, locals := 0 } : Room).cells ({ frames := 0, cells := 0, slots := 0, locals := 0 } : Room).slots) := by
  refine MetFree.of_bodySF (plainFor_of_name pn_9) hisR ?_
  intro p e s m args below meth c s₁ Bd hml0 hP hK
  obtain ⟨rfl, hZ, hh⟩ := hP
  have hx := Bd.exec
  have hby := Bd.bytes
  have hml : c.maxLocals = 6 := hml0
  have hown : s.vm.findClass "java/util/DualPivotQuicksort" = some m.cls := findClass_of_methodNamed Bd.named
  have hnm := (name_of_methodNamed Bd.named Bd.method).1
  have X0 : Stand p l e ({ frames := 0, cells := 0, slots := 0, locals := 0 } : Room) s m #[(.ref o0), (.int (0 : Int32)), (.int (3 : Int32))] below meth c s₁ [] 0 0 := Stand.of_body Bd
  have e0 : s₁.heap = h0 := by rw [← hh, Bd.state]; rfl
  have N0 := Fr.nil n0
  refine own_in (ef_9 m o0 (0 : Int32) (3 : Int32)) ?_
  have K0 := Keep.refl h0 []
  refine own_st (g' := (mkF m 1 #[.val (.ref o0), .val (.int (0 : Int32)), .val (.int (3 : Int32)), .unset, .unset, .unset] [(.int (0 : Int32))])) (fun t k => XS.iloadN X0.here hx rfl (hb hby d9_0) rfl  k) ?_
  refine own_st (g' := (mkF m 3 #[.val (.ref o0), .val (.int (0 : Int32)), .val (.int (3 : Int32)), .unset, .val (.int (0 : Int32)), .unset] [])) (fun t k => XS.istore X0.here hx rfl (hb hby d9_1) rfl (l' := #[.val (.ref o0), .val (.int (0 : Int32)), .val (.int (3 : Int32)), .unset, .val (.int (0 : Int32)), .unset]) rfl k) ?_
  refine own_st (g' := (mkF m 6 #[.val (.ref o0), .val (.int (0 : Int32)), .val (.int (3 : Int32)), .unset, .val (.int (1 : Int32)), .unset] [])) (fun t k => XS.iinc X0.here hx rfl (hb hby d9_3) rfl (l' := #[.val (.ref o0), .val (.int (0 : Int32)), .val (.int (3 : Int32)), .unset, .val (.int (1 : Int32)), .unset]) rfl k) ?_
  refine own_st (g' := (mkF m 8 #[.val (.ref o0), .val (.int (0 : Int32)), .val (.int (3 : Int32)), .unset, .val (.int (1 : Int32)), .unset] [(.int (1 : Int32))])) (fun t k => XS.iload X0.here hx rfl (hb hby d9_6) rfl  k) ?_
  refine own_st (g' := (mkF m 9 #[.val (.ref o0), .val (.int (0 : Int32)), .val (.int (3 : Int32)), .unset, .val (.int (1 : Int32)), .unset] [(.int (3 : Int32)), (.int (1 : Int32))])) (fun t k => XS.iloadN X0.here hx rfl (hb hby d9_8) rfl  k) ?_
  have hc9_1 : (1 : Int32) < (3 : Int32) := by decide
  refine own_st (g' := (mkF m 12 #[.val (.ref o0), .val (.int (0 : Int32)), .val (.int (3 : Int32)), .unset, .val (.int (1 : Int32)), .unset] [])) (fun t k => XS.icmpNo X0.here hx rfl (hb hby d9_9) rfl (tlt hc9_1).2.1 k) ?_
  refine own_st (g' := (mkF m 13 #[.val (.ref o0), .val (.int (0 : Int32)), .val (.int (3 : Int32)), .unset, .val (.int (1 : Int32)), .unset] [(.ref o0)])) (fun t k => XS.aloadN X0.here hx rfl (hb hby d9_12) rfl rfl k) ?_
  refine own_st (g' := (mkF m 15 #[.val (.ref o0), .val (.int (0 : Int32)), .val (.int (3 : Int32)), .unset, .val (.int (1 : Int32)), .unset] [(.int (1 : Int32)), (.ref o0)])) (fun t k => XS.iload X0.here hx rfl (hb hby d9_13) rfl  k) ?_
  refine own_st (g' := (mkF m 16 #[.val (.ref o0), .val (.int (0 : Int32)), .val (.int (3 : Int32)), .unset, .val (.int (1 : Int32)), .unset] [(.int (1 : Int32)), (.int (1 : Int32)), (.ref o0)])) (fun t k => XS.dup X0.here hx rfl (hb hby d9_15) rfl rfl k) ?_
  refine own_st (g' := (mkF m 17 #[.val (.ref o0), .val (.int (0 : Int32)), .val (.int (3 : Int32)), .val (.int (1 : Int32)), .val (.int (1 : Int32)), .unset] [(.int (1 : Int32)), (.ref o0)])) (fun t k => XS.istoreN X0.here hx rfl (hb hby d9_16) rfl (l' := #[.val (.ref o0), .val (.int (0 : Int32)), .val (.int (3 : Int32)), .val (.int (1 : Int32)), .val (.int (1 : Int32)), .unset]) rfl k) ?_
  refine own_st (g' := (mkF m 18 #[.val (.ref o0), .val (.int (0 : Int32)), .val (.int (3 : Int32)), .val (.int (1 : Int32)), .val (.int (1 : Int32)), .unset] [(.int (1 : Int32))])) (fun t k => own_iald X0 hx hZ e0 G0 (j := (1 : Int32)) ⟨by decide, by decide⟩ (g := (mkF m 17 #[.val (.ref o0), .val (.int (0 : Int32)), .val (.int (3 : Int32)), .val (.int (1 : Int32)), .val (.int (1 : Int32)), .unset] [(.int (1 : Int32)), (.ref o0)])) rfl rfl (hb hby d9_17) t k) ?_
  refine own_st (g' := (mkF m 20 #[.val (.ref o0), .val (.int (0 : Int32)), .val (.int (3 : Int32)), .val (.int (1 : Int32)), .val (.int (1 : Int32)), .val (.int (1 : Int32))] [])) (fun t k => XS.istore X0.here hx rfl (hb hby d9_18) rfl (l' := #[.val (.ref o0), .val (.int (0 : Int32)), .val (.int (3 : Int32)), .val (.int (1 : Int32)), .val (.int (1 : Int32)), .val (.int (1 : Int32))]) rfl k) ?_
  refine own_st (g' := (mkF m 22 #[.val (.ref o0), .val (.int (0 : Int32)), .val (.int (3 : Int32)), .val (.int (1 : Int32)), .val (.int (1 : Int32)), .val (.int (1 : Int32))] [(.int (1 : Int32))])) (fun t k => XS.iload X0.here hx rfl (hb hby d9_20) rfl  k) ?_
  refine own_st (g' := (mkF m 23 #[.val (.ref o0), .val (.int (0 : Int32)), .val (.int (3 : Int32)), .val (.int (1 : Int32)), .val (.int (1 : Int32)), .val (.int (1 : Int32))] [(.ref o0), (.int (1 : Int32))])) (fun t k => XS.aloadN X0.here hx rfl (hb hby d9_22) rfl rfl k) ?_
  refine own_st (g' := (mkF m 24 #[.val (.ref o0), .val (.int (0 : Int32)), .val (.int (3 : Int32)), .val (.int (1 : Int32)), .val (.int (1 : Int32)), .val (.int (1 : Int32))] [(.int (1 : Int32)), (.ref o0), (.int (1 : Int32))])) (fun t k => XS.iloadN X0.here hx rfl (hb hby d9_23) rfl  k) ?_
  refine own_st (g' := (mkF m 25 #[.val (.ref o0), .val (.int (0 : Int32)), .val (.int (3 : Int32)), .val (.int (1 : Int32)), .val (.int (1 : Int32)), .val (.int (1 : Int32))] [(.int (1 : Int32)), (.int (1 : Int32)), (.ref o0), (.int (1 : Int32))])) (fun t k => XS.iconst X0.here hx rfl (hb hby d9_24) k) ?_
  refine own_st (g' := (mkF m 26 #[.val (.ref o0), .val (.int (0 : Int32)), .val (.int (3 : Int32)), .val (.int (1 : Int32)), .val (.int (1 : Int32)), .val (.int (1 : Int32))] [(.int (0 : Int32)), (.ref o0), (.int (1 : Int32))])) (fun t k => XS.isub X0.here hx rfl (hb hby d9_25) rfl k) ?_
  refine own_st (g' := (mkF m 27 #[.val (.ref o0), .val (.int (0 : Int32)), .val (.int (3 : Int32)), .val (.int (1 : Int32)), .val (.int (1 : Int32)), .val (.int (1 : Int32))] [(.int (0 : Int32)), (.int (1 : Int32))])) (fun t k => own_iald X0 hx hZ e0 G0 (j := (0 : Int32)) ⟨by decide, by decide⟩ (g := (mkF m 26 #[.val (.ref o0), .val (.int (0 : Int32)), .val (.int (3 : Int32)), .val (.int (1 : Int32)), .val (.int (1 : Int32)), .val (.int (1 : Int32))] [(.int (0 : Int32)), (.ref o0), (.int (1 : Int32))])) rfl rfl (hb hby d9_26) t k) ?_
  have hc27_2 : ¬ ((1 : Int32) < (0 : Int32)) := by decide
  refine own_st (g' := (mkF m 64 #[.val (.ref o0), .val (.int (0 : Int32)), .val (.int (3 : Int32)), .val (.int (1 : Int32)), .val (.int (1 : Int32)), .val (.int (1 : Int32))] [])) (fun t k => XS.icmpYes X0.here hx rfl (pc0 := 27) (pc' := 64) rfl (hb hby d9_27) rfl (flt hc27_2).2.1 (by decide) (by decide) k) ?_
  refine own_st (g' := (mkF m 3 #[.val (.ref o0), .val (.int (0 : Int32)), .val (.int (3 : Int32)), .val (.int (1 : Int32)), .val (.int (1 : Int32)), .val (.int (1 : Int32))] [])) (fun t k => XS.goto X0.here hx rfl (pc0 := 64) (pc' := 3) rfl (hb hby d9_64) (by decide) (by decide) k) ?_
  refine own_st (g' := (mkF m 6 #[.val (.ref o0), .val (.int (0 : Int32)), .val (.int (3 : Int32)), .val (.int (1 : Int32)), .val (.int (2 : Int32)), .val (.int (1 : Int32))] [])) (fun t k => XS.iinc X0.here hx rfl (hb hby d9_3) rfl (l' := #[.val (.ref o0), .val (.int (0 : Int32)), .val (.int (3 : Int32)), .val (.int (1 : Int32)), .val (.int (2 : Int32)), .val (.int (1 : Int32))]) rfl k) ?_
  refine own_st (g' := (mkF m 8 #[.val (.ref o0), .val (.int (0 : Int32)), .val (.int (3 : Int32)), .val (.int (1 : Int32)), .val (.int (2 : Int32)), .val (.int (1 : Int32))] [(.int (2 : Int32))])) (fun t k => XS.iload X0.here hx rfl (hb hby d9_6) rfl  k) ?_
  refine own_st (g' := (mkF m 9 #[.val (.ref o0), .val (.int (0 : Int32)), .val (.int (3 : Int32)), .val (.int (1 : Int32)), .val (.int (2 : Int32)), .val (.int (1 : Int32))] [(.int (3 : Int32)), (.int (2 : Int32))])) (fun t k => XS.iloadN X0.here hx rfl (hb hby d9_8) rfl  k) ?_
  have hc9_3 : (2 : Int32) < (3 : Int32) := by decide
  refine own_st (g' := (mkF m 12 #[.val (.ref o0), .val (.int (0 : Int32)), .val (.int (3 : Int32)), .val (.int (1 : Int32)), .val (.int (2 : Int32)), .val (.int (1 : Int32))] [])) (fun t k => XS.icmpNo X0.here hx rfl (hb hby d9_9) rfl (tlt hc9_3).2.1 k) ?_
  refine own_st (g' := (mkF m 13 #[.val (.ref o0), .val (.int (0 : Int32)), .val (.int (3 : Int32)), .val (.int (1 : Int32)), .val (.int (2 : Int32)), .val (.int (1 : Int32))] [(.ref o0)])) (fun t k => XS.aloadN X0.here hx rfl (hb hby d9_12) rfl rfl k) ?_
  refine own_st (g' := (mkF m 15 #[.val (.ref o0), .val (.int (0 : Int32)), .val (.int (3 : Int32)), .val (.int (1 : Int32)), .val (.int (2 : Int32)), .val (.int (1 : Int32))] [(.int (2 : Int32)), (.ref o0)])) (fun t k => XS.iload X0.here hx rfl (hb hby d9_13) rfl  k) ?_
  refine own_st (g' := (mkF m 16 #[.val (.ref o0), .val (.int (0 : Int32)), .val (.int (3 : Int32)), .val (.int (1 : Int32)), .val (.int (2 : Int32)), .val (.int (1 : Int32))] [(.int (2 : Int32)), (.int (2 : Int32)), (.ref o0)])) (fun t k => XS.dup X0.here hx rfl (hb hby d9_15) rfl rfl k) ?_
  refine own_st (g' := (mkF m 17 #[.val (.ref o0), .val (.int (0 : Int32)), .val (.int (3 : Int32)), .val (.int (2 : Int32)), .val (.int (2 : Int32)), .val (.int (1 : Int32))] [(.int (2 : Int32)), (.ref o0)])) (fun t k => XS.istoreN X0.here hx rfl (hb hby d9_16) rfl (l' := #[.val (.ref o0), .val (.int (0 : Int32)), .val (.int (3 : Int32)), .val (.int (2 : Int32)), .val (.int (2 : Int32)), .val (.int (1 : Int32))]) rfl k) ?_
  refine own_st (g' := (mkF m 18 #[.val (.ref o0), .val (.int (0 : Int32)), .val (.int (3 : Int32)), .val (.int (2 : Int32)), .val (.int (2 : Int32)), .val (.int (1 : Int32))] [(.int (2 : Int32))])) (fun t k => own_iald X0 hx hZ e0 G0 (j := (2 : Int32)) ⟨by decide, by decide⟩ (g := (mkF m 17 #[.val (.ref o0), .val (.int (0 : Int32)), .val (.int (3 : Int32)), .val (.int (2 : Int32)), .val (.int (2 : Int32)), .val (.int (1 : Int32))] [(.int (2 : Int32)), (.ref o0)])) rfl rfl (hb hby d9_17) t k) ?_
  refine own_st (g' := (mkF m 20 #[.val (.ref o0), .val (.int (0 : Int32)), .val (.int (3 : Int32)), .val (.int (2 : Int32)), .val (.int (2 : Int32)), .val (.int (2 : Int32))] [])) (fun t k => XS.istore X0.here hx rfl (hb hby d9_18) rfl (l' := #[.val (.ref o0), .val (.int (0 : Int32)), .val (.int (3 : Int32)), .val (.int (2 : Int32)), .val (.int (2 : Int32)), .val (.int (2 : Int32))]) rfl k) ?_
  refine own_st (g' := (mkF m 22 #[.val (.ref o0), .val (.int (0 : Int32)), .val (.int (3 : Int32)), .val (.int (2 : Int32)), .val (.int (2 : Int32)), .val (.int (2 : Int32))] [(.int (2 : Int32))])) (fun t k => XS.iload X0.here hx rfl (hb hby d9_20) rfl  k) ?_
  refine own_st (g' := (mkF m 23 #[.val (.ref o0), .val (.int (0 : Int32)), .val (.int (3 : Int32)), .val (.int (2 : Int32)), .val (.int (2 : Int32)), .val (.int (2 : Int32))] [(.ref o0), (.int (2 : Int32))])) (fun t k => XS.aloadN X0.here hx rfl (hb hby d9_22) rfl rfl k) ?_
  refine own_st (g' := (mkF m 24 #[.val (.ref o0), .val (.int (0 : Int32)), .val (.int (3 : Int32)), .val (.int (2 : Int32)), .val (.int (2 : Int32)), .val (.int (2 : Int32))] [(.int (2 : Int32)), (.ref o0), (.int (2 : Int32))])) (fun t k => XS.iloadN X0.here hx rfl (hb hby d9_23) rfl  k) ?_
  refine own_st (g' := (mkF m 25 #[.val (.ref o0), .val (.int (0 : Int32)), .val (.int (3 : Int32)), .val (.int (2 : Int32)), .val (.int (2 : Int32)), .val (.int (2 : Int32))] [(.int (1 : Int32)), (.int (2 : Int32)), (.ref o0), (.int (2 : Int32))])) (fun t k => XS.iconst X0.here hx rfl (hb hby d9_24) k) ?_
  refine own_st (g' := (mkF m 26 #[.val (.ref o0), .val (.int (0 : Int32)), .val (.int (3 : Int32)), .val (.int (2 : Int32)), .val (.int (2 : Int32)), .val (.int (2 : Int32))] [(.int (1 : Int32)), (.ref o0), (.int (2 : Int32))])) (fun t k => XS.isub X0.here hx rfl (hb hby d9_25) rfl k) ?_
  refine own_st (g' := (mkF m 27 #[.val (.ref o0), .val (.int (0 : Int32)), .val (.int (3 : Int32)), .val (.int (2 : Int32)), .val (.int (2 : Int32)), .val (.int (2 : Int32))] [(.int (1 : Int32)), (.int (2 : Int32))])) (fun t k => own_iald X0 hx hZ e0 G0 (j := (1 : Int32)) ⟨by decide, by decide⟩ (g := (mkF m 26 #[.val (.ref o0), .val (.int (0 : Int32)), .val (.int (3 : Int32)), .val (.int (2 : Int32)), .val (.int (2 : Int32)), .val (.int (2 : Int32))] [(.int (1 : Int32)), (.ref o0), (.int (2 : Int32))])) rfl rfl (hb hby d9_26) t k) ?_
  have hc27_4 : ¬ ((2 : Int32) < (1 : Int32)) := by decide
  refine own_st (g' := (mkF m 64 #[.val (.ref o0), .val (.int (0 : Int32)), .val (.int (3 : Int32)), .val (.int (2 : Int32)), .val (.int (2 : Int32)), .val (.int (2 : Int32))] [])) (fun t k => XS.icmpYes X0.here hx rfl (pc0 := 27) (pc' := 64) rfl (hb hby d9_27) rfl (flt hc27_4).2.1 (by decide) (by decide) k) ?_
  refine own_st (g' := (mkF m 3 #[.val (.ref o0), .val (.int (0 : Int32)), .val (.int (3 : Int32)), .val (.int (2 : Int32)), .val (.int (2 : Int32)), .val (.int (2 : Int32))] [])) (fun t k => XS.goto X0.here hx rfl (pc0 := 64) (pc' := 3) rfl (hb hby d9_64) (by decide) (by decide) k) ?_
  refine own_st (g' := (mkF m 6 #[.val (.ref o0), .val (.int (0 : Int32)), .val (.int (3 : Int32)), .val (.int (2 : Int32)), .val (.int (3 : Int32)), .val (.int (2 : Int32))] [])) (fun t k => XS.iinc X0.here hx rfl (hb hby d9_3) rfl (l' := #[.val (.ref o0), .val (.int (0 : Int32)), .val (.int (3 : Int32)), .val (.int (2 : Int32)), .val (.int (3 : Int32)), .val (.int (2 : Int32))]) rfl k) ?_
  refine own_st (g' := (mkF m 8 #[.val (.ref o0), .val (.int (0 : Int32)), .val (.int (3 : Int32)), .val (.int (2 : Int32)), .val (.int (3 : Int32)), .val (.int (2 : Int32))] [(.int (3 : Int32))])) (fun t k => XS.iload X0.here hx rfl (hb hby d9_6) rfl  k) ?_
  refine own_st (g' := (mkF m 9 #[.val (.ref o0), .val (.int (0 : Int32)), .val (.int (3 : Int32)), .val (.int (2 : Int32)), .val (.int (3 : Int32)), .val (.int (2 : Int32))] [(.int (3 : Int32)), (.int (3 : Int32))])) (fun t k => XS.iloadN X0.here hx rfl (hb hby d9_8) rfl  k) ?_
  have hc9_5 : ¬ ((3 : Int32) < (3 : Int32)) := by decide
  refine own_st (g' := (mkF m 67 #[.val (.ref o0), .val (.int (0 : Int32)), .val (.int (3 : Int32)), .val (.int (2 : Int32)), .val (.int (3 : Int32)), .val (.int (2 : Int32))] [])) (fun t k => XS.icmpYes X0.here hx rfl (pc0 := 9) (pc' := 67) rfl (hb hby d9_9) rfl (flt hc9_5).2.1 (by decide) (by decide) k) ?_
  exact own_retV X0 hx Bd.returns Bd.notSynchronized (hb hby d9_67) (by rw [e0]; exact ⟨rfl, N0, K0⟩) (by decide) (by decide)
theorem d8_0 : decode jdk_2529_method_4_code 0 = .ok (.iload 4, 2) := by decide +kernel
theorem d8_2 : decode jdk_2529_method_4_code 2 = .ok (.iconst 1, 1) := by decide +kernel
theorem d8_3 : decode jdk_2529_method_4_code 3 = .ok (.isub, 1) := by decide +kernel
theorem d8_4 : decode jdk_2529_method_4_code 4 = .ok (.istore 5, 2) := by decide +kernel
theorem d8_6 : decode jdk_2529_method_4_code 6 = .ok (.iload 4, 2) := by decide +kernel
theorem d8_8 : decode jdk_2529_method_4_code 8 = .ok (.iload_n 3, 1) := by decide +kernel
theorem d8_9 : decode jdk_2529_method_4_code 9 = .ok (.isub, 1) := by decide +kernel
theorem d8_10 : decode jdk_2529_method_4_code 10 = .ok (.istore 6, 2) := by decide +kernel
theorem d8_12 : decode jdk_2529_method_4_code 12 = .ok (.iload 6, 2) := by decide +kernel
theorem d8_14 : decode jdk_2529_method_4_code 14 = .ok (.bipush 65, 2) := by decide +kernel
theorem d8_16 : decode jdk_2529_method_4_code 16 = .ok (.iload_n 2, 1) := by decide +kernel
theorem d8_17 : decode jdk_2529_method_4_code 17 = .ok (.iadd, 1) := by decide +kernel
theorem d8_18 : decode jdk_2529_method_4_code 18 = .ok (.if_icmp .ge 28, 3) := by decide +kernel
theorem d8_21 : decode jdk_2529_method_4_code 21 = .ok (.iload_n 2, 1) := by decide +kernel
theorem d8_22 : decode jdk_2529_method_4_code 22 = .ok (.iconst 1, 1) := by decide +kernel
theorem d8_23 : decode jdk_2529_method_4_code 23 = .ok (.iand, 1) := by decide +kernel
theorem d8_24 : decode jdk_2529_method_4_code 24 = .ok (.ifCond .le 22, 3) := by decide +kernel
theorem d8_46 : decode jdk_2529_method_4_code 46 = .ok (.iload 6, 2) := by decide +kernel
theorem d8_48 : decode jdk_2529_method_4_code 48 = .ok (.bipush 44, 2) := by decide +kernel
theorem d8_50 : decode jdk_2529_method_4_code 50 = .ok (.if_icmp .ge 11, 3) := by decide +kernel
theorem d8_53 : decode jdk_2529_method_4_code 53 = .ok (.aload_n 1, 1) := by decide +kernel
theorem d8_54 : decode jdk_2529_method_4_code 54 = .ok (.iload_n 3, 1) := by decide +kernel
theorem d8_55 : decode jdk_2529_method_4_code 55 = .ok (.iload 4, 2) := by decide +kernel
theorem d8_57 : decode jdk_2529_method_4_code 57 = .ok (.invokestatic 34, 3) := by decide +kernel
theorem d8_60 : decode jdk_2529_method_4_code 60 = .ok (.return_, 1) := by decide +kernel
theorem pn_8 : plainName "java/util/DualPivotQuicksort" = true := by first | (simp [plainName, overriddenIn]; done) | decide +kernel
theorem pd_8_0 : parseMethodDescriptor "([III)V" = some ⟨[(.array .int), .int, .int], none⟩ := by decide +kernel
theorem ef_8 (m : MethodId) (x1 : Addr) (x2 : Int32) (x3 : Int32) (x4 : Int32) : entryFrame m #[.null, (.ref x1), (.int x2), (.int x3), (.int x4)] 21 = mkF m 0 #[.val .null, .val (.ref x1), .val (.int x2), .val (.int x3), .val (.int x4), .unset, .unset, .unset, .unset, .unset, .unset, .unset, .unset, .unset, .unset, .unset, .unset, .unset, .unset, .unset, .unset] [] := by first | (simp [entryFrame, mkF, argsToLocals, Value.category]; done) | rfl
def Q8 (Z : State) (o1 : Addr) (k_o1 : ClassId) (h0 : Heap) (n0 : Nat) (v : Option Value) (h : Heap) (L : List Loc) : Prop := v = none ∧ Fr n0 L ∧ Keep h0 h []
set_option maxRecDepth 65536 in
set_option maxHeartbeats 40000000 in
theorem rm8 (l : Launch) (Z : State) (a0 : Array Value) (hw : ∀ d ∈ tables_1, d.before a0 Z = true) (ws : List Jvm.Cond) (o1 : Addr) (k_o1 : ClassId) (h0 : Heap) (n0 : Nat) (Z0 : n0 ≤ h0.size) (G0 : own_Ar Z h0 o1 k_o1 .int (3 : Int32) Value.int (0 : Int32) [(0 : Int32), (1 : Int32), (2 : Int32)]) :
    MetFree l (⟨"java/util/DualPivotQuicksort", "sort", "(Ljava/util/DualPivotQuicksort$Sorter;[IIII)V"⟩ : MethodName) (head1 (Jvm.Cond.code (⟨"java/util/DualPivotQuicksort", "sort", "(Ljava/util/DualPivotQuicksort$Sorter;[IIII)V"⟩ : MethodName) jdk_2529_method_4_code 21 none :: ws) ({ frames := 1, cells := 0, slots := 0, locals := 17 } : Room)) (fun a U => a = #[.null, (.ref o1), (.int (0 : Int32)), (.int (0 : Int32)), (.int (3 : Int32))] ∧ Z.Warmed39 U.vm ∧ U.heap = h0) (fun _ _ _ _ _ => True) (fun _ U o U' => ∃ v L, o = .returned v ∧ Q8 Z o1 k_o1 h0 n0 v U'.heap L ∧ FrameEnd U o U' L ({ frames := 1, cells := 0, slots := 0, locals := 17 } : Room).cells ({ frames := 1, cells := 0, slots := 0, locals := 17 } : Room).slots) := by
  refine MetFree.of_bodySF (plainFor_of_name pn_8) hisR ?_
  intro p e s m args below meth c s₁ Bd hml0 hP hK
  obtain ⟨rfl, hZ, hh⟩ := hP
  have hx := Bd.exec
  have hby := Bd.bytes
  have hml : c.maxLocals = 21 := hml0
  have hown : s.vm.findClass "java/util/DualPivotQuicksort" = some m.cls := findClass_of_methodNamed Bd.named
  have hnm := (name_of_methodNamed Bd.named Bd.method).1
  have X0 : Stand p l e ({ frames := 1, cells := 0, slots := 0, locals := 17 } : Room) s m #[.null, (.ref o1), (.int (0 : Int32)), (.int (0 : Int32)), (.int (3 : Int32))] below meth c s₁ [] 0 0 := Stand.of_body Bd
  have e0 : s₁.heap = h0 := by rw [← hh, Bd.state]; rfl
  have N0 := Fr.nil n0
  refine own_in (ef_8 m o1 (0 : Int32) (0 : Int32) (3 : Int32)) ?_
  have K0 := Keep.refl h0 []
  refine own_st (g' := (mkF m 2 #[.val .null, .val (.ref o1), .val (.int (0 : Int32)), .val (.int (0 : Int32)), .val (.int (3 : Int32)), .unset, .unset, .unset, .unset, .unset, .unset, .unset, .unset, .unset, .unset, .unset, .unset, .unset, .unset, .unset, .unset] [(.int (3 : Int32))])) (fun t k => XS.iload X0.here hx rfl (hb hby d8_0) rfl  k) ?_
  refine own_st (g' := (mkF m 3 #[.val .null, .val (.ref o1), .val (.int (0 : Int32)), .val (.int (0 : Int32)), .val (.int (3 : Int32)), .unset, .unset, .unset, .unset, .unset, .unset, .unset, .unset, .unset, .unset, .unset, .unset, .unset, .unset, .unset, .unset] [(.int (1 : Int32)), (.int (3 : Int32))])) (fun t k => XS.iconst X0.here hx rfl (hb hby d8_2) k) ?_
  refine own_st (g' := (mkF m 4 #[.val .null, .val (.ref o1), .val (.int (0 : Int32)), .val (.int (0 : Int32)), .val (.int (3 : Int32)), .unset, .unset, .unset, .unset, .unset, .unset, .unset, .unset, .unset, .unset, .unset, .unset, .unset, .unset, .unset, .unset] [(.int (2 : Int32))])) (fun t k => XS.isub X0.here hx rfl (hb hby d8_3) rfl k) ?_
  refine own_st (g' := (mkF m 6 #[.val .null, .val (.ref o1), .val (.int (0 : Int32)), .val (.int (0 : Int32)), .val (.int (3 : Int32)), .val (.int (2 : Int32)), .unset, .unset, .unset, .unset, .unset, .unset, .unset, .unset, .unset, .unset, .unset, .unset, .unset, .unset, .unset] [])) (fun t k => XS.istore X0.here hx rfl (hb hby d8_4) rfl (l' := #[.val .null, .val (.ref o1), .val (.int (0 : Int32)), .val (.int (0 : Int32)), .val (.int (3 : Int32)), .val (.int (2 : Int32)), .unset, .unset, .unset, .unset, .unset, .unset, .unset, .unset, .unset, .unset, .unset, .unset, .unset, .unset, .unset]) rfl k) ?_
  refine own_st (g' := (mkF m 8 #[.val .null, .val (.ref o1), .val (.int (0 : Int32)), .val (.int (0 : Int32)), .val (.int (3 : Int32)), .val (.int (2 : Int32)), .unset, .unset, .unset, .unset, .unset, .unset, .unset, .unset, .unset, .unset, .unset, .unset, .unset, .unset, .unset] [(.int (3 : Int32))])) (fun t k => XS.iload X0.here hx rfl (hb hby d8_6) rfl  k) ?_
  refine own_st (g' := (mkF m 9 #[.val .null, .val (.ref o1), .val (.int (0 : Int32)), .val (.int (0 : Int32)), .val (.int (3 : Int32)), .val (.int (2 : Int32)), .unset, .unset, .unset, .unset, .unset, .unset, .unset, .unset, .unset, .unset, .unset, .unset, .unset, .unset, .unset] [(.int (0 : Int32)), (.int (3 : Int32))])) (fun t k => XS.iloadN X0.here hx rfl (hb hby d8_8) rfl  k) ?_
  refine own_st (g' := (mkF m 10 #[.val .null, .val (.ref o1), .val (.int (0 : Int32)), .val (.int (0 : Int32)), .val (.int (3 : Int32)), .val (.int (2 : Int32)), .unset, .unset, .unset, .unset, .unset, .unset, .unset, .unset, .unset, .unset, .unset, .unset, .unset, .unset, .unset] [(.int (3 : Int32))])) (fun t k => XS.isub X0.here hx rfl (hb hby d8_9) rfl k) ?_
  refine own_st (g' := (mkF m 12 #[.val .null, .val (.ref o1), .val (.int (0 : Int32)), .val (.int (0 : Int32)), .val (.int (3 : Int32)), .val (.int (2 : Int32)), .val (.int (3 : Int32)), .unset, .unset, .unset, .unset, .unset, .unset, .unset, .unset, .unset, .unset, .unset, .unset, .unset, .unset] [])) (fun t k => XS.istore X0.here hx rfl (hb hby d8_10) rfl (l' := #[.val .null, .val (.ref o1), .val (.int (0 : Int32)), .val (.int (0 : Int32)), .val (.int (3 : Int32)), .val (.int (2 : Int32)), .val (.int (3 : Int32)), .unset, .unset, .unset, .unset, .unset, .unset, .unset, .unset, .unset, .unset, .unset, .unset, .unset, .unset]) rfl k) ?_
  refine own_st (g' := (mkF m 14 #[.val .null, .val (.ref o1), .val (.int (0 : Int32)), .val (.int (0 : Int32)), .val (.int (3 : Int32)), .val (.int (2 : Int32)), .val (.int (3 : Int32)), .unset, .unset, .unset, .unset, .unset, .unset, .unset, .unset, .unset, .unset, .unset, .unset, .unset, .unset] [(.int (3 : Int32))])) (fun t k => XS.iload X0.here hx rfl (hb hby d8_12) rfl  k) ?_
  refine own_st (g' := (mkF m 16 #[.val .null, .val (.ref o1), .val (.int (0 : Int32)), .val (.int (0 : Int32)), .val (.int (3 : Int32)), .val (.int (2 : Int32)), .val (.int (3 : Int32)), .unset, .unset, .unset, .unset, .unset, .unset, .unset, .unset, .unset, .unset, .unset, .unset, .unset, .unset] [(.int (65 : Int32)), (.int (3 : Int32))])) (fun t k => XS.bipush X0.here hx rfl (hb hby d8_14) k) ?_
  refine own_st (g' := (mkF m 17 #[.val .null, .val (.ref o1), .val (.int (0 : Int32)), .val (.int (0 : Int32)), .val (.int (3 : Int32)), .val (.int (2 : Int32)), .val (.int (3 : Int32)), .unset, .unset, .unset, .unset, .unset, .unset, .unset, .unset, .unset, .unset, .unset, .unset, .unset, .unset] [(.int (0 : Int32)), (.int (65 : Int32)), (.int (3 : Int32))])) (fun t k => XS.iloadN X0.here hx rfl (hb hby d8_16) rfl  k) ?_
  refine own_st (g' := (mkF m 18 #[.val .null, .val (.ref o1), .val (.int (0 : Int32)), .val (.int (0 : Int32)), .val (.int (3 : Int32)), .val (.int (2 : Int32)), .val (.int (3 : Int32)), .unset, .unset, .unset, .unset, .unset, .unset, .unset, .unset, .unset, .unset, .unset, .unset, .unset, .unset] [(.int (65 : Int32)), (.int (3 : Int32))])) (fun t k => XS.iadd X0.here hx rfl (hb hby d8_17) rfl k) ?_
  have hc18_1 : (3 : Int32) < (65 : Int32) := by decide
  refine own_st (g' := (mkF m 21 #[.val .null, .val (.ref o1), .val (.int (0 : Int32)), .val (.int (0 : Int32)), .val (.int (3 : Int32)), .val (.int (2 : Int32)), .val (.int (3 : Int32)), .unset, .unset, .unset, .unset, .unset, .unset, .unset, .unset, .unset, .unset, .unset, .unset, .unset, .unset] [])) (fun t k => XS.icmpNo X0.here hx rfl (hb hby d8_18) rfl (tlt hc18_1).2.1 k) ?_
  refine own_st (g' := (mkF m 22 #[.val .null, .val (.ref o1), .val (.int (0 : Int32)), .val (.int (0 : Int32)), .val (.int (3 : Int32)), .val (.int (2 : Int32)), .val (.int (3 : Int32)), .unset, .unset, .unset, .unset, .unset, .unset, .unset, .unset, .unset, .unset, .unset, .unset, .unset, .unset] [(.int (0 : Int32))])) (fun t k => XS.iloadN X0.here hx rfl (hb hby d8_21) rfl  k) ?_
  refine own_st (g' := (mkF m 23 #[.val .null, .val (.ref o1), .val (.int (0 : Int32)), .val (.int (0 : Int32)), .val (.int (3 : Int32)), .val (.int (2 : Int32)), .val (.int (3 : Int32)), .unset, .unset, .unset, .unset, .unset, .unset, .unset, .unset, .unset, .unset, .unset, .unset, .unset, .unset] [(.int (1 : Int32)), (.int (0 : Int32))])) (fun t k => XS.iconst X0.here hx rfl (hb hby d8_22) k) ?_
  refine own_st (g' := (mkF m 24 #[.val .null, .val (.ref o1), .val (.int (0 : Int32)), .val (.int (0 : Int32)), .val (.int (3 : Int32)), .val (.int (2 : Int32)), .val (.int (3 : Int32)), .unset, .unset, .unset, .unset, .unset, .unset, .unset, .unset, .unset, .unset, .unset, .unset, .unset, .unset] [(.int (0 : Int32))])) (fun t k => XS.iand X0.here hx rfl (hb hby d8_23) rfl k) ?_
  have hc24_2 : ¬ ((0 : Int32) < (0 : Int32)) := by decide
  refine own_st (g' := (mkF m 46 #[.val .null, .val (.ref o1), .val (.int (0 : Int32)), .val (.int (0 : Int32)), .val (.int (3 : Int32)), .val (.int (2 : Int32)), .val (.int (3 : Int32)), .unset, .unset, .unset, .unset, .unset, .unset, .unset, .unset, .unset, .unset, .unset, .unset, .unset, .unset] [])) (fun t k => XS.ifYes X0.here hx rfl (pc0 := 24) (pc' := 46) rfl (hb hby d8_24) rfl ((if0 _ _).trans (flt hc24_2).2.2.2) (by decide) (by decide) k) ?_
  refine own_st (g' := (mkF m 48 #[.val .null, .val (.ref o1), .val (.int (0 : Int32)), .val (.int (0 : Int32)), .val (.int (3 : Int32)), .val (.int (2 : Int32)), .val (.int (3 : Int32)), .unset, .unset, .unset, .unset, .unset, .unset, .unset, .unset, .unset, .unset, .unset, .unset, .unset, .unset] [(.int (3 : Int32))])) (fun t k => XS.iload X0.here hx rfl (hb hby d8_46) rfl  k) ?_
  refine own_st (g' := (mkF m 50 #[.val .null, .val (.ref o1), .val (.int (0 : Int32)), .val (.int (0 : Int32)), .val (.int (3 : Int32)), .val (.int (2 : Int32)), .val (.int (3 : Int32)), .unset, .unset, .unset, .unset, .unset, .unset, .unset, .unset, .unset, .unset, .unset, .unset, .unset, .unset] [(.int (44 : Int32)), (.int (3 : Int32))])) (fun t k => XS.bipush X0.here hx rfl (hb hby d8_48) k) ?_
  have hc50_3 : (3 : Int32) < (44 : Int32) := by decide
  refine own_st (g' := (mkF m 53 #[.val .null, .val (.ref o1), .val (.int (0 : Int32)), .val (.int (0 : Int32)), .val (.int (3 : Int32)), .val (.int (2 : Int32)), .val (.int (3 : Int32)), .unset, .unset, .unset, .unset, .unset, .unset, .unset, .unset, .unset, .unset, .unset, .unset, .unset, .unset] [])) (fun t k => XS.icmpNo X0.here hx rfl (hb hby d8_50) rfl (tlt hc50_3).2.1 k) ?_
  refine own_st (g' := (mkF m 54 #[.val .null, .val (.ref o1), .val (.int (0 : Int32)), .val (.int (0 : Int32)), .val (.int (3 : Int32)), .val (.int (2 : Int32)), .val (.int (3 : Int32)), .unset, .unset, .unset, .unset, .unset, .unset, .unset, .unset, .unset, .unset, .unset, .unset, .unset, .unset] [(.ref o1)])) (fun t k => XS.aloadN X0.here hx rfl (hb hby d8_53) rfl rfl k) ?_
  refine own_st (g' := (mkF m 55 #[.val .null, .val (.ref o1), .val (.int (0 : Int32)), .val (.int (0 : Int32)), .val (.int (3 : Int32)), .val (.int (2 : Int32)), .val (.int (3 : Int32)), .unset, .unset, .unset, .unset, .unset, .unset, .unset, .unset, .unset, .unset, .unset, .unset, .unset, .unset] [(.int (0 : Int32)), (.ref o1)])) (fun t k => XS.iloadN X0.here hx rfl (hb hby d8_54) rfl  k) ?_
  refine own_st (g' := (mkF m 57 #[.val .null, .val (.ref o1), .val (.int (0 : Int32)), .val (.int (0 : Int32)), .val (.int (3 : Int32)), .val (.int (2 : Int32)), .val (.int (3 : Int32)), .unset, .unset, .unset, .unset, .unset, .unset, .unset, .unset, .unset, .unset, .unset, .unset, .unset, .unset] [(.int (3 : Int32)), (.int (0 : Int32)), (.ref o1)])) (fun t k => XS.iload X0.here hx rfl (hb hby d8_55) rfl  k) ?_
  obtain ⟨_, _, ⟨T4, L4, k4, n4⟩, -, X4, ⟨Lc4, hQ4, l4, y4, z4⟩, st4⟩ := Jvm.LawKit.callS X0 hx (y := (⟨"java/util/DualPivotQuicksort", "insertionSort", "([III)V"⟩ : MethodName)) hown (mvT hZ (hw _ (List.mem_of_getElem? (i := 50) rfl))) (mvT hZ (hw _ (List.mem_of_getElem? (i := 51) rfl))) (mvT hZ (hw _ (List.mem_of_getElem? (i := 45) rfl))) (mvT hZ (hw _ (List.mem_of_getElem? (i := 52) rfl))) (by decide) (backOf (W := 0) (rm9 l Z a0 hw [] o1 k_o1 h0 n0 Z0 G0   ) hZ (hw _ (List.mem_of_getElem? (i := 52) rfl)) (hw _ (List.mem_of_getElem? (i := 45) rfl)) (by decide) (by decide)) (g := (mkF m 57 #[.val .null, .val (.ref o1), .val (.int (0 : Int32)), .val (.int (0 : Int32)), .val (.int (3 : Int32)), .val (.int (2 : Int32)), .val (.int (3 : Int32)), .unset, .unset, .unset, .unset, .unset, .unset, .unset, .unset, .unset, .unset, .unset, .unset, .unset, .unset] [(.int (3 : Int32)), (.int (0 : Int32)), (.ref o1)])) rfl (by rw [hml]; rfl) (argsL := [(.ref o1), (.int (0 : Int32)), (.int (3 : Int32))]) (rest := []) (lenOf pd_8_0 rfl) rfl (by show 2 * 0 + _ ≤ _; exact Nat.le_of_eq rfl) (hb hby d8_57) (fun _ _ => ⟨rfl, e0, (by decide : 0 + 0 ≤ _), (by decide : 0 + 0 ≤ _)⟩)
  dsimp only [Pt.U, Pt.locs, Pt.cells, Pt.slots] at X4 l4 y4 z4 st4 hQ4
  subst y4 z4
  obtain ⟨rfl, N4q, K4⟩ := hQ4
  have N4 : Fr n0 L4 := by rw [l4]; exact Fr.app N0 N4q
  have K5 : Keep h0 T4.heap [] := K0.trans K4 all0
  refine own_st (g' := (mkF m 60 #[.val .null, .val (.ref o1), .val (.int (0 : Int32)), .val (.int (0 : Int32)), .val (.int (3 : Int32)), .val (.int (2 : Int32)), .val (.int (3 : Int32)), .unset, .unset, .unset, .unset, .unset, .unset, .unset, .unset, .unset, .unset, .unset, .unset, .unset, .unset] [])) (fun t k => st4 t k) ?_
  exact own_retV X4 hx Bd.returns Bd.notSynchronized (hb hby d8_60) ⟨rfl, N4, K5⟩ (by decide) (by decide)
theorem d7_0 : decode jdk_2529_method_3_code 0 = .ok (.iload_n 3, 1) := by decide +kernel
theorem d7_1 : decode jdk_2529_method_3_code 1 = .ok (.iload_n 2, 1) := by decide +kernel
theorem d7_2 : decode jdk_2529_method_3_code 2 = .ok (.isub, 1) := by decide +kernel
theorem d7_3 : decode jdk_2529_method_3_code 3 = .ok (.istore 4, 2) := by decide +kernel
theorem d7_5 : decode jdk_2529_method_3_code 5 = .ok (.iload_n 1, 1) := by decide +kernel
theorem d7_6 : decode jdk_2529_method_3_code 6 = .ok (.iconst 1, 1) := by decide +kernel
theorem d7_7 : decode jdk_2529_method_3_code 7 = .ok (.if_icmp .le 61, 3) := by decide +kernel
theorem d7_68 : decode jdk_2529_method_3_code 68 = .ok (.aconst_null, 1) := by decide +kernel
theorem d7_69 : decode jdk_2529_method_3_code 69 = .ok (.aload_n 0, 1) := by decide +kernel
theorem d7_70 : decode jdk_2529_method_3_code 70 = .ok (.iconst 0, 1) := by decide +kernel
theorem d7_71 : decode jdk_2529_method_3_code 71 = .ok (.iload_n 2, 1) := by decide +kernel
theorem d7_72 : decode jdk_2529_method_3_code 72 = .ok (.iload_n 3, 1) := by decide +kernel
theorem d7_73 : decode jdk_2529_method_3_code 73 = .ok (.invokestatic 26, 3) := by decide +kernel
theorem d7_76 : decode jdk_2529_method_3_code 76 = .ok (.return_, 1) := by decide +kernel
theorem pn_7 : plainName "java/util/DualPivotQuicksort" = true := by first | (simp [plainName, overriddenIn]; done) | decide +kernel
theorem pd_7_1 : parseMethodDescriptor "(Ljava/util/DualPivotQuicksort$Sorter;[IIII)V" = some ⟨[(.object "java/util/DualPivotQuicksort$Sorter"), (.array .int), .int, .int, .int], none⟩ := by decide +kernel
theorem ef_7 (m : MethodId) (x0 : Addr) (x1 : Int32) (x2 : Int32) (x3 : Int32) : entryFrame m #[(.ref x0), (.int x1), (.int x2), (.int x3)] 7 = mkF m 0 #[.val (.ref x0), .val (.int x1), .val (.int x2), .val (.int x3), .unset, .unset, .unset] [] := by first | (simp [entryFrame, mkF, argsToLocals, Value.category]; done) | rfl
def Q7 (Z : State) (o0 : Addr) (k_o0 : ClassId) (h0 : Heap) (n0 : Nat) (v : Option Value) (h : Heap) (L : List Loc) : Prop := v = none ∧ Fr n0 L ∧ Keep h0 h []
set_option maxRecDepth 65536 in
set_option maxHeartbeats 40000000 in
theorem rm7 (l : Launch) (Z : State) (a0 : Array Value) (hw : ∀ d ∈ tables_1, d.before a0 Z = true) (ws : List Jvm.Cond) (o0 : Addr) (k_o0 : ClassId) (h0 : Heap) (n0 : Nat) (Z0 : n0 ≤ h0.size) (G0 : own_Ar Z h0 o0 k_o0 .int (3 : Int32) Value.int (0 : Int32) [(0 : Int32), (1 : Int32), (2 : Int32)]) :
    MetFree l (⟨"java/util/DualPivotQuicksort", "sort", "([IIII)V"⟩ : MethodName) (head1 (Jvm.Cond.code (⟨"java/util/DualPivotQuicksort", "sort", "([IIII)V"⟩ : MethodName) jdk_2529_method_3_code 7 none :: ws) ({ frames := 2, cells := 0, slots := 0, locals := 49 } : Room)) (fun a U => a = #[(.ref o0), (.int (0 : Int32)), (.int (0 : Int32)), (.int (3 : Int32))] ∧ Z.Warmed39 U.vm ∧ U.heap = h0) (fun _ _ _ _ _ => True) (fun _ U o U' => ∃ v L, o = .returned v ∧ Q7 Z o0 k_o0 h0 n0 v U'.heap L ∧ FrameEnd U o U' L ({ frames := 2, cells := 0, slots := 0, locals := 49 } : Room).cells ({ frames := 2, cells := 0, slots := 0, locals := 49 } : Room).slots) := by
  refine MetFree.of_bodySF (plainFor_of_name pn_7) hisR ?_
  intro p e s m args below meth c s₁ Bd hml0 hP hK
  obtain ⟨rfl, hZ, hh⟩ := hP
  have hx := Bd.exec
  have hby := Bd.bytes
  have hml : c.maxLocals = 7 := hml0
  have hown : s.vm.findClass "java/util/DualPivotQuicksort" = some m.cls := findClass_of_methodNamed Bd.named
  have hnm := (name_of_methodNamed Bd.named Bd.method).1
  have X0 : Stand p l e ({ frames := 2, cells := 0, slots := 0, locals := 49 } : Room) s m #[(.ref o0), (.int (0 : Int32)), (.int (0 : Int32)), (.int (3 : Int32))] below meth c s₁ [] 0 0 := Stand.of_body Bd
  have e0 : s₁.heap = h0 := by rw [← hh, Bd.state]; rfl
  have N0 := Fr.nil n0
  refine own_in (ef_7 m o0 (0 : Int32) (0 : Int32) (3 : Int32)) ?_
  have K0 := Keep.refl h0 []
  refine own_st (g' := (mkF m 1 #[.val (.ref o0), .val (.int (0 : Int32)), .val (.int (0 : Int32)), .val (.int (3 : Int32)), .unset, .unset, .unset] [(.int (3 : Int32))])) (fun t k => XS.iloadN X0.here hx rfl (hb hby d7_0) rfl  k) ?_
  refine own_st (g' := (mkF m 2 #[.val (.ref o0), .val (.int (0 : Int32)), .val (.int (0 : Int32)), .val (.int (3 : Int32)), .unset, .unset, .unset] [(.int (0 : Int32)), (.int (3 : Int32))])) (fun t k => XS.iloadN X0.here hx rfl (hb hby d7_1) rfl  k) ?_
  refine own_st (g' := (mkF m 3 #[.val (.ref o0), .val (.int (0 : Int32)), .val (.int (0 : Int32)), .val (.int (3 : Int32)), .unset, .unset, .unset] [(.int (3 : Int32))])) (fun t k => XS.isub X0.here hx rfl (hb hby d7_2) rfl k) ?_
  refine own_st (g' := (mkF m 5 #[.val (.ref o0), .val (.int (0 : Int32)), .val (.int (0 : Int32)), .val (.int (3 : Int32)), .val (.int (3 : Int32)), .unset, .unset] [])) (fun t k => XS.istore X0.here hx rfl (hb hby d7_3) rfl (l' := #[.val (.ref o0), .val (.int (0 : Int32)), .val (.int (0 : Int32)), .val (.int (3 : Int32)), .val (.int (3 : Int32)), .unset, .unset]) rfl k) ?_
  refine own_st (g' := (mkF m 6 #[.val (.ref o0), .val (.int (0 : Int32)), .val (.int (0 : Int32)), .val (.int (3 : Int32)), .val (.int (3 : Int32)), .unset, .unset] [(.int (0 : Int32))])) (fun t k => XS.iloadN X0.here hx rfl (hb hby d7_5) rfl  k) ?_
  refine own_st (g' := (mkF m 7 #[.val (.ref o0), .val (.int (0 : Int32)), .val (.int (0 : Int32)), .val (.int (3 : Int32)), .val (.int (3 : Int32)), .unset, .unset] [(.int (1 : Int32)), (.int (0 : Int32))])) (fun t k => XS.iconst X0.here hx rfl (hb hby d7_6) k) ?_
  have hc7_1 : ¬ ((1 : Int32) < (0 : Int32)) := by decide
  refine own_st (g' := (mkF m 68 #[.val (.ref o0), .val (.int (0 : Int32)), .val (.int (0 : Int32)), .val (.int (3 : Int32)), .val (.int (3 : Int32)), .unset, .unset] [])) (fun t k => XS.icmpYes X0.here hx rfl (pc0 := 7) (pc' := 68) rfl (hb hby d7_7) rfl (flt hc7_1).2.2.2 (by decide) (by decide) k) ?_
  refine own_st (g' := (mkF m 69 #[.val (.ref o0), .val (.int (0 : Int32)), .val (.int (0 : Int32)), .val (.int (3 : Int32)), .val (.int (3 : Int32)), .unset, .unset] [.null])) (fun t k => XS.aconstNull X0.here hx rfl (hb hby d7_68) k) ?_
  refine own_st (g' := (mkF m 70 #[.val (.ref o0), .val (.int (0 : Int32)), .val (.int (0 : Int32)), .val (.int (3 : Int32)), .val (.int (3 : Int32)), .unset, .unset] [(.ref o0), .null])) (fun t k => XS.aloadN X0.here hx rfl (hb hby d7_69) rfl rfl k) ?_
  refine own_st (g' := (mkF m 71 #[.val (.ref o0), .val (.int (0 : Int32)), .val (.int (0 : Int32)), .val (.int (3 : Int32)), .val (.int (3 : Int32)), .unset, .unset] [(.int (0 : Int32)), (.ref o0), .null])) (fun t k => XS.iconst X0.here hx rfl (hb hby d7_70) k) ?_
  refine own_st (g' := (mkF m 72 #[.val (.ref o0), .val (.int (0 : Int32)), .val (.int (0 : Int32)), .val (.int (3 : Int32)), .val (.int (3 : Int32)), .unset, .unset] [(.int (0 : Int32)), (.int (0 : Int32)), (.ref o0), .null])) (fun t k => XS.iloadN X0.here hx rfl (hb hby d7_71) rfl  k) ?_
  refine own_st (g' := (mkF m 73 #[.val (.ref o0), .val (.int (0 : Int32)), .val (.int (0 : Int32)), .val (.int (3 : Int32)), .val (.int (3 : Int32)), .unset, .unset] [(.int (3 : Int32)), (.int (0 : Int32)), (.int (0 : Int32)), (.ref o0), .null])) (fun t k => XS.iloadN X0.here hx rfl (hb hby d7_72) rfl  k) ?_
  obtain ⟨_, _, ⟨T2, L2, k2, n2⟩, -, X2, ⟨Lc2, hQ2, l2, y2, z2⟩, st2⟩ := Jvm.LawKit.callS X0 hx (y := (⟨"java/util/DualPivotQuicksort", "sort", "(Ljava/util/DualPivotQuicksort$Sorter;[IIII)V"⟩ : MethodName)) hown (mvT hZ (hw _ (List.mem_of_getElem? (i := 47) rfl))) (mvT hZ (hw _ (List.mem_of_getElem? (i := 48) rfl))) (mvT hZ (hw _ (List.mem_of_getElem? (i := 45) rfl))) (mvT hZ (hw _ (List.mem_of_getElem? (i := 49) rfl))) (by decide) (backOf (W := 0) (rm8 l Z a0 hw [] o0 k_o0 h0 n0 Z0 G0   ) hZ (hw _ (List.mem_of_getElem? (i := 49) rfl)) (hw _ (List.mem_of_getElem? (i := 45) rfl)) (by decide) (by decide)) (g := (mkF m 73 #[.val (.ref o0), .val (.int (0 : Int32)), .val (.int (0 : Int32)), .val (.int (3 : Int32)), .val (.int (3 : Int32)), .unset, .unset] [(.int (3 : Int32)), (.int (0 : Int32)), (.int (0 : Int32)), (.ref o0), .null])) rfl (by rw [hml]; rfl) (argsL := [.null, (.ref o0), (.int (0 : Int32)), (.int (0 : Int32)), (.int (3 : Int32))]) (rest := []) (lenOf pd_7_1 rfl) rfl (by show 2 * 0 + _ ≤ _; exact Nat.le_of_eq rfl) (hb hby d7_73) (fun _ _ => ⟨rfl, e0, (by decide : 0 + 0 ≤ _), (by decide : 0 + 0 ≤ _)⟩)
  dsimp only [Pt.U, Pt.locs, Pt.cells, Pt.slots] at X2 l2 y2 z2 st2 hQ2
  subst y2 z2
  obtain ⟨rfl, N2q, K2⟩ := hQ2
  have N2 : Fr n0 L2 := by rw [l2]; exact Fr.app N0 N2q
  have K3 : Keep h0 T2.heap [] := K0.trans K2 all0
  refine own_st (g' := (mkF m 76 #[.val (.ref o0), .val (.int (0 : Int32)), .val (.int (0 : Int32)), .val (.int (3 : Int32)), .val (.int (3 : Int32)), .unset, .unset] [])) (fun t k => st2 t k) ?_
  exact own_retV X2 hx Bd.returns Bd.notSynchronized (hb hby d7_76) ⟨rfl, N2, K3⟩ (by decide) (by decide)
theorem d6_0 : decode jdk_65_method_2_code 0 = .ok (.aload_n 0, 1) := by decide +kernel
theorem d6_1 : decode jdk_65_method_2_code 1 = .ok (.iconst 0, 1) := by decide +kernel
theorem d6_2 : decode jdk_65_method_2_code 2 = .ok (.iconst 0, 1) := by decide +kernel
theorem d6_3 : decode jdk_65_method_2_code 3 = .ok (.aload_n 0, 1) := by decide +kernel
theorem d6_4 : decode jdk_65_method_2_code 4 = .ok (.arraylength, 1) := by decide +kernel
theorem d6_5 : decode jdk_65_method_2_code 5 = .ok (.invokestatic 7, 3) := by decide +kernel
theorem d6_8 : decode jdk_65_method_2_code 8 = .ok (.return_, 1) := by decide +kernel
theorem pn_6 : plainName "java/util/Arrays" = true := by first | (simp [plainName, overriddenIn]; done) | decide +kernel
theorem pd_6_2 : parseMethodDescriptor "([IIII)V" = some ⟨[(.array .int), .int, .int, .int], none⟩ := by decide +kernel
theorem ef_6 (m : MethodId) (x0 : Addr) : entryFrame m #[(.ref x0)] 1 = mkF m 0 #[.val (.ref x0)] [] := by first | (simp [entryFrame, mkF, argsToLocals, Value.category]; done) | rfl
def Q6 (Z : State) (o0 : Addr) (k_o0 : ClassId) (h0 : Heap) (n0 : Nat) (v : Option Value) (h : Heap) (L : List Loc) : Prop := v = none ∧ Fr n0 L ∧ Keep h0 h []
set_option maxRecDepth 65536 in
set_option maxHeartbeats 40000000 in
theorem rm6 (l : Launch) (Z : State) (a0 : Array Value) (hw : ∀ d ∈ tables_1, d.before a0 Z = true) (ws : List Jvm.Cond) (o0 : Addr) (k_o0 : ClassId) (h0 : Heap) (n0 : Nat) (Z0 : n0 ≤ h0.size) (G0 : own_Ar Z h0 o0 k_o0 .int (3 : Int32) Value.int (0 : Int32) [(0 : Int32), (1 : Int32), (2 : Int32)]) :
    MetFree l (⟨"java/util/Arrays", "sort", "([I)V"⟩ : MethodName) (head1 (Jvm.Cond.code (⟨"java/util/Arrays", "sort", "([I)V"⟩ : MethodName) jdk_65_method_2_code 1 none :: ws) ({ frames := 3, cells := 0, slots := 0, locals := 67 } : Room)) (fun a U => a = #[(.ref o0)] ∧ Z.Warmed39 U.vm ∧ U.heap = h0) (fun _ _ _ _ _ => True) (fun _ U o U' => ∃ v L, o = .returned v ∧ Q6 Z o0 k_o0 h0 n0 v U'.heap L ∧ FrameEnd U o U' L ({ frames := 3, cells := 0, slots := 0, locals := 67 } : Room).cells ({ frames := 3, cells := 0, slots := 0, locals := 67 } : Room).slots) := by
  refine MetFree.of_bodySF (plainFor_of_name pn_6) hisR ?_
  intro p e s m args below meth c s₁ Bd hml0 hP hK
  obtain ⟨rfl, hZ, hh⟩ := hP
  have hx := Bd.exec
  have hby := Bd.bytes
  have hml : c.maxLocals = 1 := hml0
  have hown : s.vm.findClass "java/util/Arrays" = some m.cls := findClass_of_methodNamed Bd.named
  have hnm := (name_of_methodNamed Bd.named Bd.method).1
  have X0 : Stand p l e ({ frames := 3, cells := 0, slots := 0, locals := 67 } : Room) s m #[(.ref o0)] below meth c s₁ [] 0 0 := Stand.of_body Bd
  have e0 : s₁.heap = h0 := by rw [← hh, Bd.state]; rfl
  have N0 := Fr.nil n0
  refine own_in (ef_6 m o0) ?_
  have K0 := Keep.refl h0 []
  refine own_st (g' := (mkF m 1 #[.val (.ref o0)] [(.ref o0)])) (fun t k => XS.aloadN X0.here hx rfl (hb hby d6_0) rfl rfl k) ?_
  refine own_st (g' := (mkF m 2 #[.val (.ref o0)] [(.int (0 : Int32)), (.ref o0)])) (fun t k => XS.iconst X0.here hx rfl (hb hby d6_1) k) ?_
  refine own_st (g' := (mkF m 3 #[.val (.ref o0)] [(.int (0 : Int32)), (.int (0 : Int32)), (.ref o0)])) (fun t k => XS.iconst X0.here hx rfl (hb hby d6_2) k) ?_
  refine own_st (g' := (mkF m 4 #[.val (.ref o0)] [(.ref o0), (.int (0 : Int32)), (.int (0 : Int32)), (.ref o0)])) (fun t k => XS.aloadN X0.here hx rfl (hb hby d6_3) rfl rfl k) ?_
  refine own_st (g' := (mkF m 5 #[.val (.ref o0)] [(.int (3 : Int32)), (.int (0 : Int32)), (.int (0 : Int32)), (.ref o0)])) (fun t k => own_alen X0 hx hZ e0 G0 (g := (mkF m 4 #[.val (.ref o0)] [(.ref o0), (.int (0 : Int32)), (.int (0 : Int32)), (.ref o0)])) rfl rfl (hb hby d6_4) t k) ?_
  obtain ⟨_, _, ⟨T1, L1, k1, n1⟩, -, X1, ⟨Lc1, hQ1, l1, y1, z1⟩, st1⟩ := Jvm.LawKit.callS X0 hx (y := (⟨"java/util/DualPivotQuicksort", "sort", "([IIII)V"⟩ : MethodName)) hown (mvT hZ (hw _ (List.mem_of_getElem? (i := 43) rfl))) (mvT hZ (hw _ (List.mem_of_getElem? (i := 44) rfl))) (mvT hZ (hw _ (List.mem_of_getElem? (i := 45) rfl))) (mvT hZ (hw _ (List.mem_of_getElem? (i := 46) rfl))) (by decide) (backOf (W := 0) (rm7 l Z a0 hw [] o0 k_o0 h0 n0 Z0 G0   ) hZ (hw _ (List.mem_of_getElem? (i := 46) rfl)) (hw _ (List.mem_of_getElem? (i := 45) rfl)) (by decide) (by decide)) (g := (mkF m 5 #[.val (.ref o0)] [(.int (3 : Int32)), (.int (0 : Int32)), (.int (0 : Int32)), (.ref o0)])) rfl (by rw [hml]; rfl) (argsL := [(.ref o0), (.int (0 : Int32)), (.int (0 : Int32)), (.int (3 : Int32))]) (rest := []) (lenOf pd_6_2 rfl) rfl (by show 2 * 0 + _ ≤ _; exact Nat.le_of_eq rfl) (hb hby d6_5) (fun _ _ => ⟨rfl, e0, (by decide : 0 + 0 ≤ _), (by decide : 0 + 0 ≤ _)⟩)
  dsimp only [Pt.U, Pt.locs, Pt.cells, Pt.slots] at X1 l1 y1 z1 st1 hQ1
  subst y1 z1
  obtain ⟨rfl, N1q, K1⟩ := hQ1
  have N1 : Fr n0 L1 := by rw [l1]; exact Fr.app N0 N1q
  have K2 : Keep h0 T1.heap [] := K0.trans K1 all0
  refine own_st (g' := (mkF m 8 #[.val (.ref o0)] [])) (fun t k => st1 t k) ?_
  exact own_retV X1 hx Bd.returns Bd.notSynchronized (hb hby d6_8) ⟨rfl, N1, K2⟩ (by decide) (by decide)
theorem d1_0 : decode prog_45_method_1_code 0 = .ok (.aload_n 0, 1) := by decide +kernel
theorem d1_1 : decode prog_45_method_1_code 1 = .ok (.invokespecial 1, 3) := by decide +kernel
theorem d1_4 : decode prog_45_method_1_code 4 = .ok (.iload_n 3, 1) := by decide +kernel
theorem d1_5 : decode prog_45_method_1_code 5 = .ok (.ifCond .lt 7, 3) := by decide +kernel
theorem d1_8 : decode prog_45_method_1_code 8 = .ok (.iload_n 3, 1) := by decide +kernel
theorem d1_9 : decode prog_45_method_1_code 9 = .ok (.goto 4, 3) := by decide +kernel
theorem d1_13 : decode prog_45_method_1_code 13 = .ok (.istore 5, 2) := by decide +kernel
theorem d1_15 : decode prog_45_method_1_code 15 = .ok (.aload_n 0, 1) := by decide +kernel
theorem d1_16 : decode prog_45_method_1_code 16 = .ok (.iload_n 2, 1) := by decide +kernel
theorem d1_17 : decode prog_45_method_1_code 17 = .ok (.iload 5, 2) := by decide +kernel
theorem d1_19 : decode prog_45_method_1_code 19 = .ok (.invokestatic 7, 3) := by decide +kernel
theorem d1_22 : decode prog_45_method_1_code 22 = .ok (.putfield 13, 3) := by decide +kernel
theorem d1_25 : decode prog_45_method_1_code 25 = .ok (.aload_n 0, 1) := by decide +kernel
theorem d1_26 : decode prog_45_method_1_code 26 = .ok (.iload_n 2, 1) := by decide +kernel
theorem d1_27 : decode prog_45_method_1_code 27 = .ok (.iload 5, 2) := by decide +kernel
theorem d1_29 : decode prog_45_method_1_code 29 = .ok (.invokestatic 19, 3) := by decide +kernel
theorem d1_32 : decode prog_45_method_1_code 32 = .ok (.putfield 22, 3) := by decide +kernel
theorem d1_35 : decode prog_45_method_1_code 35 = .ok (.aload_n 0, 1) := by decide +kernel
theorem d1_36 : decode prog_45_method_1_code 36 = .ok (.aload_n 1, 1) := by decide +kernel
theorem d1_37 : decode prog_45_method_1_code 37 = .ok (.aload_n 0, 1) := by decide +kernel
theorem d1_38 : decode prog_45_method_1_code 38 = .ok (.getfield 13, 3) := by decide +kernel
theorem d1_41 : decode prog_45_method_1_code 41 = .ok (.caload, 1) := by decide +kernel
theorem d1_42 : decode prog_45_method_1_code 42 = .ok (.putfield 25, 3) := by decide +kernel
theorem d1_45 : decode prog_45_method_1_code 45 = .ok (.aload_n 0, 1) := by decide +kernel
theorem d1_46 : decode prog_45_method_1_code 46 = .ok (.aload_n 1, 1) := by decide +kernel
theorem d1_47 : decode prog_45_method_1_code 47 = .ok (.aload_n 0, 1) := by decide +kernel
theorem d1_48 : decode prog_45_method_1_code 48 = .ok (.getfield 22, 3) := by decide +kernel
theorem d1_51 : decode prog_45_method_1_code 51 = .ok (.caload, 1) := by decide +kernel
theorem d1_52 : decode prog_45_method_1_code 52 = .ok (.putfield 29, 3) := by decide +kernel
theorem d1_55 : decode prog_45_method_1_code 55 = .ok (.aload_n 0, 1) := by decide +kernel
theorem d1_56 : decode prog_45_method_1_code 56 = .ok (.aload_n 0, 1) := by decide +kernel
theorem d1_57 : decode prog_45_method_1_code 57 = .ok (.getfield 25, 3) := by decide +kernel
theorem d1_60 : decode prog_45_method_1_code 60 = .ok (.invokestatic 32, 3) := by decide +kernel
theorem d1_63 : decode prog_45_method_1_code 63 = .ok (.putfield 36, 3) := by decide +kernel
theorem d1_66 : decode prog_45_method_1_code 66 = .ok (.aload_n 0, 1) := by decide +kernel
theorem d1_67 : decode prog_45_method_1_code 67 = .ok (.aload_n 0, 1) := by decide +kernel
theorem d1_68 : decode prog_45_method_1_code 68 = .ok (.getfield 29, 3) := by decide +kernel
theorem d1_71 : decode prog_45_method_1_code 71 = .ok (.invokestatic 32, 3) := by decide +kernel
theorem d1_74 : decode prog_45_method_1_code 74 = .ok (.putfield 40, 3) := by decide +kernel
theorem d1_77 : decode prog_45_method_1_code 77 = .ok (.aload_n 0, 1) := by decide +kernel
theorem d1_78 : decode prog_45_method_1_code 78 = .ok (.iconst 2, 1) := by decide +kernel
theorem d1_79 : decode prog_45_method_1_code 79 = .ok (.newarray .int, 2) := by decide +kernel
theorem d1_81 : decode prog_45_method_1_code 81 = .ok (.dup, 1) := by decide +kernel
theorem d1_82 : decode prog_45_method_1_code 82 = .ok (.iconst 0, 1) := by decide +kernel
theorem d1_83 : decode prog_45_method_1_code 83 = .ok (.aload_n 0, 1) := by decide +kernel
theorem d1_84 : decode prog_45_method_1_code 84 = .ok (.getfield 13, 3) := by decide +kernel
theorem d1_87 : decode prog_45_method_1_code 87 = .ok (.iastore, 1) := by decide +kernel
theorem d1_88 : decode prog_45_method_1_code 88 = .ok (.dup, 1) := by decide +kernel
theorem d1_89 : decode prog_45_method_1_code 89 = .ok (.iconst 1, 1) := by decide +kernel
theorem d1_90 : decode prog_45_method_1_code 90 = .ok (.aload_n 0, 1) := by decide +kernel
theorem d1_91 : decode prog_45_method_1_code 91 = .ok (.getfield 22, 3) := by decide +kernel
theorem d1_94 : decode prog_45_method_1_code 94 = .ok (.iastore, 1) := by decide +kernel
theorem d1_95 : decode prog_45_method_1_code 95 = .ok (.putfield 43, 3) := by decide +kernel
theorem d1_98 : decode prog_45_method_1_code 98 = .ok (.aload_n 0, 1) := by decide +kernel
theorem d1_99 : decode prog_45_method_1_code 99 = .ok (.iconst 2, 1) := by decide +kernel
theorem d1_100 : decode prog_45_method_1_code 100 = .ok (.newarray .long, 2) := by decide +kernel
theorem d1_102 : decode prog_45_method_1_code 102 = .ok (.dup, 1) := by decide +kernel
theorem d1_103 : decode prog_45_method_1_code 103 = .ok (.iconst 0, 1) := by decide +kernel
theorem d1_104 : decode prog_45_method_1_code 104 = .ok (.aload_n 0, 1) := by decide +kernel
theorem d1_105 : decode prog_45_method_1_code 105 = .ok (.getfield 36, 3) := by decide +kernel
theorem d1_108 : decode prog_45_method_1_code 108 = .ok (.lastore, 1) := by decide +kernel
theorem d1_109 : decode prog_45_method_1_code 109 = .ok (.dup, 1) := by decide +kernel
theorem d1_110 : decode prog_45_method_1_code 110 = .ok (.iconst 1, 1) := by decide +kernel
theorem d1_111 : decode prog_45_method_1_code 111 = .ok (.aload_n 0, 1) := by decide +kernel
theorem d1_112 : decode prog_45_method_1_code 112 = .ok (.getfield 40, 3) := by decide +kernel
theorem d1_115 : decode prog_45_method_1_code 115 = .ok (.lastore, 1) := by decide +kernel
theorem d1_116 : decode prog_45_method_1_code 116 = .ok (.putfield 47, 3) := by decide +kernel
theorem d1_119 : decode prog_45_method_1_code 119 = .ok (.iload 4, 2) := by decide +kernel
theorem d1_121 : decode prog_45_method_1_code 121 = .ok (.ifCond .lt 78, 3) := by decide +kernel
theorem d1_124 : decode prog_45_method_1_code 124 = .ok (.iconst 3, 1) := by decide +kernel
theorem d1_125 : decode prog_45_method_1_code 125 = .ok (.newarray .int, 2) := by decide +kernel
theorem d1_127 : decode prog_45_method_1_code 127 = .ok (.dup, 1) := by decide +kernel
theorem d1_128 : decode prog_45_method_1_code 128 = .ok (.iconst 0, 1) := by decide +kernel
theorem d1_129 : decode prog_45_method_1_code 129 = .ok (.iload_n 2, 1) := by decide +kernel
theorem d1_130 : decode prog_45_method_1_code 130 = .ok (.iastore, 1) := by decide +kernel
theorem d1_131 : decode prog_45_method_1_code 131 = .ok (.dup, 1) := by decide +kernel
theorem d1_132 : decode prog_45_method_1_code 132 = .ok (.iconst 1, 1) := by decide +kernel
theorem d1_133 : decode prog_45_method_1_code 133 = .ok (.iload_n 3, 1) := by decide +kernel
theorem d1_134 : decode prog_45_method_1_code 134 = .ok (.iastore, 1) := by decide +kernel
theorem d1_135 : decode prog_45_method_1_code 135 = .ok (.dup, 1) := by decide +kernel
theorem d1_136 : decode prog_45_method_1_code 136 = .ok (.iconst 2, 1) := by decide +kernel
theorem d1_137 : decode prog_45_method_1_code 137 = .ok (.iload 4, 2) := by decide +kernel
theorem d1_139 : decode prog_45_method_1_code 139 = .ok (.iastore, 1) := by decide +kernel
theorem d1_140 : decode prog_45_method_1_code 140 = .ok (.astore 6, 2) := by decide +kernel
theorem d1_142 : decode prog_45_method_1_code 142 = .ok (.aload 6, 2) := by decide +kernel
theorem d1_144 : decode prog_45_method_1_code 144 = .ok (.invokestatic 51, 3) := by decide +kernel
theorem d1_147 : decode prog_45_method_1_code 147 = .ok (.aload_n 0, 1) := by decide +kernel
theorem d1_148 : decode prog_45_method_1_code 148 = .ok (.aload 6, 2) := by decide +kernel
theorem d1_150 : decode prog_45_method_1_code 150 = .ok (.putfield 57, 3) := by decide +kernel
theorem d1_153 : decode prog_45_method_1_code 153 = .ok (.aload_n 0, 1) := by decide +kernel
theorem d1_154 : decode prog_45_method_1_code 154 = .ok (.aload 6, 2) := by decide +kernel
theorem d1_156 : decode prog_45_method_1_code 156 = .ok (.arraylength, 1) := by decide +kernel
theorem d1_157 : decode prog_45_method_1_code 157 = .ok (.newarray .long, 2) := by decide +kernel
theorem d1_159 : decode prog_45_method_1_code 159 = .ok (.putfield 60, 3) := by decide +kernel
theorem d1_162 : decode prog_45_method_1_code 162 = .ok (.iconst 0, 1) := by decide +kernel
theorem d1_163 : decode prog_45_method_1_code 163 = .ok (.istore 7, 2) := by decide +kernel
theorem d1_165 : decode prog_45_method_1_code 165 = .ok (.iload 7, 2) := by decide +kernel
theorem d1_167 : decode prog_45_method_1_code 167 = .ok (.aload 6, 2) := by decide +kernel
theorem d1_169 : decode prog_45_method_1_code 169 = .ok (.arraylength, 1) := by decide +kernel
theorem d1_170 : decode prog_45_method_1_code 170 = .ok (.if_icmp .ge 26, 3) := by decide +kernel
theorem d1_173 : decode prog_45_method_1_code 173 = .ok (.aload_n 0, 1) := by decide +kernel
theorem d1_174 : decode prog_45_method_1_code 174 = .ok (.getfield 60, 3) := by decide +kernel
theorem d1_177 : decode prog_45_method_1_code 177 = .ok (.iload 7, 2) := by decide +kernel
theorem d1_179 : decode prog_45_method_1_code 179 = .ok (.aload_n 1, 1) := by decide +kernel
theorem d1_180 : decode prog_45_method_1_code 180 = .ok (.aload 6, 2) := by decide +kernel
theorem d1_182 : decode prog_45_method_1_code 182 = .ok (.iload 7, 2) := by decide +kernel
theorem d1_184 : decode prog_45_method_1_code 184 = .ok (.iaload, 1) := by decide +kernel
theorem d1_185 : decode prog_45_method_1_code 185 = .ok (.caload, 1) := by decide +kernel
theorem d1_186 : decode prog_45_method_1_code 186 = .ok (.invokestatic 32, 3) := by decide +kernel
theorem d1_189 : decode prog_45_method_1_code 189 = .ok (.lastore, 1) := by decide +kernel
theorem d1_190 : decode prog_45_method_1_code 190 = .ok (.iinc 7 1, 3) := by decide +kernel
theorem d1_193 : decode prog_45_method_1_code 193 = .ok (.goto (-28), 3) := by decide +kernel
theorem d1_196 : decode prog_45_method_1_code 196 = .ok (.goto 13, 3) := by decide +kernel
theorem d1_209 : decode prog_45_method_1_code 209 = .ok (.return_, 1) := by decide +kernel
theorem pn_1 : plainName "com/example/mudskipper/mudskipper/UnitPair" = true := by first | (simp [plainName, overriddenIn]; done) | decide +kernel
theorem pd_1_3 : parseMethodDescriptor "(II)I" = some ⟨[.int, .int], some .int⟩ := by decide +kernel
theorem pd_1_4 : parseMethodDescriptor "(C)J" = some ⟨[.char], some .long⟩ := by decide +kernel
theorem pd_1_5 : parseMethodDescriptor "([I)V" = some ⟨[(.array .int)], none⟩ := by decide +kernel
theorem ef_1 (m : MethodId) (x0 : Addr) (x1 : Addr) (x2 : Int32) (x3 : Int32) (x4 : Int32) : entryFrame m #[(.ref x0), (.ref x1), (.int x2), (.int x3), (.int x4)] 8 = mkF m 0 #[.val (.ref x0), .val (.ref x1), .val (.int x2), .val (.int x3), .val (.int x4), .unset, .unset, .unset] [] := by first | (simp [entryFrame, mkF, argsToLocals, Value.category]; done) | rfl
def Q1 (Z : State) (o0 : Addr) (o1 : Addr) (k_o1 : ClassId) (x0 : Int32) (x1 : Int32) (x2 : Int32) (h0 : Heap) (n0 : Nat) (v : Option Value) (h : Heap) (L : List Loc) : Prop := ∃ (three : Addr) (k_three : ClassId), v = none ∧ Fr n0 L ∧ Keep h0 h [o0] ∧ n0 ≤ three ∧ h0.size ≤ three ∧ Exa Z h o0 "com/example/mudskipper/mudskipper/UnitPair" ∧ Fld Z h o0 "com/example/mudskipper/mudskipper/UnitPair" "nearBytes" "J" (.long (own_F5 (nar .char x0))) ∧ Fld Z h o0 "com/example/mudskipper/mudskipper/UnitPair" "farBytes" "J" (.long (own_F5 (nar .char x1))) ∧ Fld Z h o0 "com/example/mudskipper/mudskipper/UnitPair" "threeLowBytes" "[J" (.ref three) ∧ own_Ar Z h three k_three .long (3 : Int32) Value.long (0 : Int64) [(own_F5 x0), (own_F5 x1), (own_F5 x2)]
set_option maxRecDepth 65536 in
set_option maxHeartbeats 40000000 in
theorem rm1 (l : Launch) (Z : State) (a0 : Array Value) (hw : ∀ d ∈ tables_1, d.before a0 Z = true) (ws : List Jvm.Cond) (o0 : Addr) (o1 : Addr) (k_o1 : ClassId) (x0 : Int32) (x1 : Int32) (x2 : Int32) (h0 : Heap) (n0 : Nat) (Z0 : n0 ≤ h0.size) (G0 : Exa Z h0 o0 "com/example/mudskipper/mudskipper/UnitPair") (G1 : Fld Z h0 o0 "com/example/mudskipper/mudskipper/UnitPair" "nearOffset" "I" (.int (0 : Int32))) (G2 : Fld Z h0 o0 "com/example/mudskipper/mudskipper/UnitPair" "farOffset" "I" (.int (0 : Int32))) (G3 : Fld Z h0 o0 "com/example/mudskipper/mudskipper/UnitPair" "nearUnit" "C" (.int (0 : Int32))) (G4 : Fld Z h0 o0 "com/example/mudskipper/mudskipper/UnitPair" "farUnit" "C" (.int (0 : Int32))) (G5 : Fld Z h0 o0 "com/example/mudskipper/mudskipper/UnitPair" "nearBytes" "J" (.long (0 : Int64))) (G6 : Fld Z h0 o0 "com/example/mudskipper/mudskipper/UnitPair" "farBytes" "J" (.long (0 : Int64))) (G7 : Fld Z h0 o0 "com/example/mudskipper/mudskipper/UnitPair" "twoOffsets" "[I" .null) (G8 : Fld Z h0 o0 "com/example/mudskipper/mudskipper/UnitPair" "twoLowBytes" "[J" .null) (G9 : Fld Z h0 o0 "com/example/mudskipper/mudskipper/UnitPair" "threeOffsets" "[I" .null) (G10 : Fld Z h0 o0 "com/example/mudskipper/mudskipper/UnitPair" "threeLowBytes" "[J" .null) (G11 : own_Ar Z h0 o1 k_o1 .char (3 : Int32) Value.int (0 : Int32) [x0, x1, x2]) (g_o0 : n0 ≤ o0) (ne_o1_o0 : o1 ≠ o0) :
    MetFree l (⟨"com/example/mudskipper/mudskipper/UnitPair", "<init>", "([CIII)V"⟩ : MethodName) (head1 (Jvm.Cond.code (⟨"com/example/mudskipper/mudskipper/UnitPair", "<init>", "([CIII)V"⟩ : MethodName) prog_45_method_1_code 8 none :: ws) ({ frames := 4, cells := 4, slots := 10, locals := 79 } : Room)) (fun a U => a = #[(.ref o0), (.ref o1), (.int (0 : Int32)), (.int (1 : Int32)), (.int (2 : Int32))] ∧ Z.Warmed39 U.vm ∧ U.heap = h0) (fun _ _ _ _ _ => True) (fun _ U o U' => ∃ v L, o = .returned v ∧ Q1 Z o0 o1 k_o1 x0 x1 x2 h0 n0 v U'.heap L ∧ FrameEnd U o U' L ({ frames := 4, cells := 4, slots := 10, locals := 79 } : Room).cells ({ frames := 4, cells := 4, slots := 10, locals := 79 } : Room).slots) := by
  refine MetFree.of_bodySF (plainFor_of_name pn_1) hisR ?_
  intro p e s m args below meth c s₁ Bd hml0 hP hK
  obtain ⟨rfl, hZ, hh⟩ := hP
  have hx := Bd.exec
  have hby := Bd.bytes
  have hml : c.maxLocals = 8 := hml0
  have hown : s.vm.findClass "com/example/mudskipper/mudskipper/UnitPair" = some m.cls := findClass_of_methodNamed Bd.named
  have hnm := (name_of_methodNamed Bd.named Bd.method).1
  have X0 : Stand p l e ({ frames := 4, cells := 4, slots := 10, locals := 79 } : Room) s m #[(.ref o0), (.ref o1), (.int (0 : Int32)), (.int (1 : Int32)), (.int (2 : Int32))] below meth c s₁ [] 0 0 := Stand.of_body Bd
  have e0 : s₁.heap = h0 := by rw [← hh, Bd.state]; rfl
  have N0 := Fr.nil n0
  refine own_in (ef_1 m o0 o1 (0 : Int32) (1 : Int32) (2 : Int32)) ?_
  have K0 := Keep.refl h0 [o0]
  refine own_st (g' := (mkF m 1 #[.val (.ref o0), .val (.ref o1), .val (.int (0 : Int32)), .val (.int (1 : Int32)), .val (.int (2 : Int32)), .unset, .unset, .unset] [(.ref o0)])) (fun t k => XS.aloadN X0.here hx rfl (hb hby d1_0) rfl rfl k) ?_
  obtain ⟨T1, X1, e1, st1⟩ := initO X0 hx hZ hown (hw _ (List.mem_of_getElem? (i := 7) rfl)) (hw _ (List.mem_of_getElem? (i := 8) rfl)) (hw _ (List.mem_of_getElem? (i := 9) rfl)) e0 (g := (mkF m 1 #[.val (.ref o0), .val (.ref o1), .val (.int (0 : Int32)), .val (.int (1 : Int32)), .val (.int (2 : Int32)), .unset, .unset, .unset] [(.ref o0)])) rfl (by rw [hml]; rfl) rfl (hb hby d1_1) (by decide) (W := 0) (by show 2 * 0 + _ ≤ _; exact Nat.le_of_eq rfl) (by decide)
  refine own_st (g' := (mkF m 4 #[.val (.ref o0), .val (.ref o1), .val (.int (0 : Int32)), .val (.int (1 : Int32)), .val (.int (2 : Int32)), .unset, .unset, .unset] [])) (fun t k => st1 t k) ?_
  refine own_st (g' := (mkF m 5 #[.val (.ref o0), .val (.ref o1), .val (.int (0 : Int32)), .val (.int (1 : Int32)), .val (.int (2 : Int32)), .unset, .unset, .unset] [(.int (1 : Int32))])) (fun t k => XS.iloadN X1.here hx rfl (hb hby d1_4) rfl  k) ?_
  have hc5_2 : ¬ ((1 : Int32) < (0 : Int32)) := by decide
  refine own_st (g' := (mkF m 8 #[.val (.ref o0), .val (.ref o1), .val (.int (0 : Int32)), .val (.int (1 : Int32)), .val (.int (2 : Int32)), .unset, .unset, .unset] [])) (fun t k => XS.ifNo X1.here hx rfl (hb hby d1_5) rfl ((if0 _ _).trans (flt hc5_2).1) k) ?_
  refine own_st (g' := (mkF m 9 #[.val (.ref o0), .val (.ref o1), .val (.int (0 : Int32)), .val (.int (1 : Int32)), .val (.int (2 : Int32)), .unset, .unset, .unset] [(.int (1 : Int32))])) (fun t k => XS.iloadN X1.here hx rfl (hb hby d1_8) rfl  k) ?_
  refine own_st (g' := (mkF m 13 #[.val (.ref o0), .val (.ref o1), .val (.int (0 : Int32)), .val (.int (1 : Int32)), .val (.int (2 : Int32)), .unset, .unset, .unset] [(.int (1 : Int32))])) (fun t k => XS.goto X1.here hx rfl (pc0 := 9) (pc' := 13) rfl (hb hby d1_9) (by decide) (by decide) k) ?_
  refine own_st (g' := (mkF m 15 #[.val (.ref o0), .val (.ref o1), .val (.int (0 : Int32)), .val (.int (1 : Int32)), .val (.int (2 : Int32)), .val (.int (1 : Int32)), .unset, .unset] [])) (fun t k => XS.istore X1.here hx rfl (hb hby d1_13) rfl (l' := #[.val (.ref o0), .val (.ref o1), .val (.int (0 : Int32)), .val (.int (1 : Int32)), .val (.int (2 : Int32)), .val (.int (1 : Int32)), .unset, .unset]) rfl k) ?_
  refine own_st (g' := (mkF m 16 #[.val (.ref o0), .val (.ref o1), .val (.int (0 : Int32)), .val (.int (1 : Int32)), .val (.int (2 : Int32)), .val (.int (1 : Int32)), .unset, .unset] [(.ref o0)])) (fun t k => XS.aloadN X1.here hx rfl (hb hby d1_15) rfl rfl k) ?_
  refine own_st (g' := (mkF m 17 #[.val (.ref o0), .val (.ref o1), .val (.int (0 : Int32)), .val (.int (1 : Int32)), .val (.int (2 : Int32)), .val (.int (1 : Int32)), .unset, .unset] [(.int (0 : Int32)), (.ref o0)])) (fun t k => XS.iloadN X1.here hx rfl (hb hby d1_16) rfl  k) ?_
  refine own_st (g' := (mkF m 19 #[.val (.ref o0), .val (.ref o1), .val (.int (0 : Int32)), .val (.int (1 : Int32)), .val (.int (2 : Int32)), .val (.int (1 : Int32)), .unset, .unset] [(.int (1 : Int32)), (.int (0 : Int32)), (.ref o0)])) (fun t k => XS.iload X1.here hx rfl (hb hby d1_17) rfl  k) ?_
  obtain ⟨_, _, ⟨T3, L3, k3, n3⟩, -, X3, ⟨Lc3, hQ3, l3, y3, z3⟩, st3⟩ := Jvm.LawKit.callS X1 hx (y := (⟨"java/lang/Math", "min", "(II)I"⟩ : MethodName)) hown (mvT hZ (hw _ (List.mem_of_getElem? (i := 10) rfl))) (mvT hZ (hw _ (List.mem_of_getElem? (i := 11) rfl))) (mvT hZ (hw _ (List.mem_of_getElem? (i := 12) rfl))) (mvT hZ (hw _ (List.mem_of_getElem? (i := 13) rfl))) (by decide) (backOf (W := 1) (rm3 l Z a0 hw [] (0 : Int32) (1 : Int32) h0 n0 Z0  ) hZ (hw _ (List.mem_of_getElem? (i := 13) rfl)) (hw _ (List.mem_of_getElem? (i := 12) rfl)) (by decide) (by decide)) (g := (mkF m 19 #[.val (.ref o0), .val (.ref o1), .val (.int (0 : Int32)), .val (.int (1 : Int32)), .val (.int (2 : Int32)), .val (.int (1 : Int32)), .unset, .unset] [(.int (1 : Int32)), (.int (0 : Int32)), (.ref o0)])) rfl (by rw [hml]; rfl) (argsL := [(.int (0 : Int32)), (.int (1 : Int32))]) (rest := [(.ref o0)]) (lenOf pd_1_3 rfl) rfl (by show 2 * 0 + _ ≤ _; exact Nat.le_of_eq rfl) (hb hby d1_19) (fun _ _ => ⟨rfl, e1, (by decide : 0 + 0 ≤ _), (by decide : 0 + 0 ≤ _)⟩)
  dsimp only [Pt.U, Pt.locs, Pt.cells, Pt.slots] at X3 l3 y3 z3 st3 hQ3
  subst y3 z3
  obtain ⟨rfl, N3q, e3⟩ := hQ3
  have N3 : Fr n0 L3 := by rw [l3]; exact Fr.app N0 N3q
  refine own_st (g' := (mkF m 22 #[.val (.ref o0), .val (.ref o1), .val (.int (0 : Int32)), .val (.int (1 : Int32)), .val (.int (2 : Int32)), .val (.int (1 : Int32)), .unset, .unset] [(.int (own_F3 (0 : Int32) (1 : Int32))), (.ref o0)])) (fun t k => st3 t k) ?_
  rw [show (own_F3 (0 : Int32) (1 : Int32)) = (0 : Int32) from by decide +kernel]
  obtain ⟨T4, h4, X4, e4, W4, st4⟩ := putF X3 hx hZ hown (host := "") (Or.inl (hw _ (List.mem_of_getElem? (i := 14) rfl))) Via.refl e3 G1 G0 (Or.inr ⟨(hw _ (List.mem_of_getElem? (i := 15) rfl)), rfl, hnm⟩) (hw _ (List.mem_of_getElem? (i := 2) rfl)) (ty := .int) (by decide) rfl rfl (g := (mkF m 22 #[.val (.ref o0), .val (.ref o1), .val (.int (0 : Int32)), .val (.int (1 : Int32)), .val (.int (2 : Int32)), .val (.int (1 : Int32)), .unset, .unset] [(.int (0 : Int32)), (.ref o0)])) rfl rfl (hb hby d1_22)
  have F4 := G1.same W4
  have N4 := Fr.snoc X4 N3 g_o0
  have K5 : Keep h0 h4 [o0] := K0.wr W4 (Or.inl (List.mem_of_getElem? (i := 0) rfl))
  refine own_st (g' := (mkF m 25 #[.val (.ref o0), .val (.ref o1), .val (.int (0 : Int32)), .val (.int (1 : Int32)), .val (.int (2 : Int32)), .val (.int (1 : Int32)), .unset, .unset] [])) (fun t k => st4 t k) ?_
  refine own_st (g' := (mkF m 26 #[.val (.ref o0), .val (.ref o1), .val (.int (0 : Int32)), .val (.int (1 : Int32)), .val (.int (2 : Int32)), .val (.int (1 : Int32)), .unset, .unset] [(.ref o0)])) (fun t k => XS.aloadN X4.here hx rfl (hb hby d1_25) rfl rfl k) ?_
  refine own_st (g' := (mkF m 27 #[.val (.ref o0), .val (.ref o1), .val (.int (0 : Int32)), .val (.int (1 : Int32)), .val (.int (2 : Int32)), .val (.int (1 : Int32)), .unset, .unset] [(.int (0 : Int32)), (.ref o0)])) (fun t k => XS.iloadN X4.here hx rfl (hb hby d1_26) rfl  k) ?_
  refine own_st (g' := (mkF m 29 #[.val (.ref o0), .val (.ref o1), .val (.int (0 : Int32)), .val (.int (1 : Int32)), .val (.int (2 : Int32)), .val (.int (1 : Int32)), .unset, .unset] [(.int (1 : Int32)), (.int (0 : Int32)), (.ref o0)])) (fun t k => XS.iload X4.here hx rfl (hb hby d1_27) rfl  k) ?_
  have Z7 : n0 ≤ h4.size := (Nat.le_trans Z0 (Nat.le_of_eq W4.size.symm))
  obtain ⟨_, _, ⟨T6, L6, k6, n6⟩, -, X6, ⟨Lc6, hQ6, l6, y6, z6⟩, st6⟩ := Jvm.LawKit.callS X4 hx (y := (⟨"java/lang/Math", "max", "(II)I"⟩ : MethodName)) hown (mvT hZ (hw _ (List.mem_of_getElem? (i := 16) rfl))) (mvT hZ (hw _ (List.mem_of_getElem? (i := 17) rfl))) (mvT hZ (hw _ (List.mem_of_getElem? (i := 12) rfl))) (mvT hZ (hw _ (List.mem_of_getElem? (i := 18) rfl))) (by decide) (backOf (W := 1) (rm4 l Z a0 hw [] (0 : Int32) (1 : Int32) h4 n0 Z7  ) hZ (hw _ (List.mem_of_getElem? (i := 18) rfl)) (hw _ (List.mem_of_getElem? (i := 12) rfl)) (by decide) (by decide)) (g := (mkF m 29 #[.val (.ref o0), .val (.ref o1), .val (.int (0 : Int32)), .val (.int (1 : Int32)), .val (.int (2 : Int32)), .val (.int (1 : Int32)), .unset, .unset] [(.int (1 : Int32)), (.int (0 : Int32)), (.ref o0)])) rfl (by rw [hml]; rfl) (argsL := [(.int (0 : Int32)), (.int (1 : Int32))]) (rest := [(.ref o0)]) (lenOf pd_1_3 rfl) rfl (by show 2 * 0 + _ ≤ _; exact Nat.le_of_eq rfl) (hb hby d1_29) (fun _ _ => ⟨rfl, e4, (by decide : 0 + 0 ≤ _), (by decide : 0 + 0 ≤ _)⟩)
  dsimp only [Pt.U, Pt.locs, Pt.cells, Pt.slots] at X6 l6 y6 z6 st6 hQ6
  subst y6 z6
  obtain ⟨rfl, N6q, e6⟩ := hQ6
  have N6 : Fr n0 L6 := by rw [l6]; exact Fr.app N4 N6q
  refine own_st (g' := (mkF m 32 #[.val (.ref o0), .val (.ref o1), .val (.int (0 : Int32)), .val (.int (1 : Int32)), .val (.int (2 : Int32)), .val (.int (1 : Int32)), .unset, .unset] [(.int (own_F4 (0 : Int32) (1 : Int32))), (.ref o0)])) (fun t k => st6 t k) ?_
  rw [show (own_F4 (0 : Int32) (1 : Int32)) = (1 : Int32) from by decide +kernel]
  have f8 := (G0.wr W4)
  have f9 := (G2.other W4 (Or.inr (slot_ne (Or.inr (hw _ (List.mem_of_getElem? (i := 20) rfl))) (Or.inr (hw _ (List.mem_of_getElem? (i := 15) rfl))) (by decide) (t := .int) (t' := .int) (by decide) (by decide))))
  obtain ⟨T10, h10, X10, e10, W10, st10⟩ := putF X6 hx hZ hown (host := "") (Or.inl (hw _ (List.mem_of_getElem? (i := 19) rfl))) Via.refl e6 f9 f8 (Or.inr ⟨(hw _ (List.mem_of_getElem? (i := 20) rfl)), rfl, hnm⟩) (hw _ (List.mem_of_getElem? (i := 2) rfl)) (ty := .int) (by decide) rfl rfl (g := (mkF m 32 #[.val (.ref o0), .val (.ref o1), .val (.int (0 : Int32)), .val (.int (1 : Int32)), .val (.int (2 : Int32)), .val (.int (1 : Int32)), .unset, .unset] [(.int (1 : Int32)), (.ref o0)])) rfl rfl (hb hby d1_32)
  have F10 := f9.same W10
  have N10 := Fr.snoc X10 N6 g_o0
  have K11 : Keep h0 h10 [o0] := K5.wr W10 (Or.inl (List.mem_of_getElem? (i := 0) rfl))
  refine own_st (g' := (mkF m 35 #[.val (.ref o0), .val (.ref o1), .val (.int (0 : Int32)), .val (.int (1 : Int32)), .val (.int (2 : Int32)), .val (.int (1 : Int32)), .unset, .unset] [])) (fun t k => st10 t k) ?_
  refine own_st (g' := (mkF m 36 #[.val (.ref o0), .val (.ref o1), .val (.int (0 : Int32)), .val (.int (1 : Int32)), .val (.int (2 : Int32)), .val (.int (1 : Int32)), .unset, .unset] [(.ref o0)])) (fun t k => XS.aloadN X10.here hx rfl (hb hby d1_35) rfl rfl k) ?_
  refine own_st (g' := (mkF m 37 #[.val (.ref o0), .val (.ref o1), .val (.int (0 : Int32)), .val (.int (1 : Int32)), .val (.int (2 : Int32)), .val (.int (1 : Int32)), .unset, .unset] [(.ref o1), (.ref o0)])) (fun t k => XS.aloadN X10.here hx rfl (hb hby d1_36) rfl rfl k) ?_
  refine own_st (g' := (mkF m 38 #[.val (.ref o0), .val (.ref o1), .val (.int (0 : Int32)), .val (.int (1 : Int32)), .val (.int (2 : Int32)), .val (.int (1 : Int32)), .unset, .unset] [(.ref o0), (.ref o1), (.ref o0)])) (fun t k => XS.aloadN X10.here hx rfl (hb hby d1_37) rfl rfl k) ?_
  have f12 := (F4.other W10 (Or.inr (slot_ne (Or.inr (hw _ (List.mem_of_getElem? (i := 15) rfl))) (Or.inr (hw _ (List.mem_of_getElem? (i := 20) rfl))) (by decide) (t := .int) (t' := .int) (by decide) (by decide))))
  obtain ⟨T13, X13, e13, st13⟩ := getF X10 hx hZ hown (host := "") (Or.inl (hw _ (List.mem_of_getElem? (i := 14) rfl))) Via.refl e10 f12 (g := (mkF m 38 #[.val (.ref o0), .val (.ref o1), .val (.int (0 : Int32)), .val (.int (1 : Int32)), .val (.int (2 : Int32)), .val (.int (1 : Int32)), .unset, .unset] [(.ref o0), (.ref o1), (.ref o0)])) rfl rfl (hb hby d1_38)
  refine own_st (g' := (mkF m 41 #[.val (.ref o0), .val (.ref o1), .val (.int (0 : Int32)), .val (.int (1 : Int32)), .val (.int (2 : Int32)), .val (.int (1 : Int32)), .unset, .unset] [(.int (0 : Int32)), (.ref o1), (.ref o0)])) (fun t k => st13 t k) ?_
  have f14 := ((G11.other W4 ne_o1_o0).other W10 ne_o1_o0)
  refine own_st (g' := (mkF m 42 #[.val (.ref o0), .val (.ref o1), .val (.int (0 : Int32)), .val (.int (1 : Int32)), .val (.int (2 : Int32)), .val (.int (1 : Int32)), .unset, .unset] [(.int x0), (.ref o0)])) (fun t k => own_cald X13 hx hZ e13 f14 (j := (0 : Int32)) ⟨by decide, by decide⟩ (g := (mkF m 41 #[.val (.ref o0), .val (.ref o1), .val (.int (0 : Int32)), .val (.int (1 : Int32)), .val (.int (2 : Int32)), .val (.int (1 : Int32)), .unset, .unset] [(.int (0 : Int32)), (.ref o1), (.ref o0)])) rfl rfl (hb hby d1_41) t k) ?_
  have f15 := (f8.wr W10)
  have f16 := ((G3.other W4 (Or.inr (slot_ne (Or.inr (hw _ (List.mem_of_getElem? (i := 22) rfl))) (Or.inr (hw _ (List.mem_of_getElem? (i := 15) rfl))) (by decide) (t := .char) (t' := .int) (by decide) (by decide)))).other W10 (Or.inr (slot_ne (Or.inr (hw _ (List.mem_of_getElem? (i := 22) rfl))) (Or.inr (hw _ (List.mem_of_getElem? (i := 20) rfl))) (by decide) (t := .char) (t' := .int) (by decide) (by decide))))
  obtain ⟨T17, h17, X17, e17, W17, st17⟩ := putFN X13 hx hZ hown ((hw _ (List.mem_of_getElem? (i := 21) rfl))) Via.refl e13 f16 f15 (Or.inr ⟨(hw _ (List.mem_of_getElem? (i := 22) rfl)), rfl, hnm⟩) (hw _ (List.mem_of_getElem? (i := 2) rfl)) (ty := .char) (v' := .int (nar .char x0)) (by decide) rfl (fits_nar_char _) (g := (mkF m 42 #[.val (.ref o0), .val (.ref o1), .val (.int (0 : Int32)), .val (.int (1 : Int32)), .val (.int (2 : Int32)), .val (.int (1 : Int32)), .unset, .unset] [(.int x0), (.ref o0)])) rfl rfl (hb hby d1_42)
  have F17 := f16.same W17
  have N17 := Fr.snoc X17 N10 g_o0
  have K18 : Keep h0 h17 [o0] := K11.wr W17 (Or.inl (List.mem_of_getElem? (i := 0) rfl))
  refine own_st (g' := (mkF m 45 #[.val (.ref o0), .val (.ref o1), .val (.int (0 : Int32)), .val (.int (1 : Int32)), .val (.int (2 : Int32)), .val (.int (1 : Int32)), .unset, .unset] [])) (fun t k => st17 t k) ?_
  refine own_st (g' := (mkF m 46 #[.val (.ref o0), .val (.ref o1), .val (.int (0 : Int32)), .val (.int (1 : Int32)), .val (.int (2 : Int32)), .val (.int (1 : Int32)), .unset, .unset] [(.ref o0)])) (fun t k => XS.aloadN X17.here hx rfl (hb hby d1_45) rfl rfl k) ?_
  refine own_st (g' := (mkF m 47 #[.val (.ref o0), .val (.ref o1), .val (.int (0 : Int32)), .val (.int (1 : Int32)), .val (.int (2 : Int32)), .val (.int (1 : Int32)), .unset, .unset] [(.ref o1), (.ref o0)])) (fun t k => XS.aloadN X17.here hx rfl (hb hby d1_46) rfl rfl k) ?_
  refine own_st (g' := (mkF m 48 #[.val (.ref o0), .val (.ref o1), .val (.int (0 : Int32)), .val (.int (1 : Int32)), .val (.int (2 : Int32)), .val (.int (1 : Int32)), .unset, .unset] [(.ref o0), (.ref o1), (.ref o0)])) (fun t k => XS.aloadN X17.here hx rfl (hb hby d1_47) rfl rfl k) ?_
  have f19 := (F10.other W17 (Or.inr (slot_ne (Or.inr (hw _ (List.mem_of_getElem? (i := 20) rfl))) (Or.inr (hw _ (List.mem_of_getElem? (i := 22) rfl))) (by decide) (t := .int) (t' := .char) (by decide) (by decide))))
  obtain ⟨T20, X20, e20, st20⟩ := getF X17 hx hZ hown (host := "") (Or.inl (hw _ (List.mem_of_getElem? (i := 19) rfl))) Via.refl e17 f19 (g := (mkF m 48 #[.val (.ref o0), .val (.ref o1), .val (.int (0 : Int32)), .val (.int (1 : Int32)), .val (.int (2 : Int32)), .val (.int (1 : Int32)), .unset, .unset] [(.ref o0), (.ref o1), (.ref o0)])) rfl rfl (hb hby d1_48)
  refine own_st (g' := (mkF m 51 #[.val (.ref o0), .val (.ref o1), .val (.int (0 : Int32)), .val (.int (1 : Int32)), .val (.int (2 : Int32)), .val (.int (1 : Int32)), .unset, .unset] [(.int (1 : Int32)), (.ref o1), (.ref o0)])) (fun t k => st20 t k) ?_
  have f21 := (f14.other W17 ne_o1_o0)
  refine own_st (g' := (mkF m 52 #[.val (.ref o0), .val (.ref o1), .val (.int (0 : Int32)), .val (.int (1 : Int32)), .val (.int (2 : Int32)), .val (.int (1 : Int32)), .unset, .unset] [(.int x1), (.ref o0)])) (fun t k => own_cald X20 hx hZ e20 f21 (j := (1 : Int32)) ⟨by decide, by decide⟩ (g := (mkF m 51 #[.val (.ref o0), .val (.ref o1), .val (.int (0 : Int32)), .val (.int (1 : Int32)), .val (.int (2 : Int32)), .val (.int (1 : Int32)), .unset, .unset] [(.int (1 : Int32)), (.ref o1), (.ref o0)])) rfl rfl (hb hby d1_51) t k) ?_
  have f22 := (f15.wr W17)
  have f23 := (((G4.other W4 (Or.inr (slot_ne (Or.inr (hw _ (List.mem_of_getElem? (i := 24) rfl))) (Or.inr (hw _ (List.mem_of_getElem? (i := 15) rfl))) (by decide) (t := .char) (t' := .int) (by decide) (by decide)))).other W10 (Or.inr (slot_ne (Or.inr (hw _ (List.mem_of_getElem? (i := 24) rfl))) (Or.inr (hw _ (List.mem_of_getElem? (i := 20) rfl))) (by decide) (t := .char) (t' := .int) (by decide) (by decide)))).other W17 (Or.inr (slot_ne (Or.inr (hw _ (List.mem_of_getElem? (i := 24) rfl))) (Or.inr (hw _ (List.mem_of_getElem? (i := 22) rfl))) (by decide) (t := .char) (t' := .char) (by decide) (by decide))))
  obtain ⟨T24, h24, X24, e24, W24, st24⟩ := putFN X20 hx hZ hown ((hw _ (List.mem_of_getElem? (i := 23) rfl))) Via.refl e20 f23 f22 (Or.inr ⟨(hw _ (List.mem_of_getElem? (i := 24) rfl)), rfl, hnm⟩) (hw _ (List.mem_of_getElem? (i := 2) rfl)) (ty := .char) (v' := .int (nar .char x1)) (by decide) rfl (fits_nar_char _) (g := (mkF m 52 #[.val (.ref o0), .val (.ref o1), .val (.int (0 : Int32)), .val (.int (1 : Int32)), .val (.int (2 : Int32)), .val (.int (1 : Int32)), .unset, .unset] [(.int x1), (.ref o0)])) rfl rfl (hb hby d1_52)
  have F24 := f23.same W24
  have N24 := Fr.snoc X24 N17 g_o0
  have K25 : Keep h0 h24 [o0] := K18.wr W24 (Or.inl (List.mem_of_getElem? (i := 0) rfl))
  refine own_st (g' := (mkF m 55 #[.val (.ref o0), .val (.ref o1), .val (.int (0 : Int32)), .val (.int (1 : Int32)), .val (.int (2 : Int32)), .val (.int (1 : Int32)), .unset, .unset] [])) (fun t k => st24 t k) ?_
  refine own_st (g' := (mkF m 56 #[.val (.ref o0), .val (.ref o1), .val (.int (0 : Int32)), .val (.int (1 : Int32)), .val (.int (2 : Int32)), .val (.int (1 : Int32)), .unset, .unset] [(.ref o0)])) (fun t k => XS.aloadN X24.here hx rfl (hb hby d1_55) rfl rfl k) ?_
  refine own_st (g' := (mkF m 57 #[.val (.ref o0), .val (.ref o1), .val (.int (0 : Int32)), .val (.int (1 : Int32)), .val (.int (2 : Int32)), .val (.int (1 : Int32)), .unset, .unset] [(.ref o0), (.ref o0)])) (fun t k => XS.aloadN X24.here hx rfl (hb hby d1_56) rfl rfl k) ?_
  have f26 := (F17.other W24 (Or.inr (slot_ne (Or.inr (hw _ (List.mem_of_getElem? (i := 22) rfl))) (Or.inr (hw _ (List.mem_of_getElem? (i := 24) rfl))) (by decide) (t := .char) (t' := .char) (by decide) (by decide))))
  obtain ⟨T27, X27, e27, st27⟩ := getF X24 hx hZ hown (host := "") (Or.inl (hw _ (List.mem_of_getElem? (i := 21) rfl))) Via.refl e24 f26 (g := (mkF m 57 #[.val (.ref o0), .val (.ref o1), .val (.int (0 : Int32)), .val (.int (1 : Int32)), .val (.int (2 : Int32)), .val (.int (1 : Int32)), .unset, .unset] [(.ref o0), (.ref o0)])) rfl rfl (hb hby d1_57)
  refine own_st (g' := (mkF m 60 #[.val (.ref o0), .val (.ref o1), .val (.int (0 : Int32)), .val (.int (1 : Int32)), .val (.int (2 : Int32)), .val (.int (1 : Int32)), .unset, .unset] [(.int (nar .char x0)), (.ref o0)])) (fun t k => st27 t k) ?_
  have Z29 : n0 ≤ h24.size := (Nat.le_trans (Nat.le_trans (Nat.le_trans Z7 (Nat.le_of_eq W10.size.symm)) (Nat.le_of_eq W17.size.symm)) (Nat.le_of_eq W24.size.symm))
  obtain ⟨_, _, ⟨T28, L28, k28, n28⟩, -, X28, ⟨Lc28, hQ28, l28, y28, z28⟩, st28⟩ := Jvm.LawKit.callS X27 hx (y := (⟨"com/example/mudskipper/mudskipper/UnitPair", "lowBytes", "(C)J"⟩ : MethodName)) hown (mvT hZ (hw _ (List.mem_of_getElem? (i := 25) rfl))) (mvT hZ (hw _ (List.mem_of_getElem? (i := 26) rfl))) (mvT hZ (hw _ (List.mem_of_getElem? (i := 3) rfl))) (mvT hZ (hw _ (List.mem_of_getElem? (i := 27) rfl))) (by decide) (backOf (W := 1) (rm5 l Z a0 hw [] (nar .char x0) h24 n0 Z29  ) hZ (hw _ (List.mem_of_getElem? (i := 27) rfl)) (hw _ (List.mem_of_getElem? (i := 3) rfl)) (by decide) (by decide)) (g := (mkF m 60 #[.val (.ref o0), .val (.ref o1), .val (.int (0 : Int32)), .val (.int (1 : Int32)), .val (.int (2 : Int32)), .val (.int (1 : Int32)), .unset, .unset] [(.int (nar .char x0)), (.ref o0)])) rfl (by rw [hml]; rfl) (argsL := [(.int (nar .char x0))]) (rest := [(.ref o0)]) (lenOf pd_1_4 rfl) rfl (by show 2 * 0 + _ ≤ _; exact Nat.le_of_eq rfl) (hb hby d1_60) (fun _ _ => ⟨rfl, e27, (by decide : 0 + 0 ≤ _), (by decide : 0 + 0 ≤ _)⟩)
  dsimp only [Pt.U, Pt.locs, Pt.cells, Pt.slots] at X28 l28 y28 z28 st28 hQ28
  subst y28 z28
  obtain ⟨rfl, N28q, e28⟩ := hQ28
  have N28 : Fr n0 L28 := by rw [l28]; exact Fr.app N24 N28q
  refine own_st (g' := (mkF m 63 #[.val (.ref o0), .val (.ref o1), .val (.int (0 : Int32)), .val (.int (1 : Int32)), .val (.int (2 : Int32)), .val (.int (1 : Int32)), .unset, .unset] [(.long (own_F5 (nar .char x0))), (.ref o0)])) (fun t k => st28 t k) ?_
  have f30 := (f22.wr W24)
  have f31 := ((((G5.other W4 (Or.inr (slot_ne (Or.inr (hw _ (List.mem_of_getElem? (i := 30) rfl))) (Or.inr (hw _ (List.mem_of_getElem? (i := 15) rfl))) (by decide) (t := .long) (t' := .int) (by decide) (by decide)))).other W10 (Or.inr (slot_ne (Or.inr (hw _ (List.mem_of_getElem? (i := 30) rfl))) (Or.inr (hw _ (List.mem_of_getElem? (i := 20) rfl))) (by decide) (t := .long) (t' := .int) (by decide) (by decide)))).other W17 (Or.inr (slot_ne (Or.inr (hw _ (List.mem_of_getElem? (i := 30) rfl))) (Or.inr (hw _ (List.mem_of_getElem? (i := 22) rfl))) (by decide) (t := .long) (t' := .char) (by decide) (by decide)))).other W24 (Or.inr (slot_ne (Or.inr (hw _ (List.mem_of_getElem? (i := 30) rfl))) (Or.inr (hw _ (List.mem_of_getElem? (i := 24) rfl))) (by decide) (t := .long) (t' := .char) (by decide) (by decide))))
  obtain ⟨T32, h32, X32, e32, W32, st32⟩ := putF X28 hx hZ hown (host := "") (Or.inl (hw _ (List.mem_of_getElem? (i := 29) rfl))) Via.refl e28 f31 f30 (Or.inr ⟨(hw _ (List.mem_of_getElem? (i := 30) rfl)), rfl, hnm⟩) (hw _ (List.mem_of_getElem? (i := 2) rfl)) (ty := .long) (by decide) rfl rfl (g := (mkF m 63 #[.val (.ref o0), .val (.ref o1), .val (.int (0 : Int32)), .val (.int (1 : Int32)), .val (.int (2 : Int32)), .val (.int (1 : Int32)), .unset, .unset] [(.long (own_F5 (nar .char x0))), (.ref o0)])) rfl rfl (hb hby d1_63)
  have F32 := f31.same W32
  have N32 := Fr.snoc X32 N28 g_o0
  have K33 : Keep h0 h32 [o0] := K25.wr W32 (Or.inl (List.mem_of_getElem? (i := 0) rfl))
  refine own_st (g' := (mkF m 66 #[.val (.ref o0), .val (.ref o1), .val (.int (0 : Int32)), .val (.int (1 : Int32)), .val (.int (2 : Int32)), .val (.int (1 : Int32)), .unset, .unset] [])) (fun t k => st32 t k) ?_
  refine own_st (g' := (mkF m 67 #[.val (.ref o0), .val (.ref o1), .val (.int (0 : Int32)), .val (.int (1 : Int32)), .val (.int (2 : Int32)), .val (.int (1 : Int32)), .unset, .unset] [(.ref o0)])) (fun t k => XS.aloadN X32.here hx rfl (hb hby d1_66) rfl rfl k) ?_
  refine own_st (g' := (mkF m 68 #[.val (.ref o0), .val (.ref o1), .val (.int (0 : Int32)), .val (.int (1 : Int32)), .val (.int (2 : Int32)), .val (.int (1 : Int32)), .unset, .unset] [(.ref o0), (.ref o0)])) (fun t k => XS.aloadN X32.here hx rfl (hb hby d1_67) rfl rfl k) ?_
  have f34 := (F24.other W32 (Or.inr (slot_ne (Or.inr (hw _ (List.mem_of_getElem? (i := 24) rfl))) (Or.inr (hw _ (List.mem_of_getElem? (i := 30) rfl))) (by decide) (t := .char) (t' := .long) (by decide) (by decide))))
  obtain ⟨T35, X35, e35, st35⟩ := getF X32 hx hZ hown (host := "") (Or.inl (hw _ (List.mem_of_getElem? (i := 23) rfl))) Via.refl e32 f34 (g := (mkF m 68 #[.val (.ref o0), .val (.ref o1), .val (.int (0 : Int32)), .val (.int (1 : Int32)), .val (.int (2 : Int32)), .val (.int (1 : Int32)), .unset, .unset] [(.ref o0), (.ref o0)])) rfl rfl (hb hby d1_68)
  refine own_st (g' := (mkF m 71 #[.val (.ref o0), .val (.ref o1), .val (.int (0 : Int32)), .val (.int (1 : Int32)), .val (.int (2 : Int32)), .val (.int (1 : Int32)), .unset, .unset] [(.int (nar .char x1)), (.ref o0)])) (fun t k => st35 t k) ?_
  have Z37 : n0 ≤ h32.size := (Nat.le_trans Z29 (Nat.le_of_eq W32.size.symm))
  obtain ⟨_, _, ⟨T36, L36, k36, n36⟩, -, X36, ⟨Lc36, hQ36, l36, y36, z36⟩, st36⟩ := Jvm.LawKit.callS X35 hx (y := (⟨"com/example/mudskipper/mudskipper/UnitPair", "lowBytes", "(C)J"⟩ : MethodName)) hown (mvT hZ (hw _ (List.mem_of_getElem? (i := 25) rfl))) (mvT hZ (hw _ (List.mem_of_getElem? (i := 26) rfl))) (mvT hZ (hw _ (List.mem_of_getElem? (i := 3) rfl))) (mvT hZ (hw _ (List.mem_of_getElem? (i := 27) rfl))) (by decide) (backOf (W := 1) (rm5 l Z a0 hw [] (nar .char x1) h32 n0 Z37  ) hZ (hw _ (List.mem_of_getElem? (i := 27) rfl)) (hw _ (List.mem_of_getElem? (i := 3) rfl)) (by decide) (by decide)) (g := (mkF m 71 #[.val (.ref o0), .val (.ref o1), .val (.int (0 : Int32)), .val (.int (1 : Int32)), .val (.int (2 : Int32)), .val (.int (1 : Int32)), .unset, .unset] [(.int (nar .char x1)), (.ref o0)])) rfl (by rw [hml]; rfl) (argsL := [(.int (nar .char x1))]) (rest := [(.ref o0)]) (lenOf pd_1_4 rfl) rfl (by show 2 * 0 + _ ≤ _; exact Nat.le_of_eq rfl) (hb hby d1_71) (fun _ _ => ⟨rfl, e35, (by decide : 0 + 0 ≤ _), (by decide : 0 + 0 ≤ _)⟩)
  dsimp only [Pt.U, Pt.locs, Pt.cells, Pt.slots] at X36 l36 y36 z36 st36 hQ36
  subst y36 z36
  obtain ⟨rfl, N36q, e36⟩ := hQ36
  have N36 : Fr n0 L36 := by rw [l36]; exact Fr.app N32 N36q
  refine own_st (g' := (mkF m 74 #[.val (.ref o0), .val (.ref o1), .val (.int (0 : Int32)), .val (.int (1 : Int32)), .val (.int (2 : Int32)), .val (.int (1 : Int32)), .unset, .unset] [(.long (own_F5 (nar .char x1))), (.ref o0)])) (fun t k => st36 t k) ?_
  have f38 := (f30.wr W32)
  have f39 := (((((G6.other W4 (Or.inr (slot_ne (Or.inr (hw _ (List.mem_of_getElem? (i := 32) rfl))) (Or.inr (hw _ (List.mem_of_getElem? (i := 15) rfl))) (by decide) (t := .long) (t' := .int) (by decide) (by decide)))).other W10 (Or.inr (slot_ne (Or.inr (hw _ (List.mem_of_getElem? (i := 32) rfl))) (Or.inr (hw _ (List.mem_of_getElem? (i := 20) rfl))) (by decide) (t := .long) (t' := .int) (by decide) (by decide)))).other W17 (Or.inr (slot_ne (Or.inr (hw _ (List.mem_of_getElem? (i := 32) rfl))) (Or.inr (hw _ (List.mem_of_getElem? (i := 22) rfl))) (by decide) (t := .long) (t' := .char) (by decide) (by decide)))).other W24 (Or.inr (slot_ne (Or.inr (hw _ (List.mem_of_getElem? (i := 32) rfl))) (Or.inr (hw _ (List.mem_of_getElem? (i := 24) rfl))) (by decide) (t := .long) (t' := .char) (by decide) (by decide)))).other W32 (Or.inr (slot_ne (Or.inr (hw _ (List.mem_of_getElem? (i := 32) rfl))) (Or.inr (hw _ (List.mem_of_getElem? (i := 30) rfl))) (by decide) (t := .long) (t' := .long) (by decide) (by decide))))
  obtain ⟨T40, h40, X40, e40, W40, st40⟩ := putF X36 hx hZ hown (host := "") (Or.inl (hw _ (List.mem_of_getElem? (i := 31) rfl))) Via.refl e36 f39 f38 (Or.inr ⟨(hw _ (List.mem_of_getElem? (i := 32) rfl)), rfl, hnm⟩) (hw _ (List.mem_of_getElem? (i := 2) rfl)) (ty := .long) (by decide) rfl rfl (g := (mkF m 74 #[.val (.ref o0), .val (.ref o1), .val (.int (0 : Int32)), .val (.int (1 : Int32)), .val (.int (2 : Int32)), .val (.int (1 : Int32)), .unset, .unset] [(.long (own_F5 (nar .char x1))), (.ref o0)])) rfl rfl (hb hby d1_74)
  have F40 := f39.same W40
  have N40 := Fr.snoc X40 N36 g_o0
  have K41 : Keep h0 h40 [o0] := K33.wr W40 (Or.inl (List.mem_of_getElem? (i := 0) rfl))
  refine own_st (g' := (mkF m 77 #[.val (.ref o0), .val (.ref o1), .val (.int (0 : Int32)), .val (.int (1 : Int32)), .val (.int (2 : Int32)), .val (.int (1 : Int32)), .unset, .unset] [])) (fun t k => st40 t k) ?_
  refine own_st (g' := (mkF m 78 #[.val (.ref o0), .val (.ref o1), .val (.int (0 : Int32)), .val (.int (1 : Int32)), .val (.int (2 : Int32)), .val (.int (1 : Int32)), .unset, .unset] [(.ref o0)])) (fun t k => XS.aloadN X40.here hx rfl (hb hby d1_77) rfl rfl k) ?_
  refine own_st (g' := (mkF m 79 #[.val (.ref o0), .val (.ref o1), .val (.int (0 : Int32)), .val (.int (1 : Int32)), .val (.int (2 : Int32)), .val (.int (1 : Int32)), .unset, .unset] [(.int (2 : Int32)), (.ref o0)])) (fun t k => XS.iconst X40.here hx rfl (hb hby d1_78) k) ?_
  obtain ⟨T42, h42, k42, X42, e42, E42, A42, st42⟩ := newP X40 hx hZ (hw _ (List.mem_of_getElem? (i := 33) rfl)) e40 (g := (mkF m 79 #[.val (.ref o0), .val (.ref o1), .val (.int (0 : Int32)), .val (.int (1 : Int32)), .val (.int (2 : Int32)), .val (.int (1 : Int32)), .unset, .unset] [(.int (2 : Int32)), (.ref o0)])) rfl (hb hby d1_79) rfl (by decide) (cap := 2) (by decide) (by decide) (by decide) (by decide)
  obtain ⟨b79, gg42⟩ : ∃ q, q = h40.size := ⟨_, rfl⟩
  rw [← gg42] at A42 st42
  have Z43 : n0 ≤ h40.size := (Nat.le_trans Z37 (Nat.le_of_eq W40.size.symm))
  have g_b79 : n0 ≤ b79 := Nat.le_trans Z43 (Nat.le_of_eq gg42.symm)
  have sz_b79 : h0.size ≤ b79 := Nat.le_trans K41.1 (Nat.le_of_eq gg42.symm)
  have f44 := (f38.wr W40)
  have ne_o0_b79 : o0 ≠ b79 := Nat.ne_of_lt (Nat.lt_of_lt_of_le f44.lt (Nat.le_of_eq gg42.symm))
  have f45 := (((f21.other W24 ne_o1_o0).other W32 ne_o1_o0).other W40 ne_o1_o0)
  have ne_o1_b79 : o1 ≠ b79 := Nat.ne_of_lt (Nat.lt_of_lt_of_le f45.lt (Nat.le_of_eq gg42.symm))
  have K46 : Keep h0 h42 [o0] := K41.ext E42
  have V42 : own_Ar Z h42 b79 k42 .int (2 : Int32) Value.int (0 : Int32) [(0 : Int32), (0 : Int32)] := own_Ar.new A42 (by decide) rfl
  refine own_st (g' := (mkF m 81 #[.val (.ref o0), .val (.ref o1), .val (.int (0 : Int32)), .val (.int (1 : Int32)), .val (.int (2 : Int32)), .val (.int (1 : Int32)), .unset, .unset] [(.ref b79), (.ref o0)])) (fun t k => st42 t k) ?_
  refine own_st (g' := (mkF m 82 #[.val (.ref o0), .val (.ref o1), .val (.int (0 : Int32)), .val (.int (1 : Int32)), .val (.int (2 : Int32)), .val (.int (1 : Int32)), .unset, .unset] [(.ref b79), (.ref b79), (.ref o0)])) (fun t k => XS.dup X42.here hx rfl (hb hby d1_81) rfl rfl k) ?_
  refine own_st (g' := (mkF m 83 #[.val (.ref o0), .val (.ref o1), .val (.int (0 : Int32)), .val (.int (1 : Int32)), .val (.int (2 : Int32)), .val (.int (1 : Int32)), .unset, .unset] [(.int (0 : Int32)), (.ref b79), (.ref b79), (.ref o0)])) (fun t k => XS.iconst X42.here hx rfl (hb hby d1_82) k) ?_
  refine own_st (g' := (mkF m 84 #[.val (.ref o0), .val (.ref o1), .val (.int (0 : Int32)), .val (.int (1 : Int32)), .val (.int (2 : Int32)), .val (.int (1 : Int32)), .unset, .unset] [(.ref o0), (.int (0 : Int32)), (.ref b79), (.ref b79), (.ref o0)])) (fun t k => XS.aloadN X42.here hx rfl (hb hby d1_83) rfl rfl k) ?_
  have f47 := (((((f12.other W17 (Or.inr (slot_ne (Or.inr (hw _ (List.mem_of_getElem? (i := 15) rfl))) (Or.inr (hw _ (List.mem_of_getElem? (i := 22) rfl))) (by decide) (t := .int) (t' := .char) (by decide) (by decide)))).other W24 (Or.inr (slot_ne (Or.inr (hw _ (List.mem_of_getElem? (i := 15) rfl))) (Or.inr (hw _ (List.mem_of_getElem? (i := 24) rfl))) (by decide) (t := .int) (t' := .char) (by decide) (by decide)))).other W32 (Or.inr (slot_ne (Or.inr (hw _ (List.mem_of_getElem? (i := 15) rfl))) (Or.inr (hw _ (List.mem_of_getElem? (i := 30) rfl))) (by decide) (t := .int) (t' := .long) (by decide) (by decide)))).other W40 (Or.inr (slot_ne (Or.inr (hw _ (List.mem_of_getElem? (i := 15) rfl))) (Or.inr (hw _ (List.mem_of_getElem? (i := 32) rfl))) (by decide) (t := .int) (t' := .long) (by decide) (by decide)))).ext E42)
  obtain ⟨T48, X48, e48, st48⟩ := getF X42 hx hZ hown (host := "") (Or.inl (hw _ (List.mem_of_getElem? (i := 14) rfl))) Via.refl e42 f47 (g := (mkF m 84 #[.val (.ref o0), .val (.ref o1), .val (.int (0 : Int32)), .val (.int (1 : Int32)), .val (.int (2 : Int32)), .val (.int (1 : Int32)), .unset, .unset] [(.ref o0), (.int (0 : Int32)), (.ref b79), (.ref b79), (.ref o0)])) rfl rfl (hb hby d1_84)
  refine own_st (g' := (mkF m 87 #[.val (.ref o0), .val (.ref o1), .val (.int (0 : Int32)), .val (.int (1 : Int32)), .val (.int (2 : Int32)), .val (.int (1 : Int32)), .unset, .unset] [(.int (0 : Int32)), (.int (0 : Int32)), (.ref b79), (.ref b79), (.ref o0)])) (fun t k => st48 t k) ?_
  obtain ⟨T49, h49, X49, e49, W49, V49, st49⟩ := own_iast X48 hx hZ e48 V42 (j := (0 : Int32)) ⟨by decide, by decide⟩ (g := (mkF m 87 #[.val (.ref o0), .val (.ref o1), .val (.int (0 : Int32)), .val (.int (1 : Int32)), .val (.int (2 : Int32)), .val (.int (1 : Int32)), .unset, .unset] [(.int (0 : Int32)), (.int (0 : Int32)), (.ref b79), (.ref b79), (.ref o0)])) rfl rfl (hb hby d1_87)
  replace V49 : own_Ar Z h49 b79 k42 .int (2 : Int32) Value.int (0 : Int32) [(0 : Int32), (0 : Int32)] := V49
  have N49 := Fr.snoc X49 N40 g_b79
  have K50 : Keep h0 h49 [o0] := K46.wr W49 (Or.inr sz_b79)
  refine own_st (g' := (mkF m 88 #[.val (.ref o0), .val (.ref o1), .val (.int (0 : Int32)), .val (.int (1 : Int32)), .val (.int (2 : Int32)), .val (.int (1 : Int32)), .unset, .unset] [(.ref b79), (.ref o0)])) (fun t k => st49 t k) ?_
  refine own_st (g' := (mkF m 89 #[.val (.ref o0), .val (.ref o1), .val (.int (0 : Int32)), .val (.int (1 : Int32)), .val (.int (2 : Int32)), .val (.int (1 : Int32)), .unset, .unset] [(.ref b79), (.ref b79), (.ref o0)])) (fun t k => XS.dup X49.here hx rfl (hb hby d1_88) rfl rfl k) ?_
  refine own_st (g' := (mkF m 90 #[.val (.ref o0), .val (.ref o1), .val (.int (0 : Int32)), .val (.int (1 : Int32)), .val (.int (2 : Int32)), .val (.int (1 : Int32)), .unset, .unset] [(.int (1 : Int32)), (.ref b79), (.ref b79), (.ref o0)])) (fun t k => XS.iconst X49.here hx rfl (hb hby d1_89) k) ?_
  refine own_st (g' := (mkF m 91 #[.val (.ref o0), .val (.ref o1), .val (.int (0 : Int32)), .val (.int (1 : Int32)), .val (.int (2 : Int32)), .val (.int (1 : Int32)), .unset, .unset] [(.ref o0), (.int (1 : Int32)), (.ref b79), (.ref b79), (.ref o0)])) (fun t k => XS.aloadN X49.here hx rfl (hb hby d1_90) rfl rfl k) ?_
  have f51 := (((((f19.other W24 (Or.inr (slot_ne (Or.inr (hw _ (List.mem_of_getElem? (i := 20) rfl))) (Or.inr (hw _ (List.mem_of_getElem? (i := 24) rfl))) (by decide) (t := .int) (t' := .char) (by decide) (by decide)))).other W32 (Or.inr (slot_ne (Or.inr (hw _ (List.mem_of_getElem? (i := 20) rfl))) (Or.inr (hw _ (List.mem_of_getElem? (i := 30) rfl))) (by decide) (t := .int) (t' := .long) (by decide) (by decide)))).other W40 (Or.inr (slot_ne (Or.inr (hw _ (List.mem_of_getElem? (i := 20) rfl))) (Or.inr (hw _ (List.mem_of_getElem? (i := 32) rfl))) (by decide) (t := .int) (t' := .long) (by decide) (by decide)))).ext E42).other W49 (Or.inl ne_o0_b79))
  obtain ⟨T52, X52, e52, st52⟩ := getF X49 hx hZ hown (host := "") (Or.inl (hw _ (List.mem_of_getElem? (i := 19) rfl))) Via.refl e49 f51 (g := (mkF m 91 #[.val (.ref o0), .val (.ref o1), .val (.int (0 : Int32)), .val (.int (1 : Int32)), .val (.int (2 : Int32)), .val (.int (1 : Int32)), .unset, .unset] [(.ref o0), (.int (1 : Int32)), (.ref b79), (.ref b79), (.ref o0)])) rfl rfl (hb hby d1_91)
  refine own_st (g' := (mkF m 94 #[.val (.ref o0), .val (.ref o1), .val (.int (0 : Int32)), .val (.int (1 : Int32)), .val (.int (2 : Int32)), .val (.int (1 : Int32)), .unset, .unset] [(.int (1 : Int32)), (.int (1 : Int32)), (.ref b79), (.ref b79), (.ref o0)])) (fun t k => st52 t k) ?_
  obtain ⟨T53, h53, X53, e53, W53, V53, st53⟩ := own_iast X52 hx hZ e52 V49 (j := (1 : Int32)) ⟨by decide, by decide⟩ (g := (mkF m 94 #[.val (.ref o0), .val (.ref o1), .val (.int (0 : Int32)), .val (.int (1 : Int32)), .val (.int (2 : Int32)), .val (.int (1 : Int32)), .unset, .unset] [(.int (1 : Int32)), (.int (1 : Int32)), (.ref b79), (.ref b79), (.ref o0)])) rfl rfl (hb hby d1_94)
  replace V53 : own_Ar Z h53 b79 k42 .int (2 : Int32) Value.int (0 : Int32) [(0 : Int32), (1 : Int32)] := V53
  have N53 := Fr.snoc X53 N49 g_b79
  have K54 : Keep h0 h53 [o0] := K50.wr W53 (Or.inr sz_b79)
  refine own_st (g' := (mkF m 95 #[.val (.ref o0), .val (.ref o1), .val (.int (0 : Int32)), .val (.int (1 : Int32)), .val (.int (2 : Int32)), .val (.int (1 : Int32)), .unset, .unset] [(.ref b79), (.ref o0)])) (fun t k => st53 t k) ?_
  have f55 := (((f44.ext E42).wr W49).wr W53)
  have f56 := (((((((((G7.other W4 (Or.inr (slot_ne (Or.inr (hw _ (List.mem_of_getElem? (i := 35) rfl))) (Or.inr (hw _ (List.mem_of_getElem? (i := 15) rfl))) (by decide) (t := (.array .int)) (t' := .int) (by decide) (by decide)))).other W10 (Or.inr (slot_ne (Or.inr (hw _ (List.mem_of_getElem? (i := 35) rfl))) (Or.inr (hw _ (List.mem_of_getElem? (i := 20) rfl))) (by decide) (t := (.array .int)) (t' := .int) (by decide) (by decide)))).other W17 (Or.inr (slot_ne (Or.inr (hw _ (List.mem_of_getElem? (i := 35) rfl))) (Or.inr (hw _ (List.mem_of_getElem? (i := 22) rfl))) (by decide) (t := (.array .int)) (t' := .char) (by decide) (by decide)))).other W24 (Or.inr (slot_ne (Or.inr (hw _ (List.mem_of_getElem? (i := 35) rfl))) (Or.inr (hw _ (List.mem_of_getElem? (i := 24) rfl))) (by decide) (t := (.array .int)) (t' := .char) (by decide) (by decide)))).other W32 (Or.inr (slot_ne (Or.inr (hw _ (List.mem_of_getElem? (i := 35) rfl))) (Or.inr (hw _ (List.mem_of_getElem? (i := 30) rfl))) (by decide) (t := (.array .int)) (t' := .long) (by decide) (by decide)))).other W40 (Or.inr (slot_ne (Or.inr (hw _ (List.mem_of_getElem? (i := 35) rfl))) (Or.inr (hw _ (List.mem_of_getElem? (i := 32) rfl))) (by decide) (t := (.array .int)) (t' := .long) (by decide) (by decide)))).ext E42).other W49 (Or.inl ne_o0_b79)).other W53 (Or.inl ne_o0_b79))
  obtain ⟨T57, h57, X57, e57, W57, st57⟩ := putF X53 hx hZ hown (host := "") (Or.inl (hw _ (List.mem_of_getElem? (i := 34) rfl))) Via.refl e53 f56 f55 (Or.inr ⟨(hw _ (List.mem_of_getElem? (i := 35) rfl)), rfl, hnm⟩) (hw _ (List.mem_of_getElem? (i := 2) rfl)) (ty := (.array .int)) (by decide) rfl rfl (g := (mkF m 95 #[.val (.ref o0), .val (.ref o1), .val (.int (0 : Int32)), .val (.int (1 : Int32)), .val (.int (2 : Int32)), .val (.int (1 : Int32)), .unset, .unset] [(.ref b79), (.ref o0)])) rfl rfl (hb hby d1_95)
  have F57 := f56.same W57
  have N57 := Fr.snoc X57 N53 g_o0
  have K58 : Keep h0 h57 [o0] := K54.wr W57 (Or.inl (List.mem_of_getElem? (i := 0) rfl))
  refine own_st (g' := (mkF m 98 #[.val (.ref o0), .val (.ref o1), .val (.int (0 : Int32)), .val (.int (1 : Int32)), .val (.int (2 : Int32)), .val (.int (1 : Int32)), .unset, .unset] [])) (fun t k => st57 t k) ?_
  refine own_st (g' := (mkF m 99 #[.val (.ref o0), .val (.ref o1), .val (.int (0 : Int32)), .val (.int (1 : Int32)), .val (.int (2 : Int32)), .val (.int (1 : Int32)), .unset, .unset] [(.ref o0)])) (fun t k => XS.aloadN X57.here hx rfl (hb hby d1_98) rfl rfl k) ?_
  refine own_st (g' := (mkF m 100 #[.val (.ref o0), .val (.ref o1), .val (.int (0 : Int32)), .val (.int (1 : Int32)), .val (.int (2 : Int32)), .val (.int (1 : Int32)), .unset, .unset] [(.int (2 : Int32)), (.ref o0)])) (fun t k => XS.iconst X57.here hx rfl (hb hby d1_99) k) ?_
  obtain ⟨T59, h59, k59, X59, e59, E59, A59, st59⟩ := newP X57 hx hZ (hw _ (List.mem_of_getElem? (i := 36) rfl)) e57 (g := (mkF m 100 #[.val (.ref o0), .val (.ref o1), .val (.int (0 : Int32)), .val (.int (1 : Int32)), .val (.int (2 : Int32)), .val (.int (1 : Int32)), .unset, .unset] [(.int (2 : Int32)), (.ref o0)])) rfl (hb hby d1_100) rfl (by decide) (cap := 2) (by decide) (by decide) (by decide) (by decide)
  obtain ⟨b100, gg59⟩ : ∃ q, q = h57.size := ⟨_, rfl⟩
  rw [← gg59] at A59 st59
  have Z60 : n0 ≤ h57.size := (Nat.le_trans (Nat.le_trans (Nat.le_trans (Nat.le_trans Z43 E42.1) (Nat.le_of_eq W49.size.symm)) (Nat.le_of_eq W53.size.symm)) (Nat.le_of_eq W57.size.symm))
  have g_b100 : n0 ≤ b100 := Nat.le_trans Z60 (Nat.le_of_eq gg59.symm)
  have sz_b100 : h0.size ≤ b100 := Nat.le_trans K58.1 (Nat.le_of_eq gg59.symm)
  have f61 := (f55.wr W57)
  have ne_o0_b100 : o0 ≠ b100 := Nat.ne_of_lt (Nat.lt_of_lt_of_le f61.lt (Nat.le_of_eq gg59.symm))
  have f62 := ((((f45.ext E42).other W49 ne_o1_b79).other W53 ne_o1_b79).other W57 ne_o1_o0)
  have ne_o1_b100 : o1 ≠ b100 := Nat.ne_of_lt (Nat.lt_of_lt_of_le f62.lt (Nat.le_of_eq gg59.symm))
  have f63 := (V53.other W57 (Ne.symm ne_o0_b79))
  have ne_b79_b100 : b79 ≠ b100 := Nat.ne_of_lt (Nat.lt_of_lt_of_le f63.lt (Nat.le_of_eq gg59.symm))
  have K64 : Keep h0 h59 [o0] := K58.ext E59
  have V59 : own_Ar Z h59 b100 k59 .long (2 : Int32) Value.long (0 : Int64) [(0 : Int64), (0 : Int64)] := own_Ar.new A59 (by decide) rfl
  refine own_st (g' := (mkF m 102 #[.val (.ref o0), .val (.ref o1), .val (.int (0 : Int32)), .val (.int (1 : Int32)), .val (.int (2 : Int32)), .val (.int (1 : Int32)), .unset, .unset] [(.ref b100), (.ref o0)])) (fun t k => st59 t k) ?_
  refine own_st (g' := (mkF m 103 #[.val (.ref o0), .val (.ref o1), .val (.int (0 : Int32)), .val (.int (1 : Int32)), .val (.int (2 : Int32)), .val (.int (1 : Int32)), .unset, .unset] [(.ref b100), (.ref b100), (.ref o0)])) (fun t k => XS.dup X59.here hx rfl (hb hby d1_102) rfl rfl k) ?_
  refine own_st (g' := (mkF m 104 #[.val (.ref o0), .val (.ref o1), .val (.int (0 : Int32)), .val (.int (1 : Int32)), .val (.int (2 : Int32)), .val (.int (1 : Int32)), .unset, .unset] [(.int (0 : Int32)), (.ref b100), (.ref b100), (.ref o0)])) (fun t k => XS.iconst X59.here hx rfl (hb hby d1_103) k) ?_
  refine own_st (g' := (mkF m 105 #[.val (.ref o0), .val (.ref o1), .val (.int (0 : Int32)), .val (.int (1 : Int32)), .val (.int (2 : Int32)), .val (.int (1 : Int32)), .unset, .unset] [(.ref o0), (.int (0 : Int32)), (.ref b100), (.ref b100), (.ref o0)])) (fun t k => XS.aloadN X59.here hx rfl (hb hby d1_104) rfl rfl k) ?_
  have f65 := ((((((F32.other W40 (Or.inr (slot_ne (Or.inr (hw _ (List.mem_of_getElem? (i := 30) rfl))) (Or.inr (hw _ (List.mem_of_getElem? (i := 32) rfl))) (by decide) (t := .long) (t' := .long) (by decide) (by decide)))).ext E42).other W49 (Or.inl ne_o0_b79)).other W53 (Or.inl ne_o0_b79)).other W57 (Or.inr (slot_ne (Or.inr (hw _ (List.mem_of_getElem? (i := 30) rfl))) (Or.inr (hw _ (List.mem_of_getElem? (i := 35) rfl))) (by decide) (t := .long) (t' := (.array .int)) (by decide) (by decide)))).ext E59)
  obtain ⟨T66, X66, e66, st66⟩ := getF X59 hx hZ hown (host := "") (Or.inl (hw _ (List.mem_of_getElem? (i := 29) rfl))) Via.refl e59 f65 (g := (mkF m 105 #[.val (.ref o0), .val (.ref o1), .val (.int (0 : Int32)), .val (.int (1 : Int32)), .val (.int (2 : Int32)), .val (.int (1 : Int32)), .unset, .unset] [(.ref o0), (.int (0 : Int32)), (.ref b100), (.ref b100), (.ref o0)])) rfl rfl (hb hby d1_105)
  refine own_st (g' := (mkF m 108 #[.val (.ref o0), .val (.ref o1), .val (.int (0 : Int32)), .val (.int (1 : Int32)), .val (.int (2 : Int32)), .val (.int (1 : Int32)), .unset, .unset] [(.long (own_F5 (nar .char x0))), (.int (0 : Int32)), (.ref b100), (.ref b100), (.ref o0)])) (fun t k => st66 t k) ?_
  obtain ⟨T67, h67, X67, e67, W67, V67, st67⟩ := own_last X66 hx hZ e66 V59 (j := (0 : Int32)) ⟨by decide, by decide⟩ (g := (mkF m 108 #[.val (.ref o0), .val (.ref o1), .val (.int (0 : Int32)), .val (.int (1 : Int32)), .val (.int (2 : Int32)), .val (.int (1 : Int32)), .unset, .unset] [(.long (own_F5 (nar .char x0))), (.int (0 : Int32)), (.ref b100), (.ref b100), (.ref o0)])) rfl rfl (hb hby d1_108)
  replace V67 : own_Ar Z h67 b100 k59 .long (2 : Int32) Value.long (0 : Int64) [(own_F5 (nar .char x0)), (0 : Int64)] := V67
  have N67 := Fr.snoc X67 N57 g_b100
  have K68 : Keep h0 h67 [o0] := K64.wr W67 (Or.inr sz_b100)
  refine own_st (g' := (mkF m 109 #[.val (.ref o0), .val (.ref o1), .val (.int (0 : Int32)), .val (.int (1 : Int32)), .val (.int (2 : Int32)), .val (.int (1 : Int32)), .unset, .unset] [(.ref b100), (.ref o0)])) (fun t k => st67 t k) ?_
  refine own_st (g' := (mkF m 110 #[.val (.ref o0), .val (.ref o1), .val (.int (0 : Int32)), .val (.int (1 : Int32)), .val (.int (2 : Int32)), .val (.int (1 : Int32)), .unset, .unset] [(.ref b100), (.ref b100), (.ref o0)])) (fun t k => XS.dup X67.here hx rfl (hb hby d1_109) rfl rfl k) ?_
  refine own_st (g' := (mkF m 111 #[.val (.ref o0), .val (.ref o1), .val (.int (0 : Int32)), .val (.int (1 : Int32)), .val (.int (2 : Int32)), .val (.int (1 : Int32)), .unset, .unset] [(.int (1 : Int32)), (.ref b100), (.ref b100), (.ref o0)])) (fun t k => XS.iconst X67.here hx rfl (hb hby d1_110) k) ?_
  refine own_st (g' := (mkF m 112 #[.val (.ref o0), .val (.ref o1), .val (.int (0 : Int32)), .val (.int (1 : Int32)), .val (.int (2 : Int32)), .val (.int (1 : Int32)), .unset, .unset] [(.ref o0), (.int (1 : Int32)), (.ref b100), (.ref b100), (.ref o0)])) (fun t k => XS.aloadN X67.here hx rfl (hb hby d1_111) rfl rfl k) ?_
  have f69 := ((((((F40.ext E42).other W49 (Or.inl ne_o0_b79)).other W53 (Or.inl ne_o0_b79)).other W57 (Or.inr (slot_ne (Or.inr (hw _ (List.mem_of_getElem? (i := 32) rfl))) (Or.inr (hw _ (List.mem_of_getElem? (i := 35) rfl))) (by decide) (t := .long) (t' := (.array .int)) (by decide) (by decide)))).ext E59).other W67 (Or.inl ne_o0_b100))
  obtain ⟨T70, X70, e70, st70⟩ := getF X67 hx hZ hown (host := "") (Or.inl (hw _ (List.mem_of_getElem? (i := 31) rfl))) Via.refl e67 f69 (g := (mkF m 112 #[.val (.ref o0), .val (.ref o1), .val (.int (0 : Int32)), .val (.int (1 : Int32)), .val (.int (2 : Int32)), .val (.int (1 : Int32)), .unset, .unset] [(.ref o0), (.int (1 : Int32)), (.ref b100), (.ref b100), (.ref o0)])) rfl rfl (hb hby d1_112)
  refine own_st (g' := (mkF m 115 #[.val (.ref o0), .val (.ref o1), .val (.int (0 : Int32)), .val (.int (1 : Int32)), .val (.int (2 : Int32)), .val (.int (1 : Int32)), .unset, .unset] [(.long (own_F5 (nar .char x1))), (.int (1 : Int32)), (.ref b100), (.ref b100), (.ref o0)])) (fun t k => st70 t k) ?_
  obtain ⟨T71, h71, X71, e71, W71, V71, st71⟩ := own_last X70 hx hZ e70 V67 (j := (1 : Int32)) ⟨by decide, by decide⟩ (g := (mkF m 115 #[.val (.ref o0), .val (.ref o1), .val (.int (0 : Int32)), .val (.int (1 : Int32)), .val (.int (2 : Int32)), .val (.int (1 : Int32)), .unset, .unset] [(.long (own_F5 (nar .char x1))), (.int (1 : Int32)), (.ref b100), (.ref b100), (.ref o0)])) rfl rfl (hb hby d1_115)
  replace V71 : own_Ar Z h71 b100 k59 .long (2 : Int32) Value.long (0 : Int64) [(own_F5 (nar .char x0)), (own_F5 (nar .char x1))] := V71
  have N71 := Fr.snoc X71 N67 g_b100
  have K72 : Keep h0 h71 [o0] := K68.wr W71 (Or.inr sz_b100)
  refine own_st (g' := (mkF m 116 #[.val (.ref o0), .val (.ref o1), .val (.int (0 : Int32)), .val (.int (1 : Int32)), .val (.int (2 : Int32)), .val (.int (1 : Int32)), .unset, .unset] [(.ref b100), (.ref o0)])) (fun t k => st71 t k) ?_
  have f73 := (((f61.ext E59).wr W67).wr W71)
  have f74 := (((((((((((((G8.other W4 (Or.inr (slot_ne (Or.inr (hw _ (List.mem_of_getElem? (i := 38) rfl))) (Or.inr (hw _ (List.mem_of_getElem? (i := 15) rfl))) (by decide) (t := (.array .long)) (t' := .int) (by decide) (by decide)))).other W10 (Or.inr (slot_ne (Or.inr (hw _ (List.mem_of_getElem? (i := 38) rfl))) (Or.inr (hw _ (List.mem_of_getElem? (i := 20) rfl))) (by decide) (t := (.array .long)) (t' := .int) (by decide) (by decide)))).other W17 (Or.inr (slot_ne (Or.inr (hw _ (List.mem_of_getElem? (i := 38) rfl))) (Or.inr (hw _ (List.mem_of_getElem? (i := 22) rfl))) (by decide) (t := (.array .long)) (t' := .char) (by decide) (by decide)))).other W24 (Or.inr (slot_ne (Or.inr (hw _ (List.mem_of_getElem? (i := 38) rfl))) (Or.inr (hw _ (List.mem_of_getElem? (i := 24) rfl))) (by decide) (t := (.array .long)) (t' := .char) (by decide) (by decide)))).other W32 (Or.inr (slot_ne (Or.inr (hw _ (List.mem_of_getElem? (i := 38) rfl))) (Or.inr (hw _ (List.mem_of_getElem? (i := 30) rfl))) (by decide) (t := (.array .long)) (t' := .long) (by decide) (by decide)))).other W40 (Or.inr (slot_ne (Or.inr (hw _ (List.mem_of_getElem? (i := 38) rfl))) (Or.inr (hw _ (List.mem_of_getElem? (i := 32) rfl))) (by decide) (t := (.array .long)) (t' := .long) (by decide) (by decide)))).ext E42).other W49 (Or.inl ne_o0_b79)).other W53 (Or.inl ne_o0_b79)).other W57 (Or.inr (slot_ne (Or.inr (hw _ (List.mem_of_getElem? (i := 38) rfl))) (Or.inr (hw _ (List.mem_of_getElem? (i := 35) rfl))) (by decide) (t := (.array .long)) (t' := (.array .int)) (by decide) (by decide)))).ext E59).other W67 (Or.inl ne_o0_b100)).other W71 (Or.inl ne_o0_b100))
  obtain ⟨T75, h75, X75, e75, W75, st75⟩ := putF X71 hx hZ hown (host := "") (Or.inl (hw _ (List.mem_of_getElem? (i := 37) rfl))) Via.refl e71 f74 f73 (Or.inr ⟨(hw _ (List.mem_of_getElem? (i := 38) rfl)), rfl, hnm⟩) (hw _ (List.mem_of_getElem? (i := 2) rfl)) (ty := (.array .long)) (by decide) rfl rfl (g := (mkF m 116 #[.val (.ref o0), .val (.ref o1), .val (.int (0 : Int32)), .val (.int (1 : Int32)), .val (.int (2 : Int32)), .val (.int (1 : Int32)), .unset, .unset] [(.ref b100), (.ref o0)])) rfl rfl (hb hby d1_116)
  have F75 := f74.same W75
  have N75 := Fr.snoc X75 N71 g_o0
  have K76 : Keep h0 h75 [o0] := K72.wr W75 (Or.inl (List.mem_of_getElem? (i := 0) rfl))
  refine own_st (g' := (mkF m 119 #[.val (.ref o0), .val (.ref o1), .val (.int (0 : Int32)), .val (.int (1 : Int32)), .val (.int (2 : Int32)), .val (.int (1 : Int32)), .unset, .unset] [])) (fun t k => st75 t k) ?_
  refine own_st (g' := (mkF m 121 #[.val (.ref o0), .val (.ref o1), .val (.int (0 : Int32)), .val (.int (1 : Int32)), .val (.int (2 : Int32)), .val (.int (1 : Int32)), .unset, .unset] [(.int (2 : Int32))])) (fun t k => XS.iload X75.here hx rfl (hb hby d1_119) rfl  k) ?_
  have hc121_77 : ¬ ((2 : Int32) < (0 : Int32)) := by decide
  refine own_st (g' := (mkF m 124 #[.val (.ref o0), .val (.ref o1), .val (.int (0 : Int32)), .val (.int (1 : Int32)), .val (.int (2 : Int32)), .val (.int (1 : Int32)), .unset, .unset] [])) (fun t k => XS.ifNo X75.here hx rfl (hb hby d1_121) rfl ((if0 _ _).trans (flt hc121_77).1) k) ?_
  refine own_st (g' := (mkF m 125 #[.val (.ref o0), .val (.ref o1), .val (.int (0 : Int32)), .val (.int (1 : Int32)), .val (.int (2 : Int32)), .val (.int (1 : Int32)), .unset, .unset] [(.int (3 : Int32))])) (fun t k => XS.iconst X75.here hx rfl (hb hby d1_124) k) ?_
  obtain ⟨T78, h78, k78, X78, e78, E78, A78, st78⟩ := newP X75 hx hZ (hw _ (List.mem_of_getElem? (i := 33) rfl)) e75 (g := (mkF m 125 #[.val (.ref o0), .val (.ref o1), .val (.int (0 : Int32)), .val (.int (1 : Int32)), .val (.int (2 : Int32)), .val (.int (1 : Int32)), .unset, .unset] [(.int (3 : Int32))])) rfl (hb hby d1_125) rfl (by decide) (cap := 3) (by decide) (by decide) (by decide) (by decide)
  obtain ⟨b125, gg78⟩ : ∃ q, q = h75.size := ⟨_, rfl⟩
  rw [← gg78] at A78 st78
  have Z79 : n0 ≤ h75.size := (Nat.le_trans (Nat.le_trans (Nat.le_trans (Nat.le_trans Z60 E59.1) (Nat.le_of_eq W67.size.symm)) (Nat.le_of_eq W71.size.symm)) (Nat.le_of_eq W75.size.symm))
  have g_b125 : n0 ≤ b125 := Nat.le_trans Z79 (Nat.le_of_eq gg78.symm)
  have sz_b125 : h0.size ≤ b125 := Nat.le_trans K76.1 (Nat.le_of_eq gg78.symm)
  have f80 := (f73.wr W75)
  have ne_o0_b125 : o0 ≠ b125 := Nat.ne_of_lt (Nat.lt_of_lt_of_le f80.lt (Nat.le_of_eq gg78.symm))
  have f81 := ((((f62.ext E59).other W67 ne_o1_b100).other W71 ne_o1_b100).other W75 ne_o1_o0)
  have ne_o1_b125 : o1 ≠ b125 := Nat.ne_of_lt (Nat.lt_of_lt_of_le f81.lt (Nat.le_of_eq gg78.symm))
  have f82 := ((((f63.ext E59).other W67 ne_b79_b100).other W71 ne_b79_b100).other W75 (Ne.symm ne_o0_b79))
  have ne_b79_b125 : b79 ≠ b125 := Nat.ne_of_lt (Nat.lt_of_lt_of_le f82.lt (Nat.le_of_eq gg78.symm))
  have f83 := (V71.other W75 (Ne.symm ne_o0_b100))
  have ne_b100_b125 : b100 ≠ b125 := Nat.ne_of_lt (Nat.lt_of_lt_of_le f83.lt (Nat.le_of_eq gg78.symm))
  have K84 : Keep h0 h78 [o0] := K76.ext E78
  have V78 : own_Ar Z h78 b125 k78 .int (3 : Int32) Value.int (0 : Int32) [(0 : Int32), (0 : Int32), (0 : Int32)] := own_Ar.new A78 (by decide) rfl
  refine own_st (g' := (mkF m 127 #[.val (.ref o0), .val (.ref o1), .val (.int (0 : Int32)), .val (.int (1 : Int32)), .val (.int (2 : Int32)), .val (.int (1 : Int32)), .unset, .unset] [(.ref b125)])) (fun t k => st78 t k) ?_
  refine own_st (g' := (mkF m 128 #[.val (.ref o0), .val (.ref o1), .val (.int (0 : Int32)), .val (.int (1 : Int32)), .val (.int (2 : Int32)), .val (.int (1 : Int32)), .unset, .unset] [(.ref b125), (.ref b125)])) (fun t k => XS.dup X78.here hx rfl (hb hby d1_127) rfl rfl k) ?_
  refine own_st (g' := (mkF m 129 #[.val (.ref o0), .val (.ref o1), .val (.int (0 : Int32)), .val (.int (1 : Int32)), .val (.int (2 : Int32)), .val (.int (1 : Int32)), .unset, .unset] [(.int (0 : Int32)), (.ref b125), (.ref b125)])) (fun t k => XS.iconst X78.here hx rfl (hb hby d1_128) k) ?_
  refine own_st (g' := (mkF m 130 #[.val (.ref o0), .val (.ref o1), .val (.int (0 : Int32)), .val (.int (1 : Int32)), .val (.int (2 : Int32)), .val (.int (1 : Int32)), .unset, .unset] [(.int (0 : Int32)), (.int (0 : Int32)), (.ref b125), (.ref b125)])) (fun t k => XS.iloadN X78.here hx rfl (hb hby d1_129) rfl  k) ?_
  obtain ⟨T85, h85, X85, e85, W85, V85, st85⟩ := own_iast X78 hx hZ e78 V78 (j := (0 : Int32)) ⟨by decide, by decide⟩ (g := (mkF m 130 #[.val (.ref o0), .val (.ref o1), .val (.int (0 : Int32)), .val (.int (1 : Int32)), .val (.int (2 : Int32)), .val (.int (1 : Int32)), .unset, .unset] [(.int (0 : Int32)), (.int (0 : Int32)), (.ref b125), (.ref b125)])) rfl rfl (hb hby d1_130)
  replace V85 : own_Ar Z h85 b125 k78 .int (3 : Int32) Value.int (0 : Int32) [(0 : Int32), (0 : Int32), (0 : Int32)] := V85
  have N85 := Fr.snoc X85 N75 g_b125
  have K86 : Keep h0 h85 [o0] := K84.wr W85 (Or.inr sz_b125)
  refine own_st (g' := (mkF m 131 #[.val (.ref o0), .val (.ref o1), .val (.int (0 : Int32)), .val (.int (1 : Int32)), .val (.int (2 : Int32)), .val (.int (1 : Int32)), .unset, .unset] [(.ref b125)])) (fun t k => st85 t k) ?_
  refine own_st (g' := (mkF m 132 #[.val (.ref o0), .val (.ref o1), .val (.int (0 : Int32)), .val (.int (1 : Int32)), .val (.int (2 : Int32)), .val (.int (1 : Int32)), .unset, .unset] [(.ref b125), (.ref b125)])) (fun t k => XS.dup X85.here hx rfl (hb hby d1_131) rfl rfl k) ?_
  refine own_st (g' := (mkF m 133 #[.val (.ref o0), .val (.ref o1), .val (.int (0 : Int32)), .val (.int (1 : Int32)), .val (.int (2 : Int32)), .val (.int (1 : Int32)), .unset, .unset] [(.int (1 : Int32)), (.ref b125), (.ref b125)])) (fun t k => XS.iconst X85.here hx rfl (hb hby d1_132) k) ?_
  refine own_st (g' := (mkF m 134 #[.val (.ref o0), .val (.ref o1), .val (.int (0 : Int32)), .val (.int (1 : Int32)), .val (.int (2 : Int32)), .val (.int (1 : Int32)), .unset, .unset] [(.int (1 : Int32)), (.int (1 : Int32)), (.ref b125), (.ref b125)])) (fun t k => XS.iloadN X85.here hx rfl (hb hby d1_133) rfl  k) ?_
  obtain ⟨T87, h87, X87, e87, W87, V87, st87⟩ := own_iast X85 hx hZ e85 V85 (j := (1 : Int32)) ⟨by decide, by decide⟩ (g := (mkF m 134 #[.val (.ref o0), .val (.ref o1), .val (.int (0 : Int32)), .val (.int (1 : Int32)), .val (.int (2 : Int32)), .val (.int (1 : Int32)), .unset, .unset] [(.int (1 : Int32)), (.int (1 : Int32)), (.ref b125), (.ref b125)])) rfl rfl (hb hby d1_134)
  replace V87 : own_Ar Z h87 b125 k78 .int (3 : Int32) Value.int (0 : Int32) [(0 : Int32), (1 : Int32), (0 : Int32)] := V87
  have N87 := Fr.snoc X87 N85 g_b125
  have K88 : Keep h0 h87 [o0] := K86.wr W87 (Or.inr sz_b125)
  refine own_st (g' := (mkF m 135 #[.val (.ref o0), .val (.ref o1), .val (.int (0 : Int32)), .val (.int (1 : Int32)), .val (.int (2 : Int32)), .val (.int (1 : Int32)), .unset, .unset] [(.ref b125)])) (fun t k => st87 t k) ?_
  refine own_st (g' := (mkF m 136 #[.val (.ref o0), .val (.ref o1), .val (.int (0 : Int32)), .val (.int (1 : Int32)), .val (.int (2 : Int32)), .val (.int (1 : Int32)), .unset, .unset] [(.ref b125), (.ref b125)])) (fun t k => XS.dup X87.here hx rfl (hb hby d1_135) rfl rfl k) ?_
  refine own_st (g' := (mkF m 137 #[.val (.ref o0), .val (.ref o1), .val (.int (0 : Int32)), .val (.int (1 : Int32)), .val (.int (2 : Int32)), .val (.int (1 : Int32)), .unset, .unset] [(.int (2 : Int32)), (.ref b125), (.ref b125)])) (fun t k => XS.iconst X87.here hx rfl (hb hby d1_136) k) ?_
  refine own_st (g' := (mkF m 139 #[.val (.ref o0), .val (.ref o1), .val (.int (0 : Int32)), .val (.int (1 : Int32)), .val (.int (2 : Int32)), .val (.int (1 : Int32)), .unset, .unset] [(.int (2 : Int32)), (.int (2 : Int32)), (.ref b125), (.ref b125)])) (fun t k => XS.iload X87.here hx rfl (hb hby d1_137) rfl  k) ?_
  obtain ⟨T89, h89, X89, e89, W89, V89, st89⟩ := own_iast X87 hx hZ e87 V87 (j := (2 : Int32)) ⟨by decide, by decide⟩ (g := (mkF m 139 #[.val (.ref o0), .val (.ref o1), .val (.int (0 : Int32)), .val (.int (1 : Int32)), .val (.int (2 : Int32)), .val (.int (1 : Int32)), .unset, .unset] [(.int (2 : Int32)), (.int (2 : Int32)), (.ref b125), (.ref b125)])) rfl rfl (hb hby d1_139)
  replace V89 : own_Ar Z h89 b125 k78 .int (3 : Int32) Value.int (0 : Int32) [(0 : Int32), (1 : Int32), (2 : Int32)] := V89
  have N89 := Fr.snoc X89 N87 g_b125
  have K90 : Keep h0 h89 [o0] := K88.wr W89 (Or.inr sz_b125)
  refine own_st (g' := (mkF m 140 #[.val (.ref o0), .val (.ref o1), .val (.int (0 : Int32)), .val (.int (1 : Int32)), .val (.int (2 : Int32)), .val (.int (1 : Int32)), .unset, .unset] [(.ref b125)])) (fun t k => st89 t k) ?_
  refine own_st (g' := (mkF m 142 #[.val (.ref o0), .val (.ref o1), .val (.int (0 : Int32)), .val (.int (1 : Int32)), .val (.int (2 : Int32)), .val (.int (1 : Int32)), .val (.ref b125), .unset] [])) (fun t k => XS.astore X89.here hx rfl (hb hby d1_140) rfl rfl (l' := #[.val (.ref o0), .val (.ref o1), .val (.int (0 : Int32)), .val (.int (1 : Int32)), .val (.int (2 : Int32)), .val (.int (1 : Int32)), .val (.ref b125), .unset]) rfl k) ?_
  refine own_st (g' := (mkF m 144 #[.val (.ref o0), .val (.ref o1), .val (.int (0 : Int32)), .val (.int (1 : Int32)), .val (.int (2 : Int32)), .val (.int (1 : Int32)), .val (.ref b125), .unset] [(.ref b125)])) (fun t k => XS.aload X89.here hx rfl (hb hby d1_142) rfl rfl k) ?_
  have Z92 : n0 ≤ h89.size := (Nat.le_trans (Nat.le_trans (Nat.le_trans (Nat.le_trans Z79 E78.1) (Nat.le_of_eq W85.size.symm)) (Nat.le_of_eq W87.size.symm)) (Nat.le_of_eq W89.size.symm))
  obtain ⟨_, _, ⟨T91, L91, k91, n91⟩, -, X91, ⟨Lc91, hQ91, l91, y91, z91⟩, st91⟩ := Jvm.LawKit.callS X89 hx (y := (⟨"java/util/Arrays", "sort", "([I)V"⟩ : MethodName)) hown (mvT hZ (hw _ (List.mem_of_getElem? (i := 39) rfl))) (mvT hZ (hw _ (List.mem_of_getElem? (i := 40) rfl))) (mvT hZ (hw _ (List.mem_of_getElem? (i := 41) rfl))) (mvT hZ (hw _ (List.mem_of_getElem? (i := 42) rfl))) (by decide) (backOf (W := 0) (rm6 l Z a0 hw [] b125 k78 h89 n0 Z92 V89   ) hZ (hw _ (List.mem_of_getElem? (i := 42) rfl)) (hw _ (List.mem_of_getElem? (i := 41) rfl)) (by decide) (by decide)) (g := (mkF m 144 #[.val (.ref o0), .val (.ref o1), .val (.int (0 : Int32)), .val (.int (1 : Int32)), .val (.int (2 : Int32)), .val (.int (1 : Int32)), .val (.ref b125), .unset] [(.ref b125)])) rfl (by rw [hml]; rfl) (argsL := [(.ref b125)]) (rest := []) (lenOf pd_1_5 rfl) rfl (by show 2 * 0 + _ ≤ _; exact Nat.le_of_eq rfl) (hb hby d1_144) (fun _ _ => ⟨rfl, e89, (by decide : 3 + 0 ≤ _), (by decide : 7 + 0 ≤ _)⟩)
  dsimp only [Pt.U, Pt.locs, Pt.cells, Pt.slots] at X91 l91 y91 z91 st91 hQ91
  subst y91 z91
  obtain ⟨rfl, N91q, K91⟩ := hQ91
  have N91 : Fr n0 L91 := by rw [l91]; exact Fr.app N89 N91q
  have K93 : Keep h0 T91.heap [o0] := K90.trans K91 all0
  refine own_st (g' := (mkF m 147 #[.val (.ref o0), .val (.ref o1), .val (.int (0 : Int32)), .val (.int (1 : Int32)), .val (.int (2 : Int32)), .val (.int (1 : Int32)), .val (.ref b125), .unset] [])) (fun t k => st91 t k) ?_
  refine own_st (g' := (mkF m 148 #[.val (.ref o0), .val (.ref o1), .val (.int (0 : Int32)), .val (.int (1 : Int32)), .val (.int (2 : Int32)), .val (.int (1 : Int32)), .val (.ref b125), .unset] [(.ref o0)])) (fun t k => XS.aloadN X91.here hx rfl (hb hby d1_147) rfl rfl k) ?_
  refine own_st (g' := (mkF m 150 #[.val (.ref o0), .val (.ref o1), .val (.int (0 : Int32)), .val (.int (1 : Int32)), .val (.int (2 : Int32)), .val (.int (1 : Int32)), .val (.ref b125), .unset] [(.ref b125), (.ref o0)])) (fun t k => XS.aload X91.here hx rfl (hb hby d1_148) rfl rfl k) ?_
  have f94 := (((((f80.ext E78).wr W85).wr W87).wr W89).keep K91)
  have f95 := (((((((((((((((((((G9.other W4 (Or.inr (slot_ne (Or.inr (hw _ (List.mem_of_getElem? (i := 54) rfl))) (Or.inr (hw _ (List.mem_of_getElem? (i := 15) rfl))) (by decide) (t := (.array .int)) (t' := .int) (by decide) (by decide)))).other W10 (Or.inr (slot_ne (Or.inr (hw _ (List.mem_of_getElem? (i := 54) rfl))) (Or.inr (hw _ (List.mem_of_getElem? (i := 20) rfl))) (by decide) (t := (.array .int)) (t' := .int) (by decide) (by decide)))).other W17 (Or.inr (slot_ne (Or.inr (hw _ (List.mem_of_getElem? (i := 54) rfl))) (Or.inr (hw _ (List.mem_of_getElem? (i := 22) rfl))) (by decide) (t := (.array .int)) (t' := .char) (by decide) (by decide)))).other W24 (Or.inr (slot_ne (Or.inr (hw _ (List.mem_of_getElem? (i := 54) rfl))) (Or.inr (hw _ (List.mem_of_getElem? (i := 24) rfl))) (by decide) (t := (.array .int)) (t' := .char) (by decide) (by decide)))).other W32 (Or.inr (slot_ne (Or.inr (hw _ (List.mem_of_getElem? (i := 54) rfl))) (Or.inr (hw _ (List.mem_of_getElem? (i := 30) rfl))) (by decide) (t := (.array .int)) (t' := .long) (by decide) (by decide)))).other W40 (Or.inr (slot_ne (Or.inr (hw _ (List.mem_of_getElem? (i := 54) rfl))) (Or.inr (hw _ (List.mem_of_getElem? (i := 32) rfl))) (by decide) (t := (.array .int)) (t' := .long) (by decide) (by decide)))).ext E42).other W49 (Or.inl ne_o0_b79)).other W53 (Or.inl ne_o0_b79)).other W57 (Or.inr (slot_ne (Or.inr (hw _ (List.mem_of_getElem? (i := 54) rfl))) (Or.inr (hw _ (List.mem_of_getElem? (i := 35) rfl))) (by decide) (t := (.array .int)) (t' := (.array .int)) (by decide) (by decide)))).ext E59).other W67 (Or.inl ne_o0_b100)).other W71 (Or.inl ne_o0_b100)).other W75 (Or.inr (slot_ne (Or.inr (hw _ (List.mem_of_getElem? (i := 54) rfl))) (Or.inr (hw _ (List.mem_of_getElem? (i := 38) rfl))) (by decide) (t := (.array .int)) (t' := (.array .long)) (by decide) (by decide)))).ext E78).other W85 (Or.inl ne_o0_b125)).other W87 (Or.inl ne_o0_b125)).other W89 (Or.inl ne_o0_b125)).keep K91 nin0)
  obtain ⟨T96, h96, X96, e96, W96, st96⟩ := putF X91 hx hZ hown (host := "") (Or.inl (hw _ (List.mem_of_getElem? (i := 53) rfl))) Via.refl (rfl : T91.heap = T91.heap) f95 f94 (Or.inr ⟨(hw _ (List.mem_of_getElem? (i := 54) rfl)), rfl, hnm⟩) (hw _ (List.mem_of_getElem? (i := 2) rfl)) (ty := (.array .int)) (by decide) rfl rfl (g := (mkF m 150 #[.val (.ref o0), .val (.ref o1), .val (.int (0 : Int32)), .val (.int (1 : Int32)), .val (.int (2 : Int32)), .val (.int (1 : Int32)), .val (.ref b125), .unset] [(.ref b125), (.ref o0)])) rfl rfl (hb hby d1_150)
  have F96 := f95.same W96
  have N96 := Fr.snoc X96 N91 g_o0
  have K97 : Keep h0 h96 [o0] := K93.wr W96 (Or.inl (List.mem_of_getElem? (i := 0) rfl))
  refine own_st (g' := (mkF m 153 #[.val (.ref o0), .val (.ref o1), .val (.int (0 : Int32)), .val (.int (1 : Int32)), .val (.int (2 : Int32)), .val (.int (1 : Int32)), .val (.ref b125), .unset] [])) (fun t k => st96 t k) ?_
  refine own_st (g' := (mkF m 154 #[.val (.ref o0), .val (.ref o1), .val (.int (0 : Int32)), .val (.int (1 : Int32)), .val (.int (2 : Int32)), .val (.int (1 : Int32)), .val (.ref b125), .unset] [(.ref o0)])) (fun t k => XS.aloadN X96.here hx rfl (hb hby d1_153) rfl rfl k) ?_
  refine own_st (g' := (mkF m 156 #[.val (.ref o0), .val (.ref o1), .val (.int (0 : Int32)), .val (.int (1 : Int32)), .val (.int (2 : Int32)), .val (.int (1 : Int32)), .val (.ref b125), .unset] [(.ref b125), (.ref o0)])) (fun t k => XS.aload X96.here hx rfl (hb hby d1_154) rfl rfl k) ?_
  have f98 := ((V89.keep K91 nin0).other W96 (Ne.symm ne_o0_b125))
  refine own_st (g' := (mkF m 157 #[.val (.ref o0), .val (.ref o1), .val (.int (0 : Int32)), .val (.int (1 : Int32)), .val (.int (2 : Int32)), .val (.int (1 : Int32)), .val (.ref b125), .unset] [(.int (3 : Int32)), (.ref o0)])) (fun t k => own_alen X96 hx hZ e96 f98 (g := (mkF m 156 #[.val (.ref o0), .val (.ref o1), .val (.int (0 : Int32)), .val (.int (1 : Int32)), .val (.int (2 : Int32)), .val (.int (1 : Int32)), .val (.ref b125), .unset] [(.ref b125), (.ref o0)])) rfl rfl (hb hby d1_156) t k) ?_
  obtain ⟨T99, h99, k99, X99, e99, E99, A99, st99⟩ := newP X96 hx hZ (hw _ (List.mem_of_getElem? (i := 36) rfl)) e96 (g := (mkF m 157 #[.val (.ref o0), .val (.ref o1), .val (.int (0 : Int32)), .val (.int (1 : Int32)), .val (.int (2 : Int32)), .val (.int (1 : Int32)), .val (.ref b125), .unset] [(.int (3 : Int32)), (.ref o0)])) rfl (hb hby d1_157) rfl (by decide) (cap := 3) (by decide) (by decide) (by decide) (by decide)
  obtain ⟨b157, gg99⟩ : ∃ q, q = h96.size := ⟨_, rfl⟩
  rw [← gg99] at A99 st99
  have Z100 : n0 ≤ h96.size := (Nat.le_trans (Nat.le_trans Z92 K91.1) (Nat.le_of_eq W96.size.symm))
  have g_b157 : n0 ≤ b157 := Nat.le_trans Z100 (Nat.le_of_eq gg99.symm)
  have sz_b157 : h0.size ≤ b157 := Nat.le_trans K97.1 (Nat.le_of_eq gg99.symm)
  have f101 := (f94.wr W96)
  have ne_o0_b157 : o0 ≠ b157 := Nat.ne_of_lt (Nat.lt_of_lt_of_le f101.lt (Nat.le_of_eq gg99.symm))
  have f102 := ((((((f81.ext E78).other W85 ne_o1_b125).other W87 ne_o1_b125).other W89 ne_o1_b125).keep K91 nin0).other W96 ne_o1_o0)
  have ne_o1_b157 : o1 ≠ b157 := Nat.ne_of_lt (Nat.lt_of_lt_of_le f102.lt (Nat.le_of_eq gg99.symm))
  have f103 := ((((((f82.ext E78).other W85 ne_b79_b125).other W87 ne_b79_b125).other W89 ne_b79_b125).keep K91 nin0).other W96 (Ne.symm ne_o0_b79))
  have ne_b79_b157 : b79 ≠ b157 := Nat.ne_of_lt (Nat.lt_of_lt_of_le f103.lt (Nat.le_of_eq gg99.symm))
  have f104 := ((((((f83.ext E78).other W85 ne_b100_b125).other W87 ne_b100_b125).other W89 ne_b100_b125).keep K91 nin0).other W96 (Ne.symm ne_o0_b100))
  have ne_b100_b157 : b100 ≠ b157 := Nat.ne_of_lt (Nat.lt_of_lt_of_le f104.lt (Nat.le_of_eq gg99.symm))
  have ne_b125_b157 : b125 ≠ b157 := Nat.ne_of_lt (Nat.lt_of_lt_of_le f98.lt (Nat.le_of_eq gg99.symm))
  have K105 : Keep h0 h99 [o0] := K97.ext E99
  have V99 : own_Ar Z h99 b157 k99 .long (3 : Int32) Value.long (0 : Int64) [(0 : Int64), (0 : Int64), (0 : Int64)] := own_Ar.new A99 (by decide) rfl
  refine own_st (g' := (mkF m 159 #[.val (.ref o0), .val (.ref o1), .val (.int (0 : Int32)), .val (.int (1 : Int32)), .val (.int (2 : Int32)), .val (.int (1 : Int32)), .val (.ref b125), .unset] [(.ref b157), (.ref o0)])) (fun t k => st99 t k) ?_
  have f106 := (f101.ext E99)
  have f107 := (((((((((((((((((((((G10.other W4 (Or.inr (slot_ne (Or.inr (hw _ (List.mem_of_getElem? (i := 56) rfl))) (Or.inr (hw _ (List.mem_of_getElem? (i := 15) rfl))) (by decide) (t := (.array .long)) (t' := .int) (by decide) (by decide)))).other W10 (Or.inr (slot_ne (Or.inr (hw _ (List.mem_of_getElem? (i := 56) rfl))) (Or.inr (hw _ (List.mem_of_getElem? (i := 20) rfl))) (by decide) (t := (.array .long)) (t' := .int) (by decide) (by decide)))).other W17 (Or.inr (slot_ne (Or.inr (hw _ (List.mem_of_getElem? (i := 56) rfl))) (Or.inr (hw _ (List.mem_of_getElem? (i := 22) rfl))) (by decide) (t := (.array .long)) (t' := .char) (by decide) (by decide)))).other W24 (Or.inr (slot_ne (Or.inr (hw _ (List.mem_of_getElem? (i := 56) rfl))) (Or.inr (hw _ (List.mem_of_getElem? (i := 24) rfl))) (by decide) (t := (.array .long)) (t' := .char) (by decide) (by decide)))).other W32 (Or.inr (slot_ne (Or.inr (hw _ (List.mem_of_getElem? (i := 56) rfl))) (Or.inr (hw _ (List.mem_of_getElem? (i := 30) rfl))) (by decide) (t := (.array .long)) (t' := .long) (by decide) (by decide)))).other W40 (Or.inr (slot_ne (Or.inr (hw _ (List.mem_of_getElem? (i := 56) rfl))) (Or.inr (hw _ (List.mem_of_getElem? (i := 32) rfl))) (by decide) (t := (.array .long)) (t' := .long) (by decide) (by decide)))).ext E42).other W49 (Or.inl ne_o0_b79)).other W53 (Or.inl ne_o0_b79)).other W57 (Or.inr (slot_ne (Or.inr (hw _ (List.mem_of_getElem? (i := 56) rfl))) (Or.inr (hw _ (List.mem_of_getElem? (i := 35) rfl))) (by decide) (t := (.array .long)) (t' := (.array .int)) (by decide) (by decide)))).ext E59).other W67 (Or.inl ne_o0_b100)).other W71 (Or.inl ne_o0_b100)).other W75 (Or.inr (slot_ne (Or.inr (hw _ (List.mem_of_getElem? (i := 56) rfl))) (Or.inr (hw _ (List.mem_of_getElem? (i := 38) rfl))) (by decide) (t := (.array .long)) (t' := (.array .long)) (by decide) (by decide)))).ext E78).other W85 (Or.inl ne_o0_b125)).other W87 (Or.inl ne_o0_b125)).other W89 (Or.inl ne_o0_b125)).keep K91 nin0).other W96 (Or.inr (slot_ne (Or.inr (hw _ (List.mem_of_getElem? (i := 56) rfl))) (Or.inr (hw _ (List.mem_of_getElem? (i := 54) rfl))) (by decide) (t := (.array .long)) (t' := (.array .int)) (by decide) (by decide)))).ext E99)
  obtain ⟨T108, h108, X108, e108, W108, st108⟩ := putF X99 hx hZ hown (host := "") (Or.inl (hw _ (List.mem_of_getElem? (i := 55) rfl))) Via.refl e99 f107 f106 (Or.inr ⟨(hw _ (List.mem_of_getElem? (i := 56) rfl)), rfl, hnm⟩) (hw _ (List.mem_of_getElem? (i := 2) rfl)) (ty := (.array .long)) (by decide) rfl rfl (g := (mkF m 159 #[.val (.ref o0), .val (.ref o1), .val (.int (0 : Int32)), .val (.int (1 : Int32)), .val (.int (2 : Int32)), .val (.int (1 : Int32)), .val (.ref b125), .unset] [(.ref b157), (.ref o0)])) rfl rfl (hb hby d1_159)
  have F108 := f107.same W108
  have N108 := Fr.snoc X108 N96 g_o0
  have K109 : Keep h0 h108 [o0] := K105.wr W108 (Or.inl (List.mem_of_getElem? (i := 0) rfl))
  refine own_st (g' := (mkF m 162 #[.val (.ref o0), .val (.ref o1), .val (.int (0 : Int32)), .val (.int (1 : Int32)), .val (.int (2 : Int32)), .val (.int (1 : Int32)), .val (.ref b125), .unset] [])) (fun t k => st108 t k) ?_
  refine own_st (g' := (mkF m 163 #[.val (.ref o0), .val (.ref o1), .val (.int (0 : Int32)), .val (.int (1 : Int32)), .val (.int (2 : Int32)), .val (.int (1 : Int32)), .val (.ref b125), .unset] [(.int (0 : Int32))])) (fun t k => XS.iconst X108.here hx rfl (hb hby d1_162) k) ?_
  refine own_st (g' := (mkF m 165 #[.val (.ref o0), .val (.ref o1), .val (.int (0 : Int32)), .val (.int (1 : Int32)), .val (.int (2 : Int32)), .val (.int (1 : Int32)), .val (.ref b125), .val (.int (0 : Int32))] [])) (fun t k => XS.istore X108.here hx rfl (hb hby d1_163) rfl (l' := #[.val (.ref o0), .val (.ref o1), .val (.int (0 : Int32)), .val (.int (1 : Int32)), .val (.int (2 : Int32)), .val (.int (1 : Int32)), .val (.ref b125), .val (.int (0 : Int32))]) rfl k) ?_
  refine own_st (g' := (mkF m 167 #[.val (.ref o0), .val (.ref o1), .val (.int (0 : Int32)), .val (.int (1 : Int32)), .val (.int (2 : Int32)), .val (.int (1 : Int32)), .val (.ref b125), .val (.int (0 : Int32))] [(.int (0 : Int32))])) (fun t k => XS.iload X108.here hx rfl (hb hby d1_165) rfl  k) ?_
  refine own_st (g' := (mkF m 169 #[.val (.ref o0), .val (.ref o1), .val (.int (0 : Int32)), .val (.int (1 : Int32)), .val (.int (2 : Int32)), .val (.int (1 : Int32)), .val (.ref b125), .val (.int (0 : Int32))] [(.ref b125), (.int (0 : Int32))])) (fun t k => XS.aload X108.here hx rfl (hb hby d1_167) rfl rfl k) ?_
  have f110 := ((f98.ext E99).other W108 (Ne.symm ne_o0_b125))
  refine own_st (g' := (mkF m 170 #[.val (.ref o0), .val (.ref o1), .val (.int (0 : Int32)), .val (.int (1 : Int32)), .val (.int (2 : Int32)), .val (.int (1 : Int32)), .val (.ref b125), .val (.int (0 : Int32))] [(.int (3 : Int32)), (.int (0 : Int32))])) (fun t k => own_alen X108 hx hZ e108 f110 (g := (mkF m 169 #[.val (.ref o0), .val (.ref o1), .val (.int (0 : Int32)), .val (.int (1 : Int32)), .val (.int (2 : Int32)), .val (.int (1 : Int32)), .val (.ref b125), .val (.int (0 : Int32))] [(.ref b125), (.int (0 : Int32))])) rfl rfl (hb hby d1_169) t k) ?_
  have hc170_111 : (0 : Int32) < (3 : Int32) := by decide
  refine own_st (g' := (mkF m 173 #[.val (.ref o0), .val (.ref o1), .val (.int (0 : Int32)), .val (.int (1 : Int32)), .val (.int (2 : Int32)), .val (.int (1 : Int32)), .val (.ref b125), .val (.int (0 : Int32))] [])) (fun t k => XS.icmpNo X108.here hx rfl (hb hby d1_170) rfl (tlt hc170_111).2.1 k) ?_
  refine own_st (g' := (mkF m 174 #[.val (.ref o0), .val (.ref o1), .val (.int (0 : Int32)), .val (.int (1 : Int32)), .val (.int (2 : Int32)), .val (.int (1 : Int32)), .val (.ref b125), .val (.int (0 : Int32))] [(.ref o0)])) (fun t k => XS.aloadN X108.here hx rfl (hb hby d1_173) rfl rfl k) ?_
  obtain ⟨T112, X112, e112, st112⟩ := getF X108 hx hZ hown (host := "") (Or.inl (hw _ (List.mem_of_getElem? (i := 55) rfl))) Via.refl e108 F108 (g := (mkF m 174 #[.val (.ref o0), .val (.ref o1), .val (.int (0 : Int32)), .val (.int (1 : Int32)), .val (.int (2 : Int32)), .val (.int (1 : Int32)), .val (.ref b125), .val (.int (0 : Int32))] [(.ref o0)])) rfl rfl (hb hby d1_174)
  refine own_st (g' := (mkF m 177 #[.val (.ref o0), .val (.ref o1), .val (.int (0 : Int32)), .val (.int (1 : Int32)), .val (.int (2 : Int32)), .val (.int (1 : Int32)), .val (.ref b125), .val (.int (0 : Int32))] [(.ref b157)])) (fun t k => st112 t k) ?_
  refine own_st (g' := (mkF m 179 #[.val (.ref o0), .val (.ref o1), .val (.int (0 : Int32)), .val (.int (1 : Int32)), .val (.int (2 : Int32)), .val (.int (1 : Int32)), .val (.ref b125), .val (.int (0 : Int32))] [(.int (0 : Int32)), (.ref b157)])) (fun t k => XS.iload X112.here hx rfl (hb hby d1_177) rfl  k) ?_
  refine own_st (g' := (mkF m 180 #[.val (.ref o0), .val (.ref o1), .val (.int (0 : Int32)), .val (.int (1 : Int32)), .val (.int (2 : Int32)), .val (.int (1 : Int32)), .val (.ref b125), .val (.int (0 : Int32))] [(.ref o1), (.int (0 : Int32)), (.ref b157)])) (fun t k => XS.aloadN X112.here hx rfl (hb hby d1_179) rfl rfl k) ?_
  refine own_st (g' := (mkF m 182 #[.val (.ref o0), .val (.ref o1), .val (.int (0 : Int32)), .val (.int (1 : Int32)), .val (.int (2 : Int32)), .val (.int (1 : Int32)), .val (.ref b125), .val (.int (0 : Int32))] [(.ref b125), (.ref o1), (.int (0 : Int32)), (.ref b157)])) (fun t k => XS.aload X112.here hx rfl (hb hby d1_180) rfl rfl k) ?_
  refine own_st (g' := (mkF m 184 #[.val (.ref o0), .val (.ref o1), .val (.int (0 : Int32)), .val (.int (1 : Int32)), .val (.int (2 : Int32)), .val (.int (1 : Int32)), .val (.ref b125), .val (.int (0 : Int32))] [(.int (0 : Int32)), (.ref b125), (.ref o1), (.int (0 : Int32)), (.ref b157)])) (fun t k => XS.iload X112.here hx rfl (hb hby d1_182) rfl  k) ?_
  refine own_st (g' := (mkF m 185 #[.val (.ref o0), .val (.ref o1), .val (.int (0 : Int32)), .val (.int (1 : Int32)), .val (.int (2 : Int32)), .val (.int (1 : Int32)), .val (.ref b125), .val (.int (0 : Int32))] [(.int (0 : Int32)), (.ref o1), (.int (0 : Int32)), (.ref b157)])) (fun t k => own_iald X112 hx hZ e112 f110 (j := (0 : Int32)) ⟨by decide, by decide⟩ (g := (mkF m 184 #[.val (.ref o0), .val (.ref o1), .val (.int (0 : Int32)), .val (.int (1 : Int32)), .val (.int (2 : Int32)), .val (.int (1 : Int32)), .val (.ref b125), .val (.int (0 : Int32))] [(.int (0 : Int32)), (.ref b125), (.ref o1), (.int (0 : Int32)), (.ref b157)])) rfl rfl (hb hby d1_184) t k) ?_
  have f113 := ((f102.ext E99).other W108 ne_o1_o0)
  refine own_st (g' := (mkF m 186 #[.val (.ref o0), .val (.ref o1), .val (.int (0 : Int32)), .val (.int (1 : Int32)), .val (.int (2 : Int32)), .val (.int (1 : Int32)), .val (.ref b125), .val (.int (0 : Int32))] [(.int x0), (.int (0 : Int32)), (.ref b157)])) (fun t k => own_cald X112 hx hZ e112 f113 (j := (0 : Int32)) ⟨by decide, by decide⟩ (g := (mkF m 185 #[.val (.ref o0), .val (.ref o1), .val (.int (0 : Int32)), .val (.int (1 : Int32)), .val (.int (2 : Int32)), .val (.int (1 : Int32)), .val (.ref b125), .val (.int (0 : Int32))] [(.int (0 : Int32)), (.ref o1), (.int (0 : Int32)), (.ref b157)])) rfl rfl (hb hby d1_185) t k) ?_
  have Z115 : n0 ≤ h108.size := (Nat.le_trans (Nat.le_trans Z100 E99.1) (Nat.le_of_eq W108.size.symm))
  obtain ⟨_, _, ⟨T114, L114, k114, n114⟩, -, X114, ⟨Lc114, hQ114, l114, y114, z114⟩, st114⟩ := Jvm.LawKit.callS X112 hx (y := (⟨"com/example/mudskipper/mudskipper/UnitPair", "lowBytes", "(C)J"⟩ : MethodName)) hown (mvT hZ (hw _ (List.mem_of_getElem? (i := 25) rfl))) (mvT hZ (hw _ (List.mem_of_getElem? (i := 26) rfl))) (mvT hZ (hw _ (List.mem_of_getElem? (i := 3) rfl))) (mvT hZ (hw _ (List.mem_of_getElem? (i := 27) rfl))) (by decide) (backOf (W := 2) (rm5 l Z a0 hw [] x0 h108 n0 Z115  ) hZ (hw _ (List.mem_of_getElem? (i := 27) rfl)) (hw _ (List.mem_of_getElem? (i := 3) rfl)) (by decide) (by decide)) (g := (mkF m 186 #[.val (.ref o0), .val (.ref o1), .val (.int (0 : Int32)), .val (.int (1 : Int32)), .val (.int (2 : Int32)), .val (.int (1 : Int32)), .val (.ref b125), .val (.int (0 : Int32))] [(.int x0), (.int (0 : Int32)), (.ref b157)])) rfl (by rw [hml]; rfl) (argsL := [(.int x0)]) (rest := [(.int (0 : Int32)), (.ref b157)]) (lenOf pd_1_4 rfl) rfl (by show 2 * 0 + _ ≤ _; exact Nat.le_of_eq rfl) (hb hby d1_186) (fun _ _ => ⟨rfl, e112, (by decide : 4 + 0 ≤ _), (by decide : 10 + 0 ≤ _)⟩)
  dsimp only [Pt.U, Pt.locs, Pt.cells, Pt.slots] at X114 l114 y114 z114 st114 hQ114
  subst y114 z114
  obtain ⟨rfl, N114q, e114⟩ := hQ114
  have N114 : Fr n0 L114 := by rw [l114]; exact Fr.app N108 N114q
  refine own_st (g' := (mkF m 189 #[.val (.ref o0), .val (.ref o1), .val (.int (0 : Int32)), .val (.int (1 : Int32)), .val (.int (2 : Int32)), .val (.int (1 : Int32)), .val (.ref b125), .val (.int (0 : Int32))] [(.long (own_F5 x0)), (.int (0 : Int32)), (.ref b157)])) (fun t k => st114 t k) ?_
  have f117 := (V99.other W108 (Ne.symm ne_o0_b157))
  obtain ⟨T116, h116, X116, e116, W116, V116, st116⟩ := own_last X114 hx hZ e114 f117 (j := (0 : Int32)) ⟨by decide, by decide⟩ (g := (mkF m 189 #[.val (.ref o0), .val (.ref o1), .val (.int (0 : Int32)), .val (.int (1 : Int32)), .val (.int (2 : Int32)), .val (.int (1 : Int32)), .val (.ref b125), .val (.int (0 : Int32))] [(.long (own_F5 x0)), (.int (0 : Int32)), (.ref b157)])) rfl rfl (hb hby d1_189)
  replace V116 : own_Ar Z h116 b157 k99 .long (3 : Int32) Value.long (0 : Int64) [(own_F5 x0), (0 : Int64), (0 : Int64)] := V116
  have N116 := Fr.snoc X116 N114 g_b157
  have K118 : Keep h0 h116 [o0] := K109.wr W116 (Or.inr sz_b157)
  refine own_st (g' := (mkF m 190 #[.val (.ref o0), .val (.ref o1), .val (.int (0 : Int32)), .val (.int (1 : Int32)), .val (.int (2 : Int32)), .val (.int (1 : Int32)), .val (.ref b125), .val (.int (0 : Int32))] [])) (fun t k => st116 t k) ?_
  refine own_st (g' := (mkF m 193 #[.val (.ref o0), .val (.ref o1), .val (.int (0 : Int32)), .val (.int (1 : Int32)), .val (.int (2 : Int32)), .val (.int (1 : Int32)), .val (.ref b125), .val (.int (1 : Int32))] [])) (fun t k => XS.iinc X116.here hx rfl (hb hby d1_190) rfl (l' := #[.val (.ref o0), .val (.ref o1), .val (.int (0 : Int32)), .val (.int (1 : Int32)), .val (.int (2 : Int32)), .val (.int (1 : Int32)), .val (.ref b125), .val (.int (1 : Int32))]) rfl k) ?_
  refine own_st (g' := (mkF m 165 #[.val (.ref o0), .val (.ref o1), .val (.int (0 : Int32)), .val (.int (1 : Int32)), .val (.int (2 : Int32)), .val (.int (1 : Int32)), .val (.ref b125), .val (.int (1 : Int32))] [])) (fun t k => XS.goto X116.here hx rfl (pc0 := 193) (pc' := 165) rfl (hb hby d1_193) (by decide) (by decide) k) ?_
  refine own_st (g' := (mkF m 167 #[.val (.ref o0), .val (.ref o1), .val (.int (0 : Int32)), .val (.int (1 : Int32)), .val (.int (2 : Int32)), .val (.int (1 : Int32)), .val (.ref b125), .val (.int (1 : Int32))] [(.int (1 : Int32))])) (fun t k => XS.iload X116.here hx rfl (hb hby d1_165) rfl  k) ?_
  refine own_st (g' := (mkF m 169 #[.val (.ref o0), .val (.ref o1), .val (.int (0 : Int32)), .val (.int (1 : Int32)), .val (.int (2 : Int32)), .val (.int (1 : Int32)), .val (.ref b125), .val (.int (1 : Int32))] [(.ref b125), (.int (1 : Int32))])) (fun t k => XS.aload X116.here hx rfl (hb hby d1_167) rfl rfl k) ?_
  have f119 := (f110.other W116 ne_b125_b157)
  refine own_st (g' := (mkF m 170 #[.val (.ref o0), .val (.ref o1), .val (.int (0 : Int32)), .val (.int (1 : Int32)), .val (.int (2 : Int32)), .val (.int (1 : Int32)), .val (.ref b125), .val (.int (1 : Int32))] [(.int (3 : Int32)), (.int (1 : Int32))])) (fun t k => own_alen X116 hx hZ e116 f119 (g := (mkF m 169 #[.val (.ref o0), .val (.ref o1), .val (.int (0 : Int32)), .val (.int (1 : Int32)), .val (.int (2 : Int32)), .val (.int (1 : Int32)), .val (.ref b125), .val (.int (1 : Int32))] [(.ref b125), (.int (1 : Int32))])) rfl rfl (hb hby d1_169) t k) ?_
  have hc170_120 : (1 : Int32) < (3 : Int32) := by decide
  refine own_st (g' := (mkF m 173 #[.val (.ref o0), .val (.ref o1), .val (.int (0 : Int32)), .val (.int (1 : Int32)), .val (.int (2 : Int32)), .val (.int (1 : Int32)), .val (.ref b125), .val (.int (1 : Int32))] [])) (fun t k => XS.icmpNo X116.here hx rfl (hb hby d1_170) rfl (tlt hc170_120).2.1 k) ?_
  refine own_st (g' := (mkF m 174 #[.val (.ref o0), .val (.ref o1), .val (.int (0 : Int32)), .val (.int (1 : Int32)), .val (.int (2 : Int32)), .val (.int (1 : Int32)), .val (.ref b125), .val (.int (1 : Int32))] [(.ref o0)])) (fun t k => XS.aloadN X116.here hx rfl (hb hby d1_173) rfl rfl k) ?_
  have f121 := (F108.other W116 (Or.inl ne_o0_b157))
  obtain ⟨T122, X122, e122, st122⟩ := getF X116 hx hZ hown (host := "") (Or.inl (hw _ (List.mem_of_getElem? (i := 55) rfl))) Via.refl e116 f121 (g := (mkF m 174 #[.val (.ref o0), .val (.ref o1), .val (.int (0 : Int32)), .val (.int (1 : Int32)), .val (.int (2 : Int32)), .val (.int (1 : Int32)), .val (.ref b125), .val (.int (1 : Int32))] [(.ref o0)])) rfl rfl (hb hby d1_174)
  refine own_st (g' := (mkF m 177 #[.val (.ref o0), .val (.ref o1), .val (.int (0 : Int32)), .val (.int (1 : Int32)), .val (.int (2 : Int32)), .val (.int (1 : Int32)), .val (.ref b125), .val (.int (1 : Int32))] [(.ref b157)])) (fun t k => st122 t k) ?_
  refine own_st (g' := (mkF m 179 #[.val (.ref o0), .val (.ref o1), .val (.int (0 : Int32)), .val (.int (1 : Int32)), .val (.int (2 : Int32)), .val (.int (1 : Int32)), .val (.ref b125), .val (.int (1 : Int32))] [(.int (1 : Int32)), (.ref b157)])) (fun t k => XS.iload X122.here hx rfl (hb hby d1_177) rfl  k) ?_
  refine own_st (g' := (mkF m 180 #[.val (.ref o0), .val (.ref o1), .val (.int (0 : Int32)), .val (.int (1 : Int32)), .val (.int (2 : Int32)), .val (.int (1 : Int32)), .val (.ref b125), .val (.int (1 : Int32))] [(.ref o1), (.int (1 : Int32)), (.ref b157)])) (fun t k => XS.aloadN X122.here hx rfl (hb hby d1_179) rfl rfl k) ?_
  refine own_st (g' := (mkF m 182 #[.val (.ref o0), .val (.ref o1), .val (.int (0 : Int32)), .val (.int (1 : Int32)), .val (.int (2 : Int32)), .val (.int (1 : Int32)), .val (.ref b125), .val (.int (1 : Int32))] [(.ref b125), (.ref o1), (.int (1 : Int32)), (.ref b157)])) (fun t k => XS.aload X122.here hx rfl (hb hby d1_180) rfl rfl k) ?_
  refine own_st (g' := (mkF m 184 #[.val (.ref o0), .val (.ref o1), .val (.int (0 : Int32)), .val (.int (1 : Int32)), .val (.int (2 : Int32)), .val (.int (1 : Int32)), .val (.ref b125), .val (.int (1 : Int32))] [(.int (1 : Int32)), (.ref b125), (.ref o1), (.int (1 : Int32)), (.ref b157)])) (fun t k => XS.iload X122.here hx rfl (hb hby d1_182) rfl  k) ?_
  refine own_st (g' := (mkF m 185 #[.val (.ref o0), .val (.ref o1), .val (.int (0 : Int32)), .val (.int (1 : Int32)), .val (.int (2 : Int32)), .val (.int (1 : Int32)), .val (.ref b125), .val (.int (1 : Int32))] [(.int (1 : Int32)), (.ref o1), (.int (1 : Int32)), (.ref b157)])) (fun t k => own_iald X122 hx hZ e122 f119 (j := (1 : Int32)) ⟨by decide, by decide⟩ (g := (mkF m 184 #[.val (.ref o0), .val (.ref o1), .val (.int (0 : Int32)), .val (.int (1 : Int32)), .val (.int (2 : Int32)), .val (.int (1 : Int32)), .val (.ref b125), .val (.int (1 : Int32))] [(.int (1 : Int32)), (.ref b125), (.ref o1), (.int (1 : Int32)), (.ref b157)])) rfl rfl (hb hby d1_184) t k) ?_
  have f123 := (f113.other W116 ne_o1_b157)
  refine own_st (g' := (mkF m 186 #[.val (.ref o0), .val (.ref o1), .val (.int (0 : Int32)), .val (.int (1 : Int32)), .val (.int (2 : Int32)), .val (.int (1 : Int32)), .val (.ref b125), .val (.int (1 : Int32))] [(.int x1), (.int (1 : Int32)), (.ref b157)])) (fun t k => own_cald X122 hx hZ e122 f123 (j := (1 : Int32)) ⟨by decide, by decide⟩ (g := (mkF m 185 #[.val (.ref o0), .val (.ref o1), .val (.int (0 : Int32)), .val (.int (1 : Int32)), .val (.int (2 : Int32)), .val (.int (1 : Int32)), .val (.ref b125), .val (.int (1 : Int32))] [(.int (1 : Int32)), (.ref o1), (.int (1 : Int32)), (.ref b157)])) rfl rfl (hb hby d1_185) t k) ?_
  have Z125 : n0 ≤ h116.size := (Nat.le_trans Z115 (Nat.le_of_eq W116.size.symm))
  obtain ⟨_, _, ⟨T124, L124, k124, n124⟩, -, X124, ⟨Lc124, hQ124, l124, y124, z124⟩, st124⟩ := Jvm.LawKit.callS X122 hx (y := (⟨"com/example/mudskipper/mudskipper/UnitPair", "lowBytes", "(C)J"⟩ : MethodName)) hown (mvT hZ (hw _ (List.mem_of_getElem? (i := 25) rfl))) (mvT hZ (hw _ (List.mem_of_getElem? (i := 26) rfl))) (mvT hZ (hw _ (List.mem_of_getElem? (i := 3) rfl))) (mvT hZ (hw _ (List.mem_of_getElem? (i := 27) rfl))) (by decide) (backOf (W := 2) (rm5 l Z a0 hw [] x1 h116 n0 Z125  ) hZ (hw _ (List.mem_of_getElem? (i := 27) rfl)) (hw _ (List.mem_of_getElem? (i := 3) rfl)) (by decide) (by decide)) (g := (mkF m 186 #[.val (.ref o0), .val (.ref o1), .val (.int (0 : Int32)), .val (.int (1 : Int32)), .val (.int (2 : Int32)), .val (.int (1 : Int32)), .val (.ref b125), .val (.int (1 : Int32))] [(.int x1), (.int (1 : Int32)), (.ref b157)])) rfl (by rw [hml]; rfl) (argsL := [(.int x1)]) (rest := [(.int (1 : Int32)), (.ref b157)]) (lenOf pd_1_4 rfl) rfl (by show 2 * 0 + _ ≤ _; exact Nat.le_of_eq rfl) (hb hby d1_186) (fun _ _ => ⟨rfl, e122, (by decide : 4 + 0 ≤ _), (by decide : 10 + 0 ≤ _)⟩)
  dsimp only [Pt.U, Pt.locs, Pt.cells, Pt.slots] at X124 l124 y124 z124 st124 hQ124
  subst y124 z124
  obtain ⟨rfl, N124q, e124⟩ := hQ124
  have N124 : Fr n0 L124 := by rw [l124]; exact Fr.app N116 N124q
  refine own_st (g' := (mkF m 189 #[.val (.ref o0), .val (.ref o1), .val (.int (0 : Int32)), .val (.int (1 : Int32)), .val (.int (2 : Int32)), .val (.int (1 : Int32)), .val (.ref b125), .val (.int (1 : Int32))] [(.long (own_F5 x1)), (.int (1 : Int32)), (.ref b157)])) (fun t k => st124 t k) ?_
  obtain ⟨T126, h126, X126, e126, W126, V126, st126⟩ := own_last X124 hx hZ e124 V116 (j := (1 : Int32)) ⟨by decide, by decide⟩ (g := (mkF m 189 #[.val (.ref o0), .val (.ref o1), .val (.int (0 : Int32)), .val (.int (1 : Int32)), .val (.int (2 : Int32)), .val (.int (1 : Int32)), .val (.ref b125), .val (.int (1 : Int32))] [(.long (own_F5 x1)), (.int (1 : Int32)), (.ref b157)])) rfl rfl (hb hby d1_189)
  replace V126 : own_Ar Z h126 b157 k99 .long (3 : Int32) Value.long (0 : Int64) [(own_F5 x0), (own_F5 x1), (0 : Int64)] := V126
  have N126 := Fr.snoc X126 N124 g_b157
  have K127 : Keep h0 h126 [o0] := K118.wr W126 (Or.inr sz_b157)
  refine own_st (g' := (mkF m 190 #[.val (.ref o0), .val (.ref o1), .val (.int (0 : Int32)), .val (.int (1 : Int32)), .val (.int (2 : Int32)), .val (.int (1 : Int32)), .val (.ref b125), .val (.int (1 : Int32))] [])) (fun t k => st126 t k) ?_
  refine own_st (g' := (mkF m 193 #[.val (.ref o0), .val (.ref o1), .val (.int (0 : Int32)), .val (.int (1 : Int32)), .val (.int (2 : Int32)), .val (.int (1 : Int32)), .val (.ref b125), .val (.int (2 : Int32))] [])) (fun t k => XS.iinc X126.here hx rfl (hb hby d1_190) rfl (l' := #[.val (.ref o0), .val (.ref o1), .val (.int (0 : Int32)), .val (.int (1 : Int32)), .val (.int (2 : Int32)), .val (.int (1 : Int32)), .val (.ref b125), .val (.int (2 : Int32))]) rfl k) ?_
  refine own_st (g' := (mkF m 165 #[.val (.ref o0), .val (.ref o1), .val (.int (0 : Int32)), .val (.int (1 : Int32)), .val (.int (2 : Int32)), .val (.int (1 : Int32)), .val (.ref b125), .val (.int (2 : Int32))] [])) (fun t k => XS.goto X126.here hx rfl (pc0 := 193) (pc' := 165) rfl (hb hby d1_193) (by decide) (by decide) k) ?_
  refine own_st (g' := (mkF m 167 #[.val (.ref o0), .val (.ref o1), .val (.int (0 : Int32)), .val (.int (1 : Int32)), .val (.int (2 : Int32)), .val (.int (1 : Int32)), .val (.ref b125), .val (.int (2 : Int32))] [(.int (2 : Int32))])) (fun t k => XS.iload X126.here hx rfl (hb hby d1_165) rfl  k) ?_
  refine own_st (g' := (mkF m 169 #[.val (.ref o0), .val (.ref o1), .val (.int (0 : Int32)), .val (.int (1 : Int32)), .val (.int (2 : Int32)), .val (.int (1 : Int32)), .val (.ref b125), .val (.int (2 : Int32))] [(.ref b125), (.int (2 : Int32))])) (fun t k => XS.aload X126.here hx rfl (hb hby d1_167) rfl rfl k) ?_
  have f128 := (f119.other W126 ne_b125_b157)
  refine own_st (g' := (mkF m 170 #[.val (.ref o0), .val (.ref o1), .val (.int (0 : Int32)), .val (.int (1 : Int32)), .val (.int (2 : Int32)), .val (.int (1 : Int32)), .val (.ref b125), .val (.int (2 : Int32))] [(.int (3 : Int32)), (.int (2 : Int32))])) (fun t k => own_alen X126 hx hZ e126 f128 (g := (mkF m 169 #[.val (.ref o0), .val (.ref o1), .val (.int (0 : Int32)), .val (.int (1 : Int32)), .val (.int (2 : Int32)), .val (.int (1 : Int32)), .val (.ref b125), .val (.int (2 : Int32))] [(.ref b125), (.int (2 : Int32))])) rfl rfl (hb hby d1_169) t k) ?_
  have hc170_129 : (2 : Int32) < (3 : Int32) := by decide
  refine own_st (g' := (mkF m 173 #[.val (.ref o0), .val (.ref o1), .val (.int (0 : Int32)), .val (.int (1 : Int32)), .val (.int (2 : Int32)), .val (.int (1 : Int32)), .val (.ref b125), .val (.int (2 : Int32))] [])) (fun t k => XS.icmpNo X126.here hx rfl (hb hby d1_170) rfl (tlt hc170_129).2.1 k) ?_
  refine own_st (g' := (mkF m 174 #[.val (.ref o0), .val (.ref o1), .val (.int (0 : Int32)), .val (.int (1 : Int32)), .val (.int (2 : Int32)), .val (.int (1 : Int32)), .val (.ref b125), .val (.int (2 : Int32))] [(.ref o0)])) (fun t k => XS.aloadN X126.here hx rfl (hb hby d1_173) rfl rfl k) ?_
  have f130 := (f121.other W126 (Or.inl ne_o0_b157))
  obtain ⟨T131, X131, e131, st131⟩ := getF X126 hx hZ hown (host := "") (Or.inl (hw _ (List.mem_of_getElem? (i := 55) rfl))) Via.refl e126 f130 (g := (mkF m 174 #[.val (.ref o0), .val (.ref o1), .val (.int (0 : Int32)), .val (.int (1 : Int32)), .val (.int (2 : Int32)), .val (.int (1 : Int32)), .val (.ref b125), .val (.int (2 : Int32))] [(.ref o0)])) rfl rfl (hb hby d1_174)
  refine own_st (g' := (mkF m 177 #[.val (.ref o0), .val (.ref o1), .val (.int (0 : Int32)), .val (.int (1 : Int32)), .val (.int (2 : Int32)), .val (.int (1 : Int32)), .val (.ref b125), .val (.int (2 : Int32))] [(.ref b157)])) (fun t k => st131 t k) ?_
  refine own_st (g' := (mkF m 179 #[.val (.ref o0), .val (.ref o1), .val (.int (0 : Int32)), .val (.int (1 : Int32)), .val (.int (2 : Int32)), .val (.int (1 : Int32)), .val (.ref b125), .val (.int (2 : Int32))] [(.int (2 : Int32)), (.ref b157)])) (fun t k => XS.iload X131.here hx rfl (hb hby d1_177) rfl  k) ?_
  refine own_st (g' := (mkF m 180 #[.val (.ref o0), .val (.ref o1), .val (.int (0 : Int32)), .val (.int (1 : Int32)), .val (.int (2 : Int32)), .val (.int (1 : Int32)), .val (.ref b125), .val (.int (2 : Int32))] [(.ref o1), (.int (2 : Int32)), (.ref b157)])) (fun t k => XS.aloadN X131.here hx rfl (hb hby d1_179) rfl rfl k) ?_
  refine own_st (g' := (mkF m 182 #[.val (.ref o0), .val (.ref o1), .val (.int (0 : Int32)), .val (.int (1 : Int32)), .val (.int (2 : Int32)), .val (.int (1 : Int32)), .val (.ref b125), .val (.int (2 : Int32))] [(.ref b125), (.ref o1), (.int (2 : Int32)), (.ref b157)])) (fun t k => XS.aload X131.here hx rfl (hb hby d1_180) rfl rfl k) ?_
  refine own_st (g' := (mkF m 184 #[.val (.ref o0), .val (.ref o1), .val (.int (0 : Int32)), .val (.int (1 : Int32)), .val (.int (2 : Int32)), .val (.int (1 : Int32)), .val (.ref b125), .val (.int (2 : Int32))] [(.int (2 : Int32)), (.ref b125), (.ref o1), (.int (2 : Int32)), (.ref b157)])) (fun t k => XS.iload X131.here hx rfl (hb hby d1_182) rfl  k) ?_
  refine own_st (g' := (mkF m 185 #[.val (.ref o0), .val (.ref o1), .val (.int (0 : Int32)), .val (.int (1 : Int32)), .val (.int (2 : Int32)), .val (.int (1 : Int32)), .val (.ref b125), .val (.int (2 : Int32))] [(.int (2 : Int32)), (.ref o1), (.int (2 : Int32)), (.ref b157)])) (fun t k => own_iald X131 hx hZ e131 f128 (j := (2 : Int32)) ⟨by decide, by decide⟩ (g := (mkF m 184 #[.val (.ref o0), .val (.ref o1), .val (.int (0 : Int32)), .val (.int (1 : Int32)), .val (.int (2 : Int32)), .val (.int (1 : Int32)), .val (.ref b125), .val (.int (2 : Int32))] [(.int (2 : Int32)), (.ref b125), (.ref o1), (.int (2 : Int32)), (.ref b157)])) rfl rfl (hb hby d1_184) t k) ?_
  have f132 := (f123.other W126 ne_o1_b157)
  refine own_st (g' := (mkF m 186 #[.val (.ref o0), .val (.ref o1), .val (.int (0 : Int32)), .val (.int (1 : Int32)), .val (.int (2 : Int32)), .val (.int (1 : Int32)), .val (.ref b125), .val (.int (2 : Int32))] [(.int x2), (.int (2 : Int32)), (.ref b157)])) (fun t k => own_cald X131 hx hZ e131 f132 (j := (2 : Int32)) ⟨by decide, by decide⟩ (g := (mkF m 185 #[.val (.ref o0), .val (.ref o1), .val (.int (0 : Int32)), .val (.int (1 : Int32)), .val (.int (2 : Int32)), .val (.int (1 : Int32)), .val (.ref b125), .val (.int (2 : Int32))] [(.int (2 : Int32)), (.ref o1), (.int (2 : Int32)), (.ref b157)])) rfl rfl (hb hby d1_185) t k) ?_
  have Z134 : n0 ≤ h126.size := (Nat.le_trans Z125 (Nat.le_of_eq W126.size.symm))
  obtain ⟨_, _, ⟨T133, L133, k133, n133⟩, -, X133, ⟨Lc133, hQ133, l133, y133, z133⟩, st133⟩ := Jvm.LawKit.callS X131 hx (y := (⟨"com/example/mudskipper/mudskipper/UnitPair", "lowBytes", "(C)J"⟩ : MethodName)) hown (mvT hZ (hw _ (List.mem_of_getElem? (i := 25) rfl))) (mvT hZ (hw _ (List.mem_of_getElem? (i := 26) rfl))) (mvT hZ (hw _ (List.mem_of_getElem? (i := 3) rfl))) (mvT hZ (hw _ (List.mem_of_getElem? (i := 27) rfl))) (by decide) (backOf (W := 2) (rm5 l Z a0 hw [] x2 h126 n0 Z134  ) hZ (hw _ (List.mem_of_getElem? (i := 27) rfl)) (hw _ (List.mem_of_getElem? (i := 3) rfl)) (by decide) (by decide)) (g := (mkF m 186 #[.val (.ref o0), .val (.ref o1), .val (.int (0 : Int32)), .val (.int (1 : Int32)), .val (.int (2 : Int32)), .val (.int (1 : Int32)), .val (.ref b125), .val (.int (2 : Int32))] [(.int x2), (.int (2 : Int32)), (.ref b157)])) rfl (by rw [hml]; rfl) (argsL := [(.int x2)]) (rest := [(.int (2 : Int32)), (.ref b157)]) (lenOf pd_1_4 rfl) rfl (by show 2 * 0 + _ ≤ _; exact Nat.le_of_eq rfl) (hb hby d1_186) (fun _ _ => ⟨rfl, e131, (by decide : 4 + 0 ≤ _), (by decide : 10 + 0 ≤ _)⟩)
  dsimp only [Pt.U, Pt.locs, Pt.cells, Pt.slots] at X133 l133 y133 z133 st133 hQ133
  subst y133 z133
  obtain ⟨rfl, N133q, e133⟩ := hQ133
  have N133 : Fr n0 L133 := by rw [l133]; exact Fr.app N126 N133q
  refine own_st (g' := (mkF m 189 #[.val (.ref o0), .val (.ref o1), .val (.int (0 : Int32)), .val (.int (1 : Int32)), .val (.int (2 : Int32)), .val (.int (1 : Int32)), .val (.ref b125), .val (.int (2 : Int32))] [(.long (own_F5 x2)), (.int (2 : Int32)), (.ref b157)])) (fun t k => st133 t k) ?_
  obtain ⟨T135, h135, X135, e135, W135, V135, st135⟩ := own_last X133 hx hZ e133 V126 (j := (2 : Int32)) ⟨by decide, by decide⟩ (g := (mkF m 189 #[.val (.ref o0), .val (.ref o1), .val (.int (0 : Int32)), .val (.int (1 : Int32)), .val (.int (2 : Int32)), .val (.int (1 : Int32)), .val (.ref b125), .val (.int (2 : Int32))] [(.long (own_F5 x2)), (.int (2 : Int32)), (.ref b157)])) rfl rfl (hb hby d1_189)
  replace V135 : own_Ar Z h135 b157 k99 .long (3 : Int32) Value.long (0 : Int64) [(own_F5 x0), (own_F5 x1), (own_F5 x2)] := V135
  have N135 := Fr.snoc X135 N133 g_b157
  have K136 : Keep h0 h135 [o0] := K127.wr W135 (Or.inr sz_b157)
  refine own_st (g' := (mkF m 190 #[.val (.ref o0), .val (.ref o1), .val (.int (0 : Int32)), .val (.int (1 : Int32)), .val (.int (2 : Int32)), .val (.int (1 : Int32)), .val (.ref b125), .val (.int (2 : Int32))] [])) (fun t k => st135 t k) ?_
  refine own_st (g' := (mkF m 193 #[.val (.ref o0), .val (.ref o1), .val (.int (0 : Int32)), .val (.int (1 : Int32)), .val (.int (2 : Int32)), .val (.int (1 : Int32)), .val (.ref b125), .val (.int (3 : Int32))] [])) (fun t k => XS.iinc X135.here hx rfl (hb hby d1_190) rfl (l' := #[.val (.ref o0), .val (.ref o1), .val (.int (0 : Int32)), .val (.int (1 : Int32)), .val (.int (2 : Int32)), .val (.int (1 : Int32)), .val (.ref b125), .val (.int (3 : Int32))]) rfl k) ?_
  refine own_st (g' := (mkF m 165 #[.val (.ref o0), .val (.ref o1), .val (.int (0 : Int32)), .val (.int (1 : Int32)), .val (.int (2 : Int32)), .val (.int (1 : Int32)), .val (.ref b125), .val (.int (3 : Int32))] [])) (fun t k => XS.goto X135.here hx rfl (pc0 := 193) (pc' := 165) rfl (hb hby d1_193) (by decide) (by decide) k) ?_
  refine own_st (g' := (mkF m 167 #[.val (.ref o0), .val (.ref o1), .val (.int (0 : Int32)), .val (.int (1 : Int32)), .val (.int (2 : Int32)), .val (.int (1 : Int32)), .val (.ref b125), .val (.int (3 : Int32))] [(.int (3 : Int32))])) (fun t k => XS.iload X135.here hx rfl (hb hby d1_165) rfl  k) ?_
  refine own_st (g' := (mkF m 169 #[.val (.ref o0), .val (.ref o1), .val (.int (0 : Int32)), .val (.int (1 : Int32)), .val (.int (2 : Int32)), .val (.int (1 : Int32)), .val (.ref b125), .val (.int (3 : Int32))] [(.ref b125), (.int (3 : Int32))])) (fun t k => XS.aload X135.here hx rfl (hb hby d1_167) rfl rfl k) ?_
  have f137 := (f128.other W135 ne_b125_b157)
  refine own_st (g' := (mkF m 170 #[.val (.ref o0), .val (.ref o1), .val (.int (0 : Int32)), .val (.int (1 : Int32)), .val (.int (2 : Int32)), .val (.int (1 : Int32)), .val (.ref b125), .val (.int (3 : Int32))] [(.int (3 : Int32)), (.int (3 : Int32))])) (fun t k => own_alen X135 hx hZ e135 f137 (g := (mkF m 169 #[.val (.ref o0), .val (.ref o1), .val (.int (0 : Int32)), .val (.int (1 : Int32)), .val (.int (2 : Int32)), .val (.int (1 : Int32)), .val (.ref b125), .val (.int (3 : Int32))] [(.ref b125), (.int (3 : Int32))])) rfl rfl (hb hby d1_169) t k) ?_
  have hc170_138 : ¬ ((3 : Int32) < (3 : Int32)) := by decide
  refine own_st (g' := (mkF m 196 #[.val (.ref o0), .val (.ref o1), .val (.int (0 : Int32)), .val (.int (1 : Int32)), .val (.int (2 : Int32)), .val (.int (1 : Int32)), .val (.ref b125), .val (.int (3 : Int32))] [])) (fun t k => XS.icmpYes X135.here hx rfl (pc0 := 170) (pc' := 196) rfl (hb hby d1_170) rfl (flt hc170_138).2.1 (by decide) (by decide) k) ?_
  refine own_st (g' := (mkF m 209 #[.val (.ref o0), .val (.ref o1), .val (.int (0 : Int32)), .val (.int (1 : Int32)), .val (.int (2 : Int32)), .val (.int (1 : Int32)), .val (.ref b125), .val (.int (3 : Int32))] [])) (fun t k => XS.goto X135.here hx rfl (pc0 := 196) (pc' := 209) rfl (hb hby d1_196) (by decide) (by decide) k) ?_
  have f139 := ((((f106.wr W108).wr W116).wr W126).wr W135)
  have f140 := ((((((((((((((f65.other W67 (Or.inl ne_o0_b100)).other W71 (Or.inl ne_o0_b100)).other W75 (Or.inr (slot_ne (Or.inr (hw _ (List.mem_of_getElem? (i := 30) rfl))) (Or.inr (hw _ (List.mem_of_getElem? (i := 38) rfl))) (by decide) (t := .long) (t' := (.array .long)) (by decide) (by decide)))).ext E78).other W85 (Or.inl ne_o0_b125)).other W87 (Or.inl ne_o0_b125)).other W89 (Or.inl ne_o0_b125)).keep K91 nin0).other W96 (Or.inr (slot_ne (Or.inr (hw _ (List.mem_of_getElem? (i := 30) rfl))) (Or.inr (hw _ (List.mem_of_getElem? (i := 54) rfl))) (by decide) (t := .long) (t' := (.array .int)) (by decide) (by decide)))).ext E99).other W108 (Or.inr (slot_ne (Or.inr (hw _ (List.mem_of_getElem? (i := 30) rfl))) (Or.inr (hw _ (List.mem_of_getElem? (i := 56) rfl))) (by decide) (t := .long) (t' := (.array .long)) (by decide) (by decide)))).other W116 (Or.inl ne_o0_b157)).other W126 (Or.inl ne_o0_b157)).other W135 (Or.inl ne_o0_b157))
  have f141 := (((((((((((((f69.other W71 (Or.inl ne_o0_b100)).other W75 (Or.inr (slot_ne (Or.inr (hw _ (List.mem_of_getElem? (i := 32) rfl))) (Or.inr (hw _ (List.mem_of_getElem? (i := 38) rfl))) (by decide) (t := .long) (t' := (.array .long)) (by decide) (by decide)))).ext E78).other W85 (Or.inl ne_o0_b125)).other W87 (Or.inl ne_o0_b125)).other W89 (Or.inl ne_o0_b125)).keep K91 nin0).other W96 (Or.inr (slot_ne (Or.inr (hw _ (List.mem_of_getElem? (i := 32) rfl))) (Or.inr (hw _ (List.mem_of_getElem? (i := 54) rfl))) (by decide) (t := .long) (t' := (.array .int)) (by decide) (by decide)))).ext E99).other W108 (Or.inr (slot_ne (Or.inr (hw _ (List.mem_of_getElem? (i := 32) rfl))) (Or.inr (hw _ (List.mem_of_getElem? (i := 56) rfl))) (by decide) (t := .long) (t' := (.array .long)) (by decide) (by decide)))).other W116 (Or.inl ne_o0_b157)).other W126 (Or.inl ne_o0_b157)).other W135 (Or.inl ne_o0_b157))
  have f142 := (f130.other W135 (Or.inl ne_o0_b157))
  exact own_retV X135 hx Bd.returns Bd.notSynchronized (hb hby d1_209) (by rw [e135]; exact ⟨b157, k99, rfl, N135, K136, g_b157, sz_b157, f139, f140, f141, f142, V135⟩) (by decide) (by decide)
theorem d10_0 : decode prog_45_method_8_code 0 = .ok (.iload_n 1, 1) := by decide +kernel
theorem d10_1 : decode prog_45_method_8_code 1 = .ok (.ifCond .eq 10, 3) := by decide +kernel
theorem d10_4 : decode prog_45_method_8_code 4 = .ok (.aload_n 0, 1) := by decide +kernel
theorem d10_5 : decode prog_45_method_8_code 5 = .ok (.getfield 60, 3) := by decide +kernel
theorem d10_8 : decode prog_45_method_8_code 8 = .ok (.goto 7, 3) := by decide +kernel
theorem d10_15 : decode prog_45_method_8_code 15 = .ok (.areturn, 1) := by decide +kernel
theorem pn_10 : plainName "com/example/mudskipper/mudskipper/UnitPair" = true := by first | (simp [plainName, overriddenIn]; done) | decide +kernel
theorem ef_10 (m : MethodId) (x0 : Addr) (x1 : Int32) : entryFrame m #[(.ref x0), (.int x1)] 2 = mkF m 0 #[.val (.ref x0), .val (.int x1)] [] := by first | (simp [entryFrame, mkF, argsToLocals, Value.category]; done) | rfl
def Q10 (Z : State) (o0 : Addr) (w : Addr) (h0 : Heap) (n0 : Nat) (v : Option Value) (h : Heap) (L : List Loc) : Prop := v = some (.ref w) ∧ Fr n0 L ∧ Keep h0 h []
set_option maxRecDepth 65536 in
set_option maxHeartbeats 40000000 in
theorem rm10 (l : Launch) (Z : State) (a0 : Array Value) (hw : ∀ d ∈ tables_1, d.before a0 Z = true) (ws : List Jvm.Cond) (o0 : Addr) (w : Addr) (h0 : Heap) (n0 : Nat) (Z0 : n0 ≤ h0.size) (G0 : Fld Z h0 o0 "com/example/mudskipper/mudskipper/UnitPair" "threeLowBytes" "[J" (.ref w)) :
    MetFree l (⟨"com/example/mudskipper/mudskipper/UnitPair", "lowBytes", "(Z)[J"⟩ : MethodName) (head1 (Jvm.Cond.code (⟨"com/example/mudskipper/mudskipper/UnitPair", "lowBytes", "(Z)[J"⟩ : MethodName) prog_45_method_8_code 2 (some (.array .long)) :: ws) ({ frames := 0, cells := 0, slots := 0, locals := 0 } : Room)) (fun a U => a = #[(.ref o0), (.int (1 : Int32))] ∧ Z.Warmed39 U.vm ∧ U.heap = h0) (fun _ _ _ _ _ => True) (fun _ U o U' => ∃ v L, o = .returned v ∧ Q10 Z o0 w h0 n0 v U'.heap L ∧ FrameEnd U o U' L ({ frames := 0, cells := 0, slots := 0, locals := 0 } : Room).cells ({ frames := 0, cells := 0, slots := 0, locals := 0 } : Room).slots) := by
  refine MetFree.of_bodySF (plainFor_of_name pn_10) hisR ?_
  intro p e s m args below meth c s₁ Bd hml0 hP hK
  obtain ⟨rfl, hZ, hh⟩ := hP
  have hx := Bd.exec
  have hby := Bd.bytes
  have hml : c.maxLocals = 2 := hml0
  have hown : s.vm.findClass "com/example/mudskipper/mudskipper/UnitPair" = some m.cls := findClass_of_methodNamed Bd.named
  have hnm := (name_of_methodNamed Bd.named Bd.method).1
  have X0 : Stand p l e ({ frames := 0, cells := 0, slots := 0, locals := 0 } : Room) s m #[(.ref o0), (.int (1 : Int32))] below meth c s₁ [] 0 0 := Stand.of_body Bd
  have e0 : s₁.heap = h0 := by rw [← hh, Bd.state]; rfl
  have N0 := Fr.nil n0
  refine own_in (ef_10 m o0 (1 : Int32)) ?_
  have K0 := Keep.refl h0 []
  refine own_st (g' := (mkF m 1 #[.val (.ref o0), .val (.int (1 : Int32))] [(.int (1 : Int32))])) (fun t k => XS.iloadN X0.here hx rfl (hb hby d10_0) rfl  k) ?_
  have hc1_1 : ¬ ((1 : Int32) = (0 : Int32)) := by decide
  refine own_st (g' := (mkF m 4 #[.val (.ref o0), .val (.int (1 : Int32))] [])) (fun t k => XS.ifNo X0.here hx rfl (hb hby d10_1) rfl ((if0 _ _).trans (feq hc1_1).1) k) ?_
  refine own_st (g' := (mkF m 5 #[.val (.ref o0), .val (.int (1 : Int32))] [(.ref o0)])) (fun t k => XS.aloadN X0.here hx rfl (hb hby d10_4) rfl rfl k) ?_
  obtain ⟨T2, X2, e2, st2⟩ := getF X0 hx hZ hown (host := "") (Or.inl (hw _ (List.mem_of_getElem? (i := 55) rfl))) Via.refl e0 G0 (g := (mkF m 5 #[.val (.ref o0), .val (.int (1 : Int32))] [(.ref o0)])) rfl rfl (hb hby d10_5)
  refine own_st (g' := (mkF m 8 #[.val (.ref o0), .val (.int (1 : Int32))] [(.ref w)])) (fun t k => st2 t k) ?_
  refine own_st (g' := (mkF m 15 #[.val (.ref o0), .val (.int (1 : Int32))] [(.ref w)])) (fun t k => XS.goto X2.here hx rfl (pc0 := 8) (pc' := 15) rfl (hb hby d10_8) (by decide) (by decide) k) ?_
  exact own_retA X2 hx Bd.returns Bd.notSynchronized rfl (hb hby d10_15) (by rw [e2]; exact ⟨rfl, N0, K0⟩) (by decide) (by decide)
def own_F11 (w_nearBytes : Int64) : Int64 := w_nearBytes
theorem own_F11_eq (w_nearBytes : Int64) : own_F11 w_nearBytes = w_nearBytes := rfl
theorem d11_0 : decode prog_45_method_11_code 0 = .ok (.aload_n 0, 1) := by decide +kernel
theorem d11_1 : decode prog_45_method_11_code 1 = .ok (.getfield 36, 3) := by decide +kernel
theorem d11_4 : decode prog_45_method_11_code 4 = .ok (.lreturn, 1) := by decide +kernel
theorem pn_11 : plainName "com/example/mudskipper/mudskipper/UnitPair" = true := by first | (simp [plainName, overriddenIn]; done) | decide +kernel
theorem ef_11 (m : MethodId) (x0 : Addr) : entryFrame m #[(.ref x0)] 1 = mkF m 0 #[.val (.ref x0)] [] := by first | (simp [entryFrame, mkF, argsToLocals, Value.category]; done) | rfl
def Q11 (Z : State) (o0 : Addr) (w_nearBytes : Int64) (h0 : Heap) (n0 : Nat) (v : Option Value) (h : Heap) (L : List Loc) : Prop := v = some (.long (own_F11 w_nearBytes)) ∧ Fr n0 L ∧ h = h0
set_option maxRecDepth 65536 in
set_option maxHeartbeats 40000000 in
theorem rm11 (l : Launch) (Z : State) (a0 : Array Value) (hw : ∀ d ∈ tables_1, d.before a0 Z = true) (ws : List Jvm.Cond) (o0 : Addr) (w_nearBytes : Int64) (h0 : Heap) (n0 : Nat) (Z0 : n0 ≤ h0.size) (F_nearBytes_o0 : Fld Z h0 o0 "com/example/mudskipper/mudskipper/UnitPair" "nearBytes" "J" (.long w_nearBytes)) :
    MetFree l (⟨"com/example/mudskipper/mudskipper/UnitPair", "nearBytes", "()J"⟩ : MethodName) (head1 (Jvm.Cond.code (⟨"com/example/mudskipper/mudskipper/UnitPair", "nearBytes", "()J"⟩ : MethodName) prog_45_method_11_code 1 (some .long) :: ws) ({ frames := 0, cells := 0, slots := 0, locals := 0 } : Room)) (fun a U => a = #[(.ref o0)] ∧ Z.Warmed39 U.vm ∧ U.heap = h0) (fun _ _ _ _ _ => True) (fun _ U o U' => ∃ v L, o = .returned v ∧ Q11 Z o0 w_nearBytes h0 n0 v U'.heap L ∧ FrameEnd U o U' L ({ frames := 0, cells := 0, slots := 0, locals := 0 } : Room).cells ({ frames := 0, cells := 0, slots := 0, locals := 0 } : Room).slots) := by
  refine MetFree.of_bodySF (plainFor_of_name pn_11) hisR ?_
  intro p e s m args below meth c s₁ Bd hml0 hP hK
  obtain ⟨rfl, hZ, hh⟩ := hP
  have hx := Bd.exec
  have hby := Bd.bytes
  have hml : c.maxLocals = 1 := hml0
  have hown : s.vm.findClass "com/example/mudskipper/mudskipper/UnitPair" = some m.cls := findClass_of_methodNamed Bd.named
  have hnm := (name_of_methodNamed Bd.named Bd.method).1
  have X0 : Stand p l e ({ frames := 0, cells := 0, slots := 0, locals := 0 } : Room) s m #[(.ref o0)] below meth c s₁ [] 0 0 := Stand.of_body Bd
  have e0 : s₁.heap = h0 := by rw [← hh, Bd.state]; rfl
  have N0 := Fr.nil n0
  refine own_in (ef_11 m o0) ?_
  have hr0 := (own_F11_eq w_nearBytes).symm
  refine own_st (g' := (mkF m 1 #[.val (.ref o0)] [(.ref o0)])) (fun t k => XS.aloadN X0.here hx rfl (hb hby d11_0) rfl rfl k) ?_
  obtain ⟨T1, X1, e1, st1⟩ := getF X0 hx hZ hown (host := "") (Or.inl (hw _ (List.mem_of_getElem? (i := 29) rfl))) Via.refl e0 F_nearBytes_o0 (g := (mkF m 1 #[.val (.ref o0)] [(.ref o0)])) rfl rfl (hb hby d11_1)
  refine own_st (g' := (mkF m 4 #[.val (.ref o0)] [(.long w_nearBytes)])) (fun t k => st1 t k) ?_
  exact own_retJ X1 hx Bd.returns Bd.notSynchronized (hb hby d11_4) ⟨congrArg (fun q => some (Value.long q)) hr0, N0, e1⟩ (by decide) (by decide)
def own_F13 (w_farBytes : Int64) : Int64 := w_farBytes
theorem own_F13_eq (w_farBytes : Int64) : own_F13 w_farBytes = w_farBytes := rfl
theorem d13_0 : decode prog_45_method_12_code 0 = .ok (.aload_n 0, 1) := by decide +kernel
theorem d13_1 : decode prog_45_method_12_code 1 = .ok (.getfield 40, 3) := by decide +kernel
theorem d13_4 : decode prog_45_method_12_code 4 = .ok (.lreturn, 1) := by decide +kernel
theorem pn_13 : plainName "com/example/mudskipper/mudskipper/UnitPair" = true := by first | (simp [plainName, overriddenIn]; done) | decide +kernel
theorem ef_13 (m : MethodId) (x0 : Addr) : entryFrame m #[(.ref x0)] 1 = mkF m 0 #[.val (.ref x0)] [] := by first | (simp [entryFrame, mkF, argsToLocals, Value.category]; done) | rfl
def Q13 (Z : State) (o0 : Addr) (w_farBytes : Int64) (h0 : Heap) (n0 : Nat) (v : Option Value) (h : Heap) (L : List Loc) : Prop := v = some (.long (own_F13 w_farBytes)) ∧ Fr n0 L ∧ h = h0
set_option maxRecDepth 65536 in
set_option maxHeartbeats 40000000 in
theorem rm13 (l : Launch) (Z : State) (a0 : Array Value) (hw : ∀ d ∈ tables_1, d.before a0 Z = true) (ws : List Jvm.Cond) (o0 : Addr) (w_farBytes : Int64) (h0 : Heap) (n0 : Nat) (Z0 : n0 ≤ h0.size) (F_farBytes_o0 : Fld Z h0 o0 "com/example/mudskipper/mudskipper/UnitPair" "farBytes" "J" (.long w_farBytes)) :
    MetFree l (⟨"com/example/mudskipper/mudskipper/UnitPair", "farBytes", "()J"⟩ : MethodName) (head1 (Jvm.Cond.code (⟨"com/example/mudskipper/mudskipper/UnitPair", "farBytes", "()J"⟩ : MethodName) prog_45_method_12_code 1 (some .long) :: ws) ({ frames := 0, cells := 0, slots := 0, locals := 0 } : Room)) (fun a U => a = #[(.ref o0)] ∧ Z.Warmed39 U.vm ∧ U.heap = h0) (fun _ _ _ _ _ => True) (fun _ U o U' => ∃ v L, o = .returned v ∧ Q13 Z o0 w_farBytes h0 n0 v U'.heap L ∧ FrameEnd U o U' L ({ frames := 0, cells := 0, slots := 0, locals := 0 } : Room).cells ({ frames := 0, cells := 0, slots := 0, locals := 0 } : Room).slots) := by
  refine MetFree.of_bodySF (plainFor_of_name pn_13) hisR ?_
  intro p e s m args below meth c s₁ Bd hml0 hP hK
  obtain ⟨rfl, hZ, hh⟩ := hP
  have hx := Bd.exec
  have hby := Bd.bytes
  have hml : c.maxLocals = 1 := hml0
  have hown : s.vm.findClass "com/example/mudskipper/mudskipper/UnitPair" = some m.cls := findClass_of_methodNamed Bd.named
  have hnm := (name_of_methodNamed Bd.named Bd.method).1
  have X0 : Stand p l e ({ frames := 0, cells := 0, slots := 0, locals := 0 } : Room) s m #[(.ref o0)] below meth c s₁ [] 0 0 := Stand.of_body Bd
  have e0 : s₁.heap = h0 := by rw [← hh, Bd.state]; rfl
  have N0 := Fr.nil n0
  refine own_in (ef_13 m o0) ?_
  have hr0 := (own_F13_eq w_farBytes).symm
  refine own_st (g' := (mkF m 1 #[.val (.ref o0)] [(.ref o0)])) (fun t k => XS.aloadN X0.here hx rfl (hb hby d13_0) rfl rfl k) ?_
  obtain ⟨T1, X1, e1, st1⟩ := getF X0 hx hZ hown (host := "") (Or.inl (hw _ (List.mem_of_getElem? (i := 31) rfl))) Via.refl e0 F_farBytes_o0 (g := (mkF m 1 #[.val (.ref o0)] [(.ref o0)])) rfl rfl (hb hby d13_1)
  refine own_st (g' := (mkF m 4 #[.val (.ref o0)] [(.long w_farBytes)])) (fun t k => st1 t k) ?_
  exact own_retJ X1 hx Bd.returns Bd.notSynchronized (hb hby d13_4) ⟨congrArg (fun q => some (Value.long q)) hr0, N0, e1⟩ (by decide) (by decide)
def own_f0_129 (p0 : Int32) (p1 : Int32) (p2 : Int32) (t0_129 : Int32) : Int32 := (nar .boolean t0_129)
theorem own_f0_129_eq (p0 : Int32) (p1 : Int32) (p2 : Int32) (t0_129 : Int32) : own_f0_129 p0 p1 p2 t0_129 = (nar .boolean t0_129) := rfl
def own_F0 (p0 : Int32) (p1 : Int32) (p2 : Int32) : Int32 := (if (own_F11 (own_F5 (nar .char (nar .char ((p0).toUInt32.toUInt16.toUInt32.toInt32))))) = (own_F12 ((p0).toUInt32.toUInt16.toUInt32.toInt32)) then (if (own_F13 (own_F5 (nar .char (nar .char ((p1).toUInt32.toUInt16.toUInt32.toInt32))))) = (own_F12 ((p1).toUInt32.toUInt16.toUInt32.toInt32)) then (if (3 : Int32) = (3 : Int32) then (if (own_F5 (nar .char ((p0).toUInt32.toUInt16.toUInt32.toInt32))) = (own_F12 ((p0).toUInt32.toUInt16.toUInt32.toInt32)) then (if (own_F5 (nar .char ((p1).toUInt32.toUInt16.toUInt32.toInt32))) = (own_F12 ((p1).toUInt32.toUInt16.toUInt32.toInt32)) then (if (own_F5 (nar .char ((p2).toUInt32.toUInt16.toUInt32.toInt32))) = (own_F12 ((p2).toUInt32.toUInt16.toUInt32.toInt32)) then (own_f0_129 p0 p1 p2 (1 : Int32)) else (own_f0_129 p0 p1 p2 (0 : Int32))) else (own_f0_129 p0 p1 p2 (0 : Int32))) else (own_f0_129 p0 p1 p2 (0 : Int32))) else (own_f0_129 p0 p1 p2 (0 : Int32))) else (own_f0_129 p0 p1 p2 (0 : Int32))) else (own_f0_129 p0 p1 p2 (0 : Int32)))
theorem own_F0_eq (p0 : Int32) (p1 : Int32) (p2 : Int32) : own_F0 p0 p1 p2 = (if (own_F11 (own_F5 (nar .char (nar .char ((p0).toUInt32.toUInt16.toUInt32.toInt32))))) = (own_F12 ((p0).toUInt32.toUInt16.toUInt32.toInt32)) then (if (own_F13 (own_F5 (nar .char (nar .char ((p1).toUInt32.toUInt16.toUInt32.toInt32))))) = (own_F12 ((p1).toUInt32.toUInt16.toUInt32.toInt32)) then (if (3 : Int32) = (3 : Int32) then (if (own_F5 (nar .char ((p0).toUInt32.toUInt16.toUInt32.toInt32))) = (own_F12 ((p0).toUInt32.toUInt16.toUInt32.toInt32)) then (if (own_F5 (nar .char ((p1).toUInt32.toUInt16.toUInt32.toInt32))) = (own_F12 ((p1).toUInt32.toUInt16.toUInt32.toInt32)) then (if (own_F5 (nar .char ((p2).toUInt32.toUInt16.toUInt32.toInt32))) = (own_F12 ((p2).toUInt32.toUInt16.toUInt32.toInt32)) then (own_f0_129 p0 p1 p2 (1 : Int32)) else (own_f0_129 p0 p1 p2 (0 : Int32))) else (own_f0_129 p0 p1 p2 (0 : Int32))) else (own_f0_129 p0 p1 p2 (0 : Int32))) else (own_f0_129 p0 p1 p2 (0 : Int32))) else (own_f0_129 p0 p1 p2 (0 : Int32))) else (own_f0_129 p0 p1 p2 (0 : Int32))) := rfl
theorem pn_0 : plainName "com/example/mudskipper/mudskipper/UnitPairLowBytesPinLaw" = true := by first | (simp [plainName, overriddenIn]; done) | decide +kernel
theorem pd_0_6 : parseMethodDescriptor "([CIII)V" = some ⟨[(.array .char), .int, .int, .int], none⟩ := by decide +kernel
theorem pd_0_7 : parseMethodDescriptor "(Z)[J" = some ⟨[.boolean], some (.array .long)⟩ := by decide +kernel
theorem pd_0_8 : parseMethodDescriptor "()J" = some ⟨[], some .long⟩ := by decide +kernel
theorem pd_0_4 : parseMethodDescriptor "(C)J" = some ⟨[.char], some .long⟩ := by decide +kernel
theorem ef_0 (m : MethodId) (x0 : Int32) (x1 : Int32) (x2 : Int32) : entryFrame m #[(.int x0), (.int x1), (.int x2)] maxLocals = mkF m 0 #[.val (.int x0), .val (.int x1), .val (.int x2), .unset, .unset, .unset, .unset, .unset, .unset] [] := by first | (simp [entryFrame, mkF, argsToLocals, Value.category, maxLocals]; done) | rfl
def Q0 (Z : State) (p0 : Int32) (p1 : Int32) (p2 : Int32) (h0 : Heap) (n0 : Nat) (v : Option Value) (h : Heap) (L : List Loc) : Prop := v = some (.int 1) ∧ Fr n0 L
set_option maxRecDepth 65536 in
set_option maxHeartbeats 40000000 in
theorem rm0 (l : Launch) (Z : State) (a0 : Array Value) (hw : ∀ d ∈ tables_1, d.before a0 Z = true) (ws : List Jvm.Cond) (p0 : Int32) (p1 : Int32) (p2 : Int32) (h0 : Heap) (n0 : Nat) (Z0 : n0 ≤ h0.size) (hlaw : own_F0 p0 p1 p2 = 1) :
    MetFree l x (head1 (Jvm.Cond.code x code maxLocals ret :: ws) room_1) (fun a U => a = #[(.int p0), (.int p1), (.int p2)] ∧ Z.Warmed39 U.vm ∧ U.heap = h0) (fun _ _ _ _ _ => True) (fun _ U o U' => ∃ v L, o = .returned v ∧ Q0 Z p0 p1 p2 h0 n0 v U'.heap L ∧ FrameEnd U o U' L 24 128) := by
  refine MetFree.of_bodySF (plainFor_of_name pn_0) hisR ?_
  intro p e s m args below meth c s₁ Bd hml0 hP hK
  obtain ⟨rfl, hZ, hh⟩ := hP
  have hx := Bd.exec
  have hby := Bd.bytes
  have hml : c.maxLocals = 9 := hml0
  have hown : s.vm.findClass "com/example/mudskipper/mudskipper/UnitPairLowBytesPinLaw" = some m.cls := findClass_of_methodNamed Bd.named
  have hnm := (name_of_methodNamed Bd.named Bd.method).1
  have X0 : Stand p l e room_1 s m #[(.int p0), (.int p1), (.int p2)] below meth c s₁ [] 0 0 := Stand.of_body Bd
  have e0 : s₁.heap = h0 := by rw [← hh, Bd.state]; rfl
  have N0 := Fr.nil n0
  refine own_in (ef_0 m p0 p1 p2) ?_
  have hr0 := (own_F0_eq p0 p1 p2).symm.trans hlaw
  refine own_st (g' := (mkF m 1 #[.val (.int p0), .val (.int p1), .val (.int p2), .unset, .unset, .unset, .unset, .unset, .unset] [(.int p0)])) (fun t k => XS.iloadN X0.here hx rfl (hb hby at_0) rfl  k) ?_
  refine own_st (g' := (mkF m 2 #[.val (.int p0), .val (.int p1), .val (.int p2), .unset, .unset, .unset, .unset, .unset, .unset] [(.int ((p0).toUInt32.toUInt16.toUInt32.toInt32))])) (fun t k => XS.i2c X0.here hx rfl (hb hby at_1) rfl k) ?_
  refine own_st (g' := (mkF m 3 #[.val (.int p0), .val (.int p1), .val (.int p2), .val (.int ((p0).toUInt32.toUInt16.toUInt32.toInt32)), .unset, .unset, .unset, .unset, .unset] [])) (fun t k => XS.istoreN X0.here hx rfl (hb hby at_2) rfl (l' := #[.val (.int p0), .val (.int p1), .val (.int p2), .val (.int ((p0).toUInt32.toUInt16.toUInt32.toInt32)), .unset, .unset, .unset, .unset, .unset]) rfl k) ?_
  refine own_st (g' := (mkF m 4 #[.val (.int p0), .val (.int p1), .val (.int p2), .val (.int ((p0).toUInt32.toUInt16.toUInt32.toInt32)), .unset, .unset, .unset, .unset, .unset] [(.int p1)])) (fun t k => XS.iloadN X0.here hx rfl (hb hby at_3) rfl  k) ?_
  refine own_st (g' := (mkF m 5 #[.val (.int p0), .val (.int p1), .val (.int p2), .val (.int ((p0).toUInt32.toUInt16.toUInt32.toInt32)), .unset, .unset, .unset, .unset, .unset] [(.int ((p1).toUInt32.toUInt16.toUInt32.toInt32))])) (fun t k => XS.i2c X0.here hx rfl (hb hby at_4) rfl k) ?_
  refine own_st (g' := (mkF m 7 #[.val (.int p0), .val (.int p1), .val (.int p2), .val (.int ((p0).toUInt32.toUInt16.toUInt32.toInt32)), .val (.int ((p1).toUInt32.toUInt16.toUInt32.toInt32)), .unset, .unset, .unset, .unset] [])) (fun t k => XS.istore X0.here hx rfl (hb hby at_5) rfl (l' := #[.val (.int p0), .val (.int p1), .val (.int p2), .val (.int ((p0).toUInt32.toUInt16.toUInt32.toInt32)), .val (.int ((p1).toUInt32.toUInt16.toUInt32.toInt32)), .unset, .unset, .unset, .unset]) rfl k) ?_
  refine own_st (g' := (mkF m 8 #[.val (.int p0), .val (.int p1), .val (.int p2), .val (.int ((p0).toUInt32.toUInt16.toUInt32.toInt32)), .val (.int ((p1).toUInt32.toUInt16.toUInt32.toInt32)), .unset, .unset, .unset, .unset] [(.int p2)])) (fun t k => XS.iloadN X0.here hx rfl (hb hby at_7) rfl  k) ?_
  refine own_st (g' := (mkF m 9 #[.val (.int p0), .val (.int p1), .val (.int p2), .val (.int ((p0).toUInt32.toUInt16.toUInt32.toInt32)), .val (.int ((p1).toUInt32.toUInt16.toUInt32.toInt32)), .unset, .unset, .unset, .unset] [(.int ((p2).toUInt32.toUInt16.toUInt32.toInt32))])) (fun t k => XS.i2c X0.here hx rfl (hb hby at_8) rfl k) ?_
  refine own_st (g' := (mkF m 11 #[.val (.int p0), .val (.int p1), .val (.int p2), .val (.int ((p0).toUInt32.toUInt16.toUInt32.toInt32)), .val (.int ((p1).toUInt32.toUInt16.toUInt32.toInt32)), .val (.int ((p2).toUInt32.toUInt16.toUInt32.toInt32)), .unset, .unset, .unset] [])) (fun t k => XS.istore X0.here hx rfl (hb hby at_9) rfl (l' := #[.val (.int p0), .val (.int p1), .val (.int p2), .val (.int ((p0).toUInt32.toUInt16.toUInt32.toInt32)), .val (.int ((p1).toUInt32.toUInt16.toUInt32.toInt32)), .val (.int ((p2).toUInt32.toUInt16.toUInt32.toInt32)), .unset, .unset, .unset]) rfl k) ?_
  refine own_st (g' := (mkF m 12 #[.val (.int p0), .val (.int p1), .val (.int p2), .val (.int ((p0).toUInt32.toUInt16.toUInt32.toInt32)), .val (.int ((p1).toUInt32.toUInt16.toUInt32.toInt32)), .val (.int ((p2).toUInt32.toUInt16.toUInt32.toInt32)), .unset, .unset, .unset] [(.int (3 : Int32))])) (fun t k => XS.iconst X0.here hx rfl (hb hby at_11) k) ?_
  obtain ⟨T41, h41, k41, X41, e41, E41, A41, st41⟩ := newP X0 hx hZ (hw _ (List.mem_of_getElem? (i := 0) rfl)) e0 (g := (mkF m 12 #[.val (.int p0), .val (.int p1), .val (.int p2), .val (.int ((p0).toUInt32.toUInt16.toUInt32.toInt32)), .val (.int ((p1).toUInt32.toUInt16.toUInt32.toInt32)), .val (.int ((p2).toUInt32.toUInt16.toUInt32.toInt32)), .unset, .unset, .unset] [(.int (3 : Int32))])) rfl (hb hby at_12) rfl (by decide) (cap := 3) (by decide) (by decide) (by decide) (by decide)
  obtain ⟨b12, gg41⟩ : ∃ q, q = h0.size := ⟨_, rfl⟩
  rw [← gg41] at A41 st41
  have g_b12 : n0 ≤ b12 := Nat.le_trans Z0 (Nat.le_of_eq gg41.symm)
  have V41 : own_Ar Z h41 b12 k41 .char (3 : Int32) Value.int (0 : Int32) [(0 : Int32), (0 : Int32), (0 : Int32)] := own_Ar.new A41 (by decide) rfl
  refine own_st (g' := (mkF m 14 #[.val (.int p0), .val (.int p1), .val (.int p2), .val (.int ((p0).toUInt32.toUInt16.toUInt32.toInt32)), .val (.int ((p1).toUInt32.toUInt16.toUInt32.toInt32)), .val (.int ((p2).toUInt32.toUInt16.toUInt32.toInt32)), .unset, .unset, .unset] [(.ref b12)])) (fun t k => st41 t k) ?_
  refine own_st (g' := (mkF m 15 #[.val (.int p0), .val (.int p1), .val (.int p2), .val (.int ((p0).toUInt32.toUInt16.toUInt32.toInt32)), .val (.int ((p1).toUInt32.toUInt16.toUInt32.toInt32)), .val (.int ((p2).toUInt32.toUInt16.toUInt32.toInt32)), .unset, .unset, .unset] [(.ref b12), (.ref b12)])) (fun t k => XS.dup X41.here hx rfl (hb hby at_14) rfl rfl k) ?_
  refine own_st (g' := (mkF m 16 #[.val (.int p0), .val (.int p1), .val (.int p2), .val (.int ((p0).toUInt32.toUInt16.toUInt32.toInt32)), .val (.int ((p1).toUInt32.toUInt16.toUInt32.toInt32)), .val (.int ((p2).toUInt32.toUInt16.toUInt32.toInt32)), .unset, .unset, .unset] [(.int (0 : Int32)), (.ref b12), (.ref b12)])) (fun t k => XS.iconst X41.here hx rfl (hb hby at_15) k) ?_
  refine own_st (g' := (mkF m 17 #[.val (.int p0), .val (.int p1), .val (.int p2), .val (.int ((p0).toUInt32.toUInt16.toUInt32.toInt32)), .val (.int ((p1).toUInt32.toUInt16.toUInt32.toInt32)), .val (.int ((p2).toUInt32.toUInt16.toUInt32.toInt32)), .unset, .unset, .unset] [(.int ((p0).toUInt32.toUInt16.toUInt32.toInt32)), (.int (0 : Int32)), (.ref b12), (.ref b12)])) (fun t k => XS.iloadN X41.here hx rfl (hb hby at_16) rfl  k) ?_
  obtain ⟨T42, h42, X42, e42, W42, V42, st42⟩ := own_cast X41 hx hZ e41 V41 (j := (0 : Int32)) ⟨by decide, by decide⟩ (g := (mkF m 17 #[.val (.int p0), .val (.int p1), .val (.int p2), .val (.int ((p0).toUInt32.toUInt16.toUInt32.toInt32)), .val (.int ((p1).toUInt32.toUInt16.toUInt32.toInt32)), .val (.int ((p2).toUInt32.toUInt16.toUInt32.toInt32)), .unset, .unset, .unset] [(.int ((p0).toUInt32.toUInt16.toUInt32.toInt32)), (.int (0 : Int32)), (.ref b12), (.ref b12)])) rfl rfl (hb hby at_17)
  replace V42 : own_Ar Z h42 b12 k41 .char (3 : Int32) Value.int (0 : Int32) [(nar .char ((p0).toUInt32.toUInt16.toUInt32.toInt32)), (0 : Int32), (0 : Int32)] := V42
  have N42 := Fr.snoc X42 N0 g_b12
  refine own_st (g' := (mkF m 18 #[.val (.int p0), .val (.int p1), .val (.int p2), .val (.int ((p0).toUInt32.toUInt16.toUInt32.toInt32)), .val (.int ((p1).toUInt32.toUInt16.toUInt32.toInt32)), .val (.int ((p2).toUInt32.toUInt16.toUInt32.toInt32)), .unset, .unset, .unset] [(.ref b12)])) (fun t k => st42 t k) ?_
  refine own_st (g' := (mkF m 19 #[.val (.int p0), .val (.int p1), .val (.int p2), .val (.int ((p0).toUInt32.toUInt16.toUInt32.toInt32)), .val (.int ((p1).toUInt32.toUInt16.toUInt32.toInt32)), .val (.int ((p2).toUInt32.toUInt16.toUInt32.toInt32)), .unset, .unset, .unset] [(.ref b12), (.ref b12)])) (fun t k => XS.dup X42.here hx rfl (hb hby at_18) rfl rfl k) ?_
  refine own_st (g' := (mkF m 20 #[.val (.int p0), .val (.int p1), .val (.int p2), .val (.int ((p0).toUInt32.toUInt16.toUInt32.toInt32)), .val (.int ((p1).toUInt32.toUInt16.toUInt32.toInt32)), .val (.int ((p2).toUInt32.toUInt16.toUInt32.toInt32)), .unset, .unset, .unset] [(.int (1 : Int32)), (.ref b12), (.ref b12)])) (fun t k => XS.iconst X42.here hx rfl (hb hby at_19) k) ?_
  refine own_st (g' := (mkF m 22 #[.val (.int p0), .val (.int p1), .val (.int p2), .val (.int ((p0).toUInt32.toUInt16.toUInt32.toInt32)), .val (.int ((p1).toUInt32.toUInt16.toUInt32.toInt32)), .val (.int ((p2).toUInt32.toUInt16.toUInt32.toInt32)), .unset, .unset, .unset] [(.int ((p1).toUInt32.toUInt16.toUInt32.toInt32)), (.int (1 : Int32)), (.ref b12), (.ref b12)])) (fun t k => XS.iload X42.here hx rfl (hb hby at_20) rfl  k) ?_
  obtain ⟨T43, h43, X43, e43, W43, V43, st43⟩ := own_cast X42 hx hZ e42 V42 (j := (1 : Int32)) ⟨by decide, by decide⟩ (g := (mkF m 22 #[.val (.int p0), .val (.int p1), .val (.int p2), .val (.int ((p0).toUInt32.toUInt16.toUInt32.toInt32)), .val (.int ((p1).toUInt32.toUInt16.toUInt32.toInt32)), .val (.int ((p2).toUInt32.toUInt16.toUInt32.toInt32)), .unset, .unset, .unset] [(.int ((p1).toUInt32.toUInt16.toUInt32.toInt32)), (.int (1 : Int32)), (.ref b12), (.ref b12)])) rfl rfl (hb hby at_22)
  replace V43 : own_Ar Z h43 b12 k41 .char (3 : Int32) Value.int (0 : Int32) [(nar .char ((p0).toUInt32.toUInt16.toUInt32.toInt32)), (nar .char ((p1).toUInt32.toUInt16.toUInt32.toInt32)), (0 : Int32)] := V43
  have N43 := Fr.snoc X43 N42 g_b12
  refine own_st (g' := (mkF m 23 #[.val (.int p0), .val (.int p1), .val (.int p2), .val (.int ((p0).toUInt32.toUInt16.toUInt32.toInt32)), .val (.int ((p1).toUInt32.toUInt16.toUInt32.toInt32)), .val (.int ((p2).toUInt32.toUInt16.toUInt32.toInt32)), .unset, .unset, .unset] [(.ref b12)])) (fun t k => st43 t k) ?_
  refine own_st (g' := (mkF m 24 #[.val (.int p0), .val (.int p1), .val (.int p2), .val (.int ((p0).toUInt32.toUInt16.toUInt32.toInt32)), .val (.int ((p1).toUInt32.toUInt16.toUInt32.toInt32)), .val (.int ((p2).toUInt32.toUInt16.toUInt32.toInt32)), .unset, .unset, .unset] [(.ref b12), (.ref b12)])) (fun t k => XS.dup X43.here hx rfl (hb hby at_23) rfl rfl k) ?_
  refine own_st (g' := (mkF m 25 #[.val (.int p0), .val (.int p1), .val (.int p2), .val (.int ((p0).toUInt32.toUInt16.toUInt32.toInt32)), .val (.int ((p1).toUInt32.toUInt16.toUInt32.toInt32)), .val (.int ((p2).toUInt32.toUInt16.toUInt32.toInt32)), .unset, .unset, .unset] [(.int (2 : Int32)), (.ref b12), (.ref b12)])) (fun t k => XS.iconst X43.here hx rfl (hb hby at_24) k) ?_
  refine own_st (g' := (mkF m 27 #[.val (.int p0), .val (.int p1), .val (.int p2), .val (.int ((p0).toUInt32.toUInt16.toUInt32.toInt32)), .val (.int ((p1).toUInt32.toUInt16.toUInt32.toInt32)), .val (.int ((p2).toUInt32.toUInt16.toUInt32.toInt32)), .unset, .unset, .unset] [(.int ((p2).toUInt32.toUInt16.toUInt32.toInt32)), (.int (2 : Int32)), (.ref b12), (.ref b12)])) (fun t k => XS.iload X43.here hx rfl (hb hby at_25) rfl  k) ?_
  obtain ⟨T44, h44, X44, e44, W44, V44, st44⟩ := own_cast X43 hx hZ e43 V43 (j := (2 : Int32)) ⟨by decide, by decide⟩ (g := (mkF m 27 #[.val (.int p0), .val (.int p1), .val (.int p2), .val (.int ((p0).toUInt32.toUInt16.toUInt32.toInt32)), .val (.int ((p1).toUInt32.toUInt16.toUInt32.toInt32)), .val (.int ((p2).toUInt32.toUInt16.toUInt32.toInt32)), .unset, .unset, .unset] [(.int ((p2).toUInt32.toUInt16.toUInt32.toInt32)), (.int (2 : Int32)), (.ref b12), (.ref b12)])) rfl rfl (hb hby at_27)
  replace V44 : own_Ar Z h44 b12 k41 .char (3 : Int32) Value.int (0 : Int32) [(nar .char ((p0).toUInt32.toUInt16.toUInt32.toInt32)), (nar .char ((p1).toUInt32.toUInt16.toUInt32.toInt32)), (nar .char ((p2).toUInt32.toUInt16.toUInt32.toInt32))] := V44
  have N44 := Fr.snoc X44 N43 g_b12
  refine own_st (g' := (mkF m 28 #[.val (.int p0), .val (.int p1), .val (.int p2), .val (.int ((p0).toUInt32.toUInt16.toUInt32.toInt32)), .val (.int ((p1).toUInt32.toUInt16.toUInt32.toInt32)), .val (.int ((p2).toUInt32.toUInt16.toUInt32.toInt32)), .unset, .unset, .unset] [(.ref b12)])) (fun t k => st44 t k) ?_
  refine own_st (g' := (mkF m 30 #[.val (.int p0), .val (.int p1), .val (.int p2), .val (.int ((p0).toUInt32.toUInt16.toUInt32.toInt32)), .val (.int ((p1).toUInt32.toUInt16.toUInt32.toInt32)), .val (.int ((p2).toUInt32.toUInt16.toUInt32.toInt32)), .val (.ref b12), .unset, .unset] [])) (fun t k => XS.astore X44.here hx rfl (hb hby at_28) rfl rfl (l' := #[.val (.int p0), .val (.int p1), .val (.int p2), .val (.int ((p0).toUInt32.toUInt16.toUInt32.toInt32)), .val (.int ((p1).toUInt32.toUInt16.toUInt32.toInt32)), .val (.int ((p2).toUInt32.toUInt16.toUInt32.toInt32)), .val (.ref b12), .unset, .unset]) rfl k) ?_
  obtain ⟨T45, h45, X45, e45, E45, A45, D45, -, st45⟩ := newO X44 hx hZ hown (hw _ (List.mem_of_getElem? (i := 1) rfl)) (hw _ (List.mem_of_getElem? (i := 2) rfl)) (hw _ (List.mem_of_getElem? (i := 3) rfl)) e44 (g := (mkF m 30 #[.val (.int p0), .val (.int p1), .val (.int p2), .val (.int ((p0).toUInt32.toUInt16.toUInt32.toInt32)), .val (.int ((p1).toUInt32.toUInt16.toUInt32.toInt32)), .val (.int ((p2).toUInt32.toUInt16.toUInt32.toInt32)), .val (.ref b12), .unset, .unset] [])) rfl (hb hby at_30) (by decide) (by decide)
  obtain ⟨b30, gg45⟩ : ∃ q, q = h44.size := ⟨_, rfl⟩
  rw [← gg45] at A45 D45 st45
  have Z46 : n0 ≤ h44.size := (Nat.le_trans (Nat.le_trans (Nat.le_trans (Nat.le_trans Z0 E41.1) (Nat.le_of_eq W42.size.symm)) (Nat.le_of_eq W43.size.symm)) (Nat.le_of_eq W44.size.symm))
  have g_b30 : n0 ≤ b30 := Nat.le_trans Z46 (Nat.le_of_eq gg45.symm)
  have ne_b12_b30 : b12 ≠ b30 := Nat.ne_of_lt (Nat.lt_of_lt_of_le V44.lt (Nat.le_of_eq gg45.symm))
  have F45_nearOffset : Fld Z h45 b30 "com/example/mudskipper/mudskipper/UnitPair" "nearOffset" "I" (.int (0 : Int32)) := D45 (Or.inr (hw _ (List.mem_of_getElem? (i := 15) rfl))) (ty := .int) (by decide)
  have F45_farOffset : Fld Z h45 b30 "com/example/mudskipper/mudskipper/UnitPair" "farOffset" "I" (.int (0 : Int32)) := D45 (Or.inr (hw _ (List.mem_of_getElem? (i := 20) rfl))) (ty := .int) (by decide)
  have F45_nearUnit : Fld Z h45 b30 "com/example/mudskipper/mudskipper/UnitPair" "nearUnit" "C" (.int (0 : Int32)) := D45 (Or.inr (hw _ (List.mem_of_getElem? (i := 22) rfl))) (ty := .char) (by decide)
  have F45_farUnit : Fld Z h45 b30 "com/example/mudskipper/mudskipper/UnitPair" "farUnit" "C" (.int (0 : Int32)) := D45 (Or.inr (hw _ (List.mem_of_getElem? (i := 24) rfl))) (ty := .char) (by decide)
  have F45_nearBytes : Fld Z h45 b30 "com/example/mudskipper/mudskipper/UnitPair" "nearBytes" "J" (.long (0 : Int64)) := D45 (Or.inr (hw _ (List.mem_of_getElem? (i := 30) rfl))) (ty := .long) (by decide)
  have F45_farBytes : Fld Z h45 b30 "com/example/mudskipper/mudskipper/UnitPair" "farBytes" "J" (.long (0 : Int64)) := D45 (Or.inr (hw _ (List.mem_of_getElem? (i := 32) rfl))) (ty := .long) (by decide)
  have F45_twoOffsets : Fld Z h45 b30 "com/example/mudskipper/mudskipper/UnitPair" "twoOffsets" "[I" .null := D45 (Or.inr (hw _ (List.mem_of_getElem? (i := 35) rfl))) (ty := (.array .int)) (by decide)
  have F45_twoLowBytes : Fld Z h45 b30 "com/example/mudskipper/mudskipper/UnitPair" "twoLowBytes" "[J" .null := D45 (Or.inr (hw _ (List.mem_of_getElem? (i := 38) rfl))) (ty := (.array .long)) (by decide)
  have F45_threeOffsets : Fld Z h45 b30 "com/example/mudskipper/mudskipper/UnitPair" "threeOffsets" "[I" .null := D45 (Or.inr (hw _ (List.mem_of_getElem? (i := 54) rfl))) (ty := (.array .int)) (by decide)
  have F45_threeLowBytes : Fld Z h45 b30 "com/example/mudskipper/mudskipper/UnitPair" "threeLowBytes" "[J" .null := D45 (Or.inr (hw _ (List.mem_of_getElem? (i := 56) rfl))) (ty := (.array .long)) (by decide)
  refine own_st (g' := (mkF m 33 #[.val (.int p0), .val (.int p1), .val (.int p2), .val (.int ((p0).toUInt32.toUInt16.toUInt32.toInt32)), .val (.int ((p1).toUInt32.toUInt16.toUInt32.toInt32)), .val (.int ((p2).toUInt32.toUInt16.toUInt32.toInt32)), .val (.ref b12), .unset, .unset] [(.ref b30)])) (fun t k => st45 t k) ?_
  refine own_st (g' := (mkF m 34 #[.val (.int p0), .val (.int p1), .val (.int p2), .val (.int ((p0).toUInt32.toUInt16.toUInt32.toInt32)), .val (.int ((p1).toUInt32.toUInt16.toUInt32.toInt32)), .val (.int ((p2).toUInt32.toUInt16.toUInt32.toInt32)), .val (.ref b12), .unset, .unset] [(.ref b30), (.ref b30)])) (fun t k => XS.dup X45.here hx rfl (hb hby at_33) rfl rfl k) ?_
  refine own_st (g' := (mkF m 36 #[.val (.int p0), .val (.int p1), .val (.int p2), .val (.int ((p0).toUInt32.toUInt16.toUInt32.toInt32)), .val (.int ((p1).toUInt32.toUInt16.toUInt32.toInt32)), .val (.int ((p2).toUInt32.toUInt16.toUInt32.toInt32)), .val (.ref b12), .unset, .unset] [(.ref b12), (.ref b30), (.ref b30)])) (fun t k => XS.aload X45.here hx rfl (hb hby at_34) rfl rfl k) ?_
  refine own_st (g' := (mkF m 37 #[.val (.int p0), .val (.int p1), .val (.int p2), .val (.int ((p0).toUInt32.toUInt16.toUInt32.toInt32)), .val (.int ((p1).toUInt32.toUInt16.toUInt32.toInt32)), .val (.int ((p2).toUInt32.toUInt16.toUInt32.toInt32)), .val (.ref b12), .unset, .unset] [(.int (0 : Int32)), (.ref b12), (.ref b30), (.ref b30)])) (fun t k => XS.iconst X45.here hx rfl (hb hby at_36) k) ?_
  refine own_st (g' := (mkF m 38 #[.val (.int p0), .val (.int p1), .val (.int p2), .val (.int ((p0).toUInt32.toUInt16.toUInt32.toInt32)), .val (.int ((p1).toUInt32.toUInt16.toUInt32.toInt32)), .val (.int ((p2).toUInt32.toUInt16.toUInt32.toInt32)), .val (.ref b12), .unset, .unset] [(.int (1 : Int32)), (.int (0 : Int32)), (.ref b12), (.ref b30), (.ref b30)])) (fun t k => XS.iconst X45.here hx rfl (hb hby at_37) k) ?_
  refine own_st (g' := (mkF m 39 #[.val (.int p0), .val (.int p1), .val (.int p2), .val (.int ((p0).toUInt32.toUInt16.toUInt32.toInt32)), .val (.int ((p1).toUInt32.toUInt16.toUInt32.toInt32)), .val (.int ((p2).toUInt32.toUInt16.toUInt32.toInt32)), .val (.ref b12), .unset, .unset] [(.int (2 : Int32)), (.int (1 : Int32)), (.int (0 : Int32)), (.ref b12), (.ref b30), (.ref b30)])) (fun t k => XS.iconst X45.here hx rfl (hb hby at_38) k) ?_
  have f48 := (V44.ext E45)
  have Z49 : n0 ≤ h45.size := (Nat.le_trans Z46 E45.1)
  obtain ⟨_, _, ⟨T47, L47, k47, n47⟩, -, X47, ⟨Lc47, hQ47, l47, y47, z47⟩, st47⟩ := X45.specialBack hx (y := (⟨"com/example/mudskipper/mudskipper/UnitPair", "<init>", "([CIII)V"⟩ : MethodName)) rfl hown (mvT hZ (hw _ (List.mem_of_getElem? (i := 4) rfl))) (mvT hZ (hw _ (List.mem_of_getElem? (i := 5) rfl))) (mvT hZ (hw _ (List.mem_of_getElem? (i := 6) rfl))) (by decide) (backOf (W := 1) (rm1 l Z a0 hw [] b30 b12 k41 (nar .char ((p0).toUInt32.toUInt16.toUInt32.toInt32)) (nar .char ((p1).toUInt32.toUInt16.toUInt32.toInt32)) (nar .char ((p2).toUInt32.toUInt16.toUInt32.toInt32)) h45 n0 Z49 A45 F45_nearOffset F45_farOffset F45_nearUnit F45_farUnit F45_nearBytes F45_farBytes F45_twoOffsets F45_twoLowBytes F45_threeOffsets F45_threeLowBytes f48 g_b30 ne_b12_b30 ) hZ (hw _ (List.mem_of_getElem? (i := 6) rfl)) (hw _ (List.mem_of_getElem? (i := 3) rfl)) (by decide) (by decide)) (g := (mkF m 39 #[.val (.int p0), .val (.int p1), .val (.int p2), .val (.int ((p0).toUInt32.toUInt16.toUInt32.toInt32)), .val (.int ((p1).toUInt32.toUInt16.toUInt32.toInt32)), .val (.int ((p2).toUInt32.toUInt16.toUInt32.toInt32)), .val (.ref b12), .unset, .unset] [(.int (2 : Int32)), (.int (1 : Int32)), (.int (0 : Int32)), (.ref b12), (.ref b30), (.ref b30)])) rfl (by rw [hml]; rfl) (Steps.refl _) (a := b30) (argsL := [(.ref b12), (.int (0 : Int32)), (.int (1 : Int32)), (.int (2 : Int32))]) (rest := [(.ref b30)]) (lenOf pd_0_6 rfl) rfl (by show 2 * 0 + _ ≤ _; exact Nat.le_of_eq rfl) (hb hby at_39) (fun _ _ => ⟨rfl, e45, (by decide : 2 + 4 ≤ _), (by decide : 13 + 10 ≤ _)⟩)
  dsimp only [Pt.U, Pt.locs, Pt.cells, Pt.slots] at X47 l47 y47 z47 st47 hQ47
  subst y47 z47
  obtain ⟨c39_three, k_c39_three, rfl, N47q, K47, g_c39_three, sb_c39_three, P47_0, P47_1, P47_2, P47_3, P47_4⟩ := hQ47
  have N47 : Fr n0 L47 := by rw [l47]; exact Fr.app N44 N47q
  have ne_b12_c39_three : b12 ≠ c39_three := Nat.ne_of_lt (Nat.lt_of_lt_of_le f48.lt sb_c39_three)
  have ne_b30_c39_three : b30 ≠ c39_three := Nat.ne_of_lt (Nat.lt_of_lt_of_le A45.lt sb_c39_three)
  refine own_st (g' := (mkF m 42 #[.val (.int p0), .val (.int p1), .val (.int p2), .val (.int ((p0).toUInt32.toUInt16.toUInt32.toInt32)), .val (.int ((p1).toUInt32.toUInt16.toUInt32.toInt32)), .val (.int ((p2).toUInt32.toUInt16.toUInt32.toInt32)), .val (.ref b12), .unset, .unset] [(.ref b30)])) (fun t k => st47.trans k) ?_
  refine own_st (g' := (mkF m 44 #[.val (.int p0), .val (.int p1), .val (.int p2), .val (.int ((p0).toUInt32.toUInt16.toUInt32.toInt32)), .val (.int ((p1).toUInt32.toUInt16.toUInt32.toInt32)), .val (.int ((p2).toUInt32.toUInt16.toUInt32.toInt32)), .val (.ref b12), .val (.ref b30), .unset] [])) (fun t k => XS.astore X47.here hx rfl (hb hby at_42) rfl rfl (l' := #[.val (.int p0), .val (.int p1), .val (.int p2), .val (.int ((p0).toUInt32.toUInt16.toUInt32.toInt32)), .val (.int ((p1).toUInt32.toUInt16.toUInt32.toInt32)), .val (.int ((p2).toUInt32.toUInt16.toUInt32.toInt32)), .val (.ref b12), .val (.ref b30), .unset]) rfl k) ?_
  refine own_st (g' := (mkF m 46 #[.val (.int p0), .val (.int p1), .val (.int p2), .val (.int ((p0).toUInt32.toUInt16.toUInt32.toInt32)), .val (.int ((p1).toUInt32.toUInt16.toUInt32.toInt32)), .val (.int ((p2).toUInt32.toUInt16.toUInt32.toInt32)), .val (.ref b12), .val (.ref b30), .unset] [(.ref b30)])) (fun t k => XS.aload X47.here hx rfl (hb hby at_44) rfl rfl k) ?_
  refine own_st (g' := (mkF m 47 #[.val (.int p0), .val (.int p1), .val (.int p2), .val (.int ((p0).toUInt32.toUInt16.toUInt32.toInt32)), .val (.int ((p1).toUInt32.toUInt16.toUInt32.toInt32)), .val (.int ((p2).toUInt32.toUInt16.toUInt32.toInt32)), .val (.ref b12), .val (.ref b30), .unset] [(.int (1 : Int32)), (.ref b30)])) (fun t k => XS.iconst X47.here hx rfl (hb hby at_46) k) ?_
  have Z51 : n0 ≤ T47.heap.size := (Nat.le_trans Z49 K47.1)
  obtain ⟨cq50, kq50, q50a, q50b, q50c⟩ := isOf hZ (rfl : T47.heap = T47.heap) P47_0
  obtain ⟨_, _, ⟨T50, L50, k50, n50⟩, -, X50, ⟨Lc50, hQ50, l50, y50, z50⟩, st50⟩ := X47.virtualBack hx (y := (⟨"com/example/mudskipper/mudskipper/UnitPair", "lowBytes", "(Z)[J"⟩ : MethodName)) (z := (⟨"com/example/mudskipper/mudskipper/UnitPair", "lowBytes", "(Z)[J"⟩ : MethodName)) hown (mvT hZ (hw _ (List.mem_of_getElem? (i := 57) rfl))) (mvT hZ (hw _ (List.mem_of_getElem? (i := 58) rfl))) (notFace_of_selects (args := #[]) (mvT hZ (hw _ (List.mem_of_getElem? (i := 60) rfl)))) (mvT hZ (hw _ (List.mem_of_getElem? (i := 60) rfl))) (mvT hZ (hw _ (List.mem_of_getElem? (i := 59) rfl))) (by decide) (backOf (W := 0) (rm10 l Z a0 hw [] b30 c39_three T47.heap n0 Z51 P47_3   ) hZ (hw _ (List.mem_of_getElem? (i := 61) rfl)) (hw _ (List.mem_of_getElem? (i := 3) rfl)) (by decide) (by decide)) q50a q50c (g := (mkF m 47 #[.val (.int p0), .val (.int p1), .val (.int p2), .val (.int ((p0).toUInt32.toUInt16.toUInt32.toInt32)), .val (.int ((p1).toUInt32.toUInt16.toUInt32.toInt32)), .val (.int ((p2).toUInt32.toUInt16.toUInt32.toInt32)), .val (.ref b12), .val (.ref b30), .unset] [(.int (1 : Int32)), (.ref b30)])) rfl (by rw [hml]; rfl) (Steps.refl _) (argsL := [(.int (1 : Int32))]) (rest := []) (lenOf pd_0_7 rfl) rfl (by show 2 * 0 + _ ≤ _; exact Nat.le_of_eq rfl) (hb hby at_47) (fun _ _ => ⟨rfl, (rfl : T47.heap = T47.heap), (by decide : 6 + 0 ≤ _), (by decide : 23 + 0 ≤ _)⟩)
  dsimp only [Pt.U, Pt.locs, Pt.cells, Pt.slots] at X50 l50 y50 z50 st50 hQ50
  subst y50 z50
  obtain ⟨rfl, N50q, K50⟩ := hQ50
  have N50 : Fr n0 L50 := by rw [l50]; exact Fr.app N47 N50q
  refine own_st (g' := (mkF m 50 #[.val (.int p0), .val (.int p1), .val (.int p2), .val (.int ((p0).toUInt32.toUInt16.toUInt32.toInt32)), .val (.int ((p1).toUInt32.toUInt16.toUInt32.toInt32)), .val (.int ((p2).toUInt32.toUInt16.toUInt32.toInt32)), .val (.ref b12), .val (.ref b30), .unset] [(.ref c39_three)])) (fun t k => st50.trans k) ?_
  refine own_st (g' := (mkF m 52 #[.val (.int p0), .val (.int p1), .val (.int p2), .val (.int ((p0).toUInt32.toUInt16.toUInt32.toInt32)), .val (.int ((p1).toUInt32.toUInt16.toUInt32.toInt32)), .val (.int ((p2).toUInt32.toUInt16.toUInt32.toInt32)), .val (.ref b12), .val (.ref b30), .val (.ref c39_three)] [])) (fun t k => XS.astore X50.here hx rfl (hb hby at_50) rfl rfl (l' := #[.val (.int p0), .val (.int p1), .val (.int p2), .val (.int ((p0).toUInt32.toUInt16.toUInt32.toInt32)), .val (.int ((p1).toUInt32.toUInt16.toUInt32.toInt32)), .val (.int ((p2).toUInt32.toUInt16.toUInt32.toInt32)), .val (.ref b12), .val (.ref b30), .val (.ref c39_three)]) rfl k) ?_
  refine own_st (g' := (mkF m 54 #[.val (.int p0), .val (.int p1), .val (.int p2), .val (.int ((p0).toUInt32.toUInt16.toUInt32.toInt32)), .val (.int ((p1).toUInt32.toUInt16.toUInt32.toInt32)), .val (.int ((p2).toUInt32.toUInt16.toUInt32.toInt32)), .val (.ref b12), .val (.ref b30), .val (.ref c39_three)] [(.ref b30)])) (fun t k => XS.aload X50.here hx rfl (hb hby at_52) rfl rfl k) ?_
  have f53 := (P47_1.keep K50 nin0)
  have Z54 : n0 ≤ T50.heap.size := (Nat.le_trans Z51 K50.1)
  have f55 := (P47_0.keep K50)
  obtain ⟨cq52, kq52, q52a, q52b, q52c⟩ := isOf hZ (rfl : T50.heap = T50.heap) f55
  obtain ⟨_, _, ⟨T52, L52, k52, n52⟩, -, X52, ⟨Lc52, hQ52, l52, y52, z52⟩, st52⟩ := X50.virtualBack hx (y := (⟨"com/example/mudskipper/mudskipper/UnitPair", "nearBytes", "()J"⟩ : MethodName)) (z := (⟨"com/example/mudskipper/mudskipper/UnitPair", "nearBytes", "()J"⟩ : MethodName)) hown (mvT hZ (hw _ (List.mem_of_getElem? (i := 62) rfl))) (mvT hZ (hw _ (List.mem_of_getElem? (i := 63) rfl))) (notFace_of_selects (args := #[]) (mvT hZ (hw _ (List.mem_of_getElem? (i := 65) rfl)))) (mvT hZ (hw _ (List.mem_of_getElem? (i := 65) rfl))) (mvT hZ (hw _ (List.mem_of_getElem? (i := 64) rfl))) (by decide) (backOf (W := 0) (rm11 l Z a0 hw [] b30 (own_F5 (nar .char (nar .char ((p0).toUInt32.toUInt16.toUInt32.toInt32)))) T50.heap n0 Z54 f53 ) hZ (hw _ (List.mem_of_getElem? (i := 66) rfl)) (hw _ (List.mem_of_getElem? (i := 3) rfl)) (by decide) (by decide)) q52a q52c (g := (mkF m 54 #[.val (.int p0), .val (.int p1), .val (.int p2), .val (.int ((p0).toUInt32.toUInt16.toUInt32.toInt32)), .val (.int ((p1).toUInt32.toUInt16.toUInt32.toInt32)), .val (.int ((p2).toUInt32.toUInt16.toUInt32.toInt32)), .val (.ref b12), .val (.ref b30), .val (.ref c39_three)] [(.ref b30)])) rfl (by rw [hml]; rfl) (Steps.refl _) (argsL := []) (rest := []) (lenOf pd_0_8 rfl) rfl (by show 2 * 0 + _ ≤ _; exact Nat.le_of_eq rfl) (hb hby at_54) (fun _ _ => ⟨rfl, (rfl : T50.heap = T50.heap), (by decide : 6 + 0 ≤ _), (by decide : 23 + 0 ≤ _)⟩)
  dsimp only [Pt.U, Pt.locs, Pt.cells, Pt.slots] at X52 l52 y52 z52 st52 hQ52
  subst y52 z52
  obtain ⟨rfl, N52q, e52⟩ := hQ52
  have N52 : Fr n0 L52 := by rw [l52]; exact Fr.app N50 N52q
  refine own_st (g' := (mkF m 57 #[.val (.int p0), .val (.int p1), .val (.int p2), .val (.int ((p0).toUInt32.toUInt16.toUInt32.toInt32)), .val (.int ((p1).toUInt32.toUInt16.toUInt32.toInt32)), .val (.int ((p2).toUInt32.toUInt16.toUInt32.toInt32)), .val (.ref b12), .val (.ref b30), .val (.ref c39_three)] [(.long (own_F11 (own_F5 (nar .char (nar .char ((p0).toUInt32.toUInt16.toUInt32.toInt32))))))])) (fun t k => st52.trans k) ?_
  refine own_st (g' := (mkF m 58 #[.val (.int p0), .val (.int p1), .val (.int p2), .val (.int ((p0).toUInt32.toUInt16.toUInt32.toInt32)), .val (.int ((p1).toUInt32.toUInt16.toUInt32.toInt32)), .val (.int ((p2).toUInt32.toUInt16.toUInt32.toInt32)), .val (.ref b12), .val (.ref b30), .val (.ref c39_three)] [(.int ((p0).toUInt32.toUInt16.toUInt32.toInt32)), (.long (own_F11 (own_F5 (nar .char (nar .char ((p0).toUInt32.toUInt16.toUInt32.toInt32))))))])) (fun t k => XS.iloadN X52.here hx rfl (hb hby at_57) rfl  k) ?_
  obtain ⟨_, _, ⟨T56, L56, k56, n56⟩, -, X56, ⟨Lc56, hQ56, l56, y56, z56⟩, st56⟩ := Jvm.LawKit.callS X52 hx (y := (⟨"com/example/mudskipper/mudskipper/UnitPairLowBytesPinLaw", "spread", "(C)J"⟩ : MethodName)) hown (mvT hZ (hw _ (List.mem_of_getElem? (i := 67) rfl))) (mvT hZ (hw _ (List.mem_of_getElem? (i := 68) rfl))) (mvT hZ (hw _ (List.mem_of_getElem? (i := 69) rfl))) (mvT hZ (hw _ (List.mem_of_getElem? (i := 70) rfl))) (by decide) (backOf (W := 2) (rm12 l Z a0 hw [] ((p0).toUInt32.toUInt16.toUInt32.toInt32) T50.heap n0 Z54  ) hZ (hw _ (List.mem_of_getElem? (i := 70) rfl)) (hw _ (List.mem_of_getElem? (i := 69) rfl)) (by decide) (by decide)) (g := (mkF m 58 #[.val (.int p0), .val (.int p1), .val (.int p2), .val (.int ((p0).toUInt32.toUInt16.toUInt32.toInt32)), .val (.int ((p1).toUInt32.toUInt16.toUInt32.toInt32)), .val (.int ((p2).toUInt32.toUInt16.toUInt32.toInt32)), .val (.ref b12), .val (.ref b30), .val (.ref c39_three)] [(.int ((p0).toUInt32.toUInt16.toUInt32.toInt32)), (.long (own_F11 (own_F5 (nar .char (nar .char ((p0).toUInt32.toUInt16.toUInt32.toInt32))))))])) rfl (by rw [hml]; rfl) (argsL := [(.int ((p0).toUInt32.toUInt16.toUInt32.toInt32))]) (rest := [(.long (own_F11 (own_F5 (nar .char (nar .char ((p0).toUInt32.toUInt16.toUInt32.toInt32))))))]) (lenOf pd_0_4 rfl) rfl (by show 2 * 0 + _ ≤ _; exact Nat.le_of_eq rfl) (hb hby at_58) (fun _ _ => ⟨rfl, e52, (by decide : 6 + 0 ≤ _), (by decide : 23 + 0 ≤ _)⟩)
  dsimp only [Pt.U, Pt.locs, Pt.cells, Pt.slots] at X56 l56 y56 z56 st56 hQ56
  subst y56 z56
  obtain ⟨rfl, N56q, e56⟩ := hQ56
  have N56 : Fr n0 L56 := by rw [l56]; exact Fr.app N52 N56q
  refine own_st (g' := (mkF m 61 #[.val (.int p0), .val (.int p1), .val (.int p2), .val (.int ((p0).toUInt32.toUInt16.toUInt32.toInt32)), .val (.int ((p1).toUInt32.toUInt16.toUInt32.toInt32)), .val (.int ((p2).toUInt32.toUInt16.toUInt32.toInt32)), .val (.ref b12), .val (.ref b30), .val (.ref c39_three)] [(.long (own_F12 ((p0).toUInt32.toUInt16.toUInt32.toInt32))), (.long (own_F11 (own_F5 (nar .char (nar .char ((p0).toUInt32.toUInt16.toUInt32.toInt32))))))])) (fun t k => st56 t k) ?_
  refine own_st (g' := (mkF m 62 #[.val (.int p0), .val (.int p1), .val (.int p2), .val (.int ((p0).toUInt32.toUInt16.toUInt32.toInt32)), .val (.int ((p1).toUInt32.toUInt16.toUInt32.toInt32)), .val (.int ((p2).toUInt32.toUInt16.toUInt32.toInt32)), .val (.ref b12), .val (.ref b30), .val (.ref c39_three)] [(.int (lcmpW (own_F11 (own_F5 (nar .char (nar .char ((p0).toUInt32.toUInt16.toUInt32.toInt32))))) (own_F12 ((p0).toUInt32.toUInt16.toUInt32.toInt32))))])) (fun t k => XS.lcmp X56.here hx rfl (hb hby at_61) rfl k) ?_
  have f57 := ((f48.keep K47 (ninS ne_b12_b30 nin0)).keep K50 nin0)
  have f58 := (P47_2.keep K50 nin0)
  have f59 := (P47_3.keep K50 nin0)
  have f60 := (P47_4.keep K50 nin0)
  have J129 : ∀ (T : State) (locs : List Loc) (t0_129 : Int32), Stand p l e room_1 s m #[(.int p0), (.int p1), (.int p2)] below meth c T locs 6 23 → T.heap = T50.heap → Fr n0 locs → own_f0_129 p0 p1 p2 t0_129 = (1 : Int32) → own_Fin p e below s 24 128 (Q0 Z p0 p1 p2 h0 n0) T (mkF m 129 #[.val (.int p0), .val (.int p1), .val (.int p2), .val (.int ((p0).toUInt32.toUInt16.toUInt32.toInt32)), .val (.int ((p1).toUInt32.toUInt16.toUInt32.toInt32)), .val (.int ((p2).toUInt32.toUInt16.toUInt32.toInt32)), .val (.ref b12), .val (.ref b30), .val (.ref c39_three)] [(.int t0_129)]) := by
    intro T61 locs61 t0_129  X61 e61 N61 hr61
    have hr61a := (own_f0_129_eq (p0) (p1) (p2) (t0_129)).symm.trans hr61
    exact own_retN (t := .boolean) X61 hx Bd.returns Bd.notSynchronized (by simp) (hb hby at_129) ⟨congrArg (fun q => some (Value.int q)) hr61a, N61⟩ (by decide) (by decide)
  by_cases hc62_62 : (own_F11 (own_F5 (nar .char (nar .char ((p0).toUInt32.toUInt16.toUInt32.toInt32))))) = (own_F12 ((p0).toUInt32.toUInt16.toUInt32.toInt32))
  · have hr63 := (if_pos hc62_62).symm.trans hr0
    refine own_st (g' := (mkF m 65 #[.val (.int p0), .val (.int p1), .val (.int p2), .val (.int ((p0).toUInt32.toUInt16.toUInt32.toInt32)), .val (.int ((p1).toUInt32.toUInt16.toUInt32.toInt32)), .val (.int ((p2).toUInt32.toUInt16.toUInt32.toInt32)), .val (.ref b12), .val (.ref b30), .val (.ref c39_three)] [])) (fun t k => XS.ifNo X56.here hx rfl (hb hby at_62) rfl ((if0 _ _).trans (teq ((lw_eq _ _).mpr hc62_62)).2) k) ?_
    refine own_st (g' := (mkF m 67 #[.val (.int p0), .val (.int p1), .val (.int p2), .val (.int ((p0).toUInt32.toUInt16.toUInt32.toInt32)), .val (.int ((p1).toUInt32.toUInt16.toUInt32.toInt32)), .val (.int ((p2).toUInt32.toUInt16.toUInt32.toInt32)), .val (.ref b12), .val (.ref b30), .val (.ref c39_three)] [(.ref b30)])) (fun t k => XS.aload X56.here hx rfl (hb hby at_65) rfl rfl k) ?_
    obtain ⟨cq64, kq64, q64a, q64b, q64c⟩ := isOf hZ e56 f55
    obtain ⟨_, _, ⟨T64, L64, k64, n64⟩, -, X64, ⟨Lc64, hQ64, l64, y64, z64⟩, st64⟩ := X56.virtualBack hx (y := (⟨"com/example/mudskipper/mudskipper/UnitPair", "farBytes", "()J"⟩ : MethodName)) (z := (⟨"com/example/mudskipper/mudskipper/UnitPair", "farBytes", "()J"⟩ : MethodName)) hown (mvT hZ (hw _ (List.mem_of_getElem? (i := 71) rfl))) (mvT hZ (hw _ (List.mem_of_getElem? (i := 72) rfl))) (notFace_of_selects (args := #[]) (mvT hZ (hw _ (List.mem_of_getElem? (i := 74) rfl)))) (mvT hZ (hw _ (List.mem_of_getElem? (i := 74) rfl))) (mvT hZ (hw _ (List.mem_of_getElem? (i := 73) rfl))) (by decide) (backOf (W := 0) (rm13 l Z a0 hw [] b30 (own_F5 (nar .char (nar .char ((p1).toUInt32.toUInt16.toUInt32.toInt32)))) T50.heap n0 Z54 f58 ) hZ (hw _ (List.mem_of_getElem? (i := 75) rfl)) (hw _ (List.mem_of_getElem? (i := 3) rfl)) (by decide) (by decide)) q64a q64c (g := (mkF m 67 #[.val (.int p0), .val (.int p1), .val (.int p2), .val (.int ((p0).toUInt32.toUInt16.toUInt32.toInt32)), .val (.int ((p1).toUInt32.toUInt16.toUInt32.toInt32)), .val (.int ((p2).toUInt32.toUInt16.toUInt32.toInt32)), .val (.ref b12), .val (.ref b30), .val (.ref c39_three)] [(.ref b30)])) rfl (by rw [hml]; rfl) (Steps.refl _) (argsL := []) (rest := []) (lenOf pd_0_8 rfl) rfl (by show 2 * 0 + _ ≤ _; exact Nat.le_of_eq rfl) (hb hby at_67) (fun _ _ => ⟨rfl, e56, (by decide : 6 + 0 ≤ _), (by decide : 23 + 0 ≤ _)⟩)
    dsimp only [Pt.U, Pt.locs, Pt.cells, Pt.slots] at X64 l64 y64 z64 st64 hQ64
    subst y64 z64
    obtain ⟨rfl, N64q, e64⟩ := hQ64
    have N64 : Fr n0 L64 := by rw [l64]; exact Fr.app N56 N64q
    refine own_st (g' := (mkF m 70 #[.val (.int p0), .val (.int p1), .val (.int p2), .val (.int ((p0).toUInt32.toUInt16.toUInt32.toInt32)), .val (.int ((p1).toUInt32.toUInt16.toUInt32.toInt32)), .val (.int ((p2).toUInt32.toUInt16.toUInt32.toInt32)), .val (.ref b12), .val (.ref b30), .val (.ref c39_three)] [(.long (own_F13 (own_F5 (nar .char (nar .char ((p1).toUInt32.toUInt16.toUInt32.toInt32))))))])) (fun t k => st64.trans k) ?_
    refine own_st (g' := (mkF m 72 #[.val (.int p0), .val (.int p1), .val (.int p2), .val (.int ((p0).toUInt32.toUInt16.toUInt32.toInt32)), .val (.int ((p1).toUInt32.toUInt16.toUInt32.toInt32)), .val (.int ((p2).toUInt32.toUInt16.toUInt32.toInt32)), .val (.ref b12), .val (.ref b30), .val (.ref c39_three)] [(.int ((p1).toUInt32.toUInt16.toUInt32.toInt32)), (.long (own_F13 (own_F5 (nar .char (nar .char ((p1).toUInt32.toUInt16.toUInt32.toInt32))))))])) (fun t k => XS.iload X64.here hx rfl (hb hby at_70) rfl  k) ?_
    obtain ⟨_, _, ⟨T65, L65, k65, n65⟩, -, X65, ⟨Lc65, hQ65, l65, y65, z65⟩, st65⟩ := Jvm.LawKit.callS X64 hx (y := (⟨"com/example/mudskipper/mudskipper/UnitPairLowBytesPinLaw", "spread", "(C)J"⟩ : MethodName)) hown (mvT hZ (hw _ (List.mem_of_getElem? (i := 67) rfl))) (mvT hZ (hw _ (List.mem_of_getElem? (i := 68) rfl))) (mvT hZ (hw _ (List.mem_of_getElem? (i := 69) rfl))) (mvT hZ (hw _ (List.mem_of_getElem? (i := 70) rfl))) (by decide) (backOf (W := 2) (rm12 l Z a0 hw [] ((p1).toUInt32.toUInt16.toUInt32.toInt32) T50.heap n0 Z54  ) hZ (hw _ (List.mem_of_getElem? (i := 70) rfl)) (hw _ (List.mem_of_getElem? (i := 69) rfl)) (by decide) (by decide)) (g := (mkF m 72 #[.val (.int p0), .val (.int p1), .val (.int p2), .val (.int ((p0).toUInt32.toUInt16.toUInt32.toInt32)), .val (.int ((p1).toUInt32.toUInt16.toUInt32.toInt32)), .val (.int ((p2).toUInt32.toUInt16.toUInt32.toInt32)), .val (.ref b12), .val (.ref b30), .val (.ref c39_three)] [(.int ((p1).toUInt32.toUInt16.toUInt32.toInt32)), (.long (own_F13 (own_F5 (nar .char (nar .char ((p1).toUInt32.toUInt16.toUInt32.toInt32))))))])) rfl (by rw [hml]; rfl) (argsL := [(.int ((p1).toUInt32.toUInt16.toUInt32.toInt32))]) (rest := [(.long (own_F13 (own_F5 (nar .char (nar .char ((p1).toUInt32.toUInt16.toUInt32.toInt32))))))]) (lenOf pd_0_4 rfl) rfl (by show 2 * 0 + _ ≤ _; exact Nat.le_of_eq rfl) (hb hby at_72) (fun _ _ => ⟨rfl, e64, (by decide : 6 + 0 ≤ _), (by decide : 23 + 0 ≤ _)⟩)
    dsimp only [Pt.U, Pt.locs, Pt.cells, Pt.slots] at X65 l65 y65 z65 st65 hQ65
    subst y65 z65
    obtain ⟨rfl, N65q, e65⟩ := hQ65
    have N65 : Fr n0 L65 := by rw [l65]; exact Fr.app N64 N65q
    refine own_st (g' := (mkF m 75 #[.val (.int p0), .val (.int p1), .val (.int p2), .val (.int ((p0).toUInt32.toUInt16.toUInt32.toInt32)), .val (.int ((p1).toUInt32.toUInt16.toUInt32.toInt32)), .val (.int ((p2).toUInt32.toUInt16.toUInt32.toInt32)), .val (.ref b12), .val (.ref b30), .val (.ref c39_three)] [(.long (own_F12 ((p1).toUInt32.toUInt16.toUInt32.toInt32))), (.long (own_F13 (own_F5 (nar .char (nar .char ((p1).toUInt32.toUInt16.toUInt32.toInt32))))))])) (fun t k => st65 t k) ?_
    refine own_st (g' := (mkF m 76 #[.val (.int p0), .val (.int p1), .val (.int p2), .val (.int ((p0).toUInt32.toUInt16.toUInt32.toInt32)), .val (.int ((p1).toUInt32.toUInt16.toUInt32.toInt32)), .val (.int ((p2).toUInt32.toUInt16.toUInt32.toInt32)), .val (.ref b12), .val (.ref b30), .val (.ref c39_three)] [(.int (lcmpW (own_F13 (own_F5 (nar .char (nar .char ((p1).toUInt32.toUInt16.toUInt32.toInt32))))) (own_F12 ((p1).toUInt32.toUInt16.toUInt32.toInt32))))])) (fun t k => XS.lcmp X65.here hx rfl (hb hby at_75) rfl k) ?_
    by_cases hc76_66 : (own_F13 (own_F5 (nar .char (nar .char ((p1).toUInt32.toUInt16.toUInt32.toInt32))))) = (own_F12 ((p1).toUInt32.toUInt16.toUInt32.toInt32))
    · have hr67 := (if_pos hc76_66).symm.trans hr63
      refine own_st (g' := (mkF m 79 #[.val (.int p0), .val (.int p1), .val (.int p2), .val (.int ((p0).toUInt32.toUInt16.toUInt32.toInt32)), .val (.int ((p1).toUInt32.toUInt16.toUInt32.toInt32)), .val (.int ((p2).toUInt32.toUInt16.toUInt32.toInt32)), .val (.ref b12), .val (.ref b30), .val (.ref c39_three)] [])) (fun t k => XS.ifNo X65.here hx rfl (hb hby at_76) rfl ((if0 _ _).trans (teq ((lw_eq _ _).mpr hc76_66)).2) k) ?_
      refine own_st (g' := (mkF m 81 #[.val (.int p0), .val (.int p1), .val (.int p2), .val (.int ((p0).toUInt32.toUInt16.toUInt32.toInt32)), .val (.int ((p1).toUInt32.toUInt16.toUInt32.toInt32)), .val (.int ((p2).toUInt32.toUInt16.toUInt32.toInt32)), .val (.ref b12), .val (.ref b30), .val (.ref c39_three)] [(.ref c39_three)])) (fun t k => XS.aload X65.here hx rfl (hb hby at_79) rfl rfl k) ?_
      refine own_st (g' := (mkF m 82 #[.val (.int p0), .val (.int p1), .val (.int p2), .val (.int ((p0).toUInt32.toUInt16.toUInt32.toInt32)), .val (.int ((p1).toUInt32.toUInt16.toUInt32.toInt32)), .val (.int ((p2).toUInt32.toUInt16.toUInt32.toInt32)), .val (.ref b12), .val (.ref b30), .val (.ref c39_three)] [(.int (3 : Int32))])) (fun t k => own_alen X65 hx hZ e65 f60 (g := (mkF m 81 #[.val (.int p0), .val (.int p1), .val (.int p2), .val (.int ((p0).toUInt32.toUInt16.toUInt32.toInt32)), .val (.int ((p1).toUInt32.toUInt16.toUInt32.toInt32)), .val (.int ((p2).toUInt32.toUInt16.toUInt32.toInt32)), .val (.ref b12), .val (.ref b30), .val (.ref c39_three)] [(.ref c39_three)])) rfl rfl (hb hby at_81) t k) ?_
      refine own_st (g' := (mkF m 83 #[.val (.int p0), .val (.int p1), .val (.int p2), .val (.int ((p0).toUInt32.toUInt16.toUInt32.toInt32)), .val (.int ((p1).toUInt32.toUInt16.toUInt32.toInt32)), .val (.int ((p2).toUInt32.toUInt16.toUInt32.toInt32)), .val (.ref b12), .val (.ref b30), .val (.ref c39_three)] [(.int (3 : Int32)), (.int (3 : Int32))])) (fun t k => XS.iconst X65.here hx rfl (hb hby at_82) k) ?_
      by_cases hc83_68 : (3 : Int32) = (3 : Int32)
      · have hr69 := (if_pos hc83_68).symm.trans hr67
        refine own_st (g' := (mkF m 86 #[.val (.int p0), .val (.int p1), .val (.int p2), .val (.int ((p0).toUInt32.toUInt16.toUInt32.toInt32)), .val (.int ((p1).toUInt32.toUInt16.toUInt32.toInt32)), .val (.int ((p2).toUInt32.toUInt16.toUInt32.toInt32)), .val (.ref b12), .val (.ref b30), .val (.ref c39_three)] [])) (fun t k => XS.icmpNo X65.here hx rfl (hb hby at_83) rfl (teq hc83_68).2 k) ?_
        refine own_st (g' := (mkF m 88 #[.val (.int p0), .val (.int p1), .val (.int p2), .val (.int ((p0).toUInt32.toUInt16.toUInt32.toInt32)), .val (.int ((p1).toUInt32.toUInt16.toUInt32.toInt32)), .val (.int ((p2).toUInt32.toUInt16.toUInt32.toInt32)), .val (.ref b12), .val (.ref b30), .val (.ref c39_three)] [(.ref c39_three)])) (fun t k => XS.aload X65.here hx rfl (hb hby at_86) rfl rfl k) ?_
        refine own_st (g' := (mkF m 89 #[.val (.int p0), .val (.int p1), .val (.int p2), .val (.int ((p0).toUInt32.toUInt16.toUInt32.toInt32)), .val (.int ((p1).toUInt32.toUInt16.toUInt32.toInt32)), .val (.int ((p2).toUInt32.toUInt16.toUInt32.toInt32)), .val (.ref b12), .val (.ref b30), .val (.ref c39_three)] [(.int (0 : Int32)), (.ref c39_three)])) (fun t k => XS.iconst X65.here hx rfl (hb hby at_88) k) ?_
        refine own_st (g' := (mkF m 90 #[.val (.int p0), .val (.int p1), .val (.int p2), .val (.int ((p0).toUInt32.toUInt16.toUInt32.toInt32)), .val (.int ((p1).toUInt32.toUInt16.toUInt32.toInt32)), .val (.int ((p2).toUInt32.toUInt16.toUInt32.toInt32)), .val (.ref b12), .val (.ref b30), .val (.ref c39_three)] [(.long (own_F5 (nar .char ((p0).toUInt32.toUInt16.toUInt32.toInt32))))])) (fun t k => own_lald X65 hx hZ e65 f60 (j := (0 : Int32)) ⟨by decide, by decide⟩ (g := (mkF m 89 #[.val (.int p0), .val (.int p1), .val (.int p2), .val (.int ((p0).toUInt32.toUInt16.toUInt32.toInt32)), .val (.int ((p1).toUInt32.toUInt16.toUInt32.toInt32)), .val (.int ((p2).toUInt32.toUInt16.toUInt32.toInt32)), .val (.ref b12), .val (.ref b30), .val (.ref c39_three)] [(.int (0 : Int32)), (.ref c39_three)])) rfl rfl (hb hby at_89) t k) ?_
        refine own_st (g' := (mkF m 91 #[.val (.int p0), .val (.int p1), .val (.int p2), .val (.int ((p0).toUInt32.toUInt16.toUInt32.toInt32)), .val (.int ((p1).toUInt32.toUInt16.toUInt32.toInt32)), .val (.int ((p2).toUInt32.toUInt16.toUInt32.toInt32)), .val (.ref b12), .val (.ref b30), .val (.ref c39_three)] [(.int ((p0).toUInt32.toUInt16.toUInt32.toInt32)), (.long (own_F5 (nar .char ((p0).toUInt32.toUInt16.toUInt32.toInt32))))])) (fun t k => XS.iloadN X65.here hx rfl (hb hby at_90) rfl  k) ?_
        obtain ⟨_, _, ⟨T70, L70, k70, n70⟩, -, X70, ⟨Lc70, hQ70, l70, y70, z70⟩, st70⟩ := Jvm.LawKit.callS X65 hx (y := (⟨"com/example/mudskipper/mudskipper/UnitPairLowBytesPinLaw", "spread", "(C)J"⟩ : MethodName)) hown (mvT hZ (hw _ (List.mem_of_getElem? (i := 67) rfl))) (mvT hZ (hw _ (List.mem_of_getElem? (i := 68) rfl))) (mvT hZ (hw _ (List.mem_of_getElem? (i := 69) rfl))) (mvT hZ (hw _ (List.mem_of_getElem? (i := 70) rfl))) (by decide) (backOf (W := 2) (rm12 l Z a0 hw [] ((p0).toUInt32.toUInt16.toUInt32.toInt32) T50.heap n0 Z54  ) hZ (hw _ (List.mem_of_getElem? (i := 70) rfl)) (hw _ (List.mem_of_getElem? (i := 69) rfl)) (by decide) (by decide)) (g := (mkF m 91 #[.val (.int p0), .val (.int p1), .val (.int p2), .val (.int ((p0).toUInt32.toUInt16.toUInt32.toInt32)), .val (.int ((p1).toUInt32.toUInt16.toUInt32.toInt32)), .val (.int ((p2).toUInt32.toUInt16.toUInt32.toInt32)), .val (.ref b12), .val (.ref b30), .val (.ref c39_three)] [(.int ((p0).toUInt32.toUInt16.toUInt32.toInt32)), (.long (own_F5 (nar .char ((p0).toUInt32.toUInt16.toUInt32.toInt32))))])) rfl (by rw [hml]; rfl) (argsL := [(.int ((p0).toUInt32.toUInt16.toUInt32.toInt32))]) (rest := [(.long (own_F5 (nar .char ((p0).toUInt32.toUInt16.toUInt32.toInt32))))]) (lenOf pd_0_4 rfl) rfl (by show 2 * 0 + _ ≤ _; exact Nat.le_of_eq rfl) (hb hby at_91) (fun _ _ => ⟨rfl, e65, (by decide : 6 + 0 ≤ _), (by decide : 23 + 0 ≤ _)⟩)
        dsimp only [Pt.U, Pt.locs, Pt.cells, Pt.slots] at X70 l70 y70 z70 st70 hQ70
        subst y70 z70
        obtain ⟨rfl, N70q, e70⟩ := hQ70
        have N70 : Fr n0 L70 := by rw [l70]; exact Fr.app N65 N70q
        refine own_st (g' := (mkF m 94 #[.val (.int p0), .val (.int p1), .val (.int p2), .val (.int ((p0).toUInt32.toUInt16.toUInt32.toInt32)), .val (.int ((p1).toUInt32.toUInt16.toUInt32.toInt32)), .val (.int ((p2).toUInt32.toUInt16.toUInt32.toInt32)), .val (.ref b12), .val (.ref b30), .val (.ref c39_three)] [(.long (own_F12 ((p0).toUInt32.toUInt16.toUInt32.toInt32))), (.long (own_F5 (nar .char ((p0).toUInt32.toUInt16.toUInt32.toInt32))))])) (fun t k => st70 t k) ?_
        refine own_st (g' := (mkF m 95 #[.val (.int p0), .val (.int p1), .val (.int p2), .val (.int ((p0).toUInt32.toUInt16.toUInt32.toInt32)), .val (.int ((p1).toUInt32.toUInt16.toUInt32.toInt32)), .val (.int ((p2).toUInt32.toUInt16.toUInt32.toInt32)), .val (.ref b12), .val (.ref b30), .val (.ref c39_three)] [(.int (lcmpW (own_F5 (nar .char ((p0).toUInt32.toUInt16.toUInt32.toInt32))) (own_F12 ((p0).toUInt32.toUInt16.toUInt32.toInt32))))])) (fun t k => XS.lcmp X70.here hx rfl (hb hby at_94) rfl k) ?_
        by_cases hc95_71 : (own_F5 (nar .char ((p0).toUInt32.toUInt16.toUInt32.toInt32))) = (own_F12 ((p0).toUInt32.toUInt16.toUInt32.toInt32))
        · have hr72 := (if_pos hc95_71).symm.trans hr69
          refine own_st (g' := (mkF m 98 #[.val (.int p0), .val (.int p1), .val (.int p2), .val (.int ((p0).toUInt32.toUInt16.toUInt32.toInt32)), .val (.int ((p1).toUInt32.toUInt16.toUInt32.toInt32)), .val (.int ((p2).toUInt32.toUInt16.toUInt32.toInt32)), .val (.ref b12), .val (.ref b30), .val (.ref c39_three)] [])) (fun t k => XS.ifNo X70.here hx rfl (hb hby at_95) rfl ((if0 _ _).trans (teq ((lw_eq _ _).mpr hc95_71)).2) k) ?_
          refine own_st (g' := (mkF m 100 #[.val (.int p0), .val (.int p1), .val (.int p2), .val (.int ((p0).toUInt32.toUInt16.toUInt32.toInt32)), .val (.int ((p1).toUInt32.toUInt16.toUInt32.toInt32)), .val (.int ((p2).toUInt32.toUInt16.toUInt32.toInt32)), .val (.ref b12), .val (.ref b30), .val (.ref c39_three)] [(.ref c39_three)])) (fun t k => XS.aload X70.here hx rfl (hb hby at_98) rfl rfl k) ?_
          refine own_st (g' := (mkF m 101 #[.val (.int p0), .val (.int p1), .val (.int p2), .val (.int ((p0).toUInt32.toUInt16.toUInt32.toInt32)), .val (.int ((p1).toUInt32.toUInt16.toUInt32.toInt32)), .val (.int ((p2).toUInt32.toUInt16.toUInt32.toInt32)), .val (.ref b12), .val (.ref b30), .val (.ref c39_three)] [(.int (1 : Int32)), (.ref c39_three)])) (fun t k => XS.iconst X70.here hx rfl (hb hby at_100) k) ?_
          refine own_st (g' := (mkF m 102 #[.val (.int p0), .val (.int p1), .val (.int p2), .val (.int ((p0).toUInt32.toUInt16.toUInt32.toInt32)), .val (.int ((p1).toUInt32.toUInt16.toUInt32.toInt32)), .val (.int ((p2).toUInt32.toUInt16.toUInt32.toInt32)), .val (.ref b12), .val (.ref b30), .val (.ref c39_three)] [(.long (own_F5 (nar .char ((p1).toUInt32.toUInt16.toUInt32.toInt32))))])) (fun t k => own_lald X70 hx hZ e70 f60 (j := (1 : Int32)) ⟨by decide, by decide⟩ (g := (mkF m 101 #[.val (.int p0), .val (.int p1), .val (.int p2), .val (.int ((p0).toUInt32.toUInt16.toUInt32.toInt32)), .val (.int ((p1).toUInt32.toUInt16.toUInt32.toInt32)), .val (.int ((p2).toUInt32.toUInt16.toUInt32.toInt32)), .val (.ref b12), .val (.ref b30), .val (.ref c39_three)] [(.int (1 : Int32)), (.ref c39_three)])) rfl rfl (hb hby at_101) t k) ?_
          refine own_st (g' := (mkF m 104 #[.val (.int p0), .val (.int p1), .val (.int p2), .val (.int ((p0).toUInt32.toUInt16.toUInt32.toInt32)), .val (.int ((p1).toUInt32.toUInt16.toUInt32.toInt32)), .val (.int ((p2).toUInt32.toUInt16.toUInt32.toInt32)), .val (.ref b12), .val (.ref b30), .val (.ref c39_three)] [(.int ((p1).toUInt32.toUInt16.toUInt32.toInt32)), (.long (own_F5 (nar .char ((p1).toUInt32.toUInt16.toUInt32.toInt32))))])) (fun t k => XS.iload X70.here hx rfl (hb hby at_102) rfl  k) ?_
          obtain ⟨_, _, ⟨T73, L73, k73, n73⟩, -, X73, ⟨Lc73, hQ73, l73, y73, z73⟩, st73⟩ := Jvm.LawKit.callS X70 hx (y := (⟨"com/example/mudskipper/mudskipper/UnitPairLowBytesPinLaw", "spread", "(C)J"⟩ : MethodName)) hown (mvT hZ (hw _ (List.mem_of_getElem? (i := 67) rfl))) (mvT hZ (hw _ (List.mem_of_getElem? (i := 68) rfl))) (mvT hZ (hw _ (List.mem_of_getElem? (i := 69) rfl))) (mvT hZ (hw _ (List.mem_of_getElem? (i := 70) rfl))) (by decide) (backOf (W := 2) (rm12 l Z a0 hw [] ((p1).toUInt32.toUInt16.toUInt32.toInt32) T50.heap n0 Z54  ) hZ (hw _ (List.mem_of_getElem? (i := 70) rfl)) (hw _ (List.mem_of_getElem? (i := 69) rfl)) (by decide) (by decide)) (g := (mkF m 104 #[.val (.int p0), .val (.int p1), .val (.int p2), .val (.int ((p0).toUInt32.toUInt16.toUInt32.toInt32)), .val (.int ((p1).toUInt32.toUInt16.toUInt32.toInt32)), .val (.int ((p2).toUInt32.toUInt16.toUInt32.toInt32)), .val (.ref b12), .val (.ref b30), .val (.ref c39_three)] [(.int ((p1).toUInt32.toUInt16.toUInt32.toInt32)), (.long (own_F5 (nar .char ((p1).toUInt32.toUInt16.toUInt32.toInt32))))])) rfl (by rw [hml]; rfl) (argsL := [(.int ((p1).toUInt32.toUInt16.toUInt32.toInt32))]) (rest := [(.long (own_F5 (nar .char ((p1).toUInt32.toUInt16.toUInt32.toInt32))))]) (lenOf pd_0_4 rfl) rfl (by show 2 * 0 + _ ≤ _; exact Nat.le_of_eq rfl) (hb hby at_104) (fun _ _ => ⟨rfl, e70, (by decide : 6 + 0 ≤ _), (by decide : 23 + 0 ≤ _)⟩)
          dsimp only [Pt.U, Pt.locs, Pt.cells, Pt.slots] at X73 l73 y73 z73 st73 hQ73
          subst y73 z73
          obtain ⟨rfl, N73q, e73⟩ := hQ73
          have N73 : Fr n0 L73 := by rw [l73]; exact Fr.app N70 N73q
          refine own_st (g' := (mkF m 107 #[.val (.int p0), .val (.int p1), .val (.int p2), .val (.int ((p0).toUInt32.toUInt16.toUInt32.toInt32)), .val (.int ((p1).toUInt32.toUInt16.toUInt32.toInt32)), .val (.int ((p2).toUInt32.toUInt16.toUInt32.toInt32)), .val (.ref b12), .val (.ref b30), .val (.ref c39_three)] [(.long (own_F12 ((p1).toUInt32.toUInt16.toUInt32.toInt32))), (.long (own_F5 (nar .char ((p1).toUInt32.toUInt16.toUInt32.toInt32))))])) (fun t k => st73 t k) ?_
          refine own_st (g' := (mkF m 108 #[.val (.int p0), .val (.int p1), .val (.int p2), .val (.int ((p0).toUInt32.toUInt16.toUInt32.toInt32)), .val (.int ((p1).toUInt32.toUInt16.toUInt32.toInt32)), .val (.int ((p2).toUInt32.toUInt16.toUInt32.toInt32)), .val (.ref b12), .val (.ref b30), .val (.ref c39_three)] [(.int (lcmpW (own_F5 (nar .char ((p1).toUInt32.toUInt16.toUInt32.toInt32))) (own_F12 ((p1).toUInt32.toUInt16.toUInt32.toInt32))))])) (fun t k => XS.lcmp X73.here hx rfl (hb hby at_107) rfl k) ?_
          by_cases hc108_74 : (own_F5 (nar .char ((p1).toUInt32.toUInt16.toUInt32.toInt32))) = (own_F12 ((p1).toUInt32.toUInt16.toUInt32.toInt32))
          · have hr75 := (if_pos hc108_74).symm.trans hr72
            refine own_st (g' := (mkF m 111 #[.val (.int p0), .val (.int p1), .val (.int p2), .val (.int ((p0).toUInt32.toUInt16.toUInt32.toInt32)), .val (.int ((p1).toUInt32.toUInt16.toUInt32.toInt32)), .val (.int ((p2).toUInt32.toUInt16.toUInt32.toInt32)), .val (.ref b12), .val (.ref b30), .val (.ref c39_three)] [])) (fun t k => XS.ifNo X73.here hx rfl (hb hby at_108) rfl ((if0 _ _).trans (teq ((lw_eq _ _).mpr hc108_74)).2) k) ?_
            refine own_st (g' := (mkF m 113 #[.val (.int p0), .val (.int p1), .val (.int p2), .val (.int ((p0).toUInt32.toUInt16.toUInt32.toInt32)), .val (.int ((p1).toUInt32.toUInt16.toUInt32.toInt32)), .val (.int ((p2).toUInt32.toUInt16.toUInt32.toInt32)), .val (.ref b12), .val (.ref b30), .val (.ref c39_three)] [(.ref c39_three)])) (fun t k => XS.aload X73.here hx rfl (hb hby at_111) rfl rfl k) ?_
            refine own_st (g' := (mkF m 114 #[.val (.int p0), .val (.int p1), .val (.int p2), .val (.int ((p0).toUInt32.toUInt16.toUInt32.toInt32)), .val (.int ((p1).toUInt32.toUInt16.toUInt32.toInt32)), .val (.int ((p2).toUInt32.toUInt16.toUInt32.toInt32)), .val (.ref b12), .val (.ref b30), .val (.ref c39_three)] [(.int (2 : Int32)), (.ref c39_three)])) (fun t k => XS.iconst X73.here hx rfl (hb hby at_113) k) ?_
            refine own_st (g' := (mkF m 115 #[.val (.int p0), .val (.int p1), .val (.int p2), .val (.int ((p0).toUInt32.toUInt16.toUInt32.toInt32)), .val (.int ((p1).toUInt32.toUInt16.toUInt32.toInt32)), .val (.int ((p2).toUInt32.toUInt16.toUInt32.toInt32)), .val (.ref b12), .val (.ref b30), .val (.ref c39_three)] [(.long (own_F5 (nar .char ((p2).toUInt32.toUInt16.toUInt32.toInt32))))])) (fun t k => own_lald X73 hx hZ e73 f60 (j := (2 : Int32)) ⟨by decide, by decide⟩ (g := (mkF m 114 #[.val (.int p0), .val (.int p1), .val (.int p2), .val (.int ((p0).toUInt32.toUInt16.toUInt32.toInt32)), .val (.int ((p1).toUInt32.toUInt16.toUInt32.toInt32)), .val (.int ((p2).toUInt32.toUInt16.toUInt32.toInt32)), .val (.ref b12), .val (.ref b30), .val (.ref c39_three)] [(.int (2 : Int32)), (.ref c39_three)])) rfl rfl (hb hby at_114) t k) ?_
            refine own_st (g' := (mkF m 117 #[.val (.int p0), .val (.int p1), .val (.int p2), .val (.int ((p0).toUInt32.toUInt16.toUInt32.toInt32)), .val (.int ((p1).toUInt32.toUInt16.toUInt32.toInt32)), .val (.int ((p2).toUInt32.toUInt16.toUInt32.toInt32)), .val (.ref b12), .val (.ref b30), .val (.ref c39_three)] [(.int ((p2).toUInt32.toUInt16.toUInt32.toInt32)), (.long (own_F5 (nar .char ((p2).toUInt32.toUInt16.toUInt32.toInt32))))])) (fun t k => XS.iload X73.here hx rfl (hb hby at_115) rfl  k) ?_
            obtain ⟨_, _, ⟨T76, L76, k76, n76⟩, -, X76, ⟨Lc76, hQ76, l76, y76, z76⟩, st76⟩ := Jvm.LawKit.callS X73 hx (y := (⟨"com/example/mudskipper/mudskipper/UnitPairLowBytesPinLaw", "spread", "(C)J"⟩ : MethodName)) hown (mvT hZ (hw _ (List.mem_of_getElem? (i := 67) rfl))) (mvT hZ (hw _ (List.mem_of_getElem? (i := 68) rfl))) (mvT hZ (hw _ (List.mem_of_getElem? (i := 69) rfl))) (mvT hZ (hw _ (List.mem_of_getElem? (i := 70) rfl))) (by decide) (backOf (W := 2) (rm12 l Z a0 hw [] ((p2).toUInt32.toUInt16.toUInt32.toInt32) T50.heap n0 Z54  ) hZ (hw _ (List.mem_of_getElem? (i := 70) rfl)) (hw _ (List.mem_of_getElem? (i := 69) rfl)) (by decide) (by decide)) (g := (mkF m 117 #[.val (.int p0), .val (.int p1), .val (.int p2), .val (.int ((p0).toUInt32.toUInt16.toUInt32.toInt32)), .val (.int ((p1).toUInt32.toUInt16.toUInt32.toInt32)), .val (.int ((p2).toUInt32.toUInt16.toUInt32.toInt32)), .val (.ref b12), .val (.ref b30), .val (.ref c39_three)] [(.int ((p2).toUInt32.toUInt16.toUInt32.toInt32)), (.long (own_F5 (nar .char ((p2).toUInt32.toUInt16.toUInt32.toInt32))))])) rfl (by rw [hml]; rfl) (argsL := [(.int ((p2).toUInt32.toUInt16.toUInt32.toInt32))]) (rest := [(.long (own_F5 (nar .char ((p2).toUInt32.toUInt16.toUInt32.toInt32))))]) (lenOf pd_0_4 rfl) rfl (by show 2 * 0 + _ ≤ _; exact Nat.le_of_eq rfl) (hb hby at_117) (fun _ _ => ⟨rfl, e73, (by decide : 6 + 0 ≤ _), (by decide : 23 + 0 ≤ _)⟩)
            dsimp only [Pt.U, Pt.locs, Pt.cells, Pt.slots] at X76 l76 y76 z76 st76 hQ76
            subst y76 z76
            obtain ⟨rfl, N76q, e76⟩ := hQ76
            have N76 : Fr n0 L76 := by rw [l76]; exact Fr.app N73 N76q
            refine own_st (g' := (mkF m 120 #[.val (.int p0), .val (.int p1), .val (.int p2), .val (.int ((p0).toUInt32.toUInt16.toUInt32.toInt32)), .val (.int ((p1).toUInt32.toUInt16.toUInt32.toInt32)), .val (.int ((p2).toUInt32.toUInt16.toUInt32.toInt32)), .val (.ref b12), .val (.ref b30), .val (.ref c39_three)] [(.long (own_F12 ((p2).toUInt32.toUInt16.toUInt32.toInt32))), (.long (own_F5 (nar .char ((p2).toUInt32.toUInt16.toUInt32.toInt32))))])) (fun t k => st76 t k) ?_
            refine own_st (g' := (mkF m 121 #[.val (.int p0), .val (.int p1), .val (.int p2), .val (.int ((p0).toUInt32.toUInt16.toUInt32.toInt32)), .val (.int ((p1).toUInt32.toUInt16.toUInt32.toInt32)), .val (.int ((p2).toUInt32.toUInt16.toUInt32.toInt32)), .val (.ref b12), .val (.ref b30), .val (.ref c39_three)] [(.int (lcmpW (own_F5 (nar .char ((p2).toUInt32.toUInt16.toUInt32.toInt32))) (own_F12 ((p2).toUInt32.toUInt16.toUInt32.toInt32))))])) (fun t k => XS.lcmp X76.here hx rfl (hb hby at_120) rfl k) ?_
            by_cases hc121_77 : (own_F5 (nar .char ((p2).toUInt32.toUInt16.toUInt32.toInt32))) = (own_F12 ((p2).toUInt32.toUInt16.toUInt32.toInt32))
            · have hr78 := (if_pos hc121_77).symm.trans hr75
              refine own_st (g' := (mkF m 124 #[.val (.int p0), .val (.int p1), .val (.int p2), .val (.int ((p0).toUInt32.toUInt16.toUInt32.toInt32)), .val (.int ((p1).toUInt32.toUInt16.toUInt32.toInt32)), .val (.int ((p2).toUInt32.toUInt16.toUInt32.toInt32)), .val (.ref b12), .val (.ref b30), .val (.ref c39_three)] [])) (fun t k => XS.ifNo X76.here hx rfl (hb hby at_121) rfl ((if0 _ _).trans (teq ((lw_eq _ _).mpr hc121_77)).2) k) ?_
              refine own_st (g' := (mkF m 125 #[.val (.int p0), .val (.int p1), .val (.int p2), .val (.int ((p0).toUInt32.toUInt16.toUInt32.toInt32)), .val (.int ((p1).toUInt32.toUInt16.toUInt32.toInt32)), .val (.int ((p2).toUInt32.toUInt16.toUInt32.toInt32)), .val (.ref b12), .val (.ref b30), .val (.ref c39_three)] [(.int (1 : Int32))])) (fun t k => XS.iconst X76.here hx rfl (hb hby at_124) k) ?_
              refine own_st (g' := (mkF m 129 #[.val (.int p0), .val (.int p1), .val (.int p2), .val (.int ((p0).toUInt32.toUInt16.toUInt32.toInt32)), .val (.int ((p1).toUInt32.toUInt16.toUInt32.toInt32)), .val (.int ((p2).toUInt32.toUInt16.toUInt32.toInt32)), .val (.ref b12), .val (.ref b30), .val (.ref c39_three)] [(.int (1 : Int32))])) (fun t k => XS.goto X76.here hx rfl (pc0 := 125) (pc' := 129) rfl (hb hby at_125) (by decide) (by decide) k) ?_
              exact J129 T76 _ (1 : Int32)  X76 e76 N76 hr78
            · have hr79 := (if_neg hc121_77).symm.trans hr75
              refine own_st (g' := (mkF m 128 #[.val (.int p0), .val (.int p1), .val (.int p2), .val (.int ((p0).toUInt32.toUInt16.toUInt32.toInt32)), .val (.int ((p1).toUInt32.toUInt16.toUInt32.toInt32)), .val (.int ((p2).toUInt32.toUInt16.toUInt32.toInt32)), .val (.ref b12), .val (.ref b30), .val (.ref c39_three)] [])) (fun t k => XS.ifYes X76.here hx rfl (pc0 := 121) (pc' := 128) rfl (hb hby at_121) rfl ((if0 _ _).trans (feq (fun q => hc121_77 ((lw_eq _ _).mp q))).2) (by decide) (by decide) k) ?_
              refine own_st (g' := (mkF m 129 #[.val (.int p0), .val (.int p1), .val (.int p2), .val (.int ((p0).toUInt32.toUInt16.toUInt32.toInt32)), .val (.int ((p1).toUInt32.toUInt16.toUInt32.toInt32)), .val (.int ((p2).toUInt32.toUInt16.toUInt32.toInt32)), .val (.ref b12), .val (.ref b30), .val (.ref c39_three)] [(.int (0 : Int32))])) (fun t k => XS.iconst X76.here hx rfl (hb hby at_128) k) ?_
              exact J129 T76 _ (0 : Int32)  X76 e76 N76 hr79
          · have hr80 := (if_neg hc108_74).symm.trans hr72
            refine own_st (g' := (mkF m 128 #[.val (.int p0), .val (.int p1), .val (.int p2), .val (.int ((p0).toUInt32.toUInt16.toUInt32.toInt32)), .val (.int ((p1).toUInt32.toUInt16.toUInt32.toInt32)), .val (.int ((p2).toUInt32.toUInt16.toUInt32.toInt32)), .val (.ref b12), .val (.ref b30), .val (.ref c39_three)] [])) (fun t k => XS.ifYes X73.here hx rfl (pc0 := 108) (pc' := 128) rfl (hb hby at_108) rfl ((if0 _ _).trans (feq (fun q => hc108_74 ((lw_eq _ _).mp q))).2) (by decide) (by decide) k) ?_
            refine own_st (g' := (mkF m 129 #[.val (.int p0), .val (.int p1), .val (.int p2), .val (.int ((p0).toUInt32.toUInt16.toUInt32.toInt32)), .val (.int ((p1).toUInt32.toUInt16.toUInt32.toInt32)), .val (.int ((p2).toUInt32.toUInt16.toUInt32.toInt32)), .val (.ref b12), .val (.ref b30), .val (.ref c39_three)] [(.int (0 : Int32))])) (fun t k => XS.iconst X73.here hx rfl (hb hby at_128) k) ?_
            exact J129 T73 _ (0 : Int32)  X73 e73 N73 hr80
        · have hr81 := (if_neg hc95_71).symm.trans hr69
          refine own_st (g' := (mkF m 128 #[.val (.int p0), .val (.int p1), .val (.int p2), .val (.int ((p0).toUInt32.toUInt16.toUInt32.toInt32)), .val (.int ((p1).toUInt32.toUInt16.toUInt32.toInt32)), .val (.int ((p2).toUInt32.toUInt16.toUInt32.toInt32)), .val (.ref b12), .val (.ref b30), .val (.ref c39_three)] [])) (fun t k => XS.ifYes X70.here hx rfl (pc0 := 95) (pc' := 128) rfl (hb hby at_95) rfl ((if0 _ _).trans (feq (fun q => hc95_71 ((lw_eq _ _).mp q))).2) (by decide) (by decide) k) ?_
          refine own_st (g' := (mkF m 129 #[.val (.int p0), .val (.int p1), .val (.int p2), .val (.int ((p0).toUInt32.toUInt16.toUInt32.toInt32)), .val (.int ((p1).toUInt32.toUInt16.toUInt32.toInt32)), .val (.int ((p2).toUInt32.toUInt16.toUInt32.toInt32)), .val (.ref b12), .val (.ref b30), .val (.ref c39_three)] [(.int (0 : Int32))])) (fun t k => XS.iconst X70.here hx rfl (hb hby at_128) k) ?_
          exact J129 T70 _ (0 : Int32)  X70 e70 N70 hr81
      · have hr82 := (if_neg hc83_68).symm.trans hr67
        refine own_st (g' := (mkF m 128 #[.val (.int p0), .val (.int p1), .val (.int p2), .val (.int ((p0).toUInt32.toUInt16.toUInt32.toInt32)), .val (.int ((p1).toUInt32.toUInt16.toUInt32.toInt32)), .val (.int ((p2).toUInt32.toUInt16.toUInt32.toInt32)), .val (.ref b12), .val (.ref b30), .val (.ref c39_three)] [])) (fun t k => XS.icmpYes X65.here hx rfl (pc0 := 83) (pc' := 128) rfl (hb hby at_83) rfl (feq hc83_68).2 (by decide) (by decide) k) ?_
        refine own_st (g' := (mkF m 129 #[.val (.int p0), .val (.int p1), .val (.int p2), .val (.int ((p0).toUInt32.toUInt16.toUInt32.toInt32)), .val (.int ((p1).toUInt32.toUInt16.toUInt32.toInt32)), .val (.int ((p2).toUInt32.toUInt16.toUInt32.toInt32)), .val (.ref b12), .val (.ref b30), .val (.ref c39_three)] [(.int (0 : Int32))])) (fun t k => XS.iconst X65.here hx rfl (hb hby at_128) k) ?_
        exact J129 T65 _ (0 : Int32)  X65 e65 N65 hr82
    · have hr83 := (if_neg hc76_66).symm.trans hr63
      refine own_st (g' := (mkF m 128 #[.val (.int p0), .val (.int p1), .val (.int p2), .val (.int ((p0).toUInt32.toUInt16.toUInt32.toInt32)), .val (.int ((p1).toUInt32.toUInt16.toUInt32.toInt32)), .val (.int ((p2).toUInt32.toUInt16.toUInt32.toInt32)), .val (.ref b12), .val (.ref b30), .val (.ref c39_three)] [])) (fun t k => XS.ifYes X65.here hx rfl (pc0 := 76) (pc' := 128) rfl (hb hby at_76) rfl ((if0 _ _).trans (feq (fun q => hc76_66 ((lw_eq _ _).mp q))).2) (by decide) (by decide) k) ?_
      refine own_st (g' := (mkF m 129 #[.val (.int p0), .val (.int p1), .val (.int p2), .val (.int ((p0).toUInt32.toUInt16.toUInt32.toInt32)), .val (.int ((p1).toUInt32.toUInt16.toUInt32.toInt32)), .val (.int ((p2).toUInt32.toUInt16.toUInt32.toInt32)), .val (.ref b12), .val (.ref b30), .val (.ref c39_three)] [(.int (0 : Int32))])) (fun t k => XS.iconst X65.here hx rfl (hb hby at_128) k) ?_
      exact J129 T65 _ (0 : Int32)  X65 e65 N65 hr83
  · have hr84 := (if_neg hc62_62).symm.trans hr0
    refine own_st (g' := (mkF m 128 #[.val (.int p0), .val (.int p1), .val (.int p2), .val (.int ((p0).toUInt32.toUInt16.toUInt32.toInt32)), .val (.int ((p1).toUInt32.toUInt16.toUInt32.toInt32)), .val (.int ((p2).toUInt32.toUInt16.toUInt32.toInt32)), .val (.ref b12), .val (.ref b30), .val (.ref c39_three)] [])) (fun t k => XS.ifYes X56.here hx rfl (pc0 := 62) (pc' := 128) rfl (hb hby at_62) rfl ((if0 _ _).trans (feq (fun q => hc62_62 ((lw_eq _ _).mp q))).2) (by decide) (by decide) k) ?_
    refine own_st (g' := (mkF m 129 #[.val (.int p0), .val (.int p1), .val (.int p2), .val (.int ((p0).toUInt32.toUInt16.toUInt32.toInt32)), .val (.int ((p1).toUInt32.toUInt16.toUInt32.toInt32)), .val (.int ((p2).toUInt32.toUInt16.toUInt32.toInt32)), .val (.ref b12), .val (.ref b30), .val (.ref c39_three)] [(.int (0 : Int32))])) (fun t k => XS.iconst X56.here hx rfl (hb hby at_128) k) ?_
    exact J129 T56 _ (0 : Int32)  X56 e56 N56 hr84
/-! ## The plain law -/
theorem own_n1 : nar .boolean (1 : Int32) = 1 := by decide
def own_S (b : Int64) : Int64 := (((((((b ||| (b <<< ((8 : Int32) &&& 0x3f).toInt64)) ||| (b <<< ((16 : Int32) &&& 0x3f).toInt64)) ||| (b <<< ((24 : Int32) &&& 0x3f).toInt64)) ||| (b <<< ((32 : Int32) &&& 0x3f).toInt64)) ||| (b <<< ((40 : Int32) &&& 0x3f).toInt64)) ||| (b <<< ((48 : Int32) &&& 0x3f).toInt64)) ||| (b <<< ((56 : Int32) &&& 0x3f).toInt64))
theorem own_12 (c : Int32) : own_F12 c = own_S (c &&& 255).toInt64 := rfl
theorem own_5 (c : Int32) : own_F5 c = (72340172838076673 : Int64) * (c &&& 255).toInt64 := rfl
theorem own_spread : ∀ i : Fin 256, (72340172838076673 : Int64) * (Int32.ofInt (i.val : Int)).toInt64 = own_S (Int32.ofInt (i.val : Int)).toInt64 := by decide +kernel
theorem own_same (c : Int32) : own_F5 c = own_F12 c := by
  have e := c_mask c 255 8 (by decide) (by decide)
  have q : ((c &&& 255).toInt.toNat : Int) = (c &&& 255).toInt := Int.toNat_of_nonneg (by omega)
  have r := own_spread ⟨(c &&& 255).toInt.toNat, by omega⟩
  rw [show Int32.ofInt ((((⟨(c &&& 255).toInt.toNat, by omega⟩ : Fin 256).val : Nat) : Int)) = c &&& 255 by rw [q]; exact Int32.ofInt_toInt _] at r
  rw [own_12, own_5]; exact r
theorem own_nc (x : Int32) : (nar .char x) &&& 255 = x &&& 255 := by
  apply Int32.toInt_inj.mp
  have h1 := c_mask (nar .char x) 255 8 (by decide) (by decide)
  have h2 := c_mask x 255 8 (by decide) (by decide)
  have h3 : ((nar .char x).toInt - x.toInt) % 65536 = 0 := (c_i2c x).1
  rw [h1, h2]; omega
theorem own_5n (x : Int32) : own_F5 (nar .char x) = own_F12 x := by rw [own_5, own_nc, ← own_5, own_same]
theorem own_law (p0 p1 p2 : Int32) : own_F0 p0 p1 p2 = 1 := by
  have h : ∀ x : Int32, own_F5 (nar .char (nar .char x)) = own_F12 x := fun x => by rw [own_5, own_nc, own_nc, ← own_5, own_same]
  rw [own_F0_eq, if_pos ((own_F11_eq _).trans (h _)), if_pos ((own_F13_eq _).trans (h _)), if_pos rfl, if_pos (own_5n _), if_pos (own_5n _), if_pos (own_5n _), own_f0_129_eq, own_n1]

set_option maxRecDepth 65536 in
set_option maxHeartbeats 40000000 in
theorem comes_1 {Post : Tables → Env → Array Value → State → Outcome → State → Prop} (hpost : ∀ tb e args s v u, (limb_1_1.after args s (.returned v) u = true ∧ limb_1_2.after args s (.returned v) u = true ∧ True) → FrameEnd s (.returned v) u (Jvm.fieldLocs frame_1_writes args s ++ Jvm.arrayLocs frame_1_arrays args s ++ Jvm.staticLocs frame_1_statics s) 24 128 → Post tb e args s (.returned v) u) :
    ArmFor flags0 classFile x code maxLocals ret World_1 tables_1 room_1 Calls_1 rest_1 Pre_1 Post := by
  intro l hfl _ _ p e ha hc hk s m args below hf hA hF happ hP
  obtain ⟨hcalls, hrest, hpre⟩ := hP
  obtain ⟨-, -, -, hnamed, -, -, -, hat⟩ := (Spec.applies_iff hf).mp happ
  obtain ⟨hg, hn⟩ := and_e (Cond.before_iff.mp (show (Jvm.Cond.and given_1 narrow_1).before args s = true from hpre))
  obtain ⟨hg0, hq0⟩ := and_e hg
  obtain ⟨ha0, hq1⟩ := and_e hq0
  obtain ⟨ha1, hq2⟩ := and_e hq1
  have ha2 := hq2
  obtain ⟨w0, w1, w2, rfl⟩ : ∃ w0 w1 w2 : Value, args = #[w0, w1, w2] := by
    have hs : args.size = 3 := by simpa [Cond.value, given_1] using hg0
    obtain ⟨L⟩ := args
    match L, hs with
    | [w0, w1, w2], _ => exact ⟨w0, w1, w2, rfl⟩
  have hw := fun d (hd : d ∈ tables_1) => atoms_spec (ws := Jvm.Cond.code x code maxLocals ret :: tables_1) hat d (List.mem_cons_of_mem _ hd)
  obtain ⟨i0, ei0⟩ := is_v ha0
  obtain rfl : w0 = (.int i0) := Option.some.inj ei0
  obtain ⟨i1, ei1⟩ := is_v ha1
  obtain rfl : w1 = (.int i1) := Option.some.inj ei1
  obtain ⟨i2, ei2⟩ := is_v ha2
  obtain rfl : w2 = (.int i2) := Option.some.inj ei2
  obtain ⟨n, o, h1, h2, h3, _, L, rfl, ⟨rfl, N⟩, hq⟩ := rm0 l s _ hw tables_1 i0 i1 i2 s.heap s.heap.size (Nat.le_refl _) (own_law i0 i1 i2) p e ha hc hk s m _ below hf ((Spec.applies_iff_loose hf).mp happ).1 ⟨rfl, State.Warmed39.refl s, rfl⟩ trivial
  refine ⟨n, _, h1, h2, h3, hpost _ _ _ _ _ _ ⟨Cond.after_iff.mpr rfl, Cond.after_iff.mpr (eq_i res_at (Term.int_eval (1)) rfl), trivial⟩ ⟨hq.1, hq.2.1, (hq.2.2.sift fun y hy => Or.inr (N y hy)).mono (by decide) (by decide)⟩⟩
theorem main_1_1 : Claimed_1_1 := comes_1 fun _ _ _ _ _ _ h hF => ⟨h.1, hF⟩
theorem main_1_2 : Claimed_1_2 := comes_1 fun _ _ _ _ _ _ h hF => ⟨h.2.1, hF⟩
end Jvm.Pilot.@@N@@
namespace Jvm.Pilot.@@N@@
open Jvm Jvm.ClassFile Sem Op Lib Jvm.Free Jvm.Stand Jvm.Pilot.@@N@@.Jvm.D
/-! MADE BY PROGRAM (witnessworld.py) out of the Statement's table words and the real class files: 16 classes; the members and pool entries that the words name. The judged class is class 1, her method 2. -/
namespace start1
open Jvm.ClassFile
def u (s : String) : CpInfo := .utf8 (stringToUtf16 s)
/-- a pool by its gaps: so many unusable entries, then the entry; so many at the end -/
def gap : Nat → List CpInfo → List CpInfo
  | 0, r => r
  | n + 1, r => .unusable :: gap n r
def poolList (es : List (Nat × CpInfo)) (last : Nat) : List CpInfo := es.foldr (fun e r => gap e.1 (e.2 :: r)) (gap last [])
def pool (es : List (Nat × CpInfo)) (last : Nat) : Array CpInfo := ⟨poolList es last⟩
def fileOf (pool : Array CpInfo) (this : Nat) (attrs : Array Attribute := #[]) (ms : Array MethodInfo := #[]) (fl : Nat := 33) (sup : Nat := 0) (ifs : Array Nat := #[]) (fds : Array FieldInfo := #[]) : ClassFile where
  minorVersion := 0
  majorVersion := 65
  constantPool := pool
  accessFlags := fl
  thisClass := this
  superClass := sup
  interfaces := ifs
  fields := fds
  methods := ms
  attributes := attrs
def plain (name : String) (sup : Option ClassId) : Class where
  name := name
  kind := .ordinary
  loader := none
  accessFlags := 33
  super := sup
  interfaces := #[]
  cf := none
  fields := #[]
  methods := #[]
  instanceTypes := #[]
  staticTypes := #[]
  resolved := #[]
  callSites := []
  init := .initialized
  statics := none
  mirror := none

def pool0 : Array CpInfo := pool [(5, u "<init>"), (0, u "()V"), (1, .class_ 10), (1, u "java/lang/Object")] 113

def k0c0 : Code := { maxStack := 0, maxLocals := 1, code := object_method_1_code, exceptionTable := #[], attributes := #[] }
def k0m0 : Method := { name := "<init>", desc := "()V", sig := { parameters := [], returnType := none }, accessFlags := 1, code := some k0c0 }
/-- java/lang/Object -/
def k0 : Class := { plain "java/lang/Object" none with
  accessFlags := 33
  interfaces := #[]
  cf := some (fileOf pool0 8 #[] #[{ accessFlags := 1, nameIndex := 5, descriptorIndex := 6, attributes := #[] }] 33 0 #[] #[])
  fields := #[]
  methods := #[k0m0]
  instanceTypes := #[]
  staticTypes := #[]
  resolved := Array.replicate 124 none
  statics := none }

def pool1 : Array CpInfo := pool [(2, .class_ 4), (1, u "java/lang/Object"), (0, u "<init>"), (0, u "()V"), (0, .class_ 8), (0, u "com/example/mudskipper/mudskipper/UnitPair"), (0, .methodref 7 10), (0, .nameAndType 5 11), (0, u "([CIII)V"), (0, .methodref 7 13), (0, .nameAndType 14 15), (0, u "lowBytes"), (0, u "(Z)[J"), (0, .methodref 7 17), (0, .nameAndType 18 19), (0, u "nearBytes"), (0, u "()J"), (0, .methodref 21 22), (0, .class_ 23), (0, .nameAndType 24 25), (0, u "com/example/mudskipper/mudskipper/UnitPairLowBytesPinLaw"), (0, u "spread"), (0, u "(C)J"), (0, .methodref 7 27), (0, .nameAndType 28 19), (0, u "farBytes"), (2, u "law"), (0, u "(III)Z")] 7

def k1m0 : Method := { name := "<init>", desc := "()V", sig := { parameters := [], returnType := none }, accessFlags := 1, code := none }
def k1c1 : Code := { maxStack := 5, maxLocals := 3, code := method_2_code, exceptionTable := #[], attributes := #[] }
def k1m1 : Method := { name := "spread", desc := "(C)J", sig := { parameters := [.char], returnType := some .long }, accessFlags := 10, code := some k1c1 }
def k1c2 : Code := { maxStack := 6, maxLocals := 9, code := code, exceptionTable := #[], attributes := #[] }
def k1m2 : Method := { name := "law", desc := "(III)Z", sig := { parameters := [.int, .int, .int], returnType := some .boolean }, accessFlags := 9, code := some k1c2 }
/-- com/example/mudskipper/mudskipper/UnitPairLowBytesPinLaw -/
def k1 : Class := { plain "com/example/mudskipper/mudskipper/UnitPairLowBytesPinLaw" (some 0) with
  accessFlags := 49
  interfaces := #[]
  cf := some (fileOf pool1 21 #[] #[{ accessFlags := 1, nameIndex := 5, descriptorIndex := 6, attributes := #[] }, { accessFlags := 10, nameIndex := 24, descriptorIndex := 25, attributes := #[] }, { accessFlags := 9, nameIndex := 31, descriptorIndex := 32, attributes := #[] }] 49 2 #[] #[])
  fields := #[]
  methods := #[k1m0, k1m1, k1m2]
  instanceTypes := #[]
  staticTypes := #[]
  resolved := Array.replicate 40 none
  statics := none }

def pool2 : Array CpInfo := pool [(1, .methodref 2 3), (0, .class_ 4), (0, .nameAndType 5 6), (0, u "java/lang/Object"), (0, u "<init>"), (0, u "()V"), (0, .methodref 8 9), (0, .class_ 10), (0, .nameAndType 11 12), (0, u "java/lang/Math"), (0, u "min"), (0, u "(II)I"), (0, .fieldref 14 15), (0, .class_ 16), (0, .nameAndType 17 18), (0, u "com/example/mudskipper/mudskipper/UnitPair"), (0, u "nearOffset"), (0, u "I"), (0, .methodref 8 20), (0, .nameAndType 21 12), (0, u "max"), (0, .fieldref 14 23), (0, .nameAndType 24 18), (0, u "farOffset"), (0, .fieldref 14 26), (0, .nameAndType 27 28), (0, u "nearUnit"), (0, u "C"), (0, .fieldref 14 30), (0, .nameAndType 31 28), (0, u "farUnit"), (0, .methodref 14 33), (0, .nameAndType 34 35), (0, u "lowBytes"), (0, u "(C)J"), (0, .fieldref 14 37), (0, .nameAndType 38 39), (0, u "nearBytes"), (0, u "J"), (0, .fieldref 14 41), (0, .nameAndType 42 39), (0, u "farBytes"), (0, .fieldref 14 44), (0, .nameAndType 45 46), (0, u "twoOffsets"), (0, u "[I"), (0, .fieldref 14 48), (0, .nameAndType 49 50), (0, u "twoLowBytes"), (0, u "[J"), (0, .methodref 52 53), (0, .class_ 54), (0, .nameAndType 55 56), (0, u "java/util/Arrays"), (0, u "sort"), (0, u "([I)V"), (0, .fieldref 14 58), (0, .nameAndType 59 46), (0, u "threeOffsets"), (0, .fieldref 14 61), (0, .nameAndType 62 50), (0, u "threeLowBytes"), (0, .long 72340172838076673), (7, u "EIGHT_BYTES"), (0, u "Ljava/lang/invoke/VarHandle;"), (25, u "EVERY_BYTE_ONE"), (1, u "EVERY_BYTE_TOP_BIT"), (2, u "([CIII)V"), (10, u "(Z)[J"), (1, u "()J")] 6

def k2c0 : Code := { maxStack := 6, maxLocals := 8, code := prog_45_method_1_code, exceptionTable := #[], attributes := #[] }
def k2m0 : Method := { name := "<init>", desc := "([CIII)V", sig := { parameters := [(.array .char), .int, .int, .int], returnType := none }, accessFlags := 0, code := some k2c0 }
def k2c1 : Code := { maxStack := 4, maxLocals := 1, code := prog_45_method_2_code, exceptionTable := #[], attributes := #[] }
def k2m1 : Method := { name := "lowBytes", desc := "(C)J", sig := { parameters := [.char], returnType := some .long }, accessFlags := 10, code := some k2c1 }
def k2c2 : Code := { maxStack := 1, maxLocals := 2, code := prog_45_method_8_code, exceptionTable := #[], attributes := #[] }
def k2m2 : Method := { name := "lowBytes", desc := "(Z)[J", sig := { parameters := [.boolean], returnType := some (.array .long) }, accessFlags := 0, code := some k2c2 }
def k2c3 : Code := { maxStack := 2, maxLocals := 1, code := prog_45_method_11_code, exceptionTable := #[], attributes := #[] }
def k2m3 : Method := { name := "nearBytes", desc := "()J", sig := { parameters := [], returnType := some .long }, accessFlags := 0, code := some k2c3 }
def k2c4 : Code := { maxStack := 2, maxLocals := 1, code := prog_45_method_12_code, exceptionTable := #[], attributes := #[] }
def k2m4 : Method := { name := "farBytes", desc := "()J", sig := { parameters := [], returnType := some .long }, accessFlags := 0, code := some k2c4 }
/-- com/example/mudskipper/mudskipper/UnitPair -/
def k2 : Class := { plain "com/example/mudskipper/mudskipper/UnitPair" (some 0) with
  accessFlags := 32
  interfaces := #[]
  cf := some (fileOf pool2 14 #[] #[{ accessFlags := 0, nameIndex := 5, descriptorIndex := 103, attributes := #[] }, { accessFlags := 10, nameIndex := 34, descriptorIndex := 35, attributes := #[] }, { accessFlags := 0, nameIndex := 34, descriptorIndex := 114, attributes := #[] }, { accessFlags := 0, nameIndex := 38, descriptorIndex := 116, attributes := #[] }, { accessFlags := 0, nameIndex := 42, descriptorIndex := 116, attributes := #[] }] 32 2 #[] #[{ accessFlags := 26, nameIndex := 71, descriptorIndex := 72, attributes := #[] }, { accessFlags := 24, nameIndex := 98, descriptorIndex := 39, attributes := #[] }, { accessFlags := 24, nameIndex := 100, descriptorIndex := 39, attributes := #[] }, { accessFlags := 18, nameIndex := 17, descriptorIndex := 18, attributes := #[] }, { accessFlags := 18, nameIndex := 24, descriptorIndex := 18, attributes := #[] }, { accessFlags := 18, nameIndex := 27, descriptorIndex := 28, attributes := #[] }, { accessFlags := 18, nameIndex := 31, descriptorIndex := 28, attributes := #[] }, { accessFlags := 18, nameIndex := 38, descriptorIndex := 39, attributes := #[] }, { accessFlags := 18, nameIndex := 42, descriptorIndex := 39, attributes := #[] }, { accessFlags := 18, nameIndex := 45, descriptorIndex := 46, attributes := #[] }, { accessFlags := 18, nameIndex := 49, descriptorIndex := 50, attributes := #[] }, { accessFlags := 18, nameIndex := 59, descriptorIndex := 46, attributes := #[] }, { accessFlags := 18, nameIndex := 62, descriptorIndex := 50, attributes := #[] }])
  fields := #[{ name := "EIGHT_BYTES", type := (.object "java/lang/invoke/VarHandle"), accessFlags := 26, slot := 0, constantValue := 0 }, { name := "EVERY_BYTE_ONE", type := .long, accessFlags := 24, slot := 1, constantValue := 0 }, { name := "EVERY_BYTE_TOP_BIT", type := .long, accessFlags := 24, slot := 2, constantValue := 0 }, { name := "nearOffset", type := .int, accessFlags := 18, slot := 0, constantValue := 0 }, { name := "farOffset", type := .int, accessFlags := 18, slot := 1, constantValue := 0 }, { name := "nearUnit", type := .char, accessFlags := 18, slot := 2, constantValue := 0 }, { name := "farUnit", type := .char, accessFlags := 18, slot := 3, constantValue := 0 }, { name := "nearBytes", type := .long, accessFlags := 18, slot := 4, constantValue := 0 }, { name := "farBytes", type := .long, accessFlags := 18, slot := 5, constantValue := 0 }, { name := "twoOffsets", type := (.array .int), accessFlags := 18, slot := 6, constantValue := 0 }, { name := "twoLowBytes", type := (.array .long), accessFlags := 18, slot := 7, constantValue := 0 }, { name := "threeOffsets", type := (.array .int), accessFlags := 18, slot := 8, constantValue := 0 }, { name := "threeLowBytes", type := (.array .long), accessFlags := 18, slot := 9, constantValue := 0 }]
  methods := #[k2m0, k2m1, k2m2, k2m3, k2m4]
  instanceTypes := #[.int, .int, .char, .char, .long, .long, (.array .int), (.array .long), (.array .int), (.array .long)]
  staticTypes := #[(.object "java/lang/invoke/VarHandle"), .long, .long]
  resolved := Array.replicate 123 none
  statics := none }

def pool3 : Array CpInfo := pool [(1, .class_ 2), (0, u "java/lang/Math"), (1, .class_ 6), (1, u "java/lang/Object"), (0, u "<init>"), (0, u "()V"), (89, .class_ 100), (1, u "java/lang/Math$RandomNumberGeneratorHolder"), (71, u "negativeZeroFloatBits"), (0, u "J"), (2, u "negativeZeroDoubleBits"), (21, u "max"), (2, u "min"), (43, u "$assertionsDisabled"), (0, u "Z"), (88, u "(II)I"), (2, u "twoToTheDoubleScaleDown"), (0, u "D"), (4, u "twoToTheDoubleScaleUp"), (9, u "E"), (3, u "PI"), (2, u "TAU"), (2, u "DEGREES_TO_RADIANS"), (0, u "RADIANS_TO_DEGREES")] 94

def k3m0 : Method := { name := "<init>", desc := "()V", sig := { parameters := [], returnType := none }, accessFlags := 2, code := none }
def k3c1 : Code := { maxStack := 2, maxLocals := 2, code := jdk_29_method_65_code, exceptionTable := #[], attributes := #[] }
def k3m1 : Method := { name := "max", desc := "(II)I", sig := { parameters := [.int, .int], returnType := some .int }, accessFlags := 9, code := some k3c1 }
def k3c2 : Code := { maxStack := 2, maxLocals := 2, code := jdk_29_method_69_code, exceptionTable := #[], attributes := #[] }
def k3m2 : Method := { name := "min", desc := "(II)I", sig := { parameters := [.int, .int], returnType := some .int }, accessFlags := 9, code := some k3c2 }
/-- java/lang/Math -/
def k3 : Class := { plain "java/lang/Math" (some 0) with
  accessFlags := 49
  interfaces := #[]
  cf := some (fileOf pool3 1 #[.nestMembers #[98]] #[{ accessFlags := 2, nameIndex := 7, descriptorIndex := 8, attributes := #[] }, { accessFlags := 9, nameIndex := 198, descriptorIndex := 335, attributes := #[] }, { accessFlags := 9, nameIndex := 201, descriptorIndex := 335, attributes := #[] }] 49 4 #[] #[{ accessFlags := 25, nameIndex := 354, descriptorIndex := 339, attributes := #[] }, { accessFlags := 25, nameIndex := 358, descriptorIndex := 339, attributes := #[] }, { accessFlags := 25, nameIndex := 361, descriptorIndex := 339, attributes := #[] }, { accessFlags := 26, nameIndex := 364, descriptorIndex := 339, attributes := #[] }, { accessFlags := 26, nameIndex := 365, descriptorIndex := 339, attributes := #[] }, { accessFlags := 26, nameIndex := 172, descriptorIndex := 173, attributes := #[] }, { accessFlags := 26, nameIndex := 176, descriptorIndex := 173, attributes := #[] }, { accessFlags := 8, nameIndex := 344, descriptorIndex := 339, attributes := #[] }, { accessFlags := 8, nameIndex := 338, descriptorIndex := 339, attributes := #[] }, { accessFlags := 4120, nameIndex := 245, descriptorIndex := 246, attributes := #[] }])
  fields := #[{ name := "E", type := .double, accessFlags := 25, slot := 0, constantValue := 0 }, { name := "PI", type := .double, accessFlags := 25, slot := 1, constantValue := 0 }, { name := "TAU", type := .double, accessFlags := 25, slot := 2, constantValue := 0 }, { name := "DEGREES_TO_RADIANS", type := .double, accessFlags := 26, slot := 3, constantValue := 0 }, { name := "RADIANS_TO_DEGREES", type := .double, accessFlags := 26, slot := 4, constantValue := 0 }, { name := "negativeZeroFloatBits", type := .long, accessFlags := 26, slot := 5, constantValue := 0 }, { name := "negativeZeroDoubleBits", type := .long, accessFlags := 26, slot := 6, constantValue := 0 }, { name := "twoToTheDoubleScaleUp", type := .double, accessFlags := 8, slot := 7, constantValue := 0 }, { name := "twoToTheDoubleScaleDown", type := .double, accessFlags := 8, slot := 8, constantValue := 0 }, { name := "$assertionsDisabled", type := .boolean, accessFlags := 4120, slot := 9, constantValue := 0 }]
  methods := #[k3m0, k3m1, k3m2]
  instanceTypes := #[]
  staticTypes := #[.double, .double, .double, .double, .double, .long, .long, .double, .double, .boolean]
  resolved := Array.replicate 460 none
  statics := none }

def pool4 : Array CpInfo := pool [(2, .class_ 4), (1, u "java/lang/Object"), (0, u "<init>"), (0, u "()V"), (0, .methodref 8 9), (0, .class_ 10), (0, .nameAndType 11 12), (0, u "java/util/DualPivotQuicksort"), (0, u "sort"), (0, u "([IIII)V"), (1, .class_ 16), (1, u "java/util/Arrays"), (57, .class_ 76), (1, u "java/util/Arrays$NaturalOrder"), (36, .class_ 115), (1, u "java/util/Arrays$LegacyMergeSort"), (1, u "Z"), (257, .class_ 376), (0, u "java/util/Arrays$ArrayList"), (68, u "$assertionsDisabled"), (269, u "MIN_ARRAY_SORT_GRAN"), (0, u "I"), (2, u "INSERTIONSORT_THRESHOLD"), (6, u "([I)V"), (248, .class_ 976), (0, u "java/util/Arrays$ArrayItr")] 52

def k4m0 : Method := { name := "<init>", desc := "()V", sig := { parameters := [], returnType := none }, accessFlags := 2, code := none }
def k4c1 : Code := { maxStack := 4, maxLocals := 1, code := jdk_65_method_2_code, exceptionTable := #[], attributes := #[] }
def k4m1 : Method := { name := "sort", desc := "([I)V", sig := { parameters := [(.array .int)], returnType := none }, accessFlags := 9, code := some k4c1 }
/-- java/util/Arrays -/
def k4 : Class := { plain "java/util/Arrays" (some 0) with
  accessFlags := 49
  interfaces := #[]
  cf := some (fileOf pool4 14 #[.nestMembers #[975, 375, 113, 74]] #[{ accessFlags := 2, nameIndex := 5, descriptorIndex := 6, attributes := #[] }, { accessFlags := 9, nameIndex := 11, descriptorIndex := 726, attributes := #[] }] 49 2 #[] #[{ accessFlags := 26, nameIndex := 715, descriptorIndex := 716, attributes := #[] }, { accessFlags := 26, nameIndex := 719, descriptorIndex := 716, attributes := #[] }, { accessFlags := 4120, nameIndex := 445, descriptorIndex := 117, attributes := #[] }])
  fields := #[{ name := "MIN_ARRAY_SORT_GRAN", type := .int, accessFlags := 26, slot := 0, constantValue := 0 }, { name := "INSERTIONSORT_THRESHOLD", type := .int, accessFlags := 26, slot := 1, constantValue := 0 }, { name := "$assertionsDisabled", type := .boolean, accessFlags := 4120, slot := 2, constantValue := 0 }]
  methods := #[k4m0, k4m1]
  instanceTypes := #[]
  staticTypes := #[.int, .int, .boolean]
  resolved := Array.replicate 1029 none
  statics := none }

def pool5 : Array CpInfo := pool [(1, .class_ 2), (0, u "java/util/DualPivotQuicksort"), (5, .class_ 10), (1, u "java/lang/Object"), (0, u "<init>"), (0, u "()V"), (4, .class_ 18), (0, u "java/util/DualPivotQuicksort$Sorter"), (7, .methodref 1 27), (0, .nameAndType 28 29), (0, u "sort"), (0, u "(Ljava/util/DualPivotQuicksort$Sorter;[IIII)V"), (3, u "([IIII)V"), (0, .methodref 1 35), (0, .nameAndType 36 37), (0, u "insertionSort"), (0, u "([III)V"), (30, u "I"), (4, .class_ 74), (0, u "java/util/DualPivotQuicksort$RunMerger"), (10, .class_ 86), (0, u "java/util/DualPivotQuicksort$Merger"), (127, u "MAX_MIXED_INSERTION_SORT_SIZE"), (2, u "MAX_INSERTION_SORT_SIZE"), (1, u "MIN_PARALLEL_SORT_SIZE"), (1, u "MIN_TRY_MERGE_SIZE"), (0, u "MIN_FIRST_RUN_SIZE"), (1, u "MIN_FIRST_RUNS_FACTOR"), (1, u "MAX_RUN_CAPACITY"), (1, u "MIN_RUN_COUNT"), (1, u "MIN_PARALLEL_MERGE_PARTS_SIZE"), (0, u "MIN_BYTE_COUNTING_SORT_SIZE"), (1, u "MIN_SHORT_OR_CHAR_COUNTING_SORT_SIZE"), (1, u "DELTA"), (1, u "MAX_RECURSION_DEPTH"), (1, u "NUM_BYTE_VALUES"), (1, u "MAX_BYTE_INDEX"), (0, u "NUM_CHAR_VALUES"), (0, u "NUM_SHORT_VALUES"), (0, u "MAX_SHORT_INDEX")] 86

def k5m0 : Method := { name := "<init>", desc := "()V", sig := { parameters := [], returnType := none }, accessFlags := 2, code := none }
def k5c1 : Code := { maxStack := 9, maxLocals := 7, code := jdk_2529_method_3_code, exceptionTable := #[], attributes := #[] }
def k5m1 : Method := { name := "sort", desc := "([IIII)V", sig := { parameters := [(.array .int), .int, .int, .int], returnType := none }, accessFlags := 8, code := some k5c1 }
def k5c2 : Code := { maxStack := 6, maxLocals := 21, code := jdk_2529_method_4_code, exceptionTable := #[], attributes := #[] }
def k5m2 : Method := { name := "sort", desc := "(Ljava/util/DualPivotQuicksort$Sorter;[IIII)V", sig := { parameters := [(.object "java/util/DualPivotQuicksort$Sorter"), (.array .int), .int, .int, .int], returnType := none }, accessFlags := 8, code := some k5c2 }
def k5c3 : Code := { maxStack := 4, maxLocals := 6, code := jdk_2529_method_6_code, exceptionTable := #[], attributes := #[] }
def k5m3 : Method := { name := "insertionSort", desc := "([III)V", sig := { parameters := [(.array .int), .int, .int], returnType := none }, accessFlags := 10, code := some k5c3 }
/-- java/util/DualPivotQuicksort -/
def k5 : Class := { plain "java/util/DualPivotQuicksort" (some 0) with
  accessFlags := 48
  interfaces := #[]
  cf := some (fileOf pool5 1 #[.nestMembers #[73, 85, 17]] #[{ accessFlags := 2, nameIndex := 11, descriptorIndex := 12, attributes := #[] }, { accessFlags := 8, nameIndex := 28, descriptorIndex := 33, attributes := #[] }, { accessFlags := 8, nameIndex := 28, descriptorIndex := 29, attributes := #[] }, { accessFlags := 10, nameIndex := 36, descriptorIndex := 37, attributes := #[] }] 48 8 #[] #[{ accessFlags := 26, nameIndex := 214, descriptorIndex := 68, attributes := #[] }, { accessFlags := 26, nameIndex := 217, descriptorIndex := 68, attributes := #[] }, { accessFlags := 26, nameIndex := 219, descriptorIndex := 68, attributes := #[] }, { accessFlags := 26, nameIndex := 221, descriptorIndex := 68, attributes := #[] }, { accessFlags := 26, nameIndex := 222, descriptorIndex := 68, attributes := #[] }, { accessFlags := 26, nameIndex := 224, descriptorIndex := 68, attributes := #[] }, { accessFlags := 26, nameIndex := 226, descriptorIndex := 68, attributes := #[] }, { accessFlags := 26, nameIndex := 228, descriptorIndex := 68, attributes := #[] }, { accessFlags := 26, nameIndex := 230, descriptorIndex := 68, attributes := #[] }, { accessFlags := 26, nameIndex := 231, descriptorIndex := 68, attributes := #[] }, { accessFlags := 26, nameIndex := 233, descriptorIndex := 68, attributes := #[] }, { accessFlags := 26, nameIndex := 235, descriptorIndex := 68, attributes := #[] }, { accessFlags := 26, nameIndex := 237, descriptorIndex := 68, attributes := #[] }, { accessFlags := 26, nameIndex := 239, descriptorIndex := 68, attributes := #[] }, { accessFlags := 26, nameIndex := 241, descriptorIndex := 68, attributes := #[] }, { accessFlags := 26, nameIndex := 242, descriptorIndex := 68, attributes := #[] }, { accessFlags := 26, nameIndex := 243, descriptorIndex := 68, attributes := #[] }, { accessFlags := 26, nameIndex := 244, descriptorIndex := 68, attributes := #[] }])
  fields := #[{ name := "MAX_MIXED_INSERTION_SORT_SIZE", type := .int, accessFlags := 26, slot := 0, constantValue := 0 }, { name := "MAX_INSERTION_SORT_SIZE", type := .int, accessFlags := 26, slot := 1, constantValue := 0 }, { name := "MIN_PARALLEL_SORT_SIZE", type := .int, accessFlags := 26, slot := 2, constantValue := 0 }, { name := "MIN_TRY_MERGE_SIZE", type := .int, accessFlags := 26, slot := 3, constantValue := 0 }, { name := "MIN_FIRST_RUN_SIZE", type := .int, accessFlags := 26, slot := 4, constantValue := 0 }, { name := "MIN_FIRST_RUNS_FACTOR", type := .int, accessFlags := 26, slot := 5, constantValue := 0 }, { name := "MAX_RUN_CAPACITY", type := .int, accessFlags := 26, slot := 6, constantValue := 0 }, { name := "MIN_RUN_COUNT", type := .int, accessFlags := 26, slot := 7, constantValue := 0 }, { name := "MIN_PARALLEL_MERGE_PARTS_SIZE", type := .int, accessFlags := 26, slot := 8, constantValue := 0 }, { name := "MIN_BYTE_COUNTING_SORT_SIZE", type := .int, accessFlags := 26, slot := 9, constantValue := 0 }, { name := "MIN_SHORT_OR_CHAR_COUNTING_SORT_SIZE", type := .int, accessFlags := 26, slot := 10, constantValue := 0 }, { name := "DELTA", type := .int, accessFlags := 26, slot := 11, constantValue := 0 }, { name := "MAX_RECURSION_DEPTH", type := .int, accessFlags := 26, slot := 12, constantValue := 0 }, { name := "NUM_BYTE_VALUES", type := .int, accessFlags := 26, slot := 13, constantValue := 0 }, { name := "MAX_BYTE_INDEX", type := .int, accessFlags := 26, slot := 14, constantValue := 0 }, { name := "NUM_CHAR_VALUES", type := .int, accessFlags := 26, slot := 15, constantValue := 0 }, { name := "NUM_SHORT_VALUES", type := .int, accessFlags := 26, slot := 16, constantValue := 0 }, { name := "MAX_SHORT_INDEX", type := .int, accessFlags := 26, slot := 17, constantValue := 0 }]
  methods := #[k5m0, k5m1, k5m2, k5m3]
  instanceTypes := #[]
  staticTypes := #[.int, .int, .int, .int, .int, .int, .int, .int, .int, .int, .int, .int, .int, .int, .int, .int, .int, .int]
  resolved := Array.replicate 331 none
  statics := none }

def pool6 : Array CpInfo := pool [(1, u "java/lang/Cloneable"), (0, .class_ 1), (0, u "java/lang/Object"), (0, .class_ 3)] 3

/-- java/lang/Cloneable -/
def k6 : Class := { plain "java/lang/Cloneable" (some 0) with
  accessFlags := 1537
  interfaces := #[]
  cf := some (fileOf pool6 2 #[] #[] 1537 4 #[] #[])
  fields := #[]
  methods := #[]
  instanceTypes := #[]
  staticTypes := #[]
  resolved := Array.replicate 8 none
  statics := none }

def pool7 : Array CpInfo := pool [(1, u "java/io/Serializable"), (0, .class_ 1), (0, u "java/lang/Object"), (0, .class_ 3)] 3

/-- java/io/Serializable -/
def k7 : Class := { plain "java/io/Serializable" (some 0) with
  accessFlags := 1537
  interfaces := #[]
  cf := some (fileOf pool7 2 #[] #[] 1537 4 #[] #[])
  fields := #[]
  methods := #[]
  instanceTypes := #[]
  staticTypes := #[]
  resolved := Array.replicate 8 none
  statics := none }

/-- the primitive byte -/
def k8 : Class := { plain "byte" none with kind := .primitive 'B', accessFlags := 0x411 }
/-- [B -/
def k9 : Class := { plain "[B" (some 0) with kind := .array 8 .byte, interfaces := #[6, 7], accessFlags := 1041 }

/-- the primitive char -/
def k10 : Class := { plain "char" none with kind := .primitive 'C', accessFlags := 0x411 }
/-- [C -/
def k11 : Class := { plain "[C" (some 0) with kind := .array 10 .char, interfaces := #[6, 7], accessFlags := 1041 }

/-- the primitive int -/
def k12 : Class := { plain "int" none with kind := .primitive 'I', accessFlags := 0x411 }
/-- [I -/
def k13 : Class := { plain "[I" (some 0) with kind := .array 12 .int, interfaces := #[6, 7], accessFlags := 1041 }

/-- the primitive long -/
def k14 : Class := { plain "long" none with kind := .primitive 'J', accessFlags := 0x411 }
/-- [J -/
def k15 : Class := { plain "[J" (some 0) with kind := .array 14 .long, interfaces := #[6, 7], accessFlags := 1041 }

def heap : Heap := #[]
def classes : Array Class := #[k0, k1, k2, k3, k4, k5, k6, k7, k8, k9, k10, k11, k12, k13, k14, k15]
def interned : List (Array UInt16 × Addr) := []
def slotsUsed : Nat := 0
def theMethod : MethodId := ⟨1, 2⟩
def args0 : Array Value := #[.int 5, .int 5, .int 5]
def aboutOver (below : List Frame) : State where
  vm := { classes := classes, interned := interned.toArray }
  heap := heap
  slotsUsed := slotsUsed
  threads := #[{ frames := .invoking theMethod args0 :: below }]
def below0 : List Frame := [.native { method := ⟨0, 0⟩, args := #[] }]
def about1 : State := aboutOver below0
def p0 : Program := .bare "" "" ""
def e0 : Env := launch0.env 0 0 0
theorem w_frames : about1.frames = Frame.invoking theMethod args0 :: below0 := rfl
set_option maxRecDepth 65536 in
theorem w_args : argsFit about1.vm theMethod args0 = true := by decide +kernel
set_option maxRecDepth 65536 in
theorem w_heap : heapFits about1 = true := by decide +kernel
set_option maxRecDepth 65536 in
theorem w_runnable : about1.curStatus? = some .runnable := by decide +kernel
set_option maxRecDepth 65536 in
theorem w_alone : about1.alone = true := by decide +kernel
set_option maxRecDepth 65536 in
theorem w_named : about1.methodNamed? x = some theMethod := by decide +kernel
set_option maxRecDepth 65536 in
theorem w_hears : about1.hears theMethod below0 = true := by decide +kernel
set_option maxRecDepth 65536 in
theorem w_ripe : about1.ripe theMethod args0 below0 = true := by decide +kernel
theorem w_running : about1.status = .running := rfl
set_option maxRecDepth 65536 in
theorem w_room : about1.hasRoom e0.platform room_1 = true :=
  launch0.hasRoom_least _ room_1 (by decide +kernel) (by decide +kernel) (by decide +kernel) (by decide +kernel) (by decide +kernel) (by decide +kernel)
theorem allAtoms_all (ts : List Jvm.Cond) (a : Array Jvm.Value) (st : Jvm.State) : (allAtoms ts).before a st = ts.all (fun c => c.before a st) := by
  induction ts with
  | nil => rfl
  | cons c t ih =>
    show (Jvm.Cond.and c (allAtoms t)).before a st = _
    rw [Jvm.Cond.before_and, ih, List.all_cons]
def words1 : List Jvm.Cond := Jvm.Cond.code x code maxLocals ret :: tables_1
/-- a 'code' word, met by the world's own term for the bytes: nothing is compared byte by byte -/
theorem code_word {y : MethodName} {bytes : ByteArray} {mx : Nat} {rt : Option FieldType} {a : Array Value} {s : State} {m : MethodId} {meth : Method} {c : Code} (h1 : s.methodNamed? y = some m) (h2 : s.vm.method? m = some meth) (h3 : meth.code = some c) (h4 : c.code = bytes)
    (h5 : (c.maxLocals == mx && c.exceptionTable.isEmpty && decide (c.maxStack ≤ mostOperands) && decide (meth.sig.returnType = rt) && !meth.locks && decide (parseMethodDescriptor y.desc = some meth.sig)) = true) : (Jvm.Cond.code y bytes mx rt).before a s = true := by
  simp only [Bool.and_eq_true, beq_iff_eq, Bool.not_eq_true', decide_eq_true_eq] at h5
  obtain ⟨⟨⟨⟨⟨g1, g2⟩, g3⟩, g4⟩, g5⟩, g6⟩ := h5
  simp [Cond.before, Cond.holds, Cond.value, h1, h2, h3, h4, g1, g2, g3, g4, g5, g6]
def isCode : Jvm.Cond → Bool
  | .code _ _ _ _ => true
  | _ => false
theorem all_split {L : List Jvm.Cond} {P : Jvm.Cond → Bool} (h1 : L.all (fun c => isCode c || P c) = true) (h2 : ∀ c ∈ L.filter isCode, P c = true) : L.all P = true := by
  refine List.all_eq_true.mpr fun c hc => ?_
  have h := List.all_eq_true.mp h1 c hc
  rcases Bool.eq_false_or_eq_true (isCode c) with hi | hi
  · exact h2 c (List.mem_filter.mpr ⟨hc, hi⟩)
  · simpa [hi] using h
set_option maxRecDepth 65536 in
theorem w_c0 : (Jvm.Cond.code x code maxLocals ret).before args0 about1 = true := code_word (m := ⟨1, 2⟩) (meth := k1m2) (c := k1c2) (by decide +kernel) rfl rfl rfl (by decide +kernel)
set_option maxRecDepth 65536 in
theorem w_c1 : (Jvm.Cond.code ({ cls := "com/example/mudskipper/mudskipper/UnitPair", name := "<init>", desc := "([CIII)V" } : Jvm.MethodName) prog_45_method_1_code (8 : Nat) (Option.none : Option Jvm.ClassFile.FieldType)).before args0 about1 = true := code_word (m := ⟨2, 0⟩) (meth := k2m0) (c := k2c0) (by decide +kernel) rfl rfl rfl (by decide +kernel)
set_option maxRecDepth 65536 in
theorem w_c2 : (Jvm.Cond.code ({ cls := "java/lang/Object", name := "<init>", desc := "()V" } : Jvm.MethodName) object_method_1_code (1 : Nat) (Option.none : Option Jvm.ClassFile.FieldType)).before args0 about1 = true := code_word (m := ⟨0, 0⟩) (meth := k0m0) (c := k0c0) (by decide +kernel) rfl rfl rfl (by decide +kernel)
set_option maxRecDepth 65536 in
theorem w_c3 : (Jvm.Cond.code ({ cls := "java/lang/Math", name := "min", desc := "(II)I" } : Jvm.MethodName) jdk_29_method_69_code (2 : Nat) (Option.some Jvm.ClassFile.FieldType.int)).before args0 about1 = true := code_word (m := ⟨3, 2⟩) (meth := k3m2) (c := k3c2) (by decide +kernel) rfl rfl rfl (by decide +kernel)
set_option maxRecDepth 65536 in
theorem w_c4 : (Jvm.Cond.code ({ cls := "java/lang/Math", name := "max", desc := "(II)I" } : Jvm.MethodName) jdk_29_method_65_code (2 : Nat) (Option.some Jvm.ClassFile.FieldType.int)).before args0 about1 = true := code_word (m := ⟨3, 1⟩) (meth := k3m1) (c := k3c1) (by decide +kernel) rfl rfl rfl (by decide +kernel)
set_option maxRecDepth 65536 in
theorem w_c5 : (Jvm.Cond.code ({ cls := "com/example/mudskipper/mudskipper/UnitPair", name := "lowBytes", desc := "(C)J" } : Jvm.MethodName) prog_45_method_2_code (1 : Nat) (Option.some Jvm.ClassFile.FieldType.long)).before args0 about1 = true := code_word (m := ⟨2, 1⟩) (meth := k2m1) (c := k2c1) (by decide +kernel) rfl rfl rfl (by decide +kernel)
set_option maxRecDepth 65536 in
theorem w_c6 : (Jvm.Cond.code ({ cls := "java/util/Arrays", name := "sort", desc := "([I)V" } : Jvm.MethodName) jdk_65_method_2_code (1 : Nat) (Option.none : Option Jvm.ClassFile.FieldType)).before args0 about1 = true := code_word (m := ⟨4, 1⟩) (meth := k4m1) (c := k4c1) (by decide +kernel) rfl rfl rfl (by decide +kernel)
set_option maxRecDepth 65536 in
theorem w_c7 : (Jvm.Cond.code ({ cls := "java/util/DualPivotQuicksort", name := "sort", desc := "([IIII)V" } : Jvm.MethodName) jdk_2529_method_3_code (7 : Nat) (Option.none : Option Jvm.ClassFile.FieldType)).before args0 about1 = true := code_word (m := ⟨5, 1⟩) (meth := k5m1) (c := k5c1) (by decide +kernel) rfl rfl rfl (by decide +kernel)
set_option maxRecDepth 65536 in
theorem w_c8 : (Jvm.Cond.code ({ cls := "java/util/DualPivotQuicksort", name := "sort", desc := "(Ljava/util/DualPivotQuicksort$Sorter;[IIII)V" } : Jvm.MethodName) jdk_2529_method_4_code (21 : Nat) (Option.none : Option Jvm.ClassFile.FieldType)).before args0 about1 = true := code_word (m := ⟨5, 2⟩) (meth := k5m2) (c := k5c2) (by decide +kernel) rfl rfl rfl (by decide +kernel)
set_option maxRecDepth 65536 in
theorem w_c9 : (Jvm.Cond.code ({ cls := "java/util/DualPivotQuicksort", name := "insertionSort", desc := "([III)V" } : Jvm.MethodName) jdk_2529_method_6_code (6 : Nat) (Option.none : Option Jvm.ClassFile.FieldType)).before args0 about1 = true := code_word (m := ⟨5, 3⟩) (meth := k5m3) (c := k5c3) (by decide +kernel) rfl rfl rfl (by decide +kernel)
set_option maxRecDepth 65536 in
theorem w_c10 : (Jvm.Cond.code ({ cls := "com/example/mudskipper/mudskipper/UnitPair", name := "lowBytes", desc := "(Z)[J" } : Jvm.MethodName) prog_45_method_8_code (2 : Nat) (Option.some (Jvm.ClassFile.FieldType.array Jvm.ClassFile.FieldType.long))).before args0 about1 = true := code_word (m := ⟨2, 2⟩) (meth := k2m2) (c := k2c2) (by decide +kernel) rfl rfl rfl (by decide +kernel)
set_option maxRecDepth 65536 in
theorem w_c11 : (Jvm.Cond.code ({ cls := "com/example/mudskipper/mudskipper/UnitPair", name := "nearBytes", desc := "()J" } : Jvm.MethodName) prog_45_method_11_code (1 : Nat) (Option.some Jvm.ClassFile.FieldType.long)).before args0 about1 = true := code_word (m := ⟨2, 3⟩) (meth := k2m3) (c := k2c3) (by decide +kernel) rfl rfl rfl (by decide +kernel)
set_option maxRecDepth 65536 in
theorem w_c12 : (Jvm.Cond.code ({ cls := "com/example/mudskipper/mudskipper/UnitPairLowBytesPinLaw", name := "spread", desc := "(C)J" } : Jvm.MethodName) method_2_code (3 : Nat) (Option.some Jvm.ClassFile.FieldType.long)).before args0 about1 = true := code_word (m := ⟨1, 1⟩) (meth := k1m1) (c := k1c1) (by decide +kernel) rfl rfl rfl (by decide +kernel)
set_option maxRecDepth 65536 in
theorem w_c13 : (Jvm.Cond.code ({ cls := "com/example/mudskipper/mudskipper/UnitPair", name := "farBytes", desc := "()J" } : Jvm.MethodName) prog_45_method_12_code (1 : Nat) (Option.some Jvm.ClassFile.FieldType.long)).before args0 about1 = true := code_word (m := ⟨2, 4⟩) (meth := k2m4) (c := k2c4) (by decide +kernel) rfl rfl rfl (by decide +kernel)
def codes1 : List Jvm.Cond := [Jvm.Cond.code x code maxLocals ret, Jvm.Cond.code ({ cls := "com/example/mudskipper/mudskipper/UnitPair", name := "<init>", desc := "([CIII)V" } : Jvm.MethodName) prog_45_method_1_code (8 : Nat) (Option.none : Option Jvm.ClassFile.FieldType), Jvm.Cond.code ({ cls := "java/lang/Object", name := "<init>", desc := "()V" } : Jvm.MethodName) object_method_1_code (1 : Nat) (Option.none : Option Jvm.ClassFile.FieldType), Jvm.Cond.code ({ cls := "java/lang/Math", name := "min", desc := "(II)I" } : Jvm.MethodName) jdk_29_method_69_code (2 : Nat) (Option.some Jvm.ClassFile.FieldType.int), Jvm.Cond.code ({ cls := "java/lang/Math", name := "max", desc := "(II)I" } : Jvm.MethodName) jdk_29_method_65_code (2 : Nat) (Option.some Jvm.ClassFile.FieldType.int), Jvm.Cond.code ({ cls := "com/example/mudskipper/mudskipper/UnitPair", name := "lowBytes", desc := "(C)J" } : Jvm.MethodName) prog_45_method_2_code (1 : Nat) (Option.some Jvm.ClassFile.FieldType.long), Jvm.Cond.code ({ cls := "java/util/Arrays", name := "sort", desc := "([I)V" } : Jvm.MethodName) jdk_65_method_2_code (1 : Nat) (Option.none : Option Jvm.ClassFile.FieldType), Jvm.Cond.code ({ cls := "java/util/DualPivotQuicksort", name := "sort", desc := "([IIII)V" } : Jvm.MethodName) jdk_2529_method_3_code (7 : Nat) (Option.none : Option Jvm.ClassFile.FieldType), Jvm.Cond.code ({ cls := "java/util/DualPivotQuicksort", name := "sort", desc := "(Ljava/util/DualPivotQuicksort$Sorter;[IIII)V" } : Jvm.MethodName) jdk_2529_method_4_code (21 : Nat) (Option.none : Option Jvm.ClassFile.FieldType), Jvm.Cond.code ({ cls := "java/util/DualPivotQuicksort", name := "insertionSort", desc := "([III)V" } : Jvm.MethodName) jdk_2529_method_6_code (6 : Nat) (Option.none : Option Jvm.ClassFile.FieldType), Jvm.Cond.code ({ cls := "com/example/mudskipper/mudskipper/UnitPair", name := "lowBytes", desc := "(Z)[J" } : Jvm.MethodName) prog_45_method_8_code (2 : Nat) (Option.some (Jvm.ClassFile.FieldType.array Jvm.ClassFile.FieldType.long)), Jvm.Cond.code ({ cls := "com/example/mudskipper/mudskipper/UnitPair", name := "nearBytes", desc := "()J" } : Jvm.MethodName) prog_45_method_11_code (1 : Nat) (Option.some Jvm.ClassFile.FieldType.long), Jvm.Cond.code ({ cls := "com/example/mudskipper/mudskipper/UnitPairLowBytesPinLaw", name := "spread", desc := "(C)J" } : Jvm.MethodName) method_2_code (3 : Nat) (Option.some Jvm.ClassFile.FieldType.long), Jvm.Cond.code ({ cls := "com/example/mudskipper/mudskipper/UnitPair", name := "farBytes", desc := "()J" } : Jvm.MethodName) prog_45_method_12_code (1 : Nat) (Option.some Jvm.ClassFile.FieldType.long)]
set_option maxRecDepth 65536 in
theorem codes_eq : words1.filter isCode = codes1 := rfl
theorem w_codes : ∀ c ∈ words1.filter isCode, c.before args0 about1 = true := by
  rw [codes_eq]
  intro c hc
  simp only [codes1, List.mem_cons, List.not_mem_nil, or_false] at hc
  rcases hc with rfl | rfl | rfl | rfl | rfl | rfl | rfl | rfl | rfl | rfl | rfl | rfl | rfl | rfl
  · exact w_c0
  · exact w_c1
  · exact w_c2
  · exact w_c3
  · exact w_c4
  · exact w_c5
  · exact w_c6
  · exact w_c7
  · exact w_c8
  · exact w_c9
  · exact w_c10
  · exact w_c11
  · exact w_c12
  · exact w_c13
set_option maxRecDepth 65536 in
theorem w_t1 : (words1.take 24).all (fun c => isCode c || c.before args0 about1) = true := by decide +kernel
set_option maxRecDepth 65536 in
theorem w_t2 : ((words1.drop 24).take 24).all (fun c => isCode c || c.before args0 about1) = true := by decide +kernel
set_option maxRecDepth 65536 in
theorem w_t3 : (((words1.drop 24).drop 24).take 24).all (fun c => isCode c || c.before args0 about1) = true := by decide +kernel
set_option maxRecDepth 65536 in
theorem w_t4 : (((words1.drop 24).drop 24).drop 24).all (fun c => isCode c || c.before args0 about1) = true := by decide +kernel
theorem w_tables : (allAtoms (Jvm.Cond.code x code maxLocals ret :: tables_1)).before args0 about1 = true := by
  rw [allAtoms_all]
  show words1.all (fun c => c.before args0 about1) = true
  refine all_split ?_ w_codes
  rw [← List.take_append_drop 24 words1, List.all_append, w_t1, ← List.take_append_drop 24 (words1.drop 24), List.all_append, w_t2, ← List.take_append_drop 24 ((words1.drop 24).drop 24), List.all_append, w_t3, w_t4]
  rfl
set_option maxRecDepth 65536 in
theorem w_case : (Jvm.Cond.and given_1 narrow_1).before args0 about1 = true := by decide +kernel
theorem w_applies : (headSpec (Jvm.Cond.code x code maxLocals ret :: tables_1) room_1).applies x e0.platform about1 = true :=
  (Spec.applies_iff w_frames).mpr ⟨w_running, w_runnable, w_alone, w_named, w_hears, w_ripe, w_room, w_tables⟩
theorem atStart : AtStart classFile x code maxLocals ret World_1 tables_1 room_1 Calls_1 rest_1 Pre_1 launch0 p0 e0 about1 theMethod args0 below0 :=
  ⟨lists_1, trivial, launch0.admits_env _ _ _, launch0.least_env, fairChoices_fair.cas, fairChoices_fair.clock, w_frames, w_args, w_heap, w_applies, trivial, trivial, w_case⟩
end start1
theorem witness_1 : WitnessClaimed_1 := ⟨start1.p0, start1.e0, start1.about1, start1.theMethod, start1.args0, start1.below0, start1.atStart⟩
end Jvm.Pilot.@@N@@
