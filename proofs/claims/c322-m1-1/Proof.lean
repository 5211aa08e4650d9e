import JvmDerived
import JvmDerived.Pilot.@@N@@Statement
import JvmDerived.Pilot.@@N@@Code
set_option linter.unusedVariables false
set_option linter.unusedSimpArgs false

namespace Jvm.Pilot.@@N@@
open Jvm Jvm.ClassFile Sem Op Lib Jvm.Free Jvm.Stand Jvm.LawKit Jvm.RoadKit Bundle Jvm.Pilot.@@N@@.Jvm.D
/-! ## The walk, forwards: from here the method comes to its end as Q says -/
section OwnFin
variable {p : Program} {l : Launch} {e : Env} {R : Room} {s : State} {m : MethodId} {args : Array Value} {below : List Frame} {meth : Method} {c : Code} {T T' : State} {locs : List Loc} {cells slots K N : Nat} {Q : Option Value → Heap → List Loc → Prop}
def own_Fin (p : Program) (e : Env) (below : List Frame) (s : State) (K N : Nat) (Q : Option Value → Heap → List Loc → Prop) (T : State) (g : JFrame) : Prop :=
  ∃ t o, Steps p.tables e below (T.setTop g) t ∧ t.status = .running ∧ Ended t below o ∧ ∃ v L, o = .returned v ∧ Q v t.heap L ∧ FrameEnd s o t L K N
theorem own_in {g g' : JFrame} (q : g = g') (h : own_Fin p e below s K N Q T g') : ∃ t o, Steps p.tables e below (T.setTop g) t ∧ t.status = .running ∧ Ended t below o ∧ ∃ v L, o = .returned v ∧ Q v t.heap L ∧ FrameEnd s o t L K N := q ▸ h
theorem own_st {g g' : JFrame} (h : ∀ t, Steps p.tables e below (T'.setTop g') t → Steps p.tables e below (T.setTop g) t) (k : own_Fin p e below s K N Q T' g') : own_Fin p e below s K N Q T g := by
  obtain ⟨t, o, h1, h2⟩ := k; exact ⟨t, o, h t h1, h2⟩
theorem own_end {g : JFrame} {v : Option Value} (X : Stand p l e R s m args below meth c T locs cells slots) (hl : meth.locks = false) (hv : meth.sig.returnType = none → v = none)
    (h : ∀ fs, (∀ (f : JFrame) (acts : List Action), f.method = m → f.locked = none → f.entered = [] → (doReturn e (T.setTop f) acts v).1 = T.setFrames fs) → Steps p.tables e below (T.setTop g) (T.setFrames fs)) (hQ : Q v T.heap locs) (hc : cells ≤ K) (hs : slots ≤ N) : own_Fin p e below s K N Q T g := by
  obtain ⟨fs, hr, hrun, hended, hW, hsame⟩ := X.leave (v := v) hv hl
  exact ⟨_, _, h fs hr, hrun, hended, _, _, rfl, hQ, ⟨_, rfl⟩, hW, hsame.mono hc hs⟩
theorem own_retI {pc : Nat} {Ls : Array Slot} {z : Int32} {rest : List Value} (X : Stand p l e R s m args below meth c T locs cells slots) (hx : p.tables.exec = Jvm.exec) (hret : meth.sig.returnType = some .int) (hl : meth.locks = false) (hd : decode c.code pc = .ok (.ireturn, 1)) (hQ : Q (some (.int z)) T.heap locs) (hc : cells ≤ K) (hs : slots ≤ N) :
    own_Fin p e below s K N Q T (mkF m pc Ls (.int z :: rest)) :=
  own_end X hl (fun h => by rw [hret] at h; cases h) (fun fs hr => retOut X hx hret rfl (Or.inl ⟨rfl, Or.inl rfl, z, rfl⟩) hd hr) hQ hc hs
theorem own_retN {pc : Nat} {Ls : Array Slot} {z : Int32} {t : FieldType} {rest : List Value} (X : Stand p l e R s m args below meth c T locs cells slots) (hx : p.tables.exec = Jvm.exec) (hret : meth.sig.returnType = some t) (hl : meth.locks = false) (ht : t = .boolean ∨ t = .byte ∨ t = .char ∨ t = .short) (hd : decode c.code pc = .ok (.ireturn, 1)) (hQ : Q (some (.int (nar t z))) T.heap locs) (hc : cells ≤ K) (hs : slots ≤ N) :
    own_Fin p e below s K N Q T (mkF m pc Ls (.int z :: rest)) :=
  own_end X hl (fun h => by rw [hret] at h; cases h) (fun fs hr => retN X hx hret ht hd hr) hQ hc hs
theorem own_retJ {pc : Nat} {Ls : Array Slot} {z : Int64} {rest : List Value} (X : Stand p l e R s m args below meth c T locs cells slots) (hx : p.tables.exec = Jvm.exec) (hret : meth.sig.returnType = some .long) (hl : meth.locks = false) (hd : decode c.code pc = .ok (.lreturn, 1)) (hQ : Q (some (.long z)) T.heap locs) (hc : cells ≤ K) (hs : slots ≤ N) :
    own_Fin p e below s K N Q T (mkF m pc Ls (.long z :: rest)) :=
  own_end X hl (fun h => by rw [hret] at h; cases h) (fun fs hr => retOut X hx hret rfl (Or.inr (Or.inl ⟨rfl, rfl, z, rfl⟩)) hd hr) hQ hc hs
theorem own_retA {pc : Nat} {Ls : Array Slot} {a : Addr} {t : FieldType} {rest : List Value} (X : Stand p l e R s m args below meth c T locs cells slots) (hx : p.tables.exec = Jvm.exec) (hret : meth.sig.returnType = some t) (hl : meth.locks = false) (ht : t.isReference = true) (hd : decode c.code pc = .ok (.areturn, 1)) (hQ : Q (some (.ref a)) T.heap locs) (hc : cells ≤ K) (hs : slots ≤ N) :
    own_Fin p e below s K N Q T (mkF m pc Ls (.ref a :: rest)) :=
  own_end X hl (fun h => by rw [hret] at h; cases h) (fun fs hr => retOut X hx hret (by cases t <;> first | rfl | cases ht) (Or.inr (Or.inr (Or.inr (Or.inr ⟨rfl, ht, rfl⟩)))) hd hr) hQ hc hs
theorem own_retV {pc : Nat} {Ls : Array Slot} (X : Stand p l e R s m args below meth c T locs cells slots) (hx : p.tables.exec = Jvm.exec) (hret : meth.sig.returnType = none) (hl : meth.locks = false) (hd : decode c.code pc = .ok (.return_, 1)) (hQ : Q none T.heap locs) (hc : cells ≤ K) (hs : slots ≤ N) :
    own_Fin p e below s K N Q T (mkF m pc Ls []) :=
  own_end X hl (fun _ => rfl) (fun fs hr => X.returnOut hx hret hd hr) hQ hc hs
theorem own_lremM {g : JFrame} {target : State} (X : Stand p l e R s m args below meth c T locs cells slots) (hx : p.tables.exec = Jvm.exec) (hg : g.method = m) {x y : Int64} {rest : List Value} (hd : decode c.code g.pc = .ok (.lrem, 1)) (hs : g.stack = .long y :: .long x :: rest) (hy : y ≠ 0)
    (hr : Steps p.tables e below (T.setTop { g with pc := g.pc + 1, stack := .long (x % y) :: rest }) target) : Steps p.tables e below (T.setTop g) target := by
  have q : x - x / y * y = x % y := lrem_mod x y
  exact XS.lrem X.here hx hg hd hs hy (by rw [q]; exact hr)
end OwnFin
/-- a private method is selected by its own class -/
theorem own_selp {s : State} {args : Array Value} {n : Nat} {y : MethodName} (hy : y.cls ≠ "java/lang/invoke/MethodHandle" ∧ y.cls ≠ "java/lang/invoke/VarHandle") (hins : (Jvm.Cond.instantiable y.cls n).before args s = true) (hpriv : (Jvm.Cond.privateMethod y).before args s = true) (hinst : (Jvm.Cond.instanceMethod y).before args s = true) : (Jvm.Cond.selects y.cls y y).before args s = true := by
  obtain ⟨c, k, hc, hk, -, hniab, -, -⟩ := Cond.instantiable_spec hins
  have hni : k.isInterface = false := (Bool.or_eq_false_iff.mp hniab).1
  obtain ⟨mk, methM, hnamed, hmethM, -, -⟩ := Cond.instanceMethod_spec hinst
  have hfound : s.methodFound? y.cls y.name y.desc = some mk := State.methodFound?_of_named hnamed hy
  have hcls : mk.cls = c := Option.some.inj ((findClass_of_methodNamed hnamed).symm.trans hc)
  have hsel : selectMethod {} s.vm c mk = .method mk := selectMethod_private hmethM (Cond.privateMethod_at hpriv mk methM hnamed hmethM)
  simp only [Cond.before, Cond.holds, Cond.value, hc, hfound, hnamed, hsel, hcls, hk]
  simp; exact hni

/-! ## Arrays whose every component is known: the list xs, by the kind's own constructor f -/
section OwnArr
variable {p : Program} {l : Launch} {e : Env} {R : Room} {s : State} {m : MethodId} {args : Array Value} {below : List Frame} {meth : Method} {c : Code} {T : State} {locs : List Loc} {cells slots : Nat} {Z : State} {h h' : Heap} {a b : Addr} {k : ClassId} {ty : FieldType} {z j : Int32} {α : Type} {f : α → Value} {d x : α} {xs : List α} {ws : List Addr} {sl : Nat} {v : Value}
def own_Ar (Z : State) (h : Heap) (a : Addr) (k : ClassId) (ty : FieldType) (z : Int32) (f : α → Value) (d : α) (xs : List α) : Prop := Arv Z h a k ty z (xs.map f) (f d) ∧ xs.length = z.toNatClampNeg
theorem own_Ar.lt (F : own_Ar Z h a k ty z f d xs) : a < h.size := F.1.lt
theorem own_Ar.ext (F : own_Ar Z h a k ty z f d xs) (E : Ext h h') : own_Ar Z h' a k ty z f d xs := ⟨F.1.ext E, F.2⟩
theorem own_Ar.other (F : own_Ar Z h b k ty z f d xs) (W : Wr h h' a sl v) (q : b ≠ a) : own_Ar Z h' b k ty z f d xs := ⟨F.1.other W q, F.2⟩
theorem own_Ar.keep (F : own_Ar Z h a k ty z f d xs) (K : Keep h h' ws) (q : a ∉ ws) : own_Ar Z h' a k ty z f d xs := ⟨F.1.keep K q, F.2⟩
theorem own_Ar.new (A : Arr Z h a (newA k ty z) ty) (q : ¬ z < 0) (hd : defaultValue ty = f d) : own_Ar Z h a k ty z f d (List.replicate z.toNatClampNeg d) := by
  refine ⟨?_, List.length_replicate⟩
  have V := Arv.new A q
  rw [hd] at V
  refine V.pad fun i => ?_
  rw [List.map_replicate]; exact pad_rep [] (f d) _ i
theorem own_getD (xs : List α) (i : Nat) : (xs.map f).getD i (f d) = f (xs.getD i d) := by
  rw [List.getD_eq_getElem?_getD, List.getD_eq_getElem?_getD, List.getElem?_map]
  cases xs[i]? <;> rfl
theorem own_Ar.get (F : own_Ar Z h a k ty z f d xs) (q : ¬ j < 0 ∧ j < z) : ∃ cl, Arr Z h a cl ty ∧ ¬ (j < 0 ∨ cl.slots.size ≤ j.toNatClampNeg) ∧ cl.slots[j.toNatClampNeg]? = some (f (xs.getD j.toNatClampNeg d)) := by
  obtain ⟨⟨c, A, r1, S, r3, H, G⟩, l⟩ := F
  have hin := inb_of S q
  exact ⟨c, A, hin, H.at hin (own_getD xs _)⟩
theorem own_Ar.set (F : own_Ar Z h a k ty z f d xs) (q : ¬ j < 0 ∧ j < z) (hv : fits ty (f x) = true) (W : Wr h h' a j.toNatClampNeg (f x)) : own_Ar Z h' a k ty z f d (xs.set j.toNatClampNeg x) := by
  obtain ⟨⟨c, A, r1, S, r3, H, G⟩, l⟩ := F
  have hin := inb_of S q
  refine ⟨?_, by rw [List.length_set]; exact l⟩
  rw [List.map_set]
  refine Arv.set A r1 S r3 H G hv W _ rfl ?_
  rw [List.length_map, l, ← S]; exact Nat.lt_of_not_le fun y => hin (Or.inr y)
theorem own_alen {g : JFrame} (X : Stand p l e R s m args below meth c T locs cells slots) (hx : p.tables.exec = Jvm.exec) (hZ : Z.Warmed39 s.vm) (eT : T.heap = h) (F : own_Ar Z h a k ty z f d xs) (hg : g.method = m) {rest : List Value} (hs : g.stack = .ref a :: rest) (hd : decode c.code g.pc = .ok (.arraylength, 1)) (target : State)
    (hr : Steps p.tables e below (T.setTop { g with pc := g.pc + 1, stack := .int z :: rest }) target) : Steps p.tables e below (T.setTop g) target := by
  obtain ⟨⟨c', A, r1, S, r3, H, G⟩, l⟩ := F
  refine X.arraylength hx (by rw [eT]; exact A.1) (State.isArrayOf_alike hZ.alike A.2.1) hg hs hd target ?_
  rw [len_of S r3]; exact hr
theorem own_iald {g : JFrame} {d : Int32} {xs : List Int32} (X : Stand p l e R s m args below meth c T locs cells slots) (hx : p.tables.exec = Jvm.exec) (hZ : Z.Warmed39 s.vm) (eT : T.heap = h) (F : own_Ar Z h a k .int z Value.int d xs) (q : ¬ j < 0 ∧ j < z) (hg : g.method = m) {rest : List Value} (hs : g.stack = .int j :: .ref a :: rest) (hd : decode c.code g.pc = .ok (.iaload, 1)) (target : State)
    (hr : Steps p.tables e below (T.setTop { g with pc := g.pc + 1, stack := .int (xs.getD j.toNatClampNeg d) :: rest }) target) : Steps p.tables e below (T.setTop g) target := by
  obtain ⟨cl, A, hin, hat⟩ := F.get q
  exact X.iaload hx (by rw [eT]; exact A.1) (State.isArrayOf_alike hZ.alike A.2.1) A.2.2 hin hat hg hs hd target hr
theorem own_cald {g : JFrame} {d : Int32} {xs : List Int32} (X : Stand p l e R s m args below meth c T locs cells slots) (hx : p.tables.exec = Jvm.exec) (hZ : Z.Warmed39 s.vm) (eT : T.heap = h) (F : own_Ar Z h a k .char z Value.int d xs) (q : ¬ j < 0 ∧ j < z) (hg : g.method = m) {rest : List Value} (hs : g.stack = .int j :: .ref a :: rest) (hd : decode c.code g.pc = .ok (.caload, 1)) (target : State)
    (hr : Steps p.tables e below (T.setTop { g with pc := g.pc + 1, stack := .int (xs.getD j.toNatClampNeg d) :: rest }) target) : Steps p.tables e below (T.setTop g) target := by
  obtain ⟨cl, A, hin, hat⟩ := F.get q
  exact X.caload hx (by rw [eT]; exact A.1) (State.isArrayOf_alike hZ.alike A.2.1) A.2.2 hin hat hg hs hd target hr
theorem own_bald {g : JFrame} {d : Int32} {xs : List Int32} (X : Stand p l e R s m args below meth c T locs cells slots) (hx : p.tables.exec = Jvm.exec) (hZ : Z.Warmed39 s.vm) (eT : T.heap = h) (F : own_Ar Z h a k .byte z Value.int d xs) (q : ¬ j < 0 ∧ j < z) (hg : g.method = m) {rest : List Value} (hs : g.stack = .int j :: .ref a :: rest) (hd : decode c.code g.pc = .ok (.baload, 1)) (target : State)
    (hr : Steps p.tables e below (T.setTop { g with pc := g.pc + 1, stack := .int (xs.getD j.toNatClampNeg d) :: rest }) target) : Steps p.tables e below (T.setTop g) target := by
  obtain ⟨cl, A, hin, hat⟩ := F.get q
  exact X.baloadBytes hx (by rw [eT]; exact A.1) (State.isArrayOf_alike hZ.alike A.2.1) A.2.2 hin hat hg hs hd target hr
theorem own_lald {g : JFrame} {d : Int64} {xs : List Int64} (X : Stand p l e R s m args below meth c T locs cells slots) (hx : p.tables.exec = Jvm.exec) (hZ : Z.Warmed39 s.vm) (eT : T.heap = h) (F : own_Ar Z h a k .long z Value.long d xs) (q : ¬ j < 0 ∧ j < z) (hg : g.method = m) {rest : List Value} (hs : g.stack = .int j :: .ref a :: rest) (hd : decode c.code g.pc = .ok (.laload, 1)) (target : State)
    (hr : Steps p.tables e below (T.setTop { g with pc := g.pc + 1, stack := .long (xs.getD j.toNatClampNeg d) :: rest }) target) : Steps p.tables e below (T.setTop g) target := by
  obtain ⟨cl, A, hin, hat⟩ := F.get q
  exact X.laload hx (by rw [eT]; exact A.1) (State.isArrayOf_alike hZ.alike A.2.1) A.2.2 hin hat hg hs hd target hr
theorem own_iast {g : JFrame} {d x : Int32} {xs : List Int32} (X : Stand p l e R s m args below meth c T locs cells slots) (hx : p.tables.exec = Jvm.exec) (hZ : Z.Warmed39 s.vm) (eT : T.heap = h) (F : own_Ar Z h a k .int z Value.int d xs) (q : ¬ j < 0 ∧ j < z) (hg : g.method = m) {rest : List Value} (hs : g.stack = .int x :: .int j :: .ref a :: rest) (hd : decode c.code g.pc = .ok (.iastore, 1)) :
    ∃ T' h', Stand p l e R s m args below meth c T' (locs ++ [⟨a, j.toNatClampNeg⟩]) cells slots ∧ T'.heap = h' ∧ Wr h h' a j.toNatClampNeg (.int x) ∧ own_Ar Z h' a k .int z Value.int d (xs.set j.toNatClampNeg x) ∧ ∀ target, Steps p.tables e below (T'.setTop { g with pc := g.pc + 1, stack := rest }) target → Steps p.tables e below (T.setTop g) target := by
  obtain ⟨cl, A, hin, hat⟩ := F.get q
  obtain ⟨T', h', X', e', W, st⟩ := stI X hx hZ eT A hin hg hs hd
  exact ⟨T', h', X', e', W, F.set q rfl W, st⟩
theorem own_cast {g : JFrame} {d x : Int32} {xs : List Int32} (X : Stand p l e R s m args below meth c T locs cells slots) (hx : p.tables.exec = Jvm.exec) (hZ : Z.Warmed39 s.vm) (eT : T.heap = h) (F : own_Ar Z h a k .char z Value.int d xs) (q : ¬ j < 0 ∧ j < z) (hg : g.method = m) {rest : List Value} (hs : g.stack = .int x :: .int j :: .ref a :: rest) (hd : decode c.code g.pc = .ok (.castore, 1)) :
    ∃ T' h', Stand p l e R s m args below meth c T' (locs ++ [⟨a, j.toNatClampNeg⟩]) cells slots ∧ T'.heap = h' ∧ Wr h h' a j.toNatClampNeg (.int (nar .char x)) ∧ own_Ar Z h' a k .char z Value.int d (xs.set j.toNatClampNeg (nar .char x)) ∧ ∀ target, Steps p.tables e below (T'.setTop { g with pc := g.pc + 1, stack := rest }) target → Steps p.tables e below (T.setTop g) target := by
  obtain ⟨cl, A, hin, hat⟩ := F.get q
  obtain ⟨T', h', X', e', W, st⟩ := stC X hx hZ eT A hin hg hs hd
  exact ⟨T', h', X', e', W, F.set q (fits_nar_char _) W, st⟩
theorem own_bast {g : JFrame} {d x : Int32} {xs : List Int32} (X : Stand p l e R s m args below meth c T locs cells slots) (hx : p.tables.exec = Jvm.exec) (hZ : Z.Warmed39 s.vm) (eT : T.heap = h) (F : own_Ar Z h a k .byte z Value.int d xs) (q : ¬ j < 0 ∧ j < z) (hg : g.method = m) {rest : List Value} (hs : g.stack = .int x :: .int j :: .ref a :: rest) (hd : decode c.code g.pc = .ok (.bastore, 1)) :
    ∃ T' h', Stand p l e R s m args below meth c T' (locs ++ [⟨a, j.toNatClampNeg⟩]) cells slots ∧ T'.heap = h' ∧ Wr h h' a j.toNatClampNeg (.int (nar .byte x)) ∧ own_Ar Z h' a k .byte z Value.int d (xs.set j.toNatClampNeg (nar .byte x)) ∧ ∀ target, Steps p.tables e below (T'.setTop { g with pc := g.pc + 1, stack := rest }) target → Steps p.tables e below (T.setTop g) target := by
  obtain ⟨cl, A, hin, hat⟩ := F.get q
  obtain ⟨T', h', X', e', W, st⟩ := stB X hx hZ eT A hin hg hs hd
  exact ⟨T', h', X', e', W, F.set q (fits_nar_byte _) W, st⟩
theorem own_last {g : JFrame} {d x : Int64} {xs : List Int64} (X : Stand p l e R s m args below meth c T locs cells slots) (hx : p.tables.exec = Jvm.exec) (hZ : Z.Warmed39 s.vm) (eT : T.heap = h) (F : own_Ar Z h a k .long z Value.long d xs) (q : ¬ j < 0 ∧ j < z) (hg : g.method = m) {rest : List Value} (hs : g.stack = .long x :: .int j :: .ref a :: rest) (hd : decode c.code g.pc = .ok (.lastore, 1)) :
    ∃ T' h', Stand p l e R s m args below meth c T' (locs ++ [⟨a, j.toNatClampNeg⟩]) cells slots ∧ T'.heap = h' ∧ Wr h h' a j.toNatClampNeg (.long x) ∧ own_Ar Z h' a k .long z Value.long d (xs.set j.toNatClampNeg x) ∧ ∀ target, Steps p.tables e below (T'.setTop { g with pc := g.pc + 1, stack := rest }) target → Steps p.tables e below (T.setTop g) target := by
  obtain ⟨cl, A, hin, hat⟩ := F.get q
  obtain ⟨T', h', X', e', W, st⟩ := stJ X hx hZ eT A hin hg hs hd
  exact ⟨T', h', X', e', W, F.set q rfl W, st⟩
end OwnArr

theorem own_idx (k : Int32) : ¬ ((k &&& (2147483647 : Int32)) % (15 : Int32)) < 0 ∧ ((k &&& (2147483647 : Int32)) % (15 : Int32)) < (15 : Int32) := by
  have e1 := c_mask k (2147483647 : Int32) 31 (by decide) (by decide)
  have e2 := (c_irem (k &&& (2147483647 : Int32)) (15 : Int32) 15 (by decide)).1 (by omega)
  constructor
  · intro z; have := Int32.lt_iff_toInt_lt.mp z; rw [show (0 : Int32).toInt = 0 from rfl] at this; omega
  · rw [Int32.lt_iff_toInt_lt, show (15 : Int32).toInt = 15 from by decide]; omega

def own_f2_30 (p0 : Int32) (t0_30 : Int32) : Int32 := (nar .boolean t0_30)
theorem own_f2_30_eq (p0 : Int32) (t0_30 : Int32) : own_f2_30 p0 t0_30 = (nar .boolean t0_30) := rfl
def own_F2 (p0 : Int32) : Int32 := (if p0 < (1 : Int32) then (own_f2_30 p0 (0 : Int32)) else (if (536870911 : Int32) < p0 then (own_f2_30 p0 (0 : Int32)) else (if p0 < (19000 : Int32) then (own_f2_30 p0 (1 : Int32)) else (if (19999 : Int32) < p0 then (own_f2_30 p0 (1 : Int32)) else (own_f2_30 p0 (0 : Int32))))))
theorem own_F2_eq (p0 : Int32) : own_F2 p0 = (if p0 < (1 : Int32) then (own_f2_30 p0 (0 : Int32)) else (if (536870911 : Int32) < p0 then (own_f2_30 p0 (0 : Int32)) else (if p0 < (19000 : Int32) then (own_f2_30 p0 (1 : Int32)) else (if (19999 : Int32) < p0 then (own_f2_30 p0 (1 : Int32)) else (own_f2_30 p0 (0 : Int32)))))) := rfl
theorem d2_0 : decode prog_49_method_2_code 0 = .ok (.iload_n 0, 1) := by decide +kernel
theorem d2_1 : decode prog_49_method_2_code 1 = .ok (.iconst 1, 1) := by decide +kernel
theorem d2_2 : decode prog_49_method_2_code 2 = .ok (.if_icmp .lt 27, 3) := by decide +kernel
theorem d2_5 : decode prog_49_method_2_code 5 = .ok (.iload_n 0, 1) := by decide +kernel
theorem d2_6 : decode prog_49_method_2_code 6 = .ok (.ldc 12, 2) := by decide +kernel
theorem d2_8 : decode prog_49_method_2_code 8 = .ok (.if_icmp .gt 21, 3) := by decide +kernel
theorem d2_11 : decode prog_49_method_2_code 11 = .ok (.iload_n 0, 1) := by decide +kernel
theorem d2_12 : decode prog_49_method_2_code 12 = .ok (.sipush 19000, 3) := by decide +kernel
theorem d2_15 : decode prog_49_method_2_code 15 = .ok (.if_icmp .lt 10, 3) := by decide +kernel
theorem d2_18 : decode prog_49_method_2_code 18 = .ok (.iload_n 0, 1) := by decide +kernel
theorem d2_19 : decode prog_49_method_2_code 19 = .ok (.sipush 19999, 3) := by decide +kernel
theorem d2_22 : decode prog_49_method_2_code 22 = .ok (.if_icmp .le 7, 3) := by decide +kernel
theorem d2_25 : decode prog_49_method_2_code 25 = .ok (.iconst 1, 1) := by decide +kernel
theorem d2_26 : decode prog_49_method_2_code 26 = .ok (.goto 4, 3) := by decide +kernel
theorem d2_29 : decode prog_49_method_2_code 29 = .ok (.iconst 0, 1) := by decide +kernel
theorem d2_30 : decode prog_49_method_2_code 30 = .ok (.ireturn, 1) := by decide +kernel
theorem pn_2 : plainName "com/example/wiretag/wiretag/core/WireFormat" = true := by first | (simp [plainName, overriddenIn]; done) | decide +kernel
theorem ef_2 (m : MethodId) (x0 : Int32) : entryFrame m #[(.int x0)] 1 = mkF m 0 #[.val (.int x0)] [] := by first | (simp [entryFrame, mkF, argsToLocals, Value.category]; done) | rfl
def Q2 (Z : State) (p0 : Int32) (h0 : Heap) (n0 : Nat) (v : Option Value) (h : Heap) (L : List Loc) : Prop := v = some (.int (own_F2 p0)) ∧ Fr n0 L ∧ h = h0
set_option maxRecDepth 65536 in
set_option maxHeartbeats 40000000 in
theorem rm2 (l : Launch) (Z : State) (a0 : Array Value) (hw : ∀ d ∈ tables_1, d.before a0 Z = true) (ws : List Jvm.Cond) (p0 : Int32) (h0 : Heap) (n0 : Nat) (Z0 : n0 ≤ h0.size) :
    MetFree l (⟨"com/example/wiretag/wiretag/core/WireFormat", "isDeclarableFieldNumber", "(I)Z"⟩ : MethodName) (head1 (Jvm.Cond.code (⟨"com/example/wiretag/wiretag/core/WireFormat", "isDeclarableFieldNumber", "(I)Z"⟩ : MethodName) prog_49_method_2_code 1 (some .boolean) :: ws) ({ frames := 0, cells := 0, slots := 0, locals := 0 } : Room)) (fun a U => a = #[(.int p0)] ∧ Z.Warmed39 U.vm ∧ U.heap = h0) (fun _ _ _ _ _ => True) (fun _ U o U' => ∃ v L, o = .returned v ∧ Q2 Z p0 h0 n0 v U'.heap L ∧ FrameEnd U o U' L ({ frames := 0, cells := 0, slots := 0, locals := 0 } : Room).cells ({ frames := 0, cells := 0, slots := 0, locals := 0 } : Room).slots) := by
  refine MetFree.of_bodySF (plainFor_of_name pn_2) hisR ?_
  intro p e s m args below meth c s₁ Bd hml0 hP hK
  obtain ⟨rfl, hZ, hh⟩ := hP
  have hx := Bd.exec
  have hby := Bd.bytes
  have hml : c.maxLocals = 1 := hml0
  have hown : s.vm.findClass "com/example/wiretag/wiretag/core/WireFormat" = some m.cls := findClass_of_methodNamed Bd.named
  have hnm := (name_of_methodNamed Bd.named Bd.method).1
  have X0 : Stand p l e ({ frames := 0, cells := 0, slots := 0, locals := 0 } : Room) s m #[(.int p0)] below meth c s₁ [] 0 0 := Stand.of_body Bd
  have e0 : s₁.heap = h0 := by rw [← hh, Bd.state]; rfl
  have N0 := Fr.nil n0
  refine own_in (ef_2 m p0) ?_
  have hr0 := (own_F2_eq p0).symm
  refine own_st (g' := (mkF m 1 #[.val (.int p0)] [(.int p0)])) (fun t k => XS.iloadN X0.here hx rfl (hb hby d2_0) rfl  k) ?_
  refine own_st (g' := (mkF m 2 #[.val (.int p0)] [(.int (1 : Int32)), (.int p0)])) (fun t k => XS.iconst X0.here hx rfl (hb hby d2_1) k) ?_
  have J30 : ∀ (T : State) (locs : List Loc) (t0_30 : Int32), Stand p l e ({ frames := 0, cells := 0, slots := 0, locals := 0 } : Room) s m #[(.int p0)] below meth c T locs 0 0 → T.heap = h0 → Fr n0 locs → own_f2_30 p0 t0_30 = own_F2 p0 → own_Fin p e below s ({ frames := 0, cells := 0, slots := 0, locals := 0 } : Room).cells ({ frames := 0, cells := 0, slots := 0, locals := 0 } : Room).slots (Q2 Z p0 h0 n0) T (mkF m 30 #[.val (.int p0)] [(.int t0_30)]) := by
    intro T9 locs9 t0_30  X9 e9 N9 hr9
    have hr9a := (own_f2_30_eq (p0) (t0_30)).symm.trans hr9
    exact own_retN (t := .boolean) X9 hx Bd.returns Bd.notSynchronized (by simp) (hb hby d2_30) ⟨congrArg (fun q => some (Value.int q)) hr9a, N9, e9⟩ (by decide) (by decide)
  by_cases hc2_10 : p0 < (1 : Int32)
  · have hr11 := (if_pos hc2_10).symm.trans hr0
    refine own_st (g' := (mkF m 29 #[.val (.int p0)] [])) (fun t k => XS.icmpYes X0.here hx rfl (pc0 := 2) (pc' := 29) rfl (hb hby d2_2) rfl (tlt hc2_10).1 (by decide) (by decide) k) ?_
    refine own_st (g' := (mkF m 30 #[.val (.int p0)] [(.int (0 : Int32))])) (fun t k => XS.iconst X0.here hx rfl (hb hby d2_29) k) ?_
    exact J30 s₁ _ (0 : Int32)  X0 e0 N0 hr11
  · have hr12 := (if_neg hc2_10).symm.trans hr0
    refine own_st (g' := (mkF m 5 #[.val (.int p0)] [])) (fun t k => XS.icmpNo X0.here hx rfl (hb hby d2_2) rfl (flt hc2_10).1 k) ?_
    refine own_st (g' := (mkF m 6 #[.val (.int p0)] [(.int p0)])) (fun t k => XS.iloadN X0.here hx rfl (hb hby d2_5) rfl  k) ?_
    refine own_st (g' := (mkF m 8 #[.val (.int p0)] [(.int (536870911 : Int32)), (.int p0)])) (fun t k => X0.ldcInt hx hown (mvT hZ (hw _ (List.mem_of_getElem? (i := 18) rfl))) (g := (mkF m 6 #[.val (.int p0)] [(.int p0)])) rfl (hb hby d2_6) t k) ?_
    by_cases hc8_13 : (536870911 : Int32) < p0
    · have hr14 := (if_pos hc8_13).symm.trans hr12
      refine own_st (g' := (mkF m 29 #[.val (.int p0)] [])) (fun t k => XS.icmpYes X0.here hx rfl (pc0 := 8) (pc' := 29) rfl (hb hby d2_8) rfl (tlt hc8_13).2.2.1 (by decide) (by decide) k) ?_
      refine own_st (g' := (mkF m 30 #[.val (.int p0)] [(.int (0 : Int32))])) (fun t k => XS.iconst X0.here hx rfl (hb hby d2_29) k) ?_
      exact J30 s₁ _ (0 : Int32)  X0 e0 N0 hr14
    · have hr15 := (if_neg hc8_13).symm.trans hr12
      refine own_st (g' := (mkF m 11 #[.val (.int p0)] [])) (fun t k => XS.icmpNo X0.here hx rfl (hb hby d2_8) rfl (flt hc8_13).2.2.1 k) ?_
      refine own_st (g' := (mkF m 12 #[.val (.int p0)] [(.int p0)])) (fun t k => XS.iloadN X0.here hx rfl (hb hby d2_11) rfl  k) ?_
      refine own_st (g' := (mkF m 15 #[.val (.int p0)] [(.int (19000 : Int32)), (.int p0)])) (fun t k => XS.sipush X0.here hx rfl (hb hby d2_12) k) ?_
      by_cases hc15_16 : p0 < (19000 : Int32)
      · have hr17 := (if_pos hc15_16).symm.trans hr15
        refine own_st (g' := (mkF m 25 #[.val (.int p0)] [])) (fun t k => XS.icmpYes X0.here hx rfl (pc0 := 15) (pc' := 25) rfl (hb hby d2_15) rfl (tlt hc15_16).1 (by decide) (by decide) k) ?_
        refine own_st (g' := (mkF m 26 #[.val (.int p0)] [(.int (1 : Int32))])) (fun t k => XS.iconst X0.here hx rfl (hb hby d2_25) k) ?_
        refine own_st (g' := (mkF m 30 #[.val (.int p0)] [(.int (1 : Int32))])) (fun t k => XS.goto X0.here hx rfl (pc0 := 26) (pc' := 30) rfl (hb hby d2_26) (by decide) (by decide) k) ?_
        exact J30 s₁ _ (1 : Int32)  X0 e0 N0 hr17
      · have hr18 := (if_neg hc15_16).symm.trans hr15
        refine own_st (g' := (mkF m 18 #[.val (.int p0)] [])) (fun t k => XS.icmpNo X0.here hx rfl (hb hby d2_15) rfl (flt hc15_16).1 k) ?_
        refine own_st (g' := (mkF m 19 #[.val (.int p0)] [(.int p0)])) (fun t k => XS.iloadN X0.here hx rfl (hb hby d2_18) rfl  k) ?_
        refine own_st (g' := (mkF m 22 #[.val (.int p0)] [(.int (19999 : Int32)), (.int p0)])) (fun t k => XS.sipush X0.here hx rfl (hb hby d2_19) k) ?_
        by_cases hc22_19 : (19999 : Int32) < p0
        · have hr20 := (if_pos hc22_19).symm.trans hr18
          refine own_st (g' := (mkF m 25 #[.val (.int p0)] [])) (fun t k => XS.icmpNo X0.here hx rfl (hb hby d2_22) rfl (tlt hc22_19).2.2.2 k) ?_
          refine own_st (g' := (mkF m 26 #[.val (.int p0)] [(.int (1 : Int32))])) (fun t k => XS.iconst X0.here hx rfl (hb hby d2_25) k) ?_
          refine own_st (g' := (mkF m 30 #[.val (.int p0)] [(.int (1 : Int32))])) (fun t k => XS.goto X0.here hx rfl (pc0 := 26) (pc' := 30) rfl (hb hby d2_26) (by decide) (by decide) k) ?_
          exact J30 s₁ _ (1 : Int32)  X0 e0 N0 hr20
        · have hr21 := (if_neg hc22_19).symm.trans hr18
          refine own_st (g' := (mkF m 29 #[.val (.int p0)] [])) (fun t k => XS.icmpYes X0.here hx rfl (pc0 := 22) (pc' := 29) rfl (hb hby d2_22) rfl (flt hc22_19).2.2.2 (by decide) (by decide) k) ?_
          refine own_st (g' := (mkF m 30 #[.val (.int p0)] [(.int (0 : Int32))])) (fun t k => XS.iconst X0.here hx rfl (hb hby d2_29) k) ?_
          exact J30 s₁ _ (0 : Int32)  X0 e0 N0 hr21
def own_f3_63 (p0 : Int32) (t0_20 : Int32) (t0_47 : Int32) (t0_63 : Int32) : Int32 := (nar .boolean t0_63)
theorem own_f3_63_eq (p0 : Int32) (t0_20 : Int32) (t0_47 : Int32) (t0_63 : Int32) : own_f3_63 p0 t0_20 t0_47 t0_63 = (nar .boolean t0_63) := rfl
def own_f3_47 (p0 : Int32) (t0_20 : Int32) (t0_47 : Int32) : Int32 := (if t0_20 = (0 : Int32) then (own_f3_63 p0 t0_20 t0_47 (0 : Int32)) else (if t0_47 = (0 : Int32) then (own_f3_63 p0 t0_20 t0_47 (1 : Int32)) else (own_f3_63 p0 t0_20 t0_47 (0 : Int32))))
theorem own_f3_47_eq (p0 : Int32) (t0_20 : Int32) (t0_47 : Int32) : own_f3_47 p0 t0_20 t0_47 = (if t0_20 = (0 : Int32) then (own_f3_63 p0 t0_20 t0_47 (0 : Int32)) else (if t0_47 = (0 : Int32) then (own_f3_63 p0 t0_20 t0_47 (1 : Int32)) else (own_f3_63 p0 t0_20 t0_47 (0 : Int32)))) := rfl
def own_f3_20 (p0 : Int32) (t0_20 : Int32) : Int32 := (if (((p0).toInt64) - (19000 : Int64)) < (0 : Int64) then (own_f3_47 p0 t0_20 (0 : Int32)) else (if (((p0).toInt64) - (19000 : Int64)) < (1000 : Int64) then (own_f3_47 p0 t0_20 (1 : Int32)) else (own_f3_47 p0 t0_20 (0 : Int32))))
theorem own_f3_20_eq (p0 : Int32) (t0_20 : Int32) : own_f3_20 p0 t0_20 = (if (((p0).toInt64) - (19000 : Int64)) < (0 : Int64) then (own_f3_47 p0 t0_20 (0 : Int32)) else (if (((p0).toInt64) - (19000 : Int64)) < (1000 : Int64) then (own_f3_47 p0 t0_20 (1 : Int32)) else (own_f3_47 p0 t0_20 (0 : Int32)))) := rfl
def own_F3 (p0 : Int32) : Int32 := (if ((((p0 - (1 : Int32))).toUInt32 >>> ((29 : Int32) &&& 31).toUInt32).toInt32) = (0 : Int32) then (if p0 = (536870912 : Int32) then (own_f3_20 p0 (0 : Int32)) else (own_f3_20 p0 (1 : Int32))) else (own_f3_20 p0 (0 : Int32)))
theorem own_F3_eq (p0 : Int32) : own_F3 p0 = (if ((((p0 - (1 : Int32))).toUInt32 >>> ((29 : Int32) &&& 31).toUInt32).toInt32) = (0 : Int32) then (if p0 = (536870912 : Int32) then (own_f3_20 p0 (0 : Int32)) else (own_f3_20 p0 (1 : Int32))) else (own_f3_20 p0 (0 : Int32))) := rfl
theorem d3_0 : decode method_2_code 0 = .ok (.iload_n 0, 1) := by decide +kernel
theorem d3_1 : decode method_2_code 1 = .ok (.iconst 1, 1) := by decide +kernel
theorem d3_2 : decode method_2_code 2 = .ok (.isub, 1) := by decide +kernel
theorem d3_3 : decode method_2_code 3 = .ok (.bipush 29, 2) := by decide +kernel
theorem d3_5 : decode method_2_code 5 = .ok (.iushr, 1) := by decide +kernel
theorem d3_6 : decode method_2_code 6 = .ok (.ifCond .ne 13, 3) := by decide +kernel
theorem d3_9 : decode method_2_code 9 = .ok (.iload_n 0, 1) := by decide +kernel
theorem d3_10 : decode method_2_code 10 = .ok (.ldc 7, 2) := by decide +kernel
theorem d3_12 : decode method_2_code 12 = .ok (.if_icmp .eq 7, 3) := by decide +kernel
theorem d3_15 : decode method_2_code 15 = .ok (.iconst 1, 1) := by decide +kernel
theorem d3_16 : decode method_2_code 16 = .ok (.goto 4, 3) := by decide +kernel
theorem d3_19 : decode method_2_code 19 = .ok (.iconst 0, 1) := by decide +kernel
theorem d3_20 : decode method_2_code 20 = .ok (.istore_n 1, 1) := by decide +kernel
theorem d3_21 : decode method_2_code 21 = .ok (.iload_n 0, 1) := by decide +kernel
theorem d3_22 : decode method_2_code 22 = .ok (.i2l, 1) := by decide +kernel
theorem d3_23 : decode method_2_code 23 = .ok (.ldc2_w 8, 3) := by decide +kernel
theorem d3_26 : decode method_2_code 26 = .ok (.lsub, 1) := by decide +kernel
theorem d3_27 : decode method_2_code 27 = .ok (.lstore_n 2, 1) := by decide +kernel
theorem d3_28 : decode method_2_code 28 = .ok (.lload_n 2, 1) := by decide +kernel
theorem d3_29 : decode method_2_code 29 = .ok (.lconst 0, 1) := by decide +kernel
theorem d3_30 : decode method_2_code 30 = .ok (.lcmp, 1) := by decide +kernel
theorem d3_31 : decode method_2_code 31 = .ok (.ifCond .lt 15, 3) := by decide +kernel
theorem d3_34 : decode method_2_code 34 = .ok (.lload_n 2, 1) := by decide +kernel
theorem d3_35 : decode method_2_code 35 = .ok (.ldc2_w 10, 3) := by decide +kernel
theorem d3_38 : decode method_2_code 38 = .ok (.lcmp, 1) := by decide +kernel
theorem d3_39 : decode method_2_code 39 = .ok (.ifCond .ge 7, 3) := by decide +kernel
theorem d3_42 : decode method_2_code 42 = .ok (.iconst 1, 1) := by decide +kernel
theorem d3_43 : decode method_2_code 43 = .ok (.goto 4, 3) := by decide +kernel
theorem d3_46 : decode method_2_code 46 = .ok (.iconst 0, 1) := by decide +kernel
theorem d3_47 : decode method_2_code 47 = .ok (.istore 4, 2) := by decide +kernel
theorem d3_49 : decode method_2_code 49 = .ok (.iload_n 1, 1) := by decide +kernel
theorem d3_50 : decode method_2_code 50 = .ok (.ifCond .eq 12, 3) := by decide +kernel
theorem d3_53 : decode method_2_code 53 = .ok (.iload 4, 2) := by decide +kernel
theorem d3_55 : decode method_2_code 55 = .ok (.ifCond .ne 7, 3) := by decide +kernel
theorem d3_58 : decode method_2_code 58 = .ok (.iconst 1, 1) := by decide +kernel
theorem d3_59 : decode method_2_code 59 = .ok (.goto 4, 3) := by decide +kernel
theorem d3_62 : decode method_2_code 62 = .ok (.iconst 0, 1) := by decide +kernel
theorem d3_63 : decode method_2_code 63 = .ok (.ireturn, 1) := by decide +kernel
theorem pn_3 : plainName "com/example/wiretag/wiretag/core/WireFormatIsDeclarableFieldNumberPinLaw" = true := by first | (simp [plainName, overriddenIn]; done) | decide +kernel
theorem ef_3 (m : MethodId) (x0 : Int32) : entryFrame m #[(.int x0)] 5 = mkF m 0 #[.val (.int x0), .unset, .unset, .unset, .unset] [] := by first | (simp [entryFrame, mkF, argsToLocals, Value.category]; done) | rfl
def Q3 (Z : State) (p0 : Int32) (h0 : Heap) (n0 : Nat) (v : Option Value) (h : Heap) (L : List Loc) : Prop := v = some (.int (own_F3 p0)) ∧ Fr n0 L ∧ h = h0
set_option maxRecDepth 65536 in
set_option maxHeartbeats 40000000 in
theorem rm3 (l : Launch) (Z : State) (a0 : Array Value) (hw : ∀ d ∈ tables_1, d.before a0 Z = true) (ws : List Jvm.Cond) (p0 : Int32) (h0 : Heap) (n0 : Nat) (Z0 : n0 ≤ h0.size) :
    MetFree l (⟨"com/example/wiretag/wiretag/core/WireFormatIsDeclarableFieldNumberPinLaw", "reference", "(I)Z"⟩ : MethodName) (head1 (Jvm.Cond.code (⟨"com/example/wiretag/wiretag/core/WireFormatIsDeclarableFieldNumberPinLaw", "reference", "(I)Z"⟩ : MethodName) method_2_code 5 (some .boolean) :: ws) ({ frames := 0, cells := 0, slots := 0, locals := 0 } : Room)) (fun a U => a = #[(.int p0)] ∧ Z.Warmed39 U.vm ∧ U.heap = h0) (fun _ _ _ _ _ => True) (fun _ U o U' => ∃ v L, o = .returned v ∧ Q3 Z p0 h0 n0 v U'.heap L ∧ FrameEnd U o U' L ({ frames := 0, cells := 0, slots := 0, locals := 0 } : Room).cells ({ frames := 0, cells := 0, slots := 0, locals := 0 } : Room).slots) := by
  refine MetFree.of_bodySF (plainFor_of_name pn_3) hisR ?_
  intro p e s m args below meth c s₁ Bd hml0 hP hK
  obtain ⟨rfl, hZ, hh⟩ := hP
  have hx := Bd.exec
  have hby := Bd.bytes
  have hml : c.maxLocals = 5 := hml0
  have hown : s.vm.findClass "com/example/wiretag/wiretag/core/WireFormatIsDeclarableFieldNumberPinLaw" = some m.cls := findClass_of_methodNamed Bd.named
  have hnm := (name_of_methodNamed Bd.named Bd.method).1
  have X0 : Stand p l e ({ frames := 0, cells := 0, slots := 0, locals := 0 } : Room) s m #[(.int p0)] below meth c s₁ [] 0 0 := Stand.of_body Bd
  have e0 : s₁.heap = h0 := by rw [← hh, Bd.state]; rfl
  have N0 := Fr.nil n0
  refine own_in (ef_3 m p0) ?_
  have hr0 := (own_F3_eq p0).symm
  refine own_st (g' := (mkF m 1 #[.val (.int p0), .unset, .unset, .unset, .unset] [(.int p0)])) (fun t k => XS.iloadN X0.here hx rfl (hb hby d3_0) rfl  k) ?_
  refine own_st (g' := (mkF m 2 #[.val (.int p0), .unset, .unset, .unset, .unset] [(.int (1 : Int32)), (.int p0)])) (fun t k => XS.iconst X0.here hx rfl (hb hby d3_1) k) ?_
  refine own_st (g' := (mkF m 3 #[.val (.int p0), .unset, .unset, .unset, .unset] [(.int (p0 - (1 : Int32)))])) (fun t k => XS.isub X0.here hx rfl (hb hby d3_2) rfl k) ?_
  refine own_st (g' := (mkF m 5 #[.val (.int p0), .unset, .unset, .unset, .unset] [(.int (29 : Int32)), (.int (p0 - (1 : Int32)))])) (fun t k => XS.bipush X0.here hx rfl (hb hby d3_3) k) ?_
  refine own_st (g' := (mkF m 6 #[.val (.int p0), .unset, .unset, .unset, .unset] [(.int ((((p0 - (1 : Int32))).toUInt32 >>> ((29 : Int32) &&& 31).toUInt32).toInt32))])) (fun t k => XS.iushr X0.here hx rfl (hb hby d3_5) rfl k) ?_
  have J20 : ∀ (T : State) (locs : List Loc) (t0_20 : Int32), Stand p l e ({ frames := 0, cells := 0, slots := 0, locals := 0 } : Room) s m #[(.int p0)] below meth c T locs 0 0 → T.heap = h0 → Fr n0 locs → own_f3_20 p0 t0_20 = own_F3 p0 → own_Fin p e below s ({ frames := 0, cells := 0, slots := 0, locals := 0 } : Room).cells ({ frames := 0, cells := 0, slots := 0, locals := 0 } : Room).slots (Q3 Z p0 h0 n0) T (mkF m 20 #[.val (.int p0), .unset, .unset, .unset, .unset] [(.int t0_20)]) := by
    intro T13 locs13 t0_20  X13 e13 N13 hr13
    have hr13a := (own_f3_20_eq (p0) (t0_20)).symm.trans hr13
    refine own_st (g' := (mkF m 21 #[.val (.int p0), .val (.int t0_20), .unset, .unset, .unset] [])) (fun t k => XS.istoreN X13.here hx rfl (hb hby d3_20) rfl (l' := #[.val (.int p0), .val (.int t0_20), .unset, .unset, .unset]) rfl k) ?_
    refine own_st (g' := (mkF m 22 #[.val (.int p0), .val (.int t0_20), .unset, .unset, .unset] [(.int p0)])) (fun t k => XS.iloadN X13.here hx rfl (hb hby d3_21) rfl  k) ?_
    refine own_st (g' := (mkF m 23 #[.val (.int p0), .val (.int t0_20), .unset, .unset, .unset] [(.long ((p0).toInt64))])) (fun t k => XS.i2l X13.here hx rfl (hb hby d3_22) rfl k) ?_
    refine own_st (g' := (mkF m 26 #[.val (.int p0), .val (.int t0_20), .unset, .unset, .unset] [(.long (19000 : Int64)), (.long ((p0).toInt64))])) (fun t k => X13.ldc2Long hx hown (mvT hZ (hw _ (List.mem_of_getElem? (i := 17) rfl))) (g := (mkF m 23 #[.val (.int p0), .val (.int t0_20), .unset, .unset, .unset] [(.long ((p0).toInt64))])) rfl (hb hby d3_23) t k) ?_
    refine own_st (g' := (mkF m 27 #[.val (.int p0), .val (.int t0_20), .unset, .unset, .unset] [(.long (((p0).toInt64) - (19000 : Int64)))])) (fun t k => XS.lsub X13.here hx rfl (hb hby d3_26) rfl k) ?_
    refine own_st (g' := (mkF m 28 #[.val (.int p0), .val (.int t0_20), .val (.long (((p0).toInt64) - (19000 : Int64))), .second, .unset] [])) (fun t k => XS.lstoreN X13.here hx rfl (hb hby d3_27) rfl (l' := #[.val (.int p0), .val (.int t0_20), .val (.long (((p0).toInt64) - (19000 : Int64))), .second, .unset]) rfl k) ?_
    refine own_st (g' := (mkF m 29 #[.val (.int p0), .val (.int t0_20), .val (.long (((p0).toInt64) - (19000 : Int64))), .second, .unset] [(.long (((p0).toInt64) - (19000 : Int64)))])) (fun t k => XS.lloadN X13.here hx rfl (hb hby d3_28) rfl  k) ?_
    refine own_st (g' := (mkF m 30 #[.val (.int p0), .val (.int t0_20), .val (.long (((p0).toInt64) - (19000 : Int64))), .second, .unset] [(.long (0 : Int64)), (.long (((p0).toInt64) - (19000 : Int64)))])) (fun t k => XS.lconst X13.here hx rfl (hb hby d3_29) k) ?_
    refine own_st (g' := (mkF m 31 #[.val (.int p0), .val (.int t0_20), .val (.long (((p0).toInt64) - (19000 : Int64))), .second, .unset] [(.int (lcmpW (((p0).toInt64) - (19000 : Int64)) (0 : Int64)))])) (fun t k => XS.lcmp X13.here hx rfl (hb hby d3_30) rfl k) ?_
    have J47 : ∀ (T : State) (locs : List Loc) (t0_47 : Int32), Stand p l e ({ frames := 0, cells := 0, slots := 0, locals := 0 } : Room) s m #[(.int p0)] below meth c T locs 0 0 → T.heap = h0 → Fr n0 locs → own_f3_47 p0 t0_20 t0_47 = own_F3 p0 → own_Fin p e below s ({ frames := 0, cells := 0, slots := 0, locals := 0 } : Room).cells ({ frames := 0, cells := 0, slots := 0, locals := 0 } : Room).slots (Q3 Z p0 h0 n0) T (mkF m 47 #[.val (.int p0), .val (.int t0_20), .val (.long (((p0).toInt64) - (19000 : Int64))), .second, .unset] [(.int t0_47)]) := by
      intro T14 locs14 t0_47  X14 e14 N14 hr14
      have hr14a := (own_f3_47_eq (p0) (t0_20) (t0_47)).symm.trans hr14
      refine own_st (g' := (mkF m 49 #[.val (.int p0), .val (.int t0_20), .val (.long (((p0).toInt64) - (19000 : Int64))), .second, .val (.int t0_47)] [])) (fun t k => XS.istore X14.here hx rfl (hb hby d3_47) rfl (l' := #[.val (.int p0), .val (.int t0_20), .val (.long (((p0).toInt64) - (19000 : Int64))), .second, .val (.int t0_47)]) rfl k) ?_
      refine own_st (g' := (mkF m 50 #[.val (.int p0), .val (.int t0_20), .val (.long (((p0).toInt64) - (19000 : Int64))), .second, .val (.int t0_47)] [(.int t0_20)])) (fun t k => XS.iloadN X14.here hx rfl (hb hby d3_49) rfl  k) ?_
      have J63 : ∀ (T : State) (locs : List Loc) (t0_63 : Int32), Stand p l e ({ frames := 0, cells := 0, slots := 0, locals := 0 } : Room) s m #[(.int p0)] below meth c T locs 0 0 → T.heap = h0 → Fr n0 locs → own_f3_63 p0 t0_20 t0_47 t0_63 = own_F3 p0 → own_Fin p e below s ({ frames := 0, cells := 0, slots := 0, locals := 0 } : Room).cells ({ frames := 0, cells := 0, slots := 0, locals := 0 } : Room).slots (Q3 Z p0 h0 n0) T (mkF m 63 #[.val (.int p0), .val (.int t0_20), .val (.long (((p0).toInt64) - (19000 : Int64))), .second, .val (.int t0_47)] [(.int t0_63)]) := by
        intro T15 locs15 t0_63  X15 e15 N15 hr15
        have hr15a := (own_f3_63_eq (p0) (t0_20) (t0_47) (t0_63)).symm.trans hr15
        exact own_retN (t := .boolean) X15 hx Bd.returns Bd.notSynchronized (by simp) (hb hby d3_63) ⟨congrArg (fun q => some (Value.int q)) hr15a, N15, e15⟩ (by decide) (by decide)
      by_cases hc50_16 : t0_20 = (0 : Int32)
      · have hr17 := (if_pos hc50_16).symm.trans hr14a
        refine own_st (g' := (mkF m 62 #[.val (.int p0), .val (.int t0_20), .val (.long (((p0).toInt64) - (19000 : Int64))), .second, .val (.int t0_47)] [])) (fun t k => XS.ifYes X14.here hx rfl (pc0 := 50) (pc' := 62) rfl (hb hby d3_50) rfl ((if0 _ _).trans (teq hc50_16).1) (by decide) (by decide) k) ?_
        refine own_st (g' := (mkF m 63 #[.val (.int p0), .val (.int t0_20), .val (.long (((p0).toInt64) - (19000 : Int64))), .second, .val (.int t0_47)] [(.int (0 : Int32))])) (fun t k => XS.iconst X14.here hx rfl (hb hby d3_62) k) ?_
        exact J63 T14 _ (0 : Int32)  X14 e14 N14 hr17
      · have hr18 := (if_neg hc50_16).symm.trans hr14a
        refine own_st (g' := (mkF m 53 #[.val (.int p0), .val (.int t0_20), .val (.long (((p0).toInt64) - (19000 : Int64))), .second, .val (.int t0_47)] [])) (fun t k => XS.ifNo X14.here hx rfl (hb hby d3_50) rfl ((if0 _ _).trans (feq hc50_16).1) k) ?_
        refine own_st (g' := (mkF m 55 #[.val (.int p0), .val (.int t0_20), .val (.long (((p0).toInt64) - (19000 : Int64))), .second, .val (.int t0_47)] [(.int t0_47)])) (fun t k => XS.iload X14.here hx rfl (hb hby d3_53) rfl  k) ?_
        by_cases hc55_19 : t0_47 = (0 : Int32)
        · have hr20 := (if_pos hc55_19).symm.trans hr18
          refine own_st (g' := (mkF m 58 #[.val (.int p0), .val (.int t0_20), .val (.long (((p0).toInt64) - (19000 : Int64))), .second, .val (.int t0_47)] [])) (fun t k => XS.ifNo X14.here hx rfl (hb hby d3_55) rfl ((if0 _ _).trans (teq hc55_19).2) k) ?_
          refine own_st (g' := (mkF m 59 #[.val (.int p0), .val (.int t0_20), .val (.long (((p0).toInt64) - (19000 : Int64))), .second, .val (.int t0_47)] [(.int (1 : Int32))])) (fun t k => XS.iconst X14.here hx rfl (hb hby d3_58) k) ?_
          refine own_st (g' := (mkF m 63 #[.val (.int p0), .val (.int t0_20), .val (.long (((p0).toInt64) - (19000 : Int64))), .second, .val (.int t0_47)] [(.int (1 : Int32))])) (fun t k => XS.goto X14.here hx rfl (pc0 := 59) (pc' := 63) rfl (hb hby d3_59) (by decide) (by decide) k) ?_
          exact J63 T14 _ (1 : Int32)  X14 e14 N14 hr20
        · have hr21 := (if_neg hc55_19).symm.trans hr18
          refine own_st (g' := (mkF m 62 #[.val (.int p0), .val (.int t0_20), .val (.long (((p0).toInt64) - (19000 : Int64))), .second, .val (.int t0_47)] [])) (fun t k => XS.ifYes X14.here hx rfl (pc0 := 55) (pc' := 62) rfl (hb hby d3_55) rfl ((if0 _ _).trans (feq hc55_19).2) (by decide) (by decide) k) ?_
          refine own_st (g' := (mkF m 63 #[.val (.int p0), .val (.int t0_20), .val (.long (((p0).toInt64) - (19000 : Int64))), .second, .val (.int t0_47)] [(.int (0 : Int32))])) (fun t k => XS.iconst X14.here hx rfl (hb hby d3_62) k) ?_
          exact J63 T14 _ (0 : Int32)  X14 e14 N14 hr21
    by_cases hc31_22 : (((p0).toInt64) - (19000 : Int64)) < (0 : Int64)
    · have hr23 := (if_pos hc31_22).symm.trans hr13a
      refine own_st (g' := (mkF m 46 #[.val (.int p0), .val (.int t0_20), .val (.long (((p0).toInt64) - (19000 : Int64))), .second, .unset] [])) (fun t k => XS.ifYes X13.here hx rfl (pc0 := 31) (pc' := 46) rfl (hb hby d3_31) rfl ((if0 _ _).trans (tlt ((lw_lt _ _).mpr hc31_22)).1) (by decide) (by decide) k) ?_
      refine own_st (g' := (mkF m 47 #[.val (.int p0), .val (.int t0_20), .val (.long (((p0).toInt64) - (19000 : Int64))), .second, .unset] [(.int (0 : Int32))])) (fun t k => XS.iconst X13.here hx rfl (hb hby d3_46) k) ?_
      exact J47 T13 _ (0 : Int32)  X13 e13 N13 hr23
    · have hr24 := (if_neg hc31_22).symm.trans hr13a
      refine own_st (g' := (mkF m 34 #[.val (.int p0), .val (.int t0_20), .val (.long (((p0).toInt64) - (19000 : Int64))), .second, .unset] [])) (fun t k => XS.ifNo X13.here hx rfl (hb hby d3_31) rfl ((if0 _ _).trans (flt (fun q => hc31_22 ((lw_lt _ _).mp q))).1) k) ?_
      refine own_st (g' := (mkF m 35 #[.val (.int p0), .val (.int t0_20), .val (.long (((p0).toInt64) - (19000 : Int64))), .second, .unset] [(.long (((p0).toInt64) - (19000 : Int64)))])) (fun t k => XS.lloadN X13.here hx rfl (hb hby d3_34) rfl  k) ?_
      refine own_st (g' := (mkF m 38 #[.val (.int p0), .val (.int t0_20), .val (.long (((p0).toInt64) - (19000 : Int64))), .second, .unset] [(.long (1000 : Int64)), (.long (((p0).toInt64) - (19000 : Int64)))])) (fun t k => X13.ldc2Long hx hown (mvT hZ (hw _ (List.mem_of_getElem? (i := 19) rfl))) (g := (mkF m 35 #[.val (.int p0), .val (.int t0_20), .val (.long (((p0).toInt64) - (19000 : Int64))), .second, .unset] [(.long (((p0).toInt64) - (19000 : Int64)))])) rfl (hb hby d3_35) t k) ?_
      refine own_st (g' := (mkF m 39 #[.val (.int p0), .val (.int t0_20), .val (.long (((p0).toInt64) - (19000 : Int64))), .second, .unset] [(.int (lcmpW (((p0).toInt64) - (19000 : Int64)) (1000 : Int64)))])) (fun t k => XS.lcmp X13.here hx rfl (hb hby d3_38) rfl k) ?_
      by_cases hc39_25 : (((p0).toInt64) - (19000 : Int64)) < (1000 : Int64)
      · have hr26 := (if_pos hc39_25).symm.trans hr24
        refine own_st (g' := (mkF m 42 #[.val (.int p0), .val (.int t0_20), .val (.long (((p0).toInt64) - (19000 : Int64))), .second, .unset] [])) (fun t k => XS.ifNo X13.here hx rfl (hb hby d3_39) rfl ((if0 _ _).trans (tlt ((lw_lt _ _).mpr hc39_25)).2.1) k) ?_
        refine own_st (g' := (mkF m 43 #[.val (.int p0), .val (.int t0_20), .val (.long (((p0).toInt64) - (19000 : Int64))), .second, .unset] [(.int (1 : Int32))])) (fun t k => XS.iconst X13.here hx rfl (hb hby d3_42) k) ?_
        refine own_st (g' := (mkF m 47 #[.val (.int p0), .val (.int t0_20), .val (.long (((p0).toInt64) - (19000 : Int64))), .second, .unset] [(.int (1 : Int32))])) (fun t k => XS.goto X13.here hx rfl (pc0 := 43) (pc' := 47) rfl (hb hby d3_43) (by decide) (by decide) k) ?_
        exact J47 T13 _ (1 : Int32)  X13 e13 N13 hr26
      · have hr27 := (if_neg hc39_25).symm.trans hr24
        refine own_st (g' := (mkF m 46 #[.val (.int p0), .val (.int t0_20), .val (.long (((p0).toInt64) - (19000 : Int64))), .second, .unset] [])) (fun t k => XS.ifYes X13.here hx rfl (pc0 := 39) (pc' := 46) rfl (hb hby d3_39) rfl ((if0 _ _).trans (flt (fun q => hc39_25 ((lw_lt _ _).mp q))).2.1) (by decide) (by decide) k) ?_
        refine own_st (g' := (mkF m 47 #[.val (.int p0), .val (.int t0_20), .val (.long (((p0).toInt64) - (19000 : Int64))), .second, .unset] [(.int (0 : Int32))])) (fun t k => XS.iconst X13.here hx rfl (hb hby d3_46) k) ?_
        exact J47 T13 _ (0 : Int32)  X13 e13 N13 hr27
  by_cases hc6_28 : ((((p0 - (1 : Int32))).toUInt32 >>> ((29 : Int32) &&& 31).toUInt32).toInt32) = (0 : Int32)
  · have hr29 := (if_pos hc6_28).symm.trans hr0
    refine own_st (g' := (mkF m 9 #[.val (.int p0), .unset, .unset, .unset, .unset] [])) (fun t k => XS.ifNo X0.here hx rfl (hb hby d3_6) rfl ((if0 _ _).trans (teq hc6_28).2) k) ?_
    refine own_st (g' := (mkF m 10 #[.val (.int p0), .unset, .unset, .unset, .unset] [(.int p0)])) (fun t k => XS.iloadN X0.here hx rfl (hb hby d3_9) rfl  k) ?_
    refine own_st (g' := (mkF m 12 #[.val (.int p0), .unset, .unset, .unset, .unset] [(.int (536870912 : Int32)), (.int p0)])) (fun t k => X0.ldcInt hx hown (mvT hZ (hw _ (List.mem_of_getElem? (i := 3) rfl))) (g := (mkF m 10 #[.val (.int p0), .unset, .unset, .unset, .unset] [(.int p0)])) rfl (hb hby d3_10) t k) ?_
    by_cases hc12_30 : p0 = (536870912 : Int32)
    · have hr31 := (if_pos hc12_30).symm.trans hr29
      refine own_st (g' := (mkF m 19 #[.val (.int p0), .unset, .unset, .unset, .unset] [])) (fun t k => XS.icmpYes X0.here hx rfl (pc0 := 12) (pc' := 19) rfl (hb hby d3_12) rfl (teq hc12_30).1 (by decide) (by decide) k) ?_
      refine own_st (g' := (mkF m 20 #[.val (.int p0), .unset, .unset, .unset, .unset] [(.int (0 : Int32))])) (fun t k => XS.iconst X0.here hx rfl (hb hby d3_19) k) ?_
      exact J20 s₁ _ (0 : Int32)  X0 e0 N0 hr31
    · have hr32 := (if_neg hc12_30).symm.trans hr29
      refine own_st (g' := (mkF m 15 #[.val (.int p0), .unset, .unset, .unset, .unset] [])) (fun t k => XS.icmpNo X0.here hx rfl (hb hby d3_12) rfl (feq hc12_30).1 k) ?_
      refine own_st (g' := (mkF m 16 #[.val (.int p0), .unset, .unset, .unset, .unset] [(.int (1 : Int32))])) (fun t k => XS.iconst X0.here hx rfl (hb hby d3_15) k) ?_
      refine own_st (g' := (mkF m 20 #[.val (.int p0), .unset, .unset, .unset, .unset] [(.int (1 : Int32))])) (fun t k => XS.goto X0.here hx rfl (pc0 := 16) (pc' := 20) rfl (hb hby d3_16) (by decide) (by decide) k) ?_
      exact J20 s₁ _ (1 : Int32)  X0 e0 N0 hr32
  · have hr33 := (if_neg hc6_28).symm.trans hr0
    refine own_st (g' := (mkF m 19 #[.val (.int p0), .unset, .unset, .unset, .unset] [])) (fun t k => XS.ifYes X0.here hx rfl (pc0 := 6) (pc' := 19) rfl (hb hby d3_6) rfl ((if0 _ _).trans (feq hc6_28).2) (by decide) (by decide) k) ?_
    refine own_st (g' := (mkF m 20 #[.val (.int p0), .unset, .unset, .unset, .unset] [(.int (0 : Int32))])) (fun t k => XS.iconst X0.here hx rfl (hb hby d3_19) k) ?_
    exact J20 s₁ _ (0 : Int32)  X0 e0 N0 hr33
def own_f1_16 (p0 : Int32) (t0_16 : Int32) : Int32 := (nar .boolean t0_16)
theorem own_f1_16_eq (p0 : Int32) (t0_16 : Int32) : own_f1_16 p0 t0_16 = (nar .boolean t0_16) := rfl
def own_F1 (p0 : Int32) : Int32 := (if (own_F2 p0) = (own_F3 p0) then (own_f1_16 p0 (1 : Int32)) else (own_f1_16 p0 (0 : Int32)))
theorem own_F1_eq (p0 : Int32) : own_F1 p0 = (if (own_F2 p0) = (own_F3 p0) then (own_f1_16 p0 (1 : Int32)) else (own_f1_16 p0 (0 : Int32))) := rfl
theorem d1_0 : decode method_3_code 0 = .ok (.iload_n 0, 1) := by decide +kernel
theorem d1_1 : decode method_3_code 1 = .ok (.invokestatic 12, 3) := by decide +kernel
theorem d1_4 : decode method_3_code 4 = .ok (.iload_n 0, 1) := by decide +kernel
theorem d1_5 : decode method_3_code 5 = .ok (.invokestatic 18, 3) := by decide +kernel
theorem d1_8 : decode method_3_code 8 = .ok (.if_icmp .ne 7, 3) := by decide +kernel
theorem d1_11 : decode method_3_code 11 = .ok (.iconst 1, 1) := by decide +kernel
theorem d1_12 : decode method_3_code 12 = .ok (.goto 4, 3) := by decide +kernel
theorem d1_15 : decode method_3_code 15 = .ok (.iconst 0, 1) := by decide +kernel
theorem d1_16 : decode method_3_code 16 = .ok (.ireturn, 1) := by decide +kernel
theorem pn_1 : plainName "com/example/wiretag/wiretag/core/WireFormatIsDeclarableFieldNumberPinLaw" = true := by first | (simp [plainName, overriddenIn]; done) | decide +kernel
theorem pd_1_0 : parseMethodDescriptor "(I)Z" = some ⟨[.int], some .boolean⟩ := by decide +kernel
theorem ef_1 (m : MethodId) (x0 : Int32) : entryFrame m #[(.int x0)] 1 = mkF m 0 #[.val (.int x0)] [] := by first | (simp [entryFrame, mkF, argsToLocals, Value.category]; done) | rfl
def Q1 (Z : State) (p0 : Int32) (h0 : Heap) (n0 : Nat) (v : Option Value) (h : Heap) (L : List Loc) : Prop := v = some (.int (own_F1 p0)) ∧ Fr n0 L ∧ h = h0
set_option maxRecDepth 65536 in
set_option maxHeartbeats 40000000 in
theorem rm1 (l : Launch) (Z : State) (a0 : Array Value) (hw : ∀ d ∈ tables_1, d.before a0 Z = true) (ws : List Jvm.Cond) (p0 : Int32) (h0 : Heap) (n0 : Nat) (Z0 : n0 ≤ h0.size) :
    MetFree l (⟨"com/example/wiretag/wiretag/core/WireFormatIsDeclarableFieldNumberPinLaw", "agrees", "(I)Z"⟩ : MethodName) (head1 (Jvm.Cond.code (⟨"com/example/wiretag/wiretag/core/WireFormatIsDeclarableFieldNumberPinLaw", "agrees", "(I)Z"⟩ : MethodName) method_3_code 1 (some .boolean) :: ws) ({ frames := 1, cells := 0, slots := 0, locals := 17 } : Room)) (fun a U => a = #[(.int p0)] ∧ Z.Warmed39 U.vm ∧ U.heap = h0) (fun _ _ _ _ _ => True) (fun _ U o U' => ∃ v L, o = .returned v ∧ Q1 Z p0 h0 n0 v U'.heap L ∧ FrameEnd U o U' L ({ frames := 1, cells := 0, slots := 0, locals := 17 } : Room).cells ({ frames := 1, cells := 0, slots := 0, locals := 17 } : Room).slots) := by
  refine MetFree.of_bodySF (plainFor_of_name pn_1) hisR ?_
  intro p e s m args below meth c s₁ Bd hml0 hP hK
  obtain ⟨rfl, hZ, hh⟩ := hP
  have hx := Bd.exec
  have hby := Bd.bytes
  have hml : c.maxLocals = 1 := hml0
  have hown : s.vm.findClass "com/example/wiretag/wiretag/core/WireFormatIsDeclarableFieldNumberPinLaw" = some m.cls := findClass_of_methodNamed Bd.named
  have hnm := (name_of_methodNamed Bd.named Bd.method).1
  have X0 : Stand p l e ({ frames := 1, cells := 0, slots := 0, locals := 17 } : Room) s m #[(.int p0)] below meth c s₁ [] 0 0 := Stand.of_body Bd
  have e0 : s₁.heap = h0 := by rw [← hh, Bd.state]; rfl
  have N0 := Fr.nil n0
  refine own_in (ef_1 m p0) ?_
  have hr0 := (own_F1_eq p0).symm
  refine own_st (g' := (mkF m 1 #[.val (.int p0)] [(.int p0)])) (fun t k => XS.iloadN X0.here hx rfl (hb hby d1_0) rfl  k) ?_
  obtain ⟨_, _, ⟨T7, L7, k7, n7⟩, -, X7, ⟨Lc7, hQ7, l7, y7, z7⟩, st7⟩ := Jvm.LawKit.callS X0 hx (y := (⟨"com/example/wiretag/wiretag/core/WireFormat", "isDeclarableFieldNumber", "(I)Z"⟩ : MethodName)) hown (mvT hZ (hw _ (List.mem_of_getElem? (i := 10) rfl))) (mvT hZ (hw _ (List.mem_of_getElem? (i := 11) rfl))) (mvT hZ (hw _ (List.mem_of_getElem? (i := 12) rfl))) (mvT hZ (hw _ (List.mem_of_getElem? (i := 13) rfl))) (by decide) (backOf (W := 0) (rm2 l Z a0 hw [] p0 h0 n0 Z0  ) hZ (hw _ (List.mem_of_getElem? (i := 13) rfl)) (hw _ (List.mem_of_getElem? (i := 12) rfl)) (by decide) (by decide)) (g := (mkF m 1 #[.val (.int p0)] [(.int p0)])) rfl (by rw [hml]; rfl) (argsL := [(.int p0)]) (rest := []) (lenOf pd_1_0 rfl) rfl (by show 2 * 0 + _ ≤ _; exact Nat.le_of_eq rfl) (hb hby d1_1) (fun _ _ => ⟨rfl, e0, (by decide : 0 + 0 ≤ _), (by decide : 0 + 0 ≤ _)⟩)
  dsimp only [Pt.U, Pt.locs, Pt.cells, Pt.slots] at X7 l7 y7 z7 st7 hQ7
  subst l7 y7 z7
  obtain ⟨rfl, N7q, e7⟩ := hQ7
  have N7 := Fr.app N0 N7q
  refine own_st (g' := (mkF m 4 #[.val (.int p0)] [(.int (own_F2 p0))])) (fun t k => st7 t k) ?_
  refine own_st (g' := (mkF m 5 #[.val (.int p0)] [(.int p0), (.int (own_F2 p0))])) (fun t k => XS.iloadN X7.here hx rfl (hb hby d1_4) rfl  k) ?_
  obtain ⟨_, _, ⟨T8, L8, k8, n8⟩, -, X8, ⟨Lc8, hQ8, l8, y8, z8⟩, st8⟩ := Jvm.LawKit.callS X7 hx (y := (⟨"com/example/wiretag/wiretag/core/WireFormatIsDeclarableFieldNumberPinLaw", "reference", "(I)Z"⟩ : MethodName)) hown (mvT hZ (hw _ (List.mem_of_getElem? (i := 14) rfl))) (mvT hZ (hw _ (List.mem_of_getElem? (i := 15) rfl))) (mvT hZ (hw _ (List.mem_of_getElem? (i := 8) rfl))) (mvT hZ (hw _ (List.mem_of_getElem? (i := 16) rfl))) (by decide) (backOf (W := 1) (rm3 l Z a0 hw [] p0 h0 n0 Z0  ) hZ (hw _ (List.mem_of_getElem? (i := 16) rfl)) (hw _ (List.mem_of_getElem? (i := 8) rfl)) (by decide) (by decide)) (g := (mkF m 5 #[.val (.int p0)] [(.int p0), (.int (own_F2 p0))])) rfl (by rw [hml]; rfl) (argsL := [(.int p0)]) (rest := [(.int (own_F2 p0))]) (lenOf pd_1_0 rfl) rfl (by show 2 * 0 + _ ≤ _; exact Nat.le_of_eq rfl) (hb hby d1_5) (fun _ _ => ⟨rfl, e7, (by decide : 0 + 0 ≤ _), (by decide : 0 + 0 ≤ _)⟩)
  dsimp only [Pt.U, Pt.locs, Pt.cells, Pt.slots] at X8 l8 y8 z8 st8 hQ8
  subst l8 y8 z8
  obtain ⟨rfl, N8q, e8⟩ := hQ8
  have N8 := Fr.app N7 N8q
  refine own_st (g' := (mkF m 8 #[.val (.int p0)] [(.int (own_F3 p0)), (.int (own_F2 p0))])) (fun t k => st8 t k) ?_
  have J16 : ∀ (T : State) (locs : List Loc) (t0_16 : Int32), Stand p l e ({ frames := 1, cells := 0, slots := 0, locals := 17 } : Room) s m #[(.int p0)] below meth c T locs 0 0 → T.heap = h0 → Fr n0 locs → own_f1_16 p0 t0_16 = own_F1 p0 → own_Fin p e below s ({ frames := 1, cells := 0, slots := 0, locals := 17 } : Room).cells ({ frames := 1, cells := 0, slots := 0, locals := 17 } : Room).slots (Q1 Z p0 h0 n0) T (mkF m 16 #[.val (.int p0)] [(.int t0_16)]) := by
    intro T9 locs9 t0_16  X9 e9 N9 hr9
    have hr9a := (own_f1_16_eq (p0) (t0_16)).symm.trans hr9
    exact own_retN (t := .boolean) X9 hx Bd.returns Bd.notSynchronized (by simp) (hb hby d1_16) ⟨congrArg (fun q => some (Value.int q)) hr9a, N9, e9⟩ (by decide) (by decide)
  by_cases hc8_10 : (own_F2 p0) = (own_F3 p0)
  · have hr11 := (if_pos hc8_10).symm.trans hr0
    refine own_st (g' := (mkF m 11 #[.val (.int p0)] [])) (fun t k => XS.icmpNo X8.here hx rfl (hb hby d1_8) rfl (teq hc8_10).2 k) ?_
    refine own_st (g' := (mkF m 12 #[.val (.int p0)] [(.int (1 : Int32))])) (fun t k => XS.iconst X8.here hx rfl (hb hby d1_11) k) ?_
    refine own_st (g' := (mkF m 16 #[.val (.int p0)] [(.int (1 : Int32))])) (fun t k => XS.goto X8.here hx rfl (pc0 := 12) (pc' := 16) rfl (hb hby d1_12) (by decide) (by decide) k) ?_
    exact J16 T8 _ (1 : Int32)  X8 e8 N8 hr11
  · have hr12 := (if_neg hc8_10).symm.trans hr0
    refine own_st (g' := (mkF m 15 #[.val (.int p0)] [])) (fun t k => XS.icmpYes X8.here hx rfl (pc0 := 8) (pc' := 15) rfl (hb hby d1_8) rfl (feq hc8_10).2 (by decide) (by decide) k) ?_
    refine own_st (g' := (mkF m 16 #[.val (.int p0)] [(.int (0 : Int32))])) (fun t k => XS.iconst X8.here hx rfl (hb hby d1_15) k) ?_
    exact J16 T8 _ (0 : Int32)  X8 e8 N8 hr12
def own_f0_120 (p0 : Int32) (p1 : Int32) (t0_120 : Int32) : Int32 := (nar .boolean t0_120)
theorem own_f0_120_eq (p0 : Int32) (p1 : Int32) (t0_120 : Int32) : own_f0_120 p0 p1 t0_120 = (nar .boolean t0_120) := rfl
def own_F0 (p0 : Int32) (p1 : Int32) : Int32 := (if (own_F1 p0) = (0 : Int32) then (own_f0_120 p0 p1 (0 : Int32)) else (if (own_F1 ([(0 : Int32), (1 : Int32), (2 : Int32), (18999 : Int32), (19000 : Int32), (19001 : Int32), (19998 : Int32), (19999 : Int32), (20000 : Int32), (536870910 : Int32), (536870911 : Int32), (536870912 : Int32), (-2147483648 : Int32), (2147483647 : Int32), (-1 : Int32)].getD (((p1 &&& (2147483647 : Int32)) % (15 : Int32))).toNatClampNeg (0 : Int32))) = (0 : Int32) then (own_f0_120 p0 p1 (0 : Int32)) else (own_f0_120 p0 p1 (1 : Int32))))
theorem own_F0_eq (p0 : Int32) (p1 : Int32) : own_F0 p0 p1 = (if (own_F1 p0) = (0 : Int32) then (own_f0_120 p0 p1 (0 : Int32)) else (if (own_F1 ([(0 : Int32), (1 : Int32), (2 : Int32), (18999 : Int32), (19000 : Int32), (19001 : Int32), (19998 : Int32), (19999 : Int32), (20000 : Int32), (536870910 : Int32), (536870911 : Int32), (536870912 : Int32), (-2147483648 : Int32), (2147483647 : Int32), (-1 : Int32)].getD (((p1 &&& (2147483647 : Int32)) % (15 : Int32))).toNatClampNeg (0 : Int32))) = (0 : Int32) then (own_f0_120 p0 p1 (0 : Int32)) else (own_f0_120 p0 p1 (1 : Int32)))) := rfl
theorem pn_0 : plainName "com/example/wiretag/wiretag/core/WireFormatIsDeclarableFieldNumberPinLaw" = true := by first | (simp [plainName, overriddenIn]; done) | decide +kernel
theorem pd_0_0 : parseMethodDescriptor "(I)Z" = some ⟨[.int], some .boolean⟩ := by decide +kernel
theorem ef_0 (m : MethodId) (x0 : Int32) (x1 : Int32) : entryFrame m #[(.int x0), (.int x1)] maxLocals = mkF m 0 #[.val (.int x0), .val (.int x1), .unset, .unset] [] := by first | (simp [entryFrame, mkF, argsToLocals, Value.category, maxLocals]; done) | rfl
def Q0 (Z : State) (p0 : Int32) (p1 : Int32) (h0 : Heap) (n0 : Nat) (v : Option Value) (h : Heap) (L : List Loc) : Prop := v = some (.int 1) ∧ Fr n0 L
set_option maxRecDepth 65536 in
set_option maxHeartbeats 40000000 in
theorem rm0 (l : Launch) (Z : State) (a0 : Array Value) (hw : ∀ d ∈ tables_1, d.before a0 Z = true) (ws : List Jvm.Cond) (p0 : Int32) (p1 : Int32) (h0 : Heap) (n0 : Nat) (Z0 : n0 ≤ h0.size) (hlaw : own_F0 p0 p1 = 1) :
    MetFree l x (head1 (Jvm.Cond.code x code maxLocals ret :: ws) room_1) (fun a U => a = #[(.int p0), (.int p1)] ∧ Z.Warmed39 U.vm ∧ U.heap = h0) (fun _ _ _ _ _ => True) (fun _ U o U' => ∃ v L, o = .returned v ∧ Q0 Z p0 p1 h0 n0 v U'.heap L ∧ FrameEnd U o U' L 16 128) := by
  refine MetFree.of_bodySF (plainFor_of_name pn_0) hisR ?_
  intro p e s m args below meth c s₁ Bd hml0 hP hK
  obtain ⟨rfl, hZ, hh⟩ := hP
  have hx := Bd.exec
  have hby := Bd.bytes
  have hml : c.maxLocals = 4 := hml0
  have hown : s.vm.findClass "com/example/wiretag/wiretag/core/WireFormatIsDeclarableFieldNumberPinLaw" = some m.cls := findClass_of_methodNamed Bd.named
  have hnm := (name_of_methodNamed Bd.named Bd.method).1
  have X0 : Stand p l e room_1 s m #[(.int p0), (.int p1)] below meth c s₁ [] 0 0 := Stand.of_body Bd
  have e0 : s₁.heap = h0 := by rw [← hh, Bd.state]; rfl
  have N0 := Fr.nil n0
  refine own_in (ef_0 m p0 p1) ?_
  have hr0 := (own_F0_eq p0 p1).symm.trans hlaw
  refine own_st (g' := (mkF m 2 #[.val (.int p0), .val (.int p1), .unset, .unset] [(.int (15 : Int32))])) (fun t k => XS.bipush X0.here hx rfl (hb hby at_0) k) ?_
  obtain ⟨T41, h41, k41, X41, e41, E41, A41, st41⟩ := newP X0 hx hZ (hw _ (List.mem_of_getElem? (i := 0) rfl)) e0 (g := (mkF m 2 #[.val (.int p0), .val (.int p1), .unset, .unset] [(.int (15 : Int32))])) rfl (hb hby at_2) rfl (by decide) (cap := 15) (by decide) (by decide) (by decide) (by decide)
  obtain ⟨b2, gg41⟩ : ∃ q, q = h0.size := ⟨_, rfl⟩
  rw [← gg41] at A41 st41
  have g_b2 : n0 ≤ b2 := Nat.le_trans Z0 (Nat.le_of_eq gg41.symm)
  have V41 : own_Ar Z h41 b2 k41 .int (15 : Int32) Value.int (0 : Int32) [(0 : Int32), (0 : Int32), (0 : Int32), (0 : Int32), (0 : Int32), (0 : Int32), (0 : Int32), (0 : Int32), (0 : Int32), (0 : Int32), (0 : Int32), (0 : Int32), (0 : Int32), (0 : Int32), (0 : Int32)] := own_Ar.new A41 (by decide) rfl
  refine own_st (g' := (mkF m 4 #[.val (.int p0), .val (.int p1), .unset, .unset] [(.ref b2)])) (fun t k => st41 t k) ?_
  refine own_st (g' := (mkF m 5 #[.val (.int p0), .val (.int p1), .unset, .unset] [(.ref b2), (.ref b2)])) (fun t k => XS.dup X41.here hx rfl (hb hby at_4) rfl rfl k) ?_
  refine own_st (g' := (mkF m 6 #[.val (.int p0), .val (.int p1), .unset, .unset] [(.int (0 : Int32)), (.ref b2), (.ref b2)])) (fun t k => XS.iconst X41.here hx rfl (hb hby at_5) k) ?_
  refine own_st (g' := (mkF m 7 #[.val (.int p0), .val (.int p1), .unset, .unset] [(.int (0 : Int32)), (.int (0 : Int32)), (.ref b2), (.ref b2)])) (fun t k => XS.iconst X41.here hx rfl (hb hby at_6) k) ?_
  obtain ⟨T42, h42, X42, e42, W42, V42, st42⟩ := own_iast X41 hx hZ e41 V41 (j := (0 : Int32)) ⟨by decide, by decide⟩ (g := (mkF m 7 #[.val (.int p0), .val (.int p1), .unset, .unset] [(.int (0 : Int32)), (.int (0 : Int32)), (.ref b2), (.ref b2)])) rfl rfl (hb hby at_7)
  replace V42 : own_Ar Z h42 b2 k41 .int (15 : Int32) Value.int (0 : Int32) [(0 : Int32), (0 : Int32), (0 : Int32), (0 : Int32), (0 : Int32), (0 : Int32), (0 : Int32), (0 : Int32), (0 : Int32), (0 : Int32), (0 : Int32), (0 : Int32), (0 : Int32), (0 : Int32), (0 : Int32)] := V42
  have N42 := Fr.snoc X42 N0 g_b2
  refine own_st (g' := (mkF m 8 #[.val (.int p0), .val (.int p1), .unset, .unset] [(.ref b2)])) (fun t k => st42 t k) ?_
  refine own_st (g' := (mkF m 9 #[.val (.int p0), .val (.int p1), .unset, .unset] [(.ref b2), (.ref b2)])) (fun t k => XS.dup X42.here hx rfl (hb hby at_8) rfl rfl k) ?_
  refine own_st (g' := (mkF m 10 #[.val (.int p0), .val (.int p1), .unset, .unset] [(.int (1 : Int32)), (.ref b2), (.ref b2)])) (fun t k => XS.iconst X42.here hx rfl (hb hby at_9) k) ?_
  refine own_st (g' := (mkF m 11 #[.val (.int p0), .val (.int p1), .unset, .unset] [(.int (1 : Int32)), (.int (1 : Int32)), (.ref b2), (.ref b2)])) (fun t k => XS.iconst X42.here hx rfl (hb hby at_10) k) ?_
  obtain ⟨T43, h43, X43, e43, W43, V43, st43⟩ := own_iast X42 hx hZ e42 V42 (j := (1 : Int32)) ⟨by decide, by decide⟩ (g := (mkF m 11 #[.val (.int p0), .val (.int p1), .unset, .unset] [(.int (1 : Int32)), (.int (1 : Int32)), (.ref b2), (.ref b2)])) rfl rfl (hb hby at_11)
  replace V43 : own_Ar Z h43 b2 k41 .int (15 : Int32) Value.int (0 : Int32) [(0 : Int32), (1 : Int32), (0 : Int32), (0 : Int32), (0 : Int32), (0 : Int32), (0 : Int32), (0 : Int32), (0 : Int32), (0 : Int32), (0 : Int32), (0 : Int32), (0 : Int32), (0 : Int32), (0 : Int32)] := V43
  have N43 := Fr.snoc X43 N42 g_b2
  refine own_st (g' := (mkF m 12 #[.val (.int p0), .val (.int p1), .unset, .unset] [(.ref b2)])) (fun t k => st43 t k) ?_
  refine own_st (g' := (mkF m 13 #[.val (.int p0), .val (.int p1), .unset, .unset] [(.ref b2), (.ref b2)])) (fun t k => XS.dup X43.here hx rfl (hb hby at_12) rfl rfl k) ?_
  refine own_st (g' := (mkF m 14 #[.val (.int p0), .val (.int p1), .unset, .unset] [(.int (2 : Int32)), (.ref b2), (.ref b2)])) (fun t k => XS.iconst X43.here hx rfl (hb hby at_13) k) ?_
  refine own_st (g' := (mkF m 15 #[.val (.int p0), .val (.int p1), .unset, .unset] [(.int (2 : Int32)), (.int (2 : Int32)), (.ref b2), (.ref b2)])) (fun t k => XS.iconst X43.here hx rfl (hb hby at_14) k) ?_
  obtain ⟨T44, h44, X44, e44, W44, V44, st44⟩ := own_iast X43 hx hZ e43 V43 (j := (2 : Int32)) ⟨by decide, by decide⟩ (g := (mkF m 15 #[.val (.int p0), .val (.int p1), .unset, .unset] [(.int (2 : Int32)), (.int (2 : Int32)), (.ref b2), (.ref b2)])) rfl rfl (hb hby at_15)
  replace V44 : own_Ar Z h44 b2 k41 .int (15 : Int32) Value.int (0 : Int32) [(0 : Int32), (1 : Int32), (2 : Int32), (0 : Int32), (0 : Int32), (0 : Int32), (0 : Int32), (0 : Int32), (0 : Int32), (0 : Int32), (0 : Int32), (0 : Int32), (0 : Int32), (0 : Int32), (0 : Int32)] := V44
  have N44 := Fr.snoc X44 N43 g_b2
  refine own_st (g' := (mkF m 16 #[.val (.int p0), .val (.int p1), .unset, .unset] [(.ref b2)])) (fun t k => st44 t k) ?_
  refine own_st (g' := (mkF m 17 #[.val (.int p0), .val (.int p1), .unset, .unset] [(.ref b2), (.ref b2)])) (fun t k => XS.dup X44.here hx rfl (hb hby at_16) rfl rfl k) ?_
  refine own_st (g' := (mkF m 18 #[.val (.int p0), .val (.int p1), .unset, .unset] [(.int (3 : Int32)), (.ref b2), (.ref b2)])) (fun t k => XS.iconst X44.here hx rfl (hb hby at_17) k) ?_
  refine own_st (g' := (mkF m 21 #[.val (.int p0), .val (.int p1), .unset, .unset] [(.int (18999 : Int32)), (.int (3 : Int32)), (.ref b2), (.ref b2)])) (fun t k => XS.sipush X44.here hx rfl (hb hby at_18) k) ?_
  obtain ⟨T45, h45, X45, e45, W45, V45, st45⟩ := own_iast X44 hx hZ e44 V44 (j := (3 : Int32)) ⟨by decide, by decide⟩ (g := (mkF m 21 #[.val (.int p0), .val (.int p1), .unset, .unset] [(.int (18999 : Int32)), (.int (3 : Int32)), (.ref b2), (.ref b2)])) rfl rfl (hb hby at_21)
  replace V45 : own_Ar Z h45 b2 k41 .int (15 : Int32) Value.int (0 : Int32) [(0 : Int32), (1 : Int32), (2 : Int32), (18999 : Int32), (0 : Int32), (0 : Int32), (0 : Int32), (0 : Int32), (0 : Int32), (0 : Int32), (0 : Int32), (0 : Int32), (0 : Int32), (0 : Int32), (0 : Int32)] := V45
  have N45 := Fr.snoc X45 N44 g_b2
  refine own_st (g' := (mkF m 22 #[.val (.int p0), .val (.int p1), .unset, .unset] [(.ref b2)])) (fun t k => st45 t k) ?_
  refine own_st (g' := (mkF m 23 #[.val (.int p0), .val (.int p1), .unset, .unset] [(.ref b2), (.ref b2)])) (fun t k => XS.dup X45.here hx rfl (hb hby at_22) rfl rfl k) ?_
  refine own_st (g' := (mkF m 24 #[.val (.int p0), .val (.int p1), .unset, .unset] [(.int (4 : Int32)), (.ref b2), (.ref b2)])) (fun t k => XS.iconst X45.here hx rfl (hb hby at_23) k) ?_
  refine own_st (g' := (mkF m 27 #[.val (.int p0), .val (.int p1), .unset, .unset] [(.int (19000 : Int32)), (.int (4 : Int32)), (.ref b2), (.ref b2)])) (fun t k => XS.sipush X45.here hx rfl (hb hby at_24) k) ?_
  obtain ⟨T46, h46, X46, e46, W46, V46, st46⟩ := own_iast X45 hx hZ e45 V45 (j := (4 : Int32)) ⟨by decide, by decide⟩ (g := (mkF m 27 #[.val (.int p0), .val (.int p1), .unset, .unset] [(.int (19000 : Int32)), (.int (4 : Int32)), (.ref b2), (.ref b2)])) rfl rfl (hb hby at_27)
  replace V46 : own_Ar Z h46 b2 k41 .int (15 : Int32) Value.int (0 : Int32) [(0 : Int32), (1 : Int32), (2 : Int32), (18999 : Int32), (19000 : Int32), (0 : Int32), (0 : Int32), (0 : Int32), (0 : Int32), (0 : Int32), (0 : Int32), (0 : Int32), (0 : Int32), (0 : Int32), (0 : Int32)] := V46
  have N46 := Fr.snoc X46 N45 g_b2
  refine own_st (g' := (mkF m 28 #[.val (.int p0), .val (.int p1), .unset, .unset] [(.ref b2)])) (fun t k => st46 t k) ?_
  refine own_st (g' := (mkF m 29 #[.val (.int p0), .val (.int p1), .unset, .unset] [(.ref b2), (.ref b2)])) (fun t k => XS.dup X46.here hx rfl (hb hby at_28) rfl rfl k) ?_
  refine own_st (g' := (mkF m 30 #[.val (.int p0), .val (.int p1), .unset, .unset] [(.int (5 : Int32)), (.ref b2), (.ref b2)])) (fun t k => XS.iconst X46.here hx rfl (hb hby at_29) k) ?_
  refine own_st (g' := (mkF m 33 #[.val (.int p0), .val (.int p1), .unset, .unset] [(.int (19001 : Int32)), (.int (5 : Int32)), (.ref b2), (.ref b2)])) (fun t k => XS.sipush X46.here hx rfl (hb hby at_30) k) ?_
  obtain ⟨T47, h47, X47, e47, W47, V47, st47⟩ := own_iast X46 hx hZ e46 V46 (j := (5 : Int32)) ⟨by decide, by decide⟩ (g := (mkF m 33 #[.val (.int p0), .val (.int p1), .unset, .unset] [(.int (19001 : Int32)), (.int (5 : Int32)), (.ref b2), (.ref b2)])) rfl rfl (hb hby at_33)
  replace V47 : own_Ar Z h47 b2 k41 .int (15 : Int32) Value.int (0 : Int32) [(0 : Int32), (1 : Int32), (2 : Int32), (18999 : Int32), (19000 : Int32), (19001 : Int32), (0 : Int32), (0 : Int32), (0 : Int32), (0 : Int32), (0 : Int32), (0 : Int32), (0 : Int32), (0 : Int32), (0 : Int32)] := V47
  have N47 := Fr.snoc X47 N46 g_b2
  refine own_st (g' := (mkF m 34 #[.val (.int p0), .val (.int p1), .unset, .unset] [(.ref b2)])) (fun t k => st47 t k) ?_
  refine own_st (g' := (mkF m 35 #[.val (.int p0), .val (.int p1), .unset, .unset] [(.ref b2), (.ref b2)])) (fun t k => XS.dup X47.here hx rfl (hb hby at_34) rfl rfl k) ?_
  refine own_st (g' := (mkF m 37 #[.val (.int p0), .val (.int p1), .unset, .unset] [(.int (6 : Int32)), (.ref b2), (.ref b2)])) (fun t k => XS.bipush X47.here hx rfl (hb hby at_35) k) ?_
  refine own_st (g' := (mkF m 40 #[.val (.int p0), .val (.int p1), .unset, .unset] [(.int (19998 : Int32)), (.int (6 : Int32)), (.ref b2), (.ref b2)])) (fun t k => XS.sipush X47.here hx rfl (hb hby at_37) k) ?_
  obtain ⟨T48, h48, X48, e48, W48, V48, st48⟩ := own_iast X47 hx hZ e47 V47 (j := (6 : Int32)) ⟨by decide, by decide⟩ (g := (mkF m 40 #[.val (.int p0), .val (.int p1), .unset, .unset] [(.int (19998 : Int32)), (.int (6 : Int32)), (.ref b2), (.ref b2)])) rfl rfl (hb hby at_40)
  replace V48 : own_Ar Z h48 b2 k41 .int (15 : Int32) Value.int (0 : Int32) [(0 : Int32), (1 : Int32), (2 : Int32), (18999 : Int32), (19000 : Int32), (19001 : Int32), (19998 : Int32), (0 : Int32), (0 : Int32), (0 : Int32), (0 : Int32), (0 : Int32), (0 : Int32), (0 : Int32), (0 : Int32)] := V48
  have N48 := Fr.snoc X48 N47 g_b2
  refine own_st (g' := (mkF m 41 #[.val (.int p0), .val (.int p1), .unset, .unset] [(.ref b2)])) (fun t k => st48 t k) ?_
  refine own_st (g' := (mkF m 42 #[.val (.int p0), .val (.int p1), .unset, .unset] [(.ref b2), (.ref b2)])) (fun t k => XS.dup X48.here hx rfl (hb hby at_41) rfl rfl k) ?_
  refine own_st (g' := (mkF m 44 #[.val (.int p0), .val (.int p1), .unset, .unset] [(.int (7 : Int32)), (.ref b2), (.ref b2)])) (fun t k => XS.bipush X48.here hx rfl (hb hby at_42) k) ?_
  refine own_st (g' := (mkF m 47 #[.val (.int p0), .val (.int p1), .unset, .unset] [(.int (19999 : Int32)), (.int (7 : Int32)), (.ref b2), (.ref b2)])) (fun t k => XS.sipush X48.here hx rfl (hb hby at_44) k) ?_
  obtain ⟨T49, h49, X49, e49, W49, V49, st49⟩ := own_iast X48 hx hZ e48 V48 (j := (7 : Int32)) ⟨by decide, by decide⟩ (g := (mkF m 47 #[.val (.int p0), .val (.int p1), .unset, .unset] [(.int (19999 : Int32)), (.int (7 : Int32)), (.ref b2), (.ref b2)])) rfl rfl (hb hby at_47)
  replace V49 : own_Ar Z h49 b2 k41 .int (15 : Int32) Value.int (0 : Int32) [(0 : Int32), (1 : Int32), (2 : Int32), (18999 : Int32), (19000 : Int32), (19001 : Int32), (19998 : Int32), (19999 : Int32), (0 : Int32), (0 : Int32), (0 : Int32), (0 : Int32), (0 : Int32), (0 : Int32), (0 : Int32)] := V49
  have N49 := Fr.snoc X49 N48 g_b2
  refine own_st (g' := (mkF m 48 #[.val (.int p0), .val (.int p1), .unset, .unset] [(.ref b2)])) (fun t k => st49 t k) ?_
  refine own_st (g' := (mkF m 49 #[.val (.int p0), .val (.int p1), .unset, .unset] [(.ref b2), (.ref b2)])) (fun t k => XS.dup X49.here hx rfl (hb hby at_48) rfl rfl k) ?_
  refine own_st (g' := (mkF m 51 #[.val (.int p0), .val (.int p1), .unset, .unset] [(.int (8 : Int32)), (.ref b2), (.ref b2)])) (fun t k => XS.bipush X49.here hx rfl (hb hby at_49) k) ?_
  refine own_st (g' := (mkF m 54 #[.val (.int p0), .val (.int p1), .unset, .unset] [(.int (20000 : Int32)), (.int (8 : Int32)), (.ref b2), (.ref b2)])) (fun t k => XS.sipush X49.here hx rfl (hb hby at_51) k) ?_
  obtain ⟨T50, h50, X50, e50, W50, V50, st50⟩ := own_iast X49 hx hZ e49 V49 (j := (8 : Int32)) ⟨by decide, by decide⟩ (g := (mkF m 54 #[.val (.int p0), .val (.int p1), .unset, .unset] [(.int (20000 : Int32)), (.int (8 : Int32)), (.ref b2), (.ref b2)])) rfl rfl (hb hby at_54)
  replace V50 : own_Ar Z h50 b2 k41 .int (15 : Int32) Value.int (0 : Int32) [(0 : Int32), (1 : Int32), (2 : Int32), (18999 : Int32), (19000 : Int32), (19001 : Int32), (19998 : Int32), (19999 : Int32), (20000 : Int32), (0 : Int32), (0 : Int32), (0 : Int32), (0 : Int32), (0 : Int32), (0 : Int32)] := V50
  have N50 := Fr.snoc X50 N49 g_b2
  refine own_st (g' := (mkF m 55 #[.val (.int p0), .val (.int p1), .unset, .unset] [(.ref b2)])) (fun t k => st50 t k) ?_
  refine own_st (g' := (mkF m 56 #[.val (.int p0), .val (.int p1), .unset, .unset] [(.ref b2), (.ref b2)])) (fun t k => XS.dup X50.here hx rfl (hb hby at_55) rfl rfl k) ?_
  refine own_st (g' := (mkF m 58 #[.val (.int p0), .val (.int p1), .unset, .unset] [(.int (9 : Int32)), (.ref b2), (.ref b2)])) (fun t k => XS.bipush X50.here hx rfl (hb hby at_56) k) ?_
  refine own_st (g' := (mkF m 60 #[.val (.int p0), .val (.int p1), .unset, .unset] [(.int (536870910 : Int32)), (.int (9 : Int32)), (.ref b2), (.ref b2)])) (fun t k => X50.ldcInt hx hown (mvT hZ (hw _ (List.mem_of_getElem? (i := 1) rfl))) (g := (mkF m 58 #[.val (.int p0), .val (.int p1), .unset, .unset] [(.int (9 : Int32)), (.ref b2), (.ref b2)])) rfl (hb hby at_58) t k) ?_
  obtain ⟨T51, h51, X51, e51, W51, V51, st51⟩ := own_iast X50 hx hZ e50 V50 (j := (9 : Int32)) ⟨by decide, by decide⟩ (g := (mkF m 60 #[.val (.int p0), .val (.int p1), .unset, .unset] [(.int (536870910 : Int32)), (.int (9 : Int32)), (.ref b2), (.ref b2)])) rfl rfl (hb hby at_60)
  replace V51 : own_Ar Z h51 b2 k41 .int (15 : Int32) Value.int (0 : Int32) [(0 : Int32), (1 : Int32), (2 : Int32), (18999 : Int32), (19000 : Int32), (19001 : Int32), (19998 : Int32), (19999 : Int32), (20000 : Int32), (536870910 : Int32), (0 : Int32), (0 : Int32), (0 : Int32), (0 : Int32), (0 : Int32)] := V51
  have N51 := Fr.snoc X51 N50 g_b2
  refine own_st (g' := (mkF m 61 #[.val (.int p0), .val (.int p1), .unset, .unset] [(.ref b2)])) (fun t k => st51 t k) ?_
  refine own_st (g' := (mkF m 62 #[.val (.int p0), .val (.int p1), .unset, .unset] [(.ref b2), (.ref b2)])) (fun t k => XS.dup X51.here hx rfl (hb hby at_61) rfl rfl k) ?_
  refine own_st (g' := (mkF m 64 #[.val (.int p0), .val (.int p1), .unset, .unset] [(.int (10 : Int32)), (.ref b2), (.ref b2)])) (fun t k => XS.bipush X51.here hx rfl (hb hby at_62) k) ?_
  refine own_st (g' := (mkF m 66 #[.val (.int p0), .val (.int p1), .unset, .unset] [(.int (536870911 : Int32)), (.int (10 : Int32)), (.ref b2), (.ref b2)])) (fun t k => X51.ldcInt hx hown (mvT hZ (hw _ (List.mem_of_getElem? (i := 2) rfl))) (g := (mkF m 64 #[.val (.int p0), .val (.int p1), .unset, .unset] [(.int (10 : Int32)), (.ref b2), (.ref b2)])) rfl (hb hby at_64) t k) ?_
  obtain ⟨T52, h52, X52, e52, W52, V52, st52⟩ := own_iast X51 hx hZ e51 V51 (j := (10 : Int32)) ⟨by decide, by decide⟩ (g := (mkF m 66 #[.val (.int p0), .val (.int p1), .unset, .unset] [(.int (536870911 : Int32)), (.int (10 : Int32)), (.ref b2), (.ref b2)])) rfl rfl (hb hby at_66)
  replace V52 : own_Ar Z h52 b2 k41 .int (15 : Int32) Value.int (0 : Int32) [(0 : Int32), (1 : Int32), (2 : Int32), (18999 : Int32), (19000 : Int32), (19001 : Int32), (19998 : Int32), (19999 : Int32), (20000 : Int32), (536870910 : Int32), (536870911 : Int32), (0 : Int32), (0 : Int32), (0 : Int32), (0 : Int32)] := V52
  have N52 := Fr.snoc X52 N51 g_b2
  refine own_st (g' := (mkF m 67 #[.val (.int p0), .val (.int p1), .unset, .unset] [(.ref b2)])) (fun t k => st52 t k) ?_
  refine own_st (g' := (mkF m 68 #[.val (.int p0), .val (.int p1), .unset, .unset] [(.ref b2), (.ref b2)])) (fun t k => XS.dup X52.here hx rfl (hb hby at_67) rfl rfl k) ?_
  refine own_st (g' := (mkF m 70 #[.val (.int p0), .val (.int p1), .unset, .unset] [(.int (11 : Int32)), (.ref b2), (.ref b2)])) (fun t k => XS.bipush X52.here hx rfl (hb hby at_68) k) ?_
  refine own_st (g' := (mkF m 72 #[.val (.int p0), .val (.int p1), .unset, .unset] [(.int (536870912 : Int32)), (.int (11 : Int32)), (.ref b2), (.ref b2)])) (fun t k => X52.ldcInt hx hown (mvT hZ (hw _ (List.mem_of_getElem? (i := 3) rfl))) (g := (mkF m 70 #[.val (.int p0), .val (.int p1), .unset, .unset] [(.int (11 : Int32)), (.ref b2), (.ref b2)])) rfl (hb hby at_70) t k) ?_
  obtain ⟨T53, h53, X53, e53, W53, V53, st53⟩ := own_iast X52 hx hZ e52 V52 (j := (11 : Int32)) ⟨by decide, by decide⟩ (g := (mkF m 72 #[.val (.int p0), .val (.int p1), .unset, .unset] [(.int (536870912 : Int32)), (.int (11 : Int32)), (.ref b2), (.ref b2)])) rfl rfl (hb hby at_72)
  replace V53 : own_Ar Z h53 b2 k41 .int (15 : Int32) Value.int (0 : Int32) [(0 : Int32), (1 : Int32), (2 : Int32), (18999 : Int32), (19000 : Int32), (19001 : Int32), (19998 : Int32), (19999 : Int32), (20000 : Int32), (536870910 : Int32), (536870911 : Int32), (536870912 : Int32), (0 : Int32), (0 : Int32), (0 : Int32)] := V53
  have N53 := Fr.snoc X53 N52 g_b2
  refine own_st (g' := (mkF m 73 #[.val (.int p0), .val (.int p1), .unset, .unset] [(.ref b2)])) (fun t k => st53 t k) ?_
  refine own_st (g' := (mkF m 74 #[.val (.int p0), .val (.int p1), .unset, .unset] [(.ref b2), (.ref b2)])) (fun t k => XS.dup X53.here hx rfl (hb hby at_73) rfl rfl k) ?_
  refine own_st (g' := (mkF m 76 #[.val (.int p0), .val (.int p1), .unset, .unset] [(.int (12 : Int32)), (.ref b2), (.ref b2)])) (fun t k => XS.bipush X53.here hx rfl (hb hby at_74) k) ?_
  refine own_st (g' := (mkF m 78 #[.val (.int p0), .val (.int p1), .unset, .unset] [(.int (-2147483648 : Int32)), (.int (12 : Int32)), (.ref b2), (.ref b2)])) (fun t k => X53.ldcInt hx hown (mvT hZ (hw _ (List.mem_of_getElem? (i := 4) rfl))) (g := (mkF m 76 #[.val (.int p0), .val (.int p1), .unset, .unset] [(.int (12 : Int32)), (.ref b2), (.ref b2)])) rfl (hb hby at_76) t k) ?_
  obtain ⟨T54, h54, X54, e54, W54, V54, st54⟩ := own_iast X53 hx hZ e53 V53 (j := (12 : Int32)) ⟨by decide, by decide⟩ (g := (mkF m 78 #[.val (.int p0), .val (.int p1), .unset, .unset] [(.int (-2147483648 : Int32)), (.int (12 : Int32)), (.ref b2), (.ref b2)])) rfl rfl (hb hby at_78)
  replace V54 : own_Ar Z h54 b2 k41 .int (15 : Int32) Value.int (0 : Int32) [(0 : Int32), (1 : Int32), (2 : Int32), (18999 : Int32), (19000 : Int32), (19001 : Int32), (19998 : Int32), (19999 : Int32), (20000 : Int32), (536870910 : Int32), (536870911 : Int32), (536870912 : Int32), (-2147483648 : Int32), (0 : Int32), (0 : Int32)] := V54
  have N54 := Fr.snoc X54 N53 g_b2
  refine own_st (g' := (mkF m 79 #[.val (.int p0), .val (.int p1), .unset, .unset] [(.ref b2)])) (fun t k => st54 t k) ?_
  refine own_st (g' := (mkF m 80 #[.val (.int p0), .val (.int p1), .unset, .unset] [(.ref b2), (.ref b2)])) (fun t k => XS.dup X54.here hx rfl (hb hby at_79) rfl rfl k) ?_
  refine own_st (g' := (mkF m 82 #[.val (.int p0), .val (.int p1), .unset, .unset] [(.int (13 : Int32)), (.ref b2), (.ref b2)])) (fun t k => XS.bipush X54.here hx rfl (hb hby at_80) k) ?_
  refine own_st (g' := (mkF m 84 #[.val (.int p0), .val (.int p1), .unset, .unset] [(.int (2147483647 : Int32)), (.int (13 : Int32)), (.ref b2), (.ref b2)])) (fun t k => X54.ldcInt hx hown (mvT hZ (hw _ (List.mem_of_getElem? (i := 5) rfl))) (g := (mkF m 82 #[.val (.int p0), .val (.int p1), .unset, .unset] [(.int (13 : Int32)), (.ref b2), (.ref b2)])) rfl (hb hby at_82) t k) ?_
  obtain ⟨T55, h55, X55, e55, W55, V55, st55⟩ := own_iast X54 hx hZ e54 V54 (j := (13 : Int32)) ⟨by decide, by decide⟩ (g := (mkF m 84 #[.val (.int p0), .val (.int p1), .unset, .unset] [(.int (2147483647 : Int32)), (.int (13 : Int32)), (.ref b2), (.ref b2)])) rfl rfl (hb hby at_84)
  replace V55 : own_Ar Z h55 b2 k41 .int (15 : Int32) Value.int (0 : Int32) [(0 : Int32), (1 : Int32), (2 : Int32), (18999 : Int32), (19000 : Int32), (19001 : Int32), (19998 : Int32), (19999 : Int32), (20000 : Int32), (536870910 : Int32), (536870911 : Int32), (536870912 : Int32), (-2147483648 : Int32), (2147483647 : Int32), (0 : Int32)] := V55
  have N55 := Fr.snoc X55 N54 g_b2
  refine own_st (g' := (mkF m 85 #[.val (.int p0), .val (.int p1), .unset, .unset] [(.ref b2)])) (fun t k => st55 t k) ?_
  refine own_st (g' := (mkF m 86 #[.val (.int p0), .val (.int p1), .unset, .unset] [(.ref b2), (.ref b2)])) (fun t k => XS.dup X55.here hx rfl (hb hby at_85) rfl rfl k) ?_
  refine own_st (g' := (mkF m 88 #[.val (.int p0), .val (.int p1), .unset, .unset] [(.int (14 : Int32)), (.ref b2), (.ref b2)])) (fun t k => XS.bipush X55.here hx rfl (hb hby at_86) k) ?_
  refine own_st (g' := (mkF m 89 #[.val (.int p0), .val (.int p1), .unset, .unset] [(.int (-1 : Int32)), (.int (14 : Int32)), (.ref b2), (.ref b2)])) (fun t k => XS.iconst X55.here hx rfl (hb hby at_88) k) ?_
  obtain ⟨T56, h56, X56, e56, W56, V56, st56⟩ := own_iast X55 hx hZ e55 V55 (j := (14 : Int32)) ⟨by decide, by decide⟩ (g := (mkF m 89 #[.val (.int p0), .val (.int p1), .unset, .unset] [(.int (-1 : Int32)), (.int (14 : Int32)), (.ref b2), (.ref b2)])) rfl rfl (hb hby at_89)
  replace V56 : own_Ar Z h56 b2 k41 .int (15 : Int32) Value.int (0 : Int32) [(0 : Int32), (1 : Int32), (2 : Int32), (18999 : Int32), (19000 : Int32), (19001 : Int32), (19998 : Int32), (19999 : Int32), (20000 : Int32), (536870910 : Int32), (536870911 : Int32), (536870912 : Int32), (-2147483648 : Int32), (2147483647 : Int32), (-1 : Int32)] := V56
  have N56 := Fr.snoc X56 N55 g_b2
  refine own_st (g' := (mkF m 90 #[.val (.int p0), .val (.int p1), .unset, .unset] [(.ref b2)])) (fun t k => st56 t k) ?_
  refine own_st (g' := (mkF m 91 #[.val (.int p0), .val (.int p1), .val (.ref b2), .unset] [])) (fun t k => XS.astoreN X56.here hx rfl (hb hby at_90) rfl rfl (l' := #[.val (.int p0), .val (.int p1), .val (.ref b2), .unset]) rfl k) ?_
  refine own_st (g' := (mkF m 92 #[.val (.int p0), .val (.int p1), .val (.ref b2), .unset] [(.ref b2)])) (fun t k => XS.aloadN X56.here hx rfl (hb hby at_91) rfl rfl k) ?_
  refine own_st (g' := (mkF m 93 #[.val (.int p0), .val (.int p1), .val (.ref b2), .unset] [(.int p1), (.ref b2)])) (fun t k => XS.iloadN X56.here hx rfl (hb hby at_92) rfl  k) ?_
  refine own_st (g' := (mkF m 95 #[.val (.int p0), .val (.int p1), .val (.ref b2), .unset] [(.int (2147483647 : Int32)), (.int p1), (.ref b2)])) (fun t k => X56.ldcInt hx hown (mvT hZ (hw _ (List.mem_of_getElem? (i := 5) rfl))) (g := (mkF m 93 #[.val (.int p0), .val (.int p1), .val (.ref b2), .unset] [(.int p1), (.ref b2)])) rfl (hb hby at_93) t k) ?_
  refine own_st (g' := (mkF m 96 #[.val (.int p0), .val (.int p1), .val (.ref b2), .unset] [(.int (p1 &&& (2147483647 : Int32))), (.ref b2)])) (fun t k => XS.iand X56.here hx rfl (hb hby at_95) rfl k) ?_
  refine own_st (g' := (mkF m 98 #[.val (.int p0), .val (.int p1), .val (.ref b2), .unset] [(.int (15 : Int32)), (.int (p1 &&& (2147483647 : Int32))), (.ref b2)])) (fun t k => XS.bipush X56.here hx rfl (hb hby at_96) k) ?_
  refine own_st (g' := (mkF m 99 #[.val (.int p0), .val (.int p1), .val (.ref b2), .unset] [(.int ((p1 &&& (2147483647 : Int32)) % (15 : Int32))), (.ref b2)])) (fun t k => iremM X56 hx rfl (hb hby at_98) rfl (by decide) k) ?_
  refine own_st (g' := (mkF m 100 #[.val (.int p0), .val (.int p1), .val (.ref b2), .unset] [(.int ([(0 : Int32), (1 : Int32), (2 : Int32), (18999 : Int32), (19000 : Int32), (19001 : Int32), (19998 : Int32), (19999 : Int32), (20000 : Int32), (536870910 : Int32), (536870911 : Int32), (536870912 : Int32), (-2147483648 : Int32), (2147483647 : Int32), (-1 : Int32)].getD (((p1 &&& (2147483647 : Int32)) % (15 : Int32))).toNatClampNeg (0 : Int32)))])) (fun t k => own_iald X56 hx hZ e56 V56 (j := ((p1 &&& (2147483647 : Int32)) % (15 : Int32))) (own_idx p1) (g := (mkF m 99 #[.val (.int p0), .val (.int p1), .val (.ref b2), .unset] [(.int ((p1 &&& (2147483647 : Int32)) % (15 : Int32))), (.ref b2)])) rfl rfl (hb hby at_99) t k) ?_
  refine own_st (g' := (mkF m 101 #[.val (.int p0), .val (.int p1), .val (.ref b2), .val (.int ([(0 : Int32), (1 : Int32), (2 : Int32), (18999 : Int32), (19000 : Int32), (19001 : Int32), (19998 : Int32), (19999 : Int32), (20000 : Int32), (536870910 : Int32), (536870911 : Int32), (536870912 : Int32), (-2147483648 : Int32), (2147483647 : Int32), (-1 : Int32)].getD (((p1 &&& (2147483647 : Int32)) % (15 : Int32))).toNatClampNeg (0 : Int32)))] [])) (fun t k => XS.istoreN X56.here hx rfl (hb hby at_100) rfl (l' := #[.val (.int p0), .val (.int p1), .val (.ref b2), .val (.int ([(0 : Int32), (1 : Int32), (2 : Int32), (18999 : Int32), (19000 : Int32), (19001 : Int32), (19998 : Int32), (19999 : Int32), (20000 : Int32), (536870910 : Int32), (536870911 : Int32), (536870912 : Int32), (-2147483648 : Int32), (2147483647 : Int32), (-1 : Int32)].getD (((p1 &&& (2147483647 : Int32)) % (15 : Int32))).toNatClampNeg (0 : Int32)))]) rfl k) ?_
  refine own_st (g' := (mkF m 102 #[.val (.int p0), .val (.int p1), .val (.ref b2), .val (.int ([(0 : Int32), (1 : Int32), (2 : Int32), (18999 : Int32), (19000 : Int32), (19001 : Int32), (19998 : Int32), (19999 : Int32), (20000 : Int32), (536870910 : Int32), (536870911 : Int32), (536870912 : Int32), (-2147483648 : Int32), (2147483647 : Int32), (-1 : Int32)].getD (((p1 &&& (2147483647 : Int32)) % (15 : Int32))).toNatClampNeg (0 : Int32)))] [(.int p0)])) (fun t k => XS.iloadN X56.here hx rfl (hb hby at_101) rfl  k) ?_
  have Z58 : n0 ≤ h56.size := (Nat.le_trans (Nat.le_trans (Nat.le_trans (Nat.le_trans (Nat.le_trans (Nat.le_trans (Nat.le_trans (Nat.le_trans (Nat.le_trans (Nat.le_trans (Nat.le_trans (Nat.le_trans (Nat.le_trans (Nat.le_trans (Nat.le_trans (Nat.le_trans Z0 E41.1) (Nat.le_of_eq W42.size.symm)) (Nat.le_of_eq W43.size.symm)) (Nat.le_of_eq W44.size.symm)) (Nat.le_of_eq W45.size.symm)) (Nat.le_of_eq W46.size.symm)) (Nat.le_of_eq W47.size.symm)) (Nat.le_of_eq W48.size.symm)) (Nat.le_of_eq W49.size.symm)) (Nat.le_of_eq W50.size.symm)) (Nat.le_of_eq W51.size.symm)) (Nat.le_of_eq W52.size.symm)) (Nat.le_of_eq W53.size.symm)) (Nat.le_of_eq W54.size.symm)) (Nat.le_of_eq W55.size.symm)) (Nat.le_of_eq W56.size.symm))
  obtain ⟨_, _, ⟨T57, L57, k57, n57⟩, -, X57, ⟨Lc57, hQ57, l57, y57, z57⟩, st57⟩ := Jvm.LawKit.callS X56 hx (y := (⟨"com/example/wiretag/wiretag/core/WireFormatIsDeclarableFieldNumberPinLaw", "agrees", "(I)Z"⟩ : MethodName)) hown (mvT hZ (hw _ (List.mem_of_getElem? (i := 6) rfl))) (mvT hZ (hw _ (List.mem_of_getElem? (i := 7) rfl))) (mvT hZ (hw _ (List.mem_of_getElem? (i := 8) rfl))) (mvT hZ (hw _ (List.mem_of_getElem? (i := 9) rfl))) (by decide) (backOf (W := 0) (rm1 l Z a0 hw [] p0 h56 n0 Z58  ) hZ (hw _ (List.mem_of_getElem? (i := 9) rfl)) (hw _ (List.mem_of_getElem? (i := 8) rfl)) (by decide) (by decide)) (g := (mkF m 102 #[.val (.int p0), .val (.int p1), .val (.ref b2), .val (.int ([(0 : Int32), (1 : Int32), (2 : Int32), (18999 : Int32), (19000 : Int32), (19001 : Int32), (19998 : Int32), (19999 : Int32), (20000 : Int32), (536870910 : Int32), (536870911 : Int32), (536870912 : Int32), (-2147483648 : Int32), (2147483647 : Int32), (-1 : Int32)].getD (((p1 &&& (2147483647 : Int32)) % (15 : Int32))).toNatClampNeg (0 : Int32)))] [(.int p0)])) rfl (by rw [hml]; rfl) (argsL := [(.int p0)]) (rest := []) (lenOf pd_0_0 rfl) rfl (by show 2 * 0 + _ ≤ _; exact Nat.le_of_eq rfl) (hb hby at_102) (fun _ _ => ⟨rfl, e56, (by decide : 1 + 0 ≤ _), (by decide : 15 + 0 ≤ _)⟩)
  dsimp only [Pt.U, Pt.locs, Pt.cells, Pt.slots] at X57 l57 y57 z57 st57 hQ57
  subst l57 y57 z57
  obtain ⟨rfl, N57q, e57⟩ := hQ57
  have N57 := Fr.app N56 N57q
  refine own_st (g' := (mkF m 105 #[.val (.int p0), .val (.int p1), .val (.ref b2), .val (.int ([(0 : Int32), (1 : Int32), (2 : Int32), (18999 : Int32), (19000 : Int32), (19001 : Int32), (19998 : Int32), (19999 : Int32), (20000 : Int32), (536870910 : Int32), (536870911 : Int32), (536870912 : Int32), (-2147483648 : Int32), (2147483647 : Int32), (-1 : Int32)].getD (((p1 &&& (2147483647 : Int32)) % (15 : Int32))).toNatClampNeg (0 : Int32)))] [(.int (own_F1 p0))])) (fun t k => st57 t k) ?_
  have J120 : ∀ (T : State) (locs : List Loc) (t0_120 : Int32), Stand p l e room_1 s m #[(.int p0), (.int p1)] below meth c T locs 1 15 → T.heap = h56 → Fr n0 locs → own_f0_120 p0 p1 t0_120 = (1 : Int32) → own_Fin p e below s 16 128 (Q0 Z p0 p1 h0 n0) T (mkF m 120 #[.val (.int p0), .val (.int p1), .val (.ref b2), .val (.int ([(0 : Int32), (1 : Int32), (2 : Int32), (18999 : Int32), (19000 : Int32), (19001 : Int32), (19998 : Int32), (19999 : Int32), (20000 : Int32), (536870910 : Int32), (536870911 : Int32), (536870912 : Int32), (-2147483648 : Int32), (2147483647 : Int32), (-1 : Int32)].getD (((p1 &&& (2147483647 : Int32)) % (15 : Int32))).toNatClampNeg (0 : Int32)))] [(.int t0_120)]) := by
    intro T59 locs59 t0_120  X59 e59 N59 hr59
    have hr59a := (own_f0_120_eq (p0) (p1) (t0_120)).symm.trans hr59
    exact own_retN (t := .boolean) X59 hx Bd.returns Bd.notSynchronized (by simp) (hb hby at_120) ⟨congrArg (fun q => some (Value.int q)) hr59a, N59⟩ (by decide) (by decide)
  by_cases hc105_60 : (own_F1 p0) = (0 : Int32)
  · have hr61 := (if_pos hc105_60).symm.trans hr0
    refine own_st (g' := (mkF m 119 #[.val (.int p0), .val (.int p1), .val (.ref b2), .val (.int ([(0 : Int32), (1 : Int32), (2 : Int32), (18999 : Int32), (19000 : Int32), (19001 : Int32), (19998 : Int32), (19999 : Int32), (20000 : Int32), (536870910 : Int32), (536870911 : Int32), (536870912 : Int32), (-2147483648 : Int32), (2147483647 : Int32), (-1 : Int32)].getD (((p1 &&& (2147483647 : Int32)) % (15 : Int32))).toNatClampNeg (0 : Int32)))] [])) (fun t k => XS.ifYes X57.here hx rfl (pc0 := 105) (pc' := 119) rfl (hb hby at_105) rfl ((if0 _ _).trans (teq hc105_60).1) (by decide) (by decide) k) ?_
    refine own_st (g' := (mkF m 120 #[.val (.int p0), .val (.int p1), .val (.ref b2), .val (.int ([(0 : Int32), (1 : Int32), (2 : Int32), (18999 : Int32), (19000 : Int32), (19001 : Int32), (19998 : Int32), (19999 : Int32), (20000 : Int32), (536870910 : Int32), (536870911 : Int32), (536870912 : Int32), (-2147483648 : Int32), (2147483647 : Int32), (-1 : Int32)].getD (((p1 &&& (2147483647 : Int32)) % (15 : Int32))).toNatClampNeg (0 : Int32)))] [(.int (0 : Int32))])) (fun t k => XS.iconst X57.here hx rfl (hb hby at_119) k) ?_
    exact J120 T57 _ (0 : Int32)  X57 e57 N57 hr61
  · have hr62 := (if_neg hc105_60).symm.trans hr0
    refine own_st (g' := (mkF m 108 #[.val (.int p0), .val (.int p1), .val (.ref b2), .val (.int ([(0 : Int32), (1 : Int32), (2 : Int32), (18999 : Int32), (19000 : Int32), (19001 : Int32), (19998 : Int32), (19999 : Int32), (20000 : Int32), (536870910 : Int32), (536870911 : Int32), (536870912 : Int32), (-2147483648 : Int32), (2147483647 : Int32), (-1 : Int32)].getD (((p1 &&& (2147483647 : Int32)) % (15 : Int32))).toNatClampNeg (0 : Int32)))] [])) (fun t k => XS.ifNo X57.here hx rfl (hb hby at_105) rfl ((if0 _ _).trans (feq hc105_60).1) k) ?_
    refine own_st (g' := (mkF m 109 #[.val (.int p0), .val (.int p1), .val (.ref b2), .val (.int ([(0 : Int32), (1 : Int32), (2 : Int32), (18999 : Int32), (19000 : Int32), (19001 : Int32), (19998 : Int32), (19999 : Int32), (20000 : Int32), (536870910 : Int32), (536870911 : Int32), (536870912 : Int32), (-2147483648 : Int32), (2147483647 : Int32), (-1 : Int32)].getD (((p1 &&& (2147483647 : Int32)) % (15 : Int32))).toNatClampNeg (0 : Int32)))] [(.int ([(0 : Int32), (1 : Int32), (2 : Int32), (18999 : Int32), (19000 : Int32), (19001 : Int32), (19998 : Int32), (19999 : Int32), (20000 : Int32), (536870910 : Int32), (536870911 : Int32), (536870912 : Int32), (-2147483648 : Int32), (2147483647 : Int32), (-1 : Int32)].getD (((p1 &&& (2147483647 : Int32)) % (15 : Int32))).toNatClampNeg (0 : Int32)))])) (fun t k => XS.iloadN X57.here hx rfl (hb hby at_108) rfl  k) ?_
    obtain ⟨_, _, ⟨T63, L63, k63, n63⟩, -, X63, ⟨Lc63, hQ63, l63, y63, z63⟩, st63⟩ := Jvm.LawKit.callS X57 hx (y := (⟨"com/example/wiretag/wiretag/core/WireFormatIsDeclarableFieldNumberPinLaw", "agrees", "(I)Z"⟩ : MethodName)) hown (mvT hZ (hw _ (List.mem_of_getElem? (i := 6) rfl))) (mvT hZ (hw _ (List.mem_of_getElem? (i := 7) rfl))) (mvT hZ (hw _ (List.mem_of_getElem? (i := 8) rfl))) (mvT hZ (hw _ (List.mem_of_getElem? (i := 9) rfl))) (by decide) (backOf (W := 0) (rm1 l Z a0 hw [] ([(0 : Int32), (1 : Int32), (2 : Int32), (18999 : Int32), (19000 : Int32), (19001 : Int32), (19998 : Int32), (19999 : Int32), (20000 : Int32), (536870910 : Int32), (536870911 : Int32), (536870912 : Int32), (-2147483648 : Int32), (2147483647 : Int32), (-1 : Int32)].getD (((p1 &&& (2147483647 : Int32)) % (15 : Int32))).toNatClampNeg (0 : Int32)) h56 n0 Z58  ) hZ (hw _ (List.mem_of_getElem? (i := 9) rfl)) (hw _ (List.mem_of_getElem? (i := 8) rfl)) (by decide) (by decide)) (g := (mkF m 109 #[.val (.int p0), .val (.int p1), .val (.ref b2), .val (.int ([(0 : Int32), (1 : Int32), (2 : Int32), (18999 : Int32), (19000 : Int32), (19001 : Int32), (19998 : Int32), (19999 : Int32), (20000 : Int32), (536870910 : Int32), (536870911 : Int32), (536870912 : Int32), (-2147483648 : Int32), (2147483647 : Int32), (-1 : Int32)].getD (((p1 &&& (2147483647 : Int32)) % (15 : Int32))).toNatClampNeg (0 : Int32)))] [(.int ([(0 : Int32), (1 : Int32), (2 : Int32), (18999 : Int32), (19000 : Int32), (19001 : Int32), (19998 : Int32), (19999 : Int32), (20000 : Int32), (536870910 : Int32), (536870911 : Int32), (536870912 : Int32), (-2147483648 : Int32), (2147483647 : Int32), (-1 : Int32)].getD (((p1 &&& (2147483647 : Int32)) % (15 : Int32))).toNatClampNeg (0 : Int32)))])) rfl (by rw [hml]; rfl) (argsL := [(.int ([(0 : Int32), (1 : Int32), (2 : Int32), (18999 : Int32), (19000 : Int32), (19001 : Int32), (19998 : Int32), (19999 : Int32), (20000 : Int32), (536870910 : Int32), (536870911 : Int32), (536870912 : Int32), (-2147483648 : Int32), (2147483647 : Int32), (-1 : Int32)].getD (((p1 &&& (2147483647 : Int32)) % (15 : Int32))).toNatClampNeg (0 : Int32)))]) (rest := []) (lenOf pd_0_0 rfl) rfl (by show 2 * 0 + _ ≤ _; exact Nat.le_of_eq rfl) (hb hby at_109) (fun _ _ => ⟨rfl, e57, (by decide : 1 + 0 ≤ _), (by decide : 15 + 0 ≤ _)⟩)
    dsimp only [Pt.U, Pt.locs, Pt.cells, Pt.slots] at X63 l63 y63 z63 st63 hQ63
    subst l63 y63 z63
    obtain ⟨rfl, N63q, e63⟩ := hQ63
    have N63 := Fr.app N57 N63q
    refine own_st (g' := (mkF m 112 #[.val (.int p0), .val (.int p1), .val (.ref b2), .val (.int ([(0 : Int32), (1 : Int32), (2 : Int32), (18999 : Int32), (19000 : Int32), (19001 : Int32), (19998 : Int32), (19999 : Int32), (20000 : Int32), (536870910 : Int32), (536870911 : Int32), (536870912 : Int32), (-2147483648 : Int32), (2147483647 : Int32), (-1 : Int32)].getD (((p1 &&& (2147483647 : Int32)) % (15 : Int32))).toNatClampNeg (0 : Int32)))] [(.int (own_F1 ([(0 : Int32), (1 : Int32), (2 : Int32), (18999 : Int32), (19000 : Int32), (19001 : Int32), (19998 : Int32), (19999 : Int32), (20000 : Int32), (536870910 : Int32), (536870911 : Int32), (536870912 : Int32), (-2147483648 : Int32), (2147483647 : Int32), (-1 : Int32)].getD (((p1 &&& (2147483647 : Int32)) % (15 : Int32))).toNatClampNeg (0 : Int32))))])) (fun t k => st63 t k) ?_
    by_cases hc112_64 : (own_F1 ([(0 : Int32), (1 : Int32), (2 : Int32), (18999 : Int32), (19000 : Int32), (19001 : Int32), (19998 : Int32), (19999 : Int32), (20000 : Int32), (536870910 : Int32), (536870911 : Int32), (536870912 : Int32), (-2147483648 : Int32), (2147483647 : Int32), (-1 : Int32)].getD (((p1 &&& (2147483647 : Int32)) % (15 : Int32))).toNatClampNeg (0 : Int32))) = (0 : Int32)
    · have hr65 := (if_pos hc112_64).symm.trans hr62
      refine own_st (g' := (mkF m 119 #[.val (.int p0), .val (.int p1), .val (.ref b2), .val (.int ([(0 : Int32), (1 : Int32), (2 : Int32), (18999 : Int32), (19000 : Int32), (19001 : Int32), (19998 : Int32), (19999 : Int32), (20000 : Int32), (536870910 : Int32), (536870911 : Int32), (536870912 : Int32), (-2147483648 : Int32), (2147483647 : Int32), (-1 : Int32)].getD (((p1 &&& (2147483647 : Int32)) % (15 : Int32))).toNatClampNeg (0 : Int32)))] [])) (fun t k => XS.ifYes X63.here hx rfl (pc0 := 112) (pc' := 119) rfl (hb hby at_112) rfl ((if0 _ _).trans (teq hc112_64).1) (by decide) (by decide) k) ?_
      refine own_st (g' := (mkF m 120 #[.val (.int p0), .val (.int p1), .val (.ref b2), .val (.int ([(0 : Int32), (1 : Int32), (2 : Int32), (18999 : Int32), (19000 : Int32), (19001 : Int32), (19998 : Int32), (19999 : Int32), (20000 : Int32), (536870910 : Int32), (536870911 : Int32), (536870912 : Int32), (-2147483648 : Int32), (2147483647 : Int32), (-1 : Int32)].getD (((p1 &&& (2147483647 : Int32)) % (15 : Int32))).toNatClampNeg (0 : Int32)))] [(.int (0 : Int32))])) (fun t k => XS.iconst X63.here hx rfl (hb hby at_119) k) ?_
      exact J120 T63 _ (0 : Int32)  X63 e63 N63 hr65
    · have hr66 := (if_neg hc112_64).symm.trans hr62
      refine own_st (g' := (mkF m 115 #[.val (.int p0), .val (.int p1), .val (.ref b2), .val (.int ([(0 : Int32), (1 : Int32), (2 : Int32), (18999 : Int32), (19000 : Int32), (19001 : Int32), (19998 : Int32), (19999 : Int32), (20000 : Int32), (536870910 : Int32), (536870911 : Int32), (536870912 : Int32), (-2147483648 : Int32), (2147483647 : Int32), (-1 : Int32)].getD (((p1 &&& (2147483647 : Int32)) % (15 : Int32))).toNatClampNeg (0 : Int32)))] [])) (fun t k => XS.ifNo X63.here hx rfl (hb hby at_112) rfl ((if0 _ _).trans (feq hc112_64).1) k) ?_
      refine own_st (g' := (mkF m 116 #[.val (.int p0), .val (.int p1), .val (.ref b2), .val (.int ([(0 : Int32), (1 : Int32), (2 : Int32), (18999 : Int32), (19000 : Int32), (19001 : Int32), (19998 : Int32), (19999 : Int32), (20000 : Int32), (536870910 : Int32), (536870911 : Int32), (536870912 : Int32), (-2147483648 : Int32), (2147483647 : Int32), (-1 : Int32)].getD (((p1 &&& (2147483647 : Int32)) % (15 : Int32))).toNatClampNeg (0 : Int32)))] [(.int (1 : Int32))])) (fun t k => XS.iconst X63.here hx rfl (hb hby at_115) k) ?_
      refine own_st (g' := (mkF m 120 #[.val (.int p0), .val (.int p1), .val (.ref b2), .val (.int ([(0 : Int32), (1 : Int32), (2 : Int32), (18999 : Int32), (19000 : Int32), (19001 : Int32), (19998 : Int32), (19999 : Int32), (20000 : Int32), (536870910 : Int32), (536870911 : Int32), (536870912 : Int32), (-2147483648 : Int32), (2147483647 : Int32), (-1 : Int32)].getD (((p1 &&& (2147483647 : Int32)) % (15 : Int32))).toNatClampNeg (0 : Int32)))] [(.int (1 : Int32))])) (fun t k => XS.goto X63.here hx rfl (pc0 := 116) (pc' := 120) rfl (hb hby at_116) (by decide) (by decide) k) ?_
      exact J120 T63 _ (1 : Int32)  X63 e63 N63 hr66
/-! ## The plain law -/
theorem own_n0 : nar .boolean (0 : Int32) = 0 := by decide
theorem own_n1 : nar .boolean (1 : Int32) = 1 := by decide
set_option maxHeartbeats 4000000 in
theorem own_same (x : Int32) : own_F2 x = own_F3 x := by
  have e1 := c_isub x 1
  have e2 := c_iushr (x - 1) (29 : Int32) 29 (by decide) (by decide)
  have e3 := c_i2l x
  have e4 := c_lsub x.toInt64 (19000 : Int64)
  have b1 := Int32.toInt_lt x
  have b2 := Int32.le_toInt x
  have b3 := Int32.toInt_lt (x - 1)
  have b4 := Int32.le_toInt (x - 1)
  have b5 := Int64.toInt_lt (x.toInt64 - 19000)
  have b6 := Int64.le_toInt (x.toInt64 - 19000)
  rw [show (1 : Int32).toInt = 1 from by decide] at e1
  rw [show (19000 : Int64).toInt = 19000 from by decide] at e4
  have k1 : (((x - (1 : Int32)).toUInt32 >>> ((29 : Int32) &&& 31).toUInt32).toInt32 = (0 : Int32)) ↔ (1 ≤ x.toInt ∧ x.toInt ≤ 536870912) := by
    rw [← Int32.toInt_inj, e2, show (0 : Int32).toInt = 0 from rfl]; omega
  have k2 : (x = (536870912 : Int32)) ↔ x.toInt = 536870912 := by
    rw [← Int32.toInt_inj, show (536870912 : Int32).toInt = 536870912 from by decide]
  have k3 : ((x.toInt64 - (19000 : Int64)) < (0 : Int64)) ↔ x.toInt < 19000 := by
    rw [Int64.lt_iff_toInt_lt, show (0 : Int64).toInt = 0 from rfl]; omega
  have k4 : ((x.toInt64 - (19000 : Int64)) < (1000 : Int64)) ↔ x.toInt < 20000 := by
    rw [Int64.lt_iff_toInt_lt, show (1000 : Int64).toInt = 1000 from by decide]; omega
  clear e1 e2 e3 e4 b1 b2 b3 b4 b5 b6
  rw [own_F2_eq, own_F3_eq]
  simp +decide only [own_f2_30_eq, own_f3_20_eq, own_f3_47_eq, own_f3_63_eq, k1, k2, k3, k4, own_n0, own_n1, Int32.lt_iff_toInt_lt, Int32.reduceToInt, if_true, if_false]
  clear k1 k2 k3 k4
  generalize x.toInt = n at *
  (repeat' split) <;> first | rfl | (exfalso; omega)
theorem own_agree (x : Int32) : own_F1 x = 1 := by
  rw [own_F1_eq, if_pos (own_same x), own_f1_16_eq, own_n1]
theorem own_law (p0 p1 : Int32) : own_F0 p0 p1 = 1 := by
  rw [own_F0_eq, own_agree, own_agree, if_neg (by decide), if_neg (by decide), own_f0_120_eq, own_n1]

set_option maxRecDepth 65536 in
set_option maxHeartbeats 40000000 in
theorem comes_1 {Post : Tables → Env → Array Value → State → Outcome → State → Prop} (hpost : ∀ tb e args s v u, (limb_1_1.after args s (.returned v) u = true ∧ limb_1_2.after args s (.returned v) u = true ∧ True) → FrameEnd s (.returned v) u (Jvm.fieldLocs frame_1_writes args s ++ Jvm.arrayLocs frame_1_arrays args s ++ Jvm.staticLocs frame_1_statics s) 16 128 → Post tb e args s (.returned v) u) :
    ArmFor flags0 classFile x code maxLocals ret World_1 tables_1 room_1 Calls_1 rest_1 Pre_1 Post := by
  intro l hfl _ _ p e ha hc hk s m args below hf hA hF happ hP
  obtain ⟨hcalls, hrest, hpre⟩ := hP
  obtain ⟨-, -, -, hnamed, -, -, -, hat⟩ := (Spec.applies_iff hf).mp happ
  obtain ⟨hg, hn⟩ := and_e (Cond.before_iff.mp (show (Jvm.Cond.and given_1 narrow_1).before args s = true from hpre))
  obtain ⟨hg0, hq0⟩ := and_e hg
  obtain ⟨ha0, hq1⟩ := and_e hq0
  have ha1 := hq1
  obtain ⟨w0, w1, rfl⟩ : ∃ w0 w1 : Value, args = #[w0, w1] := by
    have hs : args.size = 2 := by simpa [Cond.value, given_1] using hg0
    obtain ⟨L⟩ := args
    match L, hs with
    | [w0, w1], _ => exact ⟨w0, w1, rfl⟩
  have hw := fun d (hd : d ∈ tables_1) => atoms_spec (ws := Jvm.Cond.code x code maxLocals ret :: tables_1) hat d (List.mem_cons_of_mem _ hd)
  obtain ⟨i0, ei0⟩ := is_v ha0
  obtain rfl : w0 = (.int i0) := Option.some.inj ei0
  obtain ⟨i1, ei1⟩ := is_v ha1
  obtain rfl : w1 = (.int i1) := Option.some.inj ei1
  obtain ⟨n, o, h1, h2, h3, _, L, rfl, ⟨rfl, N⟩, hq⟩ := rm0 l s _ hw tables_1 i0 i1 s.heap s.heap.size (Nat.le_refl _) (own_law i0 i1) p e ha hc hk s m _ below hf ((Spec.applies_iff_loose hf).mp happ).1 ⟨rfl, State.Warmed39.refl s, rfl⟩ trivial
  refine ⟨n, _, h1, h2, h3, hpost _ _ _ _ _ _ ⟨Cond.after_iff.mpr rfl, Cond.after_iff.mpr (eq_i res_at (Term.int_eval (1)) rfl), trivial⟩ ⟨hq.1, hq.2.1, (hq.2.2.sift fun y hy => Or.inr (N y hy)).mono (by decide) (by decide)⟩⟩
theorem main_1_1 : Claimed_1_1 := comes_1 fun _ _ _ _ _ _ h hF => ⟨h.1, hF⟩
theorem main_1_2 : Claimed_1_2 := comes_1 fun _ _ _ _ _ _ h hF => ⟨h.2.1, hF⟩
end Jvm.Pilot.@@N@@
namespace Jvm.Pilot.@@N@@
open Jvm Jvm.ClassFile Sem Op Lib Jvm.Free Jvm.Stand Jvm.Pilot.@@N@@.Jvm.D
/-! MADE BY PROGRAM (witnessworld.py) out of the Statement's table words and the real class files: 9 classes; the members and pool entries that the words name. The judged class is class 1, her method 3. -/
namespace start1
open Jvm.ClassFile
def u (s : String) : CpInfo := .utf8 (stringToUtf16 s)
/-- a pool by its gaps: so many unusable entries, then the entry; so many at the end -/
def gap : Nat → List CpInfo → List CpInfo
  | 0, r => r
  | n + 1, r => .unusable :: gap n r
def poolList (es : List (Nat × CpInfo)) (last : Nat) : List CpInfo := es.foldr (fun e r => gap e.1 (e.2 :: r)) (gap last [])
def pool (es : List (Nat × CpInfo)) (last : Nat) : Array CpInfo := ⟨poolList es last⟩
def fileOf (pool : Array CpInfo) (this : Nat) (attrs : Array Attribute := #[]) (ms : Array MethodInfo := #[]) (fl : Nat := 33) (sup : Nat := 0) (ifs : Array Nat := #[]) (fds : Array FieldInfo := #[]) : ClassFile where
  minorVersion := 0
  majorVersion := 65
  constantPool := pool
  accessFlags := fl
  thisClass := this
  superClass := sup
  interfaces := ifs
  fields := fds
  methods := ms
  attributes := attrs
def plain (name : String) (sup : Option ClassId) : Class where
  name := name
  kind := .ordinary
  loader := none
  accessFlags := 33
  super := sup
  interfaces := #[]
  cf := none
  fields := #[]
  methods := #[]
  instanceTypes := #[]
  staticTypes := #[]
  resolved := #[]
  callSites := []
  init := .initialized
  statics := none
  mirror := none

def pool0 : Array CpInfo := pool [(5, u "<init>"), (0, u "()V"), (1, .class_ 10), (1, u "java/lang/Object")] 113

def k0m0 : Method := { name := "<init>", desc := "()V", sig := { parameters := [], returnType := none }, accessFlags := 1, code := none }
/-- java/lang/Object -/
def k0 : Class := { plain "java/lang/Object" none with
  accessFlags := 33
  interfaces := #[]
  cf := some (fileOf pool0 8 #[] #[{ accessFlags := 1, nameIndex := 5, descriptorIndex := 6, attributes := #[] }] 33 0 #[] #[])
  fields := #[]
  methods := #[k0m0]
  instanceTypes := #[]
  staticTypes := #[]
  resolved := Array.replicate 124 none
  statics := none }

def pool1 : Array CpInfo := pool [(2, .class_ 4), (1, u "java/lang/Object"), (0, u "<init>"), (0, u "()V"), (0, .integer 536870912), (0, .long 19000), (1, .long 1000), (1, .methodref 13 14), (0, .class_ 15), (0, .nameAndType 16 17), (0, u "com/example/wiretag/wiretag/core/WireFormat"), (0, u "isDeclarableFieldNumber"), (0, u "(I)Z"), (0, .methodref 19 20), (0, .class_ 21), (0, .nameAndType 22 17), (0, u "com/example/wiretag/wiretag/core/WireFormatIsDeclarableFieldNumberPinLaw"), (0, u "reference"), (0, .integer 536870910), (0, .integer 536870911), (2, .integer 2147483648), (0, .integer 2147483647), (0, .methodref 19 30), (0, .nameAndType 31 17), (0, u "agrees"), (3, u "law"), (0, u "(II)Z")] 4

def k1m0 : Method := { name := "<init>", desc := "()V", sig := { parameters := [], returnType := none }, accessFlags := 1, code := none }
def k1c1 : Code := { maxStack := 4, maxLocals := 5, code := method_2_code, exceptionTable := #[], attributes := #[] }
def k1m1 : Method := { name := "reference", desc := "(I)Z", sig := { parameters := [.int], returnType := some .boolean }, accessFlags := 10, code := some k1c1 }
def k1c2 : Code := { maxStack := 2, maxLocals := 1, code := method_3_code, exceptionTable := #[], attributes := #[] }
def k1m2 : Method := { name := "agrees", desc := "(I)Z", sig := { parameters := [.int], returnType := some .boolean }, accessFlags := 10, code := some k1c2 }
def k1c3 : Code := { maxStack := 4, maxLocals := 4, code := code, exceptionTable := #[], attributes := #[] }
def k1m3 : Method := { name := "law", desc := "(II)Z", sig := { parameters := [.int, .int], returnType := some .boolean }, accessFlags := 9, code := some k1c3 }
/-- com/example/wiretag/wiretag/core/WireFormatIsDeclarableFieldNumberPinLaw -/
def k1 : Class := { plain "com/example/wiretag/wiretag/core/WireFormatIsDeclarableFieldNumberPinLaw" (some 0) with
  accessFlags := 49
  interfaces := #[]
  cf := some (fileOf pool1 19 #[] #[{ accessFlags := 1, nameIndex := 5, descriptorIndex := 6, attributes := #[] }, { accessFlags := 10, nameIndex := 22, descriptorIndex := 17, attributes := #[] }, { accessFlags := 10, nameIndex := 31, descriptorIndex := 17, attributes := #[] }, { accessFlags := 9, nameIndex := 35, descriptorIndex := 36, attributes := #[] }] 49 2 #[] #[])
  fields := #[]
  methods := #[k1m0, k1m1, k1m2, k1m3]
  instanceTypes := #[]
  staticTypes := #[]
  resolved := Array.replicate 41 none
  statics := none }

def pool2 : Array CpInfo := pool [(1, .class_ 2), (0, u "com/example/wiretag/wiretag/core/WireFormat"), (1, .class_ 6), (1, u "java/lang/Object"), (0, u "<init>"), (0, u "()V"), (3, .integer 536870911), (0, u "VARINT"), (0, u "I"), (2, u "FIXED64"), (1, u "LENGTH_DELIMITED"), (1, u "START_GROUP"), (1, u "END_GROUP"), (1, u "FIXED32"), (1, u "MIN_FIELD_NUMBER"), (0, u "MAX_FIELD_NUMBER"), (0, u "FIRST_RESERVED_NUMBER"), (1, u "LAST_RESERVED_NUMBER"), (1, u "TAG_TYPE_BITS"), (0, u "MAX_VARINT_BYTES"), (1, u "TAG_TYPE_MASK"), (3, u "isDeclarableFieldNumber"), (0, u "(I)Z")] 8

def k2m0 : Method := { name := "<init>", desc := "()V", sig := { parameters := [], returnType := none }, accessFlags := 2, code := none }
def k2c1 : Code := { maxStack := 2, maxLocals := 1, code := prog_49_method_2_code, exceptionTable := #[], attributes := #[] }
def k2m1 : Method := { name := "isDeclarableFieldNumber", desc := "(I)Z", sig := { parameters := [.int], returnType := some .boolean }, accessFlags := 9, code := some k2c1 }
/-- com/example/wiretag/wiretag/core/WireFormat -/
def k2 : Class := { plain "com/example/wiretag/wiretag/core/WireFormat" (some 0) with
  accessFlags := 49
  interfaces := #[]
  cf := some (fileOf pool2 1 #[] #[{ accessFlags := 2, nameIndex := 7, descriptorIndex := 8, attributes := #[] }, { accessFlags := 9, nameIndex := 40, descriptorIndex := 41, attributes := #[] }] 49 4 #[] #[{ accessFlags := 25, nameIndex := 13, descriptorIndex := 14, attributes := #[] }, { accessFlags := 25, nameIndex := 17, descriptorIndex := 14, attributes := #[] }, { accessFlags := 25, nameIndex := 19, descriptorIndex := 14, attributes := #[] }, { accessFlags := 25, nameIndex := 21, descriptorIndex := 14, attributes := #[] }, { accessFlags := 25, nameIndex := 23, descriptorIndex := 14, attributes := #[] }, { accessFlags := 25, nameIndex := 25, descriptorIndex := 14, attributes := #[] }, { accessFlags := 25, nameIndex := 27, descriptorIndex := 14, attributes := #[] }, { accessFlags := 25, nameIndex := 28, descriptorIndex := 14, attributes := #[] }, { accessFlags := 25, nameIndex := 29, descriptorIndex := 14, attributes := #[] }, { accessFlags := 25, nameIndex := 31, descriptorIndex := 14, attributes := #[] }, { accessFlags := 24, nameIndex := 33, descriptorIndex := 14, attributes := #[] }, { accessFlags := 24, nameIndex := 34, descriptorIndex := 14, attributes := #[] }, { accessFlags := 26, nameIndex := 36, descriptorIndex := 14, attributes := #[] }])
  fields := #[{ name := "VARINT", type := .int, accessFlags := 25, slot := 0, constantValue := 0 }, { name := "FIXED64", type := .int, accessFlags := 25, slot := 1, constantValue := 0 }, { name := "LENGTH_DELIMITED", type := .int, accessFlags := 25, slot := 2, constantValue := 0 }, { name := "START_GROUP", type := .int, accessFlags := 25, slot := 3, constantValue := 0 }, { name := "END_GROUP", type := .int, accessFlags := 25, slot := 4, constantValue := 0 }, { name := "FIXED32", type := .int, accessFlags := 25, slot := 5, constantValue := 0 }, { name := "MIN_FIELD_NUMBER", type := .int, accessFlags := 25, slot := 6, constantValue := 0 }, { name := "MAX_FIELD_NUMBER", type := .int, accessFlags := 25, slot := 7, constantValue := 0 }, { name := "FIRST_RESERVED_NUMBER", type := .int, accessFlags := 25, slot := 8, constantValue := 0 }, { name := "LAST_RESERVED_NUMBER", type := .int, accessFlags := 25, slot := 9, constantValue := 0 }, { name := "TAG_TYPE_BITS", type := .int, accessFlags := 24, slot := 10, constantValue := 0 }, { name := "MAX_VARINT_BYTES", type := .int, accessFlags := 24, slot := 11, constantValue := 0 }, { name := "TAG_TYPE_MASK", type := .int, accessFlags := 26, slot := 12, constantValue := 0 }]
  methods := #[k2m0, k2m1]
  instanceTypes := #[]
  staticTypes := #[.int, .int, .int, .int, .int, .int, .int, .int, .int, .int, .int, .int, .int]
  resolved := Array.replicate 50 none
  statics := none }

def pool3 : Array CpInfo := pool [(1, u "java/lang/Cloneable"), (0, .class_ 1), (0, u "java/lang/Object"), (0, .class_ 3)] 3

/-- java/lang/Cloneable -/
def k3 : Class := { plain "java/lang/Cloneable" (some 0) with
  accessFlags := 1537
  interfaces := #[]
  cf := some (fileOf pool3 2 #[] #[] 1537 4 #[] #[])
  fields := #[]
  methods := #[]
  instanceTypes := #[]
  staticTypes := #[]
  resolved := Array.replicate 8 none
  statics := none }

def pool4 : Array CpInfo := pool [(1, u "java/io/Serializable"), (0, .class_ 1), (0, u "java/lang/Object"), (0, .class_ 3)] 3

/-- java/io/Serializable -/
def k4 : Class := { plain "java/io/Serializable" (some 0) with
  accessFlags := 1537
  interfaces := #[]
  cf := some (fileOf pool4 2 #[] #[] 1537 4 #[] #[])
  fields := #[]
  methods := #[]
  instanceTypes := #[]
  staticTypes := #[]
  resolved := Array.replicate 8 none
  statics := none }

/-- the primitive byte -/
def k5 : Class := { plain "byte" none with kind := .primitive 'B', accessFlags := 0x411 }
/-- [B -/
def k6 : Class := { plain "[B" (some 0) with kind := .array 5 .byte, interfaces := #[3, 4], accessFlags := 1041 }

/-- the primitive int -/
def k7 : Class := { plain "int" none with kind := .primitive 'I', accessFlags := 0x411 }
/-- [I -/
def k8 : Class := { plain "[I" (some 0) with kind := .array 7 .int, interfaces := #[3, 4], accessFlags := 1041 }

def heap : Heap := #[]
def classes : Array Class := #[k0, k1, k2, k3, k4, k5, k6, k7, k8]
def interned : List (Array UInt16 × Addr) := []
def slotsUsed : Nat := 0
def theMethod : MethodId := ⟨1, 3⟩
def args0 : Array Value := #[.int 5, .int 5]
def aboutOver (below : List Frame) : State where
  vm := { classes := classes, interned := interned.toArray }
  heap := heap
  slotsUsed := slotsUsed
  threads := #[{ frames := .invoking theMethod args0 :: below }]
def below0 : List Frame := [.native { method := ⟨0, 0⟩, args := #[] }]
def about1 : State := aboutOver below0
def p0 : Program := .bare "" "" ""
def e0 : Env := launch0.env 0 0 0
theorem w_frames : about1.frames = Frame.invoking theMethod args0 :: below0 := rfl
set_option maxRecDepth 65536 in
theorem w_args : argsFit about1.vm theMethod args0 = true := by decide +kernel
set_option maxRecDepth 65536 in
theorem w_heap : heapFits about1 = true := by decide +kernel
set_option maxRecDepth 65536 in
theorem w_runnable : about1.curStatus? = some .runnable := by decide +kernel
set_option maxRecDepth 65536 in
theorem w_alone : about1.alone = true := by decide +kernel
set_option maxRecDepth 65536 in
theorem w_named : about1.methodNamed? x = some theMethod := by decide +kernel
set_option maxRecDepth 65536 in
theorem w_hears : about1.hears theMethod below0 = true := by decide +kernel
set_option maxRecDepth 65536 in
theorem w_ripe : about1.ripe theMethod args0 below0 = true := by decide +kernel
theorem w_running : about1.status = .running := rfl
set_option maxRecDepth 65536 in
theorem w_room : about1.hasRoom e0.platform room_1 = true :=
  launch0.hasRoom_least _ room_1 (by decide +kernel) (by decide +kernel) (by decide +kernel) (by decide +kernel) (by decide +kernel) (by decide +kernel)
theorem allAtoms_all (ts : List Jvm.Cond) (a : Array Jvm.Value) (st : Jvm.State) : (allAtoms ts).before a st = ts.all (fun c => c.before a st) := by
  induction ts with
  | nil => rfl
  | cons c t ih =>
    show (Jvm.Cond.and c (allAtoms t)).before a st = _
    rw [Jvm.Cond.before_and, ih, List.all_cons]
def words1 : List Jvm.Cond := Jvm.Cond.code x code maxLocals ret :: tables_1
/-- a 'code' word, met by the world's own term for the bytes: nothing is compared byte by byte -/
theorem code_word {y : MethodName} {bytes : ByteArray} {mx : Nat} {rt : Option FieldType} {a : Array Value} {s : State} {m : MethodId} {meth : Method} {c : Code} (h1 : s.methodNamed? y = some m) (h2 : s.vm.method? m = some meth) (h3 : meth.code = some c) (h4 : c.code = bytes)
    (h5 : (c.maxLocals == mx && c.exceptionTable.isEmpty && decide (c.maxStack ≤ mostOperands) && decide (meth.sig.returnType = rt) && !meth.locks && decide (parseMethodDescriptor y.desc = some meth.sig)) = true) : (Jvm.Cond.code y bytes mx rt).before a s = true := by
  simp only [Bool.and_eq_true, beq_iff_eq, Bool.not_eq_true', decide_eq_true_eq] at h5
  obtain ⟨⟨⟨⟨⟨g1, g2⟩, g3⟩, g4⟩, g5⟩, g6⟩ := h5
  simp [Cond.before, Cond.holds, Cond.value, h1, h2, h3, h4, g1, g2, g3, g4, g5, g6]
def isCode : Jvm.Cond → Bool
  | .code _ _ _ _ => true
  | _ => false
theorem all_split {L : List Jvm.Cond} {P : Jvm.Cond → Bool} (h1 : L.all (fun c => isCode c || P c) = true) (h2 : ∀ c ∈ L.filter isCode, P c = true) : L.all P = true := by
  refine List.all_eq_true.mpr fun c hc => ?_
  have h := List.all_eq_true.mp h1 c hc
  rcases Bool.eq_false_or_eq_true (isCode c) with hi | hi
  · exact h2 c (List.mem_filter.mpr ⟨hc, hi⟩)
  · simpa [hi] using h
set_option maxRecDepth 65536 in
theorem w_c0 : (Jvm.Cond.code x code maxLocals ret).before args0 about1 = true := code_word (m := ⟨1, 3⟩) (meth := k1m3) (c := k1c3) (by decide +kernel) rfl rfl rfl (by decide +kernel)
set_option maxRecDepth 65536 in
theorem w_c1 : (Jvm.Cond.code ({ cls := "com/example/wiretag/wiretag/core/WireFormatIsDeclarableFieldNumberPinLaw", name := "agrees", desc := "(I)Z" } : Jvm.MethodName) method_3_code (1 : Nat) (Option.some Jvm.ClassFile.FieldType.boolean)).before args0 about1 = true := code_word (m := ⟨1, 2⟩) (meth := k1m2) (c := k1c2) (by decide +kernel) rfl rfl rfl (by decide +kernel)
set_option maxRecDepth 65536 in
theorem w_c2 : (Jvm.Cond.code ({ cls := "com/example/wiretag/wiretag/core/WireFormat", name := "isDeclarableFieldNumber", desc := "(I)Z" } : Jvm.MethodName) prog_49_method_2_code (1 : Nat) (Option.some Jvm.ClassFile.FieldType.boolean)).before args0 about1 = true := code_word (m := ⟨2, 1⟩) (meth := k2m1) (c := k2c1) (by decide +kernel) rfl rfl rfl (by decide +kernel)
set_option maxRecDepth 65536 in
theorem w_c3 : (Jvm.Cond.code ({ cls := "com/example/wiretag/wiretag/core/WireFormatIsDeclarableFieldNumberPinLaw", name := "reference", desc := "(I)Z" } : Jvm.MethodName) method_2_code (5 : Nat) (Option.some Jvm.ClassFile.FieldType.boolean)).before args0 about1 = true := code_word (m := ⟨1, 1⟩) (meth := k1m1) (c := k1c1) (by decide +kernel) rfl rfl rfl (by decide +kernel)
def codes1 : List Jvm.Cond := [Jvm.Cond.code x code maxLocals ret, Jvm.Cond.code ({ cls := "com/example/wiretag/wiretag/core/WireFormatIsDeclarableFieldNumberPinLaw", name := "agrees", desc := "(I)Z" } : Jvm.MethodName) method_3_code (1 : Nat) (Option.some Jvm.ClassFile.FieldType.boolean), Jvm.Cond.code ({ cls := "com/example/wiretag/wiretag/core/WireFormat", name := "isDeclarableFieldNumber", desc := "(I)Z" } : Jvm.MethodName) prog_49_method_2_code (1 : Nat) (Option.some Jvm.ClassFile.FieldType.boolean), Jvm.Cond.code ({ cls := "com/example/wiretag/wiretag/core/WireFormatIsDeclarableFieldNumberPinLaw", name := "reference", desc := "(I)Z" } : Jvm.MethodName) method_2_code (5 : Nat) (Option.some Jvm.ClassFile.FieldType.boolean)]
set_option maxRecDepth 65536 in
theorem codes_eq : words1.filter isCode = codes1 := rfl
theorem w_codes : ∀ c ∈ words1.filter isCode, c.before args0 about1 = true := by
  rw [codes_eq]
  intro c hc
  simp only [codes1, List.mem_cons, List.not_mem_nil, or_false] at hc
  rcases hc with rfl | rfl | rfl | rfl
  · exact w_c0
  · exact w_c1
  · exact w_c2
  · exact w_c3
set_option maxRecDepth 65536 in
theorem w_t1 : words1.all (fun c => isCode c || c.before args0 about1) = true := by decide +kernel
theorem w_tables : (allAtoms (Jvm.Cond.code x code maxLocals ret :: tables_1)).before args0 about1 = true := by
  rw [allAtoms_all]
  show words1.all (fun c => c.before args0 about1) = true
  refine all_split ?_ w_codes
  rw [w_t1]
set_option maxRecDepth 65536 in
theorem w_case : (Jvm.Cond.and given_1 narrow_1).before args0 about1 = true := by decide +kernel
theorem w_applies : (headSpec (Jvm.Cond.code x code maxLocals ret :: tables_1) room_1).applies x e0.platform about1 = true :=
  (Spec.applies_iff w_frames).mpr ⟨w_running, w_runnable, w_alone, w_named, w_hears, w_ripe, w_room, w_tables⟩
theorem atStart : AtStart classFile x code maxLocals ret World_1 tables_1 room_1 Calls_1 rest_1 Pre_1 launch0 p0 e0 about1 theMethod args0 below0 :=
  ⟨lists_1, trivial, launch0.admits_env _ _ _, launch0.least_env, fairChoices_fair.cas, fairChoices_fair.clock, w_frames, w_args, w_heap, w_applies, trivial, trivial, w_case⟩
end start1
theorem witness_1 : WitnessClaimed_1 := ⟨start1.p0, start1.e0, start1.about1, start1.theMethod, start1.args0, start1.below0, start1.atStart⟩
end Jvm.Pilot.@@N@@
