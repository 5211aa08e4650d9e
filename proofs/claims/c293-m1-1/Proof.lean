import JvmDerived
import JvmDerived.Pilot.@@N@@Statement
import JvmDerived.Pilot.@@N@@Code
set_option linter.unusedVariables false
set_option linter.unusedSimpArgs false

namespace Jvm.Pilot.@@N@@
open Jvm Jvm.ClassFile Sem Op Lib Jvm.Free Jvm.Stand Jvm.LawKit Jvm.RoadKit Bundle Jvm.Pilot.@@N@@.Jvm.D
/-! ## The walk, forwards: from here the method comes to its end as Q says -/
section OwnFin
variable {p : Program} {l : Launch} {e : Env} {R : Room} {s : State} {m : MethodId} {args : Array Value} {below : List Frame} {meth : Method} {c : Code} {T T' : State} {locs : List Loc} {cells slots K N : Nat} {Q : Option Value → Heap → List Loc → Prop}
def own_Fin (p : Program) (e : Env) (below : List Frame) (s : State) (K N : Nat) (Q : Option Value → Heap → List Loc → Prop) (T : State) (g : JFrame) : Prop :=
  ∃ t o, Steps p.tables e below (T.setTop g) t ∧ t.status = .running ∧ Ended t below o ∧ ∃ v L, o = .returned v ∧ Q v t.heap L ∧ FrameEnd s o t L K N
theorem own_in {g g' : JFrame} (q : g = g') (h : own_Fin p e below s K N Q T g') : ∃ t o, Steps p.tables e below (T.setTop g) t ∧ t.status = .running ∧ Ended t below o ∧ ∃ v L, o = .returned v ∧ Q v t.heap L ∧ FrameEnd s o t L K N := q ▸ h
theorem own_st {g g' : JFrame} (h : ∀ t, Steps p.tables e below (T'.setTop g') t → Steps p.tables e below (T.setTop g) t) (k : own_Fin p e below s K N Q T' g') : own_Fin p e below s K N Q T g := by
  obtain ⟨t, o, h1, h2⟩ := k; exact ⟨t, o, h t h1, h2⟩
theorem own_end {g : JFrame} {v : Option Value} (X : Stand p l e R s m args below meth c T locs cells slots) (hl : meth.locks = false) (hv : meth.sig.returnType = none → v = none)
    (h : ∀ fs, (∀ (f : JFrame) (acts : List Action), f.method = m → f.locked = none → f.entered = [] → (doReturn e (T.setTop f) acts v).1 = T.setFrames fs) → Steps p.tables e below (T.setTop g) (T.setFrames fs)) (hQ : Q v T.heap locs) (hc : cells ≤ K) (hs : slots ≤ N) : own_Fin p e below s K N Q T g := by
  obtain ⟨fs, hr, hrun, hended, hW, hsame⟩ := X.leave (v := v) hv hl
  exact ⟨_, _, h fs hr, hrun, hended, _, _, rfl, hQ, ⟨_, rfl⟩, hW, hsame.mono hc hs⟩
theorem own_retI {pc : Nat} {Ls : Array Slot} {z : Int32} {rest : List Value} (X : Stand p l e R s m args below meth c T locs cells slots) (hx : p.tables.exec = Jvm.exec) (hret : meth.sig.returnType = some .int) (hl : meth.locks = false) (hd : decode c.code pc = .ok (.ireturn, 1)) (hQ : Q (some (.int z)) T.heap locs) (hc : cells ≤ K) (hs : slots ≤ N) :
    own_Fin p e below s K N Q T (mkF m pc Ls (.int z :: rest)) :=
  own_end X hl (fun h => by rw [hret] at h; cases h) (fun fs hr => retOut X hx hret rfl (Or.inl ⟨rfl, Or.inl rfl, z, rfl⟩) hd hr) hQ hc hs
theorem own_retN {pc : Nat} {Ls : Array Slot} {z : Int32} {t : FieldType} {rest : List Value} (X : Stand p l e R s m args below meth c T locs cells slots) (hx : p.tables.exec = Jvm.exec) (hret : meth.sig.returnType = some t) (hl : meth.locks = false) (ht : t = .boolean ∨ t = .byte ∨ t = .char ∨ t = .short) (hd : decode c.code pc = .ok (.ireturn, 1)) (hQ : Q (some (.int (nar t z))) T.heap locs) (hc : cells ≤ K) (hs : slots ≤ N) :
    own_Fin p e below s K N Q T (mkF m pc Ls (.int z :: rest)) :=
  own_end X hl (fun h => by rw [hret] at h; cases h) (fun fs hr => retN X hx hret ht hd hr) hQ hc hs
theorem own_retJ {pc : Nat} {Ls : Array Slot} {z : Int64} {rest : List Value} (X : Stand p l e R s m args below meth c T locs cells slots) (hx : p.tables.exec = Jvm.exec) (hret : meth.sig.returnType = some .long) (hl : meth.locks = false) (hd : decode c.code pc = .ok (.lreturn, 1)) (hQ : Q (some (.long z)) T.heap locs) (hc : cells ≤ K) (hs : slots ≤ N) :
    own_Fin p e below s K N Q T (mkF m pc Ls (.long z :: rest)) :=
  own_end X hl (fun h => by rw [hret] at h; cases h) (fun fs hr => retOut X hx hret rfl (Or.inr (Or.inl ⟨rfl, rfl, z, rfl⟩)) hd hr) hQ hc hs
theorem own_retA {pc : Nat} {Ls : Array Slot} {a : Addr} {t : FieldType} {rest : List Value} (X : Stand p l e R s m args below meth c T locs cells slots) (hx : p.tables.exec = Jvm.exec) (hret : meth.sig.returnType = some t) (hl : meth.locks = false) (ht : t.isReference = true) (hd : decode c.code pc = .ok (.areturn, 1)) (hQ : Q (some (.ref a)) T.heap locs) (hc : cells ≤ K) (hs : slots ≤ N) :
    own_Fin p e below s K N Q T (mkF m pc Ls (.ref a :: rest)) :=
  own_end X hl (fun h => by rw [hret] at h; cases h) (fun fs hr => retOut X hx hret (by cases t <;> first | rfl | cases ht) (Or.inr (Or.inr (Or.inr (Or.inr ⟨rfl, ht, rfl⟩)))) hd hr) hQ hc hs
theorem own_retV {pc : Nat} {Ls : Array Slot} (X : Stand p l e R s m args below meth c T locs cells slots) (hx : p.tables.exec = Jvm.exec) (hret : meth.sig.returnType = none) (hl : meth.locks = false) (hd : decode c.code pc = .ok (.return_, 1)) (hQ : Q none T.heap locs) (hc : cells ≤ K) (hs : slots ≤ N) :
    own_Fin p e below s K N Q T (mkF m pc Ls []) :=
  own_end X hl (fun _ => rfl) (fun fs hr => X.returnOut hx hret hd hr) hQ hc hs
theorem own_lremM {g : JFrame} {target : State} (X : Stand p l e R s m args below meth c T locs cells slots) (hx : p.tables.exec = Jvm.exec) (hg : g.method = m) {x y : Int64} {rest : List Value} (hd : decode c.code g.pc = .ok (.lrem, 1)) (hs : g.stack = .long y :: .long x :: rest) (hy : y ≠ 0)
    (hr : Steps p.tables e below (T.setTop { g with pc := g.pc + 1, stack := .long (x % y) :: rest }) target) : Steps p.tables e below (T.setTop g) target := by
  have q : x - x / y * y = x % y := lrem_mod x y
  exact XS.lrem X.here hx hg hd hs hy (by rw [q]; exact hr)
end OwnFin
/-- a private method is selected by its own class -/
theorem own_selp {s : State} {args : Array Value} {n : Nat} {y : MethodName} (hy : y.cls ≠ "java/lang/invoke/MethodHandle" ∧ y.cls ≠ "java/lang/invoke/VarHandle") (hins : (Jvm.Cond.instantiable y.cls n).before args s = true) (hpriv : (Jvm.Cond.privateMethod y).before args s = true) (hinst : (Jvm.Cond.instanceMethod y).before args s = true) : (Jvm.Cond.selects y.cls y y).before args s = true := by
  obtain ⟨c, k, hc, hk, -, hniab, -, -⟩ := Cond.instantiable_spec hins
  have hni : k.isInterface = false := (Bool.or_eq_false_iff.mp hniab).1
  obtain ⟨mk, methM, hnamed, hmethM, -, -⟩ := Cond.instanceMethod_spec hinst
  have hfound : s.methodFound? y.cls y.name y.desc = some mk := State.methodFound?_of_named hnamed hy
  have hcls : mk.cls = c := Option.some.inj ((findClass_of_methodNamed hnamed).symm.trans hc)
  have hsel : selectMethod {} s.vm c mk = .method mk := selectMethod_private hmethM (Cond.privateMethod_at hpriv mk methM hnamed hmethM)
  simp only [Cond.before, Cond.holds, Cond.value, hc, hfound, hnamed, hsel, hcls, hk]
  simp; exact hni

/-! ## Arrays whose every component is known: the list xs, by the kind's own constructor f -/
section OwnArr
variable {p : Program} {l : Launch} {e : Env} {R : Room} {s : State} {m : MethodId} {args : Array Value} {below : List Frame} {meth : Method} {c : Code} {T : State} {locs : List Loc} {cells slots : Nat} {Z : State} {h h' : Heap} {a b : Addr} {k : ClassId} {ty : FieldType} {z j : Int32} {α : Type} {f : α → Value} {d x : α} {xs : List α} {ws : List Addr} {sl : Nat} {v : Value}
def own_Ar (Z : State) (h : Heap) (a : Addr) (k : ClassId) (ty : FieldType) (z : Int32) (f : α → Value) (d : α) (xs : List α) : Prop := Arv Z h a k ty z (xs.map f) (f d) ∧ xs.length = z.toNatClampNeg
theorem own_Ar.lt (F : own_Ar Z h a k ty z f d xs) : a < h.size := F.1.lt
theorem own_Ar.ext (F : own_Ar Z h a k ty z f d xs) (E : Ext h h') : own_Ar Z h' a k ty z f d xs := ⟨F.1.ext E, F.2⟩
theorem own_Ar.other (F : own_Ar Z h b k ty z f d xs) (W : Wr h h' a sl v) (q : b ≠ a) : own_Ar Z h' b k ty z f d xs := ⟨F.1.other W q, F.2⟩
theorem own_Ar.keep (F : own_Ar Z h a k ty z f d xs) (K : Keep h h' ws) (q : a ∉ ws) : own_Ar Z h' a k ty z f d xs := ⟨F.1.keep K q, F.2⟩
theorem own_Ar.new (A : Arr Z h a (newA k ty z) ty) (q : ¬ z < 0) (hd : defaultValue ty = f d) : own_Ar Z h a k ty z f d (List.replicate z.toNatClampNeg d) := by
  refine ⟨?_, List.length_replicate⟩
  have V := Arv.new A q
  rw [hd] at V
  refine V.pad fun i => ?_
  rw [List.map_replicate]; exact pad_rep [] (f d) _ i
theorem own_getD (xs : List α) (i : Nat) : (xs.map f).getD i (f d) = f (xs.getD i d) := by
  rw [List.getD_eq_getElem?_getD, List.getD_eq_getElem?_getD, List.getElem?_map]
  cases xs[i]? <;> rfl
theorem own_Ar.get (F : own_Ar Z h a k ty z f d xs) (q : ¬ j < 0 ∧ j < z) : ∃ cl, Arr Z h a cl ty ∧ ¬ (j < 0 ∨ cl.slots.size ≤ j.toNatClampNeg) ∧ cl.slots[j.toNatClampNeg]? = some (f (xs.getD j.toNatClampNeg d)) := by
  obtain ⟨⟨c, A, r1, S, r3, H, G⟩, l⟩ := F
  have hin := inb_of S q
  exact ⟨c, A, hin, H.at hin (own_getD xs _)⟩
theorem own_Ar.set (F : own_Ar Z h a k ty z f d xs) (q : ¬ j < 0 ∧ j < z) (hv : fits ty (f x) = true) (W : Wr h h' a j.toNatClampNeg (f x)) : own_Ar Z h' a k ty z f d (xs.set j.toNatClampNeg x) := by
  obtain ⟨⟨c, A, r1, S, r3, H, G⟩, l⟩ := F
  have hin := inb_of S q
  refine ⟨?_, by rw [List.length_set]; exact l⟩
  rw [List.map_set]
  refine Arv.set A r1 S r3 H G hv W _ rfl ?_
  rw [List.length_map, l, ← S]; exact Nat.lt_of_not_le fun y => hin (Or.inr y)
theorem own_alen {g : JFrame} (X : Stand p l e R s m args below meth c T locs cells slots) (hx : p.tables.exec = Jvm.exec) (hZ : Z.Warmed39 s.vm) (eT : T.heap = h) (F : own_Ar Z h a k ty z f d xs) (hg : g.method = m) {rest : List Value} (hs : g.stack = .ref a :: rest) (hd : decode c.code g.pc = .ok (.arraylength, 1)) (target : State)
    (hr : Steps p.tables e below (T.setTop { g with pc := g.pc + 1, stack := .int z :: rest }) target) : Steps p.tables e below (T.setTop g) target := by
  obtain ⟨⟨c', A, r1, S, r3, H, G⟩, l⟩ := F
  refine X.arraylength hx (by rw [eT]; exact A.1) (State.isArrayOf_alike hZ.alike A.2.1) hg hs hd target ?_
  rw [len_of S r3]; exact hr
theorem own_iald {g : JFrame} {d : Int32} {xs : List Int32} (X : Stand p l e R s m args below meth c T locs cells slots) (hx : p.tables.exec = Jvm.exec) (hZ : Z.Warmed39 s.vm) (eT : T.heap = h) (F : own_Ar Z h a k .int z Value.int d xs) (q : ¬ j < 0 ∧ j < z) (hg : g.method = m) {rest : List Value} (hs : g.stack = .int j :: .ref a :: rest) (hd : decode c.code g.pc = .ok (.iaload, 1)) (target : State)
    (hr : Steps p.tables e below (T.setTop { g with pc := g.pc + 1, stack := .int (xs.getD j.toNatClampNeg d) :: rest }) target) : Steps p.tables e below (T.setTop g) target := by
  obtain ⟨cl, A, hin, hat⟩ := F.get q
  exact X.iaload hx (by rw [eT]; exact A.1) (State.isArrayOf_alike hZ.alike A.2.1) A.2.2 hin hat hg hs hd target hr
theorem own_cald {g : JFrame} {d : Int32} {xs : List Int32} (X : Stand p l e R s m args below meth c T locs cells slots) (hx : p.tables.exec = Jvm.exec) (hZ : Z.Warmed39 s.vm) (eT : T.heap = h) (F : own_Ar Z h a k .char z Value.int d xs) (q : ¬ j < 0 ∧ j < z) (hg : g.method = m) {rest : List Value} (hs : g.stack = .int j :: .ref a :: rest) (hd : decode c.code g.pc = .ok (.caload, 1)) (target : State)
    (hr : Steps p.tables e below (T.setTop { g with pc := g.pc + 1, stack := .int (xs.getD j.toNatClampNeg d) :: rest }) target) : Steps p.tables e below (T.setTop g) target := by
  obtain ⟨cl, A, hin, hat⟩ := F.get q
  exact X.caload hx (by rw [eT]; exact A.1) (State.isArrayOf_alike hZ.alike A.2.1) A.2.2 hin hat hg hs hd target hr
theorem own_bald {g : JFrame} {d : Int32} {xs : List Int32} (X : Stand p l e R s m args below meth c T locs cells slots) (hx : p.tables.exec = Jvm.exec) (hZ : Z.Warmed39 s.vm) (eT : T.heap = h) (F : own_Ar Z h a k .byte z Value.int d xs) (q : ¬ j < 0 ∧ j < z) (hg : g.method = m) {rest : List Value} (hs : g.stack = .int j :: .ref a :: rest) (hd : decode c.code g.pc = .ok (.baload, 1)) (target : State)
    (hr : Steps p.tables e below (T.setTop { g with pc := g.pc + 1, stack := .int (xs.getD j.toNatClampNeg d) :: rest }) target) : Steps p.tables e below (T.setTop g) target := by
  obtain ⟨cl, A, hin, hat⟩ := F.get q
  exact X.baloadBytes hx (by rw [eT]; exact A.1) (State.isArrayOf_alike hZ.alike A.2.1) A.2.2 hin hat hg hs hd target hr
theorem own_lald {g : JFrame} {d : Int64} {xs : List Int64} (X : Stand p l e R s m args below meth c T locs cells slots) (hx : p.tables.exec = Jvm.exec) (hZ : Z.Warmed39 s.vm) (eT : T.heap = h) (F : own_Ar Z h a k .long z Value.long d xs) (q : ¬ j < 0 ∧ j < z) (hg : g.method = m) {rest : List Value} (hs : g.stack = .int j :: .ref a :: rest) (hd : decode c.code g.pc = .ok (.laload, 1)) (target : State)
    (hr : Steps p.tables e below (T.setTop { g with pc := g.pc + 1, stack := .long (xs.getD j.toNatClampNeg d) :: rest }) target) : Steps p.tables e below (T.setTop g) target := by
  obtain ⟨cl, A, hin, hat⟩ := F.get q
  exact X.laload hx (by rw [eT]; exact A.1) (State.isArrayOf_alike hZ.alike A.2.1) A.2.2 hin hat hg hs hd target hr
theorem own_iast {g : JFrame} {d x : Int32} {xs : List Int32} (X : Stand p l e R s m args below meth c T locs cells slots) (hx : p.tables.exec = Jvm.exec) (hZ : Z.Warmed39 s.vm) (eT : T.heap = h) (F : own_Ar Z h a k .int z Value.int d xs) (q : ¬ j < 0 ∧ j < z) (hg : g.method = m) {rest : List Value} (hs : g.stack = .int x :: .int j :: .ref a :: rest) (hd : decode c.code g.pc = .ok (.iastore, 1)) :
    ∃ T' h', Stand p l e R s m args below meth c T' (locs ++ [⟨a, j.toNatClampNeg⟩]) cells slots ∧ T'.heap = h' ∧ Wr h h' a j.toNatClampNeg (.int x) ∧ own_Ar Z h' a k .int z Value.int d (xs.set j.toNatClampNeg x) ∧ ∀ target, Steps p.tables e below (T'.setTop { g with pc := g.pc + 1, stack := rest }) target → Steps p.tables e below (T.setTop g) target := by
  obtain ⟨cl, A, hin, hat⟩ := F.get q
  obtain ⟨T', h', X', e', W, st⟩ := stI X hx hZ eT A hin hg hs hd
  exact ⟨T', h', X', e', W, F.set q rfl W, st⟩
theorem own_cast {g : JFrame} {d x : Int32} {xs : List Int32} (X : Stand p l e R s m args below meth c T locs cells slots) (hx : p.tables.exec = Jvm.exec) (hZ : Z.Warmed39 s.vm) (eT : T.heap = h) (F : own_Ar Z h a k .char z Value.int d xs) (q : ¬ j < 0 ∧ j < z) (hg : g.method = m) {rest : List Value} (hs : g.stack = .int x :: .int j :: .ref a :: rest) (hd : decode c.code g.pc = .ok (.castore, 1)) :
    ∃ T' h', Stand p l e R s m args below meth c T' (locs ++ [⟨a, j.toNatClampNeg⟩]) cells slots ∧ T'.heap = h' ∧ Wr h h' a j.toNatClampNeg (.int (nar .char x)) ∧ own_Ar Z h' a k .char z Value.int d (xs.set j.toNatClampNeg (nar .char x)) ∧ ∀ target, Steps p.tables e below (T'.setTop { g with pc := g.pc + 1, stack := rest }) target → Steps p.tables e below (T.setTop g) target := by
  obtain ⟨cl, A, hin, hat⟩ := F.get q
  obtain ⟨T', h', X', e', W, st⟩ := stC X hx hZ eT A hin hg hs hd
  exact ⟨T', h', X', e', W, F.set q (fits_nar_char _) W, st⟩
theorem own_bast {g : JFrame} {d x : Int32} {xs : List Int32} (X : Stand p l e R s m args below meth c T locs cells slots) (hx : p.tables.exec = Jvm.exec) (hZ : Z.Warmed39 s.vm) (eT : T.heap = h) (F : own_Ar Z h a k .byte z Value.int d xs) (q : ¬ j < 0 ∧ j < z) (hg : g.method = m) {rest : List Value} (hs : g.stack = .int x :: .int j :: .ref a :: rest) (hd : decode c.code g.pc = .ok (.bastore, 1)) :
    ∃ T' h', Stand p l e R s m args below meth c T' (locs ++ [⟨a, j.toNatClampNeg⟩]) cells slots ∧ T'.heap = h' ∧ Wr h h' a j.toNatClampNeg (.int (nar .byte x)) ∧ own_Ar Z h' a k .byte z Value.int d (xs.set j.toNatClampNeg (nar .byte x)) ∧ ∀ target, Steps p.tables e below (T'.setTop { g with pc := g.pc + 1, stack := rest }) target → Steps p.tables e below (T.setTop g) target := by
  obtain ⟨cl, A, hin, hat⟩ := F.get q
  obtain ⟨T', h', X', e', W, st⟩ := stB X hx hZ eT A hin hg hs hd
  exact ⟨T', h', X', e', W, F.set q (fits_nar_byte _) W, st⟩
theorem own_last {g : JFrame} {d x : Int64} {xs : List Int64} (X : Stand p l e R s m args below meth c T locs cells slots) (hx : p.tables.exec = Jvm.exec) (hZ : Z.Warmed39 s.vm) (eT : T.heap = h) (F : own_Ar Z h a k .long z Value.long d xs) (q : ¬ j < 0 ∧ j < z) (hg : g.method = m) {rest : List Value} (hs : g.stack = .long x :: .int j :: .ref a :: rest) (hd : decode c.code g.pc = .ok (.lastore, 1)) :
    ∃ T' h', Stand p l e R s m args below meth c T' (locs ++ [⟨a, j.toNatClampNeg⟩]) cells slots ∧ T'.heap = h' ∧ Wr h h' a j.toNatClampNeg (.long x) ∧ own_Ar Z h' a k .long z Value.long d (xs.set j.toNatClampNeg x) ∧ ∀ target, Steps p.tables e below (T'.setTop { g with pc := g.pc + 1, stack := rest }) target → Steps p.tables e below (T.setTop g) target := by
  obtain ⟨cl, A, hin, hat⟩ := F.get q
  obtain ⟨T', h', X', e', W, st⟩ := stJ X hx hZ eT A hin hg hs hd
  exact ⟨T', h', X', e', W, F.set q rfl W, st⟩
end OwnArr

/-! ## What writeBits and finish compute -/
def own_wl : Nat → Int64 → Int32 → Int32 → List Int32 → Int64 × Int32 × Int32 × List Int32
  | 0, W, b, n, xs => (W, b, n, xs)
  | f + 1, W, b, n, xs => if b < (8 : Int32) then (W, b, n, xs) else own_wl f ((W.toUInt64 >>> ((8 : Int32) &&& 0x3f).toInt64.toUInt64).toInt64) (b - (8 : Int32)) (n + (1 : Int32)) (xs.set (n).toNatClampNeg (nar .byte (W.toInt32.toInt8.toInt32)))
theorem own_wl_zero (W : Int64) (b n : Int32) (xs : List Int32) : own_wl 0 W b n xs = (W, b, n, xs) := rfl
theorem own_wl_succ (f : Nat) (W : Int64) (b n : Int32) (xs : List Int32) : own_wl (f + 1) W b n xs = if b < (8 : Int32) then (W, b, n, xs) else own_wl f ((W.toUInt64 >>> ((8 : Int32) &&& 0x3f).toInt64.toUInt64).toInt64) (b - (8 : Int32)) (n + (1 : Int32)) (xs.set (n).toNatClampNeg (nar .byte (W.toInt32.toInt8.toInt32))) := rfl
def own_fin (W : Int64) (b n : Int32) (xs : List Int32) : List Int32 := if (0 : Int32) < b then xs.set (n).toNatClampNeg (nar .byte (W.toInt32.toInt8.toInt32)) else xs
theorem own_fin_eq (W : Int64) (b n : Int32) (xs : List Int32) : own_fin W b n xs = if (0 : Int32) < b then xs.set (n).toNatClampNeg (nar .byte (W.toInt32.toInt8.toInt32)) else xs := rfl
theorem own_addb {b c : Int32} (h1 : 0 ≤ b.toInt) (h2 : 0 ≤ c.toInt) (h3 : b.toInt + c.toInt < 72) : (b + c).toInt = b.toInt + c.toInt := by
  have e := c_iadd b c; have b1 := Int32.toInt_lt (b + c); have b2 := Int32.le_toInt (b + c); omega
theorem own_ge8 {b : Int32} (h : ¬ b < (8 : Int32)) : 8 ≤ b.toInt := by
  simp only [Int32.lt_iff_toInt_lt, Int32.reduceToInt] at h; omega
theorem own_dec {b : Int32} (h : ¬ b < (8 : Int32)) : (b - (8 : Int32)).toInt = b.toInt - 8 := by
  have h' := own_ge8 h
  have e := c_isub b 8; have b1 := Int32.toInt_lt (b - 8); have b2 := Int32.le_toInt (b - 8); have b3 := Int32.toInt_lt b
  rw [show (8 : Int32).toInt = 8 from by decide] at e; omega
theorem own_lt1 {b : Int32} {n : Int} (h : ¬ b < (8 : Int32)) (b0 : 0 ≤ b.toInt) : n < n + b.toInt / 8 := by
  have h' := own_ge8 h; omega
theorem own_inc {n z : Int32} (h0 : 0 ≤ n.toInt) (h : n.toInt < z.toInt) : (n + (1 : Int32)).toInt = n.toInt + 1 := by
  have e := c_iadd n 1; have b1 := Int32.toInt_lt (n + 1); have b2 := Int32.le_toInt (n + 1); have b3 := Int32.toInt_lt z
  rw [show (1 : Int32).toInt = 1 from by decide] at e; omega
theorem own_ixn {n b z : Int32} (h0 : 0 ≤ n.toInt) (h1 : n.toInt + b.toInt / 8 ≤ z.toInt) (b0 : 0 ≤ b.toInt) (h : ¬ b < (8 : Int32)) : ¬ n < 0 ∧ n < z := by
  have h' := own_ge8 h
  simp only [Int32.lt_iff_toInt_lt, Int32.reduceToInt]; omega
theorem own_lt8 {b : Int32} (h : b.toInt < 8) : b < (8 : Int32) := by
  simp only [Int32.lt_iff_toInt_lt, Int32.reduceToInt]; omega

theorem d1_0 : decode prog_27_method_1_code 0 = .ok (.aload_n 0, 1) := by decide +kernel
theorem d1_1 : decode prog_27_method_1_code 1 = .ok (.invokespecial 1, 3) := by decide +kernel
theorem d1_4 : decode prog_27_method_1_code 4 = .ok (.aload_n 0, 1) := by decide +kernel
theorem d1_5 : decode prog_27_method_1_code 5 = .ok (.iload_n 1, 1) := by decide +kernel
theorem d1_6 : decode prog_27_method_1_code 6 = .ok (.newarray .byte, 2) := by decide +kernel
theorem d1_8 : decode prog_27_method_1_code 8 = .ok (.putfield 7, 3) := by decide +kernel
theorem d1_11 : decode prog_27_method_1_code 11 = .ok (.return_, 1) := by decide +kernel
theorem pn_1 : plainName "com/example/dehull/dehull/codec/BitWriter" = true := by first | (simp [plainName, overriddenIn]; done) | decide +kernel
theorem ef_1 (m : MethodId) (x0 : Addr) (x1 : Int32) : entryFrame m #[(.ref x0), (.int x1)] 2 = mkF m 0 #[.val (.ref x0), .val (.int x1)] [] := by first | (simp [entryFrame, mkF, argsToLocals, Value.category]; done) | rfl
def Q1 (Z : State) (o0 : Addr) (p1 : Int32) (h0 : Heap) (n0 : Nat) (v : Option Value) (h : Heap) (L : List Loc) : Prop := ∃ (data : Addr) (k_data : ClassId), v = none ∧ Fr n0 L ∧ Keep h0 h [o0] ∧ n0 ≤ data ∧ h0.size ≤ data ∧ Exa Z h o0 "com/example/dehull/dehull/codec/BitWriter" ∧ Fld Z h o0 "com/example/dehull/dehull/codec/BitWriter" "data" "[B" (.ref data) ∧ Fld Z h o0 "com/example/dehull/dehull/codec/BitWriter" "window" "J" (.long (0 : Int64)) ∧ Fld Z h o0 "com/example/dehull/dehull/codec/BitWriter" "windowBits" "I" (.int (0 : Int32)) ∧ Fld Z h o0 "com/example/dehull/dehull/codec/BitWriter" "nextByte" "I" (.int (0 : Int32)) ∧ own_Ar Z h data k_data .byte p1 Value.int (0 : Int32) (List.replicate (p1).toNatClampNeg (0 : Int32))
set_option maxRecDepth 65536 in
set_option maxHeartbeats 40000000 in
theorem rm1 (l : Launch) (Z : State) (a0 : Array Value) (hw : ∀ d ∈ tables_1, d.before a0 Z = true) (ws : List Jvm.Cond) (o0 : Addr) (p1 : Int32) (h0 : Heap) (n0 : Nat) (Z0 : n0 ≤ h0.size) (G0 : Exa Z h0 o0 "com/example/dehull/dehull/codec/BitWriter") (G1 : Fld Z h0 o0 "com/example/dehull/dehull/codec/BitWriter" "data" "[B" .null) (G2 : Fld Z h0 o0 "com/example/dehull/dehull/codec/BitWriter" "window" "J" (.long (0 : Int64))) (G3 : Fld Z h0 o0 "com/example/dehull/dehull/codec/BitWriter" "windowBits" "I" (.int (0 : Int32))) (G4 : Fld Z h0 o0 "com/example/dehull/dehull/codec/BitWriter" "nextByte" "I" (.int (0 : Int32))) (g_o0 : n0 ≤ o0) (hn0 : ¬ p1 < 0) (hn8 : p1.toNatClampNeg ≤ 8) :
    MetFree l (⟨"com/example/dehull/dehull/codec/BitWriter", "<init>", "(I)V"⟩ : MethodName) (head1 (Jvm.Cond.code (⟨"com/example/dehull/dehull/codec/BitWriter", "<init>", "(I)V"⟩ : MethodName) prog_27_method_1_code 2 none :: ws) ({ frames := 1, cells := 1, slots := 8, locals := 12 } : Room)) (fun a U => a = #[(.ref o0), (.int p1)] ∧ Z.Warmed39 U.vm ∧ U.heap = h0) (fun _ _ _ _ _ => True) (fun _ U o U' => ∃ v L, o = .returned v ∧ Q1 Z o0 p1 h0 n0 v U'.heap L ∧ FrameEnd U o U' L ({ frames := 1, cells := 1, slots := 8, locals := 12 } : Room).cells ({ frames := 1, cells := 1, slots := 8, locals := 12 } : Room).slots) := by
  refine MetFree.of_bodySF (plainFor_of_name pn_1) hisR ?_
  intro p e s m args below meth c s₁ Bd hml0 hP hK
  obtain ⟨rfl, hZ, hh⟩ := hP
  have hx := Bd.exec
  have hby := Bd.bytes
  have hml : c.maxLocals = 2 := hml0
  have hown : s.vm.findClass "com/example/dehull/dehull/codec/BitWriter" = some m.cls := findClass_of_methodNamed Bd.named
  have hnm := (name_of_methodNamed Bd.named Bd.method).1
  have X0 : Stand p l e ({ frames := 1, cells := 1, slots := 8, locals := 12 } : Room) s m #[(.ref o0), (.int p1)] below meth c s₁ [] 0 0 := Stand.of_body Bd
  have e0 : s₁.heap = h0 := by rw [← hh, Bd.state]; rfl
  have N0 := Fr.nil n0
  refine own_in (ef_1 m o0 p1) ?_
  have K0 := Keep.refl h0 [o0]
  refine own_st (g' := (mkF m 1 #[.val (.ref o0), .val (.int p1)] [(.ref o0)])) (fun t k => XS.aloadN X0.here hx rfl (hb hby d1_0) rfl rfl k) ?_
  obtain ⟨T1, X1, e1, st1⟩ := initO X0 hx hZ hown (hw _ (List.mem_of_getElem? (i := 7) rfl)) (hw _ (List.mem_of_getElem? (i := 8) rfl)) (hw _ (List.mem_of_getElem? (i := 9) rfl)) e0 (g := (mkF m 1 #[.val (.ref o0), .val (.int p1)] [(.ref o0)])) rfl (by rw [hml]; rfl) rfl (hb hby d1_1) (by decide) (W := 0) (by show 2 * 0 + _ ≤ _; exact Nat.le_of_eq rfl) (by decide)
  refine own_st (g' := (mkF m 4 #[.val (.ref o0), .val (.int p1)] [])) (fun t k => st1 t k) ?_
  refine own_st (g' := (mkF m 5 #[.val (.ref o0), .val (.int p1)] [(.ref o0)])) (fun t k => XS.aloadN X1.here hx rfl (hb hby d1_4) rfl rfl k) ?_
  refine own_st (g' := (mkF m 6 #[.val (.ref o0), .val (.int p1)] [(.int p1), (.ref o0)])) (fun t k => XS.iloadN X1.here hx rfl (hb hby d1_5) rfl  k) ?_
  obtain ⟨T2, h2, k2, X2, e2, E2, A2, st2⟩ := newP X1 hx hZ (hw _ (List.mem_of_getElem? (i := 10) rfl)) e1 (g := (mkF m 6 #[.val (.ref o0), .val (.int p1)] [(.int p1), (.ref o0)])) rfl (hb hby d1_6) rfl hn0 (cap := 8) hn8 (by decide) (by decide) (by decide)
  obtain ⟨b6, gg2⟩ : ∃ q, q = h0.size := ⟨_, rfl⟩
  rw [← gg2] at A2 st2
  have g_b6 : n0 ≤ b6 := Nat.le_trans Z0 (Nat.le_of_eq gg2.symm)
  have sz_b6 : h0.size ≤ b6 := Nat.le_trans K0.1 (Nat.le_of_eq gg2.symm)
  have ne_o0_b6 : o0 ≠ b6 := Nat.ne_of_lt (Nat.lt_of_lt_of_le G0.lt (Nat.le_of_eq gg2.symm))
  have K3 : Keep h0 h2 [o0] := K0.ext E2
  have V2 : own_Ar Z h2 b6 k2 .byte p1 Value.int (0 : Int32) (List.replicate (p1).toNatClampNeg (0 : Int32)) := own_Ar.new A2 hn0 rfl
  refine own_st (g' := (mkF m 8 #[.val (.ref o0), .val (.int p1)] [(.ref b6), (.ref o0)])) (fun t k => st2 t k) ?_
  have f4 := (G0.ext E2)
  have f5 := (G1.ext E2)
  obtain ⟨T6, h6, X6, e6, W6, st6⟩ := putF X2 hx hZ hown (host := "") (Or.inl (hw _ (List.mem_of_getElem? (i := 11) rfl))) Via.refl e2 f5 f4 (Or.inr ⟨(hw _ (List.mem_of_getElem? (i := 12) rfl)), rfl, hnm⟩) (hw _ (List.mem_of_getElem? (i := 2) rfl)) (ty := (.array .byte)) (by decide) rfl rfl (g := (mkF m 8 #[.val (.ref o0), .val (.int p1)] [(.ref b6), (.ref o0)])) rfl rfl (hb hby d1_8)
  have F6 := f5.same W6
  have N6 := Fr.snoc X6 N0 g_o0
  have K7 : Keep h0 h6 [o0] := K3.wr W6 (Or.inl (List.mem_of_getElem? (i := 0) rfl))
  refine own_st (g' := (mkF m 11 #[.val (.ref o0), .val (.int p1)] [])) (fun t k => st6 t k) ?_
  have f8 := (f4.wr W6)
  have f9 := ((G2.ext E2).other W6 (Or.inr (slot_ne (Or.inl (hw _ (List.mem_of_getElem? (i := 19) rfl))) (Or.inr (hw _ (List.mem_of_getElem? (i := 12) rfl))) (by decide) (t := .long) (t' := (.array .byte)) (by decide) (by decide))))
  have f10 := ((G3.ext E2).other W6 (Or.inr (slot_ne (Or.inl (hw _ (List.mem_of_getElem? (i := 21) rfl))) (Or.inr (hw _ (List.mem_of_getElem? (i := 12) rfl))) (by decide) (t := .int) (t' := (.array .byte)) (by decide) (by decide))))
  have f11 := ((G4.ext E2).other W6 (Or.inr (slot_ne (Or.inl (hw _ (List.mem_of_getElem? (i := 28) rfl))) (Or.inr (hw _ (List.mem_of_getElem? (i := 12) rfl))) (by decide) (t := .int) (t' := (.array .byte)) (by decide) (by decide))))
  have f12 := (V2.other W6 (Ne.symm ne_o0_b6))
  exact own_retV X6 hx Bd.returns Bd.notSynchronized (hb hby d1_11) (by rw [e6]; exact ⟨b6, k2, rfl, N6, K7, g_b6, sz_b6, f8, F6, f9, f10, f11, f12⟩) (by decide) (by decide)
theorem d3_0 : decode prog_27_method_3_code 0 = .ok (.aload_n 0, 1) := by decide +kernel
theorem d3_1 : decode prog_27_method_3_code 1 = .ok (.dup, 1) := by decide +kernel
theorem d3_2 : decode prog_27_method_3_code 2 = .ok (.getfield 23, 3) := by decide +kernel
theorem d3_5 : decode prog_27_method_3_code 5 = .ok (.lload_n 1, 1) := by decide +kernel
theorem d3_6 : decode prog_27_method_3_code 6 = .ok (.aload_n 0, 1) := by decide +kernel
theorem d3_7 : decode prog_27_method_3_code 7 = .ok (.getfield 27, 3) := by decide +kernel
theorem d3_10 : decode prog_27_method_3_code 10 = .ok (.lshl, 1) := by decide +kernel
theorem d3_11 : decode prog_27_method_3_code 11 = .ok (.lor, 1) := by decide +kernel
theorem d3_12 : decode prog_27_method_3_code 12 = .ok (.putfield 23, 3) := by decide +kernel
theorem d3_15 : decode prog_27_method_3_code 15 = .ok (.aload_n 0, 1) := by decide +kernel
theorem d3_16 : decode prog_27_method_3_code 16 = .ok (.dup, 1) := by decide +kernel
theorem d3_17 : decode prog_27_method_3_code 17 = .ok (.getfield 27, 3) := by decide +kernel
theorem d3_20 : decode prog_27_method_3_code 20 = .ok (.iload_n 3, 1) := by decide +kernel
theorem d3_21 : decode prog_27_method_3_code 21 = .ok (.iadd, 1) := by decide +kernel
theorem d3_22 : decode prog_27_method_3_code 22 = .ok (.putfield 27, 3) := by decide +kernel
theorem d3_25 : decode prog_27_method_3_code 25 = .ok (.aload_n 0, 1) := by decide +kernel
theorem d3_26 : decode prog_27_method_3_code 26 = .ok (.getfield 27, 3) := by decide +kernel
theorem d3_29 : decode prog_27_method_3_code 29 = .ok (.bipush 8, 2) := by decide +kernel
theorem d3_31 : decode prog_27_method_3_code 31 = .ok (.if_icmp .lt 53, 3) := by decide +kernel
theorem d3_34 : decode prog_27_method_3_code 34 = .ok (.aload_n 0, 1) := by decide +kernel
theorem d3_35 : decode prog_27_method_3_code 35 = .ok (.getfield 7, 3) := by decide +kernel
theorem d3_38 : decode prog_27_method_3_code 38 = .ok (.aload_n 0, 1) := by decide +kernel
theorem d3_39 : decode prog_27_method_3_code 39 = .ok (.getfield 33, 3) := by decide +kernel
theorem d3_42 : decode prog_27_method_3_code 42 = .ok (.aload_n 0, 1) := by decide +kernel
theorem d3_43 : decode prog_27_method_3_code 43 = .ok (.getfield 23, 3) := by decide +kernel
theorem d3_46 : decode prog_27_method_3_code 46 = .ok (.l2i, 1) := by decide +kernel
theorem d3_47 : decode prog_27_method_3_code 47 = .ok (.i2b, 1) := by decide +kernel
theorem d3_48 : decode prog_27_method_3_code 48 = .ok (.bastore, 1) := by decide +kernel
theorem d3_49 : decode prog_27_method_3_code 49 = .ok (.aload_n 0, 1) := by decide +kernel
theorem d3_50 : decode prog_27_method_3_code 50 = .ok (.dup, 1) := by decide +kernel
theorem d3_51 : decode prog_27_method_3_code 51 = .ok (.getfield 33, 3) := by decide +kernel
theorem d3_54 : decode prog_27_method_3_code 54 = .ok (.iconst 1, 1) := by decide +kernel
theorem d3_55 : decode prog_27_method_3_code 55 = .ok (.iadd, 1) := by decide +kernel
theorem d3_56 : decode prog_27_method_3_code 56 = .ok (.putfield 33, 3) := by decide +kernel
theorem d3_59 : decode prog_27_method_3_code 59 = .ok (.aload_n 0, 1) := by decide +kernel
theorem d3_60 : decode prog_27_method_3_code 60 = .ok (.dup, 1) := by decide +kernel
theorem d3_61 : decode prog_27_method_3_code 61 = .ok (.getfield 23, 3) := by decide +kernel
theorem d3_64 : decode prog_27_method_3_code 64 = .ok (.bipush 8, 2) := by decide +kernel
theorem d3_66 : decode prog_27_method_3_code 66 = .ok (.lushr, 1) := by decide +kernel
theorem d3_67 : decode prog_27_method_3_code 67 = .ok (.putfield 23, 3) := by decide +kernel
theorem d3_70 : decode prog_27_method_3_code 70 = .ok (.aload_n 0, 1) := by decide +kernel
theorem d3_71 : decode prog_27_method_3_code 71 = .ok (.dup, 1) := by decide +kernel
theorem d3_72 : decode prog_27_method_3_code 72 = .ok (.getfield 27, 3) := by decide +kernel
theorem d3_75 : decode prog_27_method_3_code 75 = .ok (.bipush 8, 2) := by decide +kernel
theorem d3_77 : decode prog_27_method_3_code 77 = .ok (.isub, 1) := by decide +kernel
theorem d3_78 : decode prog_27_method_3_code 78 = .ok (.putfield 27, 3) := by decide +kernel
theorem d3_81 : decode prog_27_method_3_code 81 = .ok (.goto (-56), 3) := by decide +kernel
theorem d3_84 : decode prog_27_method_3_code 84 = .ok (.return_, 1) := by decide +kernel
theorem pn_3 : plainName "com/example/dehull/dehull/codec/BitWriter" = true := by first | (simp [plainName, overriddenIn]; done) | decide +kernel
theorem ef_3 (m : MethodId) (x0 : Addr) (x1 : Int64) (x2 : Int32) : entryFrame m #[(.ref x0), (.long x1), (.int x2)] 4 = mkF m 0 #[.val (.ref x0), .val (.long x1), .second, .val (.int x2)] [] := by first | (simp [entryFrame, mkF, argsToLocals, Value.category]; done) | rfl
def Q3 (Z : State) (o0 : Addr) (q1 : Int64) (p2 : Int32) (w_data : Addr) (k_d : ClassId) (z_d : Int32) (xs : List Int32) (w_W : Int64) (w_b : Int32) (w_n : Int32) (h0 : Heap) (n0 : Nat) (v : Option Value) (h : Heap) (L : List Loc) : Prop := v = none ∧ Fr n0 L ∧ Keep h0 h [o0, w_data] ∧ Exa Z h o0 "com/example/dehull/dehull/codec/BitWriter" ∧ Fld Z h o0 "com/example/dehull/dehull/codec/BitWriter" "data" "[B" (.ref w_data) ∧ Fld Z h o0 "com/example/dehull/dehull/codec/BitWriter" "window" "J" (.long (own_wl 8 (w_W ||| (q1 <<< (w_b &&& 0x3f).toInt64)) (w_b + p2) w_n xs).1) ∧ Fld Z h o0 "com/example/dehull/dehull/codec/BitWriter" "windowBits" "I" (.int (own_wl 8 (w_W ||| (q1 <<< (w_b &&& 0x3f).toInt64)) (w_b + p2) w_n xs).2.1) ∧ Fld Z h o0 "com/example/dehull/dehull/codec/BitWriter" "nextByte" "I" (.int (own_wl 8 (w_W ||| (q1 <<< (w_b &&& 0x3f).toInt64)) (w_b + p2) w_n xs).2.2.1) ∧ own_Ar Z h w_data k_d .byte z_d Value.int (0 : Int32) (own_wl 8 (w_W ||| (q1 <<< (w_b &&& 0x3f).toInt64)) (w_b + p2) w_n xs).2.2.2
set_option maxRecDepth 65536 in
set_option maxHeartbeats 40000000 in
theorem rm3 (l : Launch) (Z : State) (a0 : Array Value) (hw : ∀ d ∈ tables_1, d.before a0 Z = true) (ws : List Jvm.Cond) (o0 : Addr) (q1 : Int64) (p2 : Int32) (w_data : Addr) (k_d : ClassId) (z_d : Int32) (xs : List Int32) (w_W : Int64) (w_b : Int32) (w_n : Int32) (h0 : Heap) (n0 : Nat) (Z0 : n0 ≤ h0.size) (G0 : Exa Z h0 o0 "com/example/dehull/dehull/codec/BitWriter") (G1 : Fld Z h0 o0 "com/example/dehull/dehull/codec/BitWriter" "data" "[B" (.ref w_data)) (G2 : Fld Z h0 o0 "com/example/dehull/dehull/codec/BitWriter" "window" "J" (.long w_W)) (G3 : Fld Z h0 o0 "com/example/dehull/dehull/codec/BitWriter" "windowBits" "I" (.int w_b)) (G4 : Fld Z h0 o0 "com/example/dehull/dehull/codec/BitWriter" "nextByte" "I" (.int w_n)) (G5 : own_Ar Z h0 w_data k_d .byte z_d Value.int (0 : Int32) xs) (g_o0 : n0 ≤ o0) (g_w_data : n0 ≤ w_data) (ne_w_data_o0 : w_data ≠ o0) (hb0 : 0 ≤ w_b.toInt ∧ 0 ≤ p2.toInt ∧ w_b.toInt + p2.toInt < 72) (hn : 0 ≤ w_n.toInt ∧ w_n.toInt + (w_b.toInt + p2.toInt) / 8 ≤ z_d.toInt) :
    MetFree l (⟨"com/example/dehull/dehull/codec/BitWriter", "writeBits", "(JI)V"⟩ : MethodName) (head1 (Jvm.Cond.code (⟨"com/example/dehull/dehull/codec/BitWriter", "writeBits", "(JI)V"⟩ : MethodName) prog_27_method_3_code 4 none :: ws) ({ frames := 0, cells := 0, slots := 0, locals := 0 } : Room)) (fun a U => a = #[(.ref o0), (.long q1), (.int p2)] ∧ Z.Warmed39 U.vm ∧ U.heap = h0) (fun _ _ _ _ _ => True) (fun _ U o U' => ∃ v L, o = .returned v ∧ Q3 Z o0 q1 p2 w_data k_d z_d xs w_W w_b w_n h0 n0 v U'.heap L ∧ FrameEnd U o U' L ({ frames := 0, cells := 0, slots := 0, locals := 0 } : Room).cells ({ frames := 0, cells := 0, slots := 0, locals := 0 } : Room).slots) := by
  refine MetFree.of_bodySF (plainFor_of_name pn_3) hisR ?_
  intro p e s m args below meth c s₁ Bd hml0 hP hK
  obtain ⟨rfl, hZ, hh⟩ := hP
  have hx := Bd.exec
  have hby := Bd.bytes
  have hml : c.maxLocals = 4 := hml0
  have hown : s.vm.findClass "com/example/dehull/dehull/codec/BitWriter" = some m.cls := findClass_of_methodNamed Bd.named
  have hnm := (name_of_methodNamed Bd.named Bd.method).1
  have X0 : Stand p l e ({ frames := 0, cells := 0, slots := 0, locals := 0 } : Room) s m #[(.ref o0), (.long q1), (.int p2)] below meth c s₁ [] 0 0 := Stand.of_body Bd
  have e0 : s₁.heap = h0 := by rw [← hh, Bd.state]; rfl
  have N0 := Fr.nil n0
  refine own_in (ef_3 m o0 q1 p2) ?_
  have K0 := Keep.refl h0 [o0, w_data]
  have loop : ∀ (f : Nat) (T : State) (locs : List Loc) (h : Heap) (cW : Int64) (cb cn : Int32) (cxs : List Int32), Stand p l e ({ frames := 0, cells := 0, slots := 0, locals := 0 } : Room) s m #[(.ref o0), (.long q1), (.int p2)] below meth c T locs 0 0 → T.heap = h → Fr n0 locs → Keep h0 h [o0, w_data] → Exa Z h o0 "com/example/dehull/dehull/codec/BitWriter" → Fld Z h o0 "com/example/dehull/dehull/codec/BitWriter" "data" "[B" (.ref w_data) → Fld Z h o0 "com/example/dehull/dehull/codec/BitWriter" "window" "J" (.long cW) → Fld Z h o0 "com/example/dehull/dehull/codec/BitWriter" "windowBits" "I" (.int cb) → Fld Z h o0 "com/example/dehull/dehull/codec/BitWriter" "nextByte" "I" (.int cn) → own_Ar Z h w_data k_d .byte z_d Value.int (0 : Int32) cxs → 0 ≤ cb.toInt → cb.toInt < 8 * (f : Int) + 8 → (0 ≤ cn.toInt ∧ cn.toInt + cb.toInt / 8 ≤ z_d.toInt) → own_wl f cW cb cn cxs = (own_wl 8 (w_W ||| (q1 <<< (w_b &&& 0x3f).toInt64)) (w_b + p2) w_n xs) → own_Fin p e below s ({ frames := 0, cells := 0, slots := 0, locals := 0 } : Room).cells ({ frames := 0, cells := 0, slots := 0, locals := 0 } : Room).slots (Q3 Z o0 q1 p2 w_data k_d z_d xs w_W w_b w_n h0 n0) T (mkF m 25 #[.val (.ref o0), .val (.long q1), .second, .val (.int p2)] []) := by
    intro f
    induction f with
    | zero =>
      intro T1 locs1 h1 cW cb cn cxs X1 e1 N1 K1 fE fD fW fb fn fV b0 b1 bn hr
      have hr1 := (own_wl_zero cW cb cn cxs).symm.trans hr
      refine own_st (g' := (mkF m 26 #[.val (.ref o0), .val (.long q1), .second, .val (.int p2)] [(.ref o0)])) (fun t k => XS.aloadN X1.here hx rfl (hb hby d3_25) rfl rfl k) ?_
      obtain ⟨T1, X1, e1, st1⟩ := getF X1 hx hZ hown (host := "") (Or.inl (hw _ (List.mem_of_getElem? (i := 20) rfl))) Via.refl e1 fb (g := (mkF m 26 #[.val (.ref o0), .val (.long q1), .second, .val (.int p2)] [(.ref o0)])) rfl rfl (hb hby d3_26)
      refine own_st (g' := (mkF m 29 #[.val (.ref o0), .val (.long q1), .second, .val (.int p2)] [(.int cb)])) (fun t k => st1 t k) ?_
      refine own_st (g' := (mkF m 31 #[.val (.ref o0), .val (.long q1), .second, .val (.int p2)] [(.int (8 : Int32)), (.int cb)])) (fun t k => XS.bipush X1.here hx rfl (hb hby d3_29) k) ?_
      have hc31_2 : cb < (8 : Int32) := own_lt8 (by omega)
      refine own_st (g' := (mkF m 84 #[.val (.ref o0), .val (.long q1), .second, .val (.int p2)] [])) (fun t k => XS.icmpYes X1.here hx rfl (pc0 := 31) (pc' := 84) rfl (hb hby d3_31) rfl (tlt hc31_2).1 (by decide) (by decide) k) ?_
      exact own_retV X1 hx Bd.returns Bd.notSynchronized (hb hby d3_84) (by rw [e1]; exact ⟨rfl, N1, K1, fE, fD, (by rw [← hr1]; exact fW), (by rw [← hr1]; exact fb), (by rw [← hr1]; exact fn), (by rw [← hr1]; exact fV)⟩) (by decide) (by decide)
    | succ f ih =>
      intro T1 locs1 h1 cW cb cn cxs X1 e1 N1 K1 fE fD fW fb fn fV b0 b1 bn hr
      have hr1 := (own_wl_succ f cW cb cn cxs).symm.trans hr
      refine own_st (g' := (mkF m 26 #[.val (.ref o0), .val (.long q1), .second, .val (.int p2)] [(.ref o0)])) (fun t k => XS.aloadN X1.here hx rfl (hb hby d3_25) rfl rfl k) ?_
      obtain ⟨T3, X3, e3, st3⟩ := getF X1 hx hZ hown (host := "") (Or.inl (hw _ (List.mem_of_getElem? (i := 20) rfl))) Via.refl e1 fb (g := (mkF m 26 #[.val (.ref o0), .val (.long q1), .second, .val (.int p2)] [(.ref o0)])) rfl rfl (hb hby d3_26)
      refine own_st (g' := (mkF m 29 #[.val (.ref o0), .val (.long q1), .second, .val (.int p2)] [(.int cb)])) (fun t k => st3 t k) ?_
      refine own_st (g' := (mkF m 31 #[.val (.ref o0), .val (.long q1), .second, .val (.int p2)] [(.int (8 : Int32)), (.int cb)])) (fun t k => XS.bipush X3.here hx rfl (hb hby d3_29) k) ?_
      by_cases hc31_4 : cb < (8 : Int32)
      · have hr5 := (if_pos hc31_4).symm.trans hr1
        refine own_st (g' := (mkF m 84 #[.val (.ref o0), .val (.long q1), .second, .val (.int p2)] [])) (fun t k => XS.icmpYes X3.here hx rfl (pc0 := 31) (pc' := 84) rfl (hb hby d3_31) rfl (tlt hc31_4).1 (by decide) (by decide) k) ?_
        exact own_retV X3 hx Bd.returns Bd.notSynchronized (hb hby d3_84) (by rw [e3]; exact ⟨rfl, N1, K1, fE, fD, (by rw [← hr5]; exact fW), (by rw [← hr5]; exact fb), (by rw [← hr5]; exact fn), (by rw [← hr5]; exact fV)⟩) (by decide) (by decide)
      · have hr6 := (if_neg hc31_4).symm.trans hr1
        refine own_st (g' := (mkF m 34 #[.val (.ref o0), .val (.long q1), .second, .val (.int p2)] [])) (fun t k => XS.icmpNo X3.here hx rfl (hb hby d3_31) rfl (flt hc31_4).1 k) ?_
        refine own_st (g' := (mkF m 35 #[.val (.ref o0), .val (.long q1), .second, .val (.int p2)] [(.ref o0)])) (fun t k => XS.aloadN X3.here hx rfl (hb hby d3_34) rfl rfl k) ?_
        obtain ⟨T7, X7, e7, st7⟩ := getF X3 hx hZ hown (host := "") (Or.inl (hw _ (List.mem_of_getElem? (i := 11) rfl))) Via.refl e3 fD (g := (mkF m 35 #[.val (.ref o0), .val (.long q1), .second, .val (.int p2)] [(.ref o0)])) rfl rfl (hb hby d3_35)
        refine own_st (g' := (mkF m 38 #[.val (.ref o0), .val (.long q1), .second, .val (.int p2)] [(.ref w_data)])) (fun t k => st7 t k) ?_
        refine own_st (g' := (mkF m 39 #[.val (.ref o0), .val (.long q1), .second, .val (.int p2)] [(.ref o0), (.ref w_data)])) (fun t k => XS.aloadN X7.here hx rfl (hb hby d3_38) rfl rfl k) ?_
        obtain ⟨T8, X8, e8, st8⟩ := getF X7 hx hZ hown (host := "") (Or.inl (hw _ (List.mem_of_getElem? (i := 27) rfl))) Via.refl e7 fn (g := (mkF m 39 #[.val (.ref o0), .val (.long q1), .second, .val (.int p2)] [(.ref o0), (.ref w_data)])) rfl rfl (hb hby d3_39)
        refine own_st (g' := (mkF m 42 #[.val (.ref o0), .val (.long q1), .second, .val (.int p2)] [(.int cn), (.ref w_data)])) (fun t k => st8 t k) ?_
        refine own_st (g' := (mkF m 43 #[.val (.ref o0), .val (.long q1), .second, .val (.int p2)] [(.ref o0), (.int cn), (.ref w_data)])) (fun t k => XS.aloadN X8.here hx rfl (hb hby d3_42) rfl rfl k) ?_
        obtain ⟨T9, X9, e9, st9⟩ := getF X8 hx hZ hown (host := "") (Or.inl (hw _ (List.mem_of_getElem? (i := 18) rfl))) Via.refl e8 fW (g := (mkF m 43 #[.val (.ref o0), .val (.long q1), .second, .val (.int p2)] [(.ref o0), (.int cn), (.ref w_data)])) rfl rfl (hb hby d3_43)
        refine own_st (g' := (mkF m 46 #[.val (.ref o0), .val (.long q1), .second, .val (.int p2)] [(.long cW), (.int cn), (.ref w_data)])) (fun t k => st9 t k) ?_
        refine own_st (g' := (mkF m 47 #[.val (.ref o0), .val (.long q1), .second, .val (.int p2)] [(.int ((cW).toInt32)), (.int cn), (.ref w_data)])) (fun t k => XS.l2i X9.here hx rfl (hb hby d3_46) rfl k) ?_
        refine own_st (g' := (mkF m 48 #[.val (.ref o0), .val (.long q1), .second, .val (.int p2)] [(.int ((((cW).toInt32)).toInt8.toInt32)), (.int cn), (.ref w_data)])) (fun t k => XS.i2b X9.here hx rfl (hb hby d3_47) rfl k) ?_
        obtain ⟨T10, h10, X10, e10, W10, V10, st10⟩ := own_bast X9 hx hZ e9 fV (j := cn) (own_ixn bn.1 bn.2 b0 hc31_4) (g := (mkF m 48 #[.val (.ref o0), .val (.long q1), .second, .val (.int p2)] [(.int ((((cW).toInt32)).toInt8.toInt32)), (.int cn), (.ref w_data)])) rfl rfl (hb hby d3_48)
        replace V10 : own_Ar Z h10 w_data k_d .byte z_d Value.int (0 : Int32) (cxs.set (cn).toNatClampNeg (nar .byte ((((cW).toInt32)).toInt8.toInt32))) := V10
        have N10 := Fr.snoc X10 N1 g_w_data
        have K11 : Keep h0 h10 [o0, w_data] := K1.wr W10 (Or.inl (List.mem_of_getElem? (i := 1) rfl))
        refine own_st (g' := (mkF m 49 #[.val (.ref o0), .val (.long q1), .second, .val (.int p2)] [])) (fun t k => st10 t k) ?_
        refine own_st (g' := (mkF m 50 #[.val (.ref o0), .val (.long q1), .second, .val (.int p2)] [(.ref o0)])) (fun t k => XS.aloadN X10.here hx rfl (hb hby d3_49) rfl rfl k) ?_
        refine own_st (g' := (mkF m 51 #[.val (.ref o0), .val (.long q1), .second, .val (.int p2)] [(.ref o0), (.ref o0)])) (fun t k => XS.dup X10.here hx rfl (hb hby d3_50) rfl rfl k) ?_
        have f12 := (fn.other W10 (Or.inl (Ne.symm ne_w_data_o0)))
        obtain ⟨T13, X13, e13, st13⟩ := getF X10 hx hZ hown (host := "") (Or.inl (hw _ (List.mem_of_getElem? (i := 27) rfl))) Via.refl e10 f12 (g := (mkF m 51 #[.val (.ref o0), .val (.long q1), .second, .val (.int p2)] [(.ref o0), (.ref o0)])) rfl rfl (hb hby d3_51)
        refine own_st (g' := (mkF m 54 #[.val (.ref o0), .val (.long q1), .second, .val (.int p2)] [(.int cn), (.ref o0)])) (fun t k => st13 t k) ?_
        refine own_st (g' := (mkF m 55 #[.val (.ref o0), .val (.long q1), .second, .val (.int p2)] [(.int (1 : Int32)), (.int cn), (.ref o0)])) (fun t k => XS.iconst X13.here hx rfl (hb hby d3_54) k) ?_
        refine own_st (g' := (mkF m 56 #[.val (.ref o0), .val (.long q1), .second, .val (.int p2)] [(.int (cn + (1 : Int32))), (.ref o0)])) (fun t k => XS.iadd X13.here hx rfl (hb hby d3_55) rfl k) ?_
        have f14 := (fE.wr W10)
        obtain ⟨T15, h15, X15, e15, W15, st15⟩ := putF X13 hx hZ hown (host := "") (Or.inl (hw _ (List.mem_of_getElem? (i := 27) rfl))) Via.refl e13 f12 f14 (Or.inl (hw _ (List.mem_of_getElem? (i := 28) rfl))) (hw _ (List.mem_of_getElem? (i := 2) rfl)) (ty := .int) (by decide) rfl rfl (g := (mkF m 56 #[.val (.ref o0), .val (.long q1), .second, .val (.int p2)] [(.int (cn + (1 : Int32))), (.ref o0)])) rfl rfl (hb hby d3_56)
        have F15 := f12.same W15
        have N15 := Fr.snoc X15 N10 g_o0
        have K16 : Keep h0 h15 [o0, w_data] := K11.wr W15 (Or.inl (List.mem_of_getElem? (i := 0) rfl))
        refine own_st (g' := (mkF m 59 #[.val (.ref o0), .val (.long q1), .second, .val (.int p2)] [])) (fun t k => st15 t k) ?_
        refine own_st (g' := (mkF m 60 #[.val (.ref o0), .val (.long q1), .second, .val (.int p2)] [(.ref o0)])) (fun t k => XS.aloadN X15.here hx rfl (hb hby d3_59) rfl rfl k) ?_
        refine own_st (g' := (mkF m 61 #[.val (.ref o0), .val (.long q1), .second, .val (.int p2)] [(.ref o0), (.ref o0)])) (fun t k => XS.dup X15.here hx rfl (hb hby d3_60) rfl rfl k) ?_
        have f17 := ((fW.other W10 (Or.inl (Ne.symm ne_w_data_o0))).other W15 (Or.inr (slot_ne (Or.inl (hw _ (List.mem_of_getElem? (i := 19) rfl))) (Or.inl (hw _ (List.mem_of_getElem? (i := 28) rfl))) (by decide) (t := .long) (t' := .int) (by decide) (by decide))))
        obtain ⟨T18, X18, e18, st18⟩ := getF X15 hx hZ hown (host := "") (Or.inl (hw _ (List.mem_of_getElem? (i := 18) rfl))) Via.refl e15 f17 (g := (mkF m 61 #[.val (.ref o0), .val (.long q1), .second, .val (.int p2)] [(.ref o0), (.ref o0)])) rfl rfl (hb hby d3_61)
        refine own_st (g' := (mkF m 64 #[.val (.ref o0), .val (.long q1), .second, .val (.int p2)] [(.long cW), (.ref o0)])) (fun t k => st18 t k) ?_
        refine own_st (g' := (mkF m 66 #[.val (.ref o0), .val (.long q1), .second, .val (.int p2)] [(.int (8 : Int32)), (.long cW), (.ref o0)])) (fun t k => XS.bipush X18.here hx rfl (hb hby d3_64) k) ?_
        refine own_st (g' := (mkF m 67 #[.val (.ref o0), .val (.long q1), .second, .val (.int p2)] [(.long (((cW).toUInt64 >>> ((8 : Int32) &&& 0x3f).toInt64.toUInt64).toInt64)), (.ref o0)])) (fun t k => XS.lushr X18.here hx rfl (hb hby d3_66) rfl k) ?_
        have f19 := (f14.wr W15)
        obtain ⟨T20, h20, X20, e20, W20, st20⟩ := putF X18 hx hZ hown (host := "") (Or.inl (hw _ (List.mem_of_getElem? (i := 18) rfl))) Via.refl e18 f17 f19 (Or.inl (hw _ (List.mem_of_getElem? (i := 19) rfl))) (hw _ (List.mem_of_getElem? (i := 2) rfl)) (ty := .long) (by decide) rfl rfl (g := (mkF m 67 #[.val (.ref o0), .val (.long q1), .second, .val (.int p2)] [(.long (((cW).toUInt64 >>> ((8 : Int32) &&& 0x3f).toInt64.toUInt64).toInt64)), (.ref o0)])) rfl rfl (hb hby d3_67)
        have F20 := f17.same W20
        have N20 := Fr.snoc X20 N15 g_o0
        have K21 : Keep h0 h20 [o0, w_data] := K16.wr W20 (Or.inl (List.mem_of_getElem? (i := 0) rfl))
        refine own_st (g' := (mkF m 70 #[.val (.ref o0), .val (.long q1), .second, .val (.int p2)] [])) (fun t k => st20 t k) ?_
        refine own_st (g' := (mkF m 71 #[.val (.ref o0), .val (.long q1), .second, .val (.int p2)] [(.ref o0)])) (fun t k => XS.aloadN X20.here hx rfl (hb hby d3_70) rfl rfl k) ?_
        refine own_st (g' := (mkF m 72 #[.val (.ref o0), .val (.long q1), .second, .val (.int p2)] [(.ref o0), (.ref o0)])) (fun t k => XS.dup X20.here hx rfl (hb hby d3_71) rfl rfl k) ?_
        have f22 := (((fb.other W10 (Or.inl (Ne.symm ne_w_data_o0))).other W15 (Or.inr (slot_ne (Or.inl (hw _ (List.mem_of_getElem? (i := 21) rfl))) (Or.inl (hw _ (List.mem_of_getElem? (i := 28) rfl))) (by decide) (t := .int) (t' := .int) (by decide) (by decide)))).other W20 (Or.inr (slot_ne (Or.inl (hw _ (List.mem_of_getElem? (i := 21) rfl))) (Or.inl (hw _ (List.mem_of_getElem? (i := 19) rfl))) (by decide) (t := .int) (t' := .long) (by decide) (by decide))))
        obtain ⟨T23, X23, e23, st23⟩ := getF X20 hx hZ hown (host := "") (Or.inl (hw _ (List.mem_of_getElem? (i := 20) rfl))) Via.refl e20 f22 (g := (mkF m 72 #[.val (.ref o0), .val (.long q1), .second, .val (.int p2)] [(.ref o0), (.ref o0)])) rfl rfl (hb hby d3_72)
        refine own_st (g' := (mkF m 75 #[.val (.ref o0), .val (.long q1), .second, .val (.int p2)] [(.int cb), (.ref o0)])) (fun t k => st23 t k) ?_
        refine own_st (g' := (mkF m 77 #[.val (.ref o0), .val (.long q1), .second, .val (.int p2)] [(.int (8 : Int32)), (.int cb), (.ref o0)])) (fun t k => XS.bipush X23.here hx rfl (hb hby d3_75) k) ?_
        refine own_st (g' := (mkF m 78 #[.val (.ref o0), .val (.long q1), .second, .val (.int p2)] [(.int (cb - (8 : Int32))), (.ref o0)])) (fun t k => XS.isub X23.here hx rfl (hb hby d3_77) rfl k) ?_
        have f24 := (f19.wr W20)
        obtain ⟨T25, h25, X25, e25, W25, st25⟩ := putF X23 hx hZ hown (host := "") (Or.inl (hw _ (List.mem_of_getElem? (i := 20) rfl))) Via.refl e23 f22 f24 (Or.inl (hw _ (List.mem_of_getElem? (i := 21) rfl))) (hw _ (List.mem_of_getElem? (i := 2) rfl)) (ty := .int) (by decide) rfl rfl (g := (mkF m 78 #[.val (.ref o0), .val (.long q1), .second, .val (.int p2)] [(.int (cb - (8 : Int32))), (.ref o0)])) rfl rfl (hb hby d3_78)
        have F25 := f22.same W25
        have N25 := Fr.snoc X25 N20 g_o0
        have K26 : Keep h0 h25 [o0, w_data] := K21.wr W25 (Or.inl (List.mem_of_getElem? (i := 0) rfl))
        refine own_st (g' := (mkF m 81 #[.val (.ref o0), .val (.long q1), .second, .val (.int p2)] [])) (fun t k => st25 t k) ?_
        refine own_st (g' := (mkF m 25 #[.val (.ref o0), .val (.long q1), .second, .val (.int p2)] [])) (fun t k => XS.goto X25.here hx rfl (pc0 := 81) (pc' := 25) rfl (hb hby d3_81) (by decide) (by decide) k) ?_
        have f27 := (f24.wr W25)
        have f28 := ((((fD.other W10 (Or.inl (Ne.symm ne_w_data_o0))).other W15 (Or.inr (slot_ne (Or.inr (hw _ (List.mem_of_getElem? (i := 12) rfl))) (Or.inl (hw _ (List.mem_of_getElem? (i := 28) rfl))) (by decide) (t := (.array .byte)) (t' := .int) (by decide) (by decide)))).other W20 (Or.inr (slot_ne (Or.inr (hw _ (List.mem_of_getElem? (i := 12) rfl))) (Or.inl (hw _ (List.mem_of_getElem? (i := 19) rfl))) (by decide) (t := (.array .byte)) (t' := .long) (by decide) (by decide)))).other W25 (Or.inr (slot_ne (Or.inr (hw _ (List.mem_of_getElem? (i := 12) rfl))) (Or.inl (hw _ (List.mem_of_getElem? (i := 21) rfl))) (by decide) (t := (.array .byte)) (t' := .int) (by decide) (by decide))))
        have f29 := (F20.other W25 (Or.inr (slot_ne (Or.inl (hw _ (List.mem_of_getElem? (i := 19) rfl))) (Or.inl (hw _ (List.mem_of_getElem? (i := 21) rfl))) (by decide) (t := .long) (t' := .int) (by decide) (by decide))))
        have f30 := ((F15.other W20 (Or.inr (slot_ne (Or.inl (hw _ (List.mem_of_getElem? (i := 28) rfl))) (Or.inl (hw _ (List.mem_of_getElem? (i := 19) rfl))) (by decide) (t := .int) (t' := .long) (by decide) (by decide)))).other W25 (Or.inr (slot_ne (Or.inl (hw _ (List.mem_of_getElem? (i := 28) rfl))) (Or.inl (hw _ (List.mem_of_getElem? (i := 21) rfl))) (by decide) (t := .int) (t' := .int) (by decide) (by decide))))
        have f31 := (((V10.other W15 ne_w_data_o0).other W20 ne_w_data_o0).other W25 ne_w_data_o0)
        have d1 := own_dec hc31_4
        have d2 := own_inc bn.1 (Int.lt_of_lt_of_le (own_lt1 hc31_4 b0) bn.2)
        have d3 := own_ge8 hc31_4
        exact ih T25 _ h25 (((cW).toUInt64 >>> ((8 : Int32) &&& 0x3f).toInt64.toUInt64).toInt64) (cb - (8 : Int32)) (cn + (1 : Int32)) (cxs.set (cn).toNatClampNeg (nar .byte ((((cW).toInt32)).toInt8.toInt32))) X25 e25 N25 K26 f27 f28 f29 F25 f30 f31 (by omega) (by omega) ⟨by omega, by omega⟩ hr6
  refine own_st (g' := (mkF m 1 #[.val (.ref o0), .val (.long q1), .second, .val (.int p2)] [(.ref o0)])) (fun t k => XS.aloadN X0.here hx rfl (hb hby d3_0) rfl rfl k) ?_
  refine own_st (g' := (mkF m 2 #[.val (.ref o0), .val (.long q1), .second, .val (.int p2)] [(.ref o0), (.ref o0)])) (fun t k => XS.dup X0.here hx rfl (hb hby d3_1) rfl rfl k) ?_
  obtain ⟨T32, X32, e32, st32⟩ := getF X0 hx hZ hown (host := "") (Or.inl (hw _ (List.mem_of_getElem? (i := 18) rfl))) Via.refl e0 G2 (g := (mkF m 2 #[.val (.ref o0), .val (.long q1), .second, .val (.int p2)] [(.ref o0), (.ref o0)])) rfl rfl (hb hby d3_2)
  refine own_st (g' := (mkF m 5 #[.val (.ref o0), .val (.long q1), .second, .val (.int p2)] [(.long w_W), (.ref o0)])) (fun t k => st32 t k) ?_
  refine own_st (g' := (mkF m 6 #[.val (.ref o0), .val (.long q1), .second, .val (.int p2)] [(.long q1), (.long w_W), (.ref o0)])) (fun t k => XS.lloadN X32.here hx rfl (hb hby d3_5) rfl  k) ?_
  refine own_st (g' := (mkF m 7 #[.val (.ref o0), .val (.long q1), .second, .val (.int p2)] [(.ref o0), (.long q1), (.long w_W), (.ref o0)])) (fun t k => XS.aloadN X32.here hx rfl (hb hby d3_6) rfl rfl k) ?_
  obtain ⟨T33, X33, e33, st33⟩ := getF X32 hx hZ hown (host := "") (Or.inl (hw _ (List.mem_of_getElem? (i := 20) rfl))) Via.refl e32 G3 (g := (mkF m 7 #[.val (.ref o0), .val (.long q1), .second, .val (.int p2)] [(.ref o0), (.long q1), (.long w_W), (.ref o0)])) rfl rfl (hb hby d3_7)
  refine own_st (g' := (mkF m 10 #[.val (.ref o0), .val (.long q1), .second, .val (.int p2)] [(.int w_b), (.long q1), (.long w_W), (.ref o0)])) (fun t k => st33 t k) ?_
  refine own_st (g' := (mkF m 11 #[.val (.ref o0), .val (.long q1), .second, .val (.int p2)] [(.long ((q1 <<< (w_b &&& 0x3f).toInt64))), (.long w_W), (.ref o0)])) (fun t k => XS.lshl X33.here hx rfl (hb hby d3_10) rfl k) ?_
  refine own_st (g' := (mkF m 12 #[.val (.ref o0), .val (.long q1), .second, .val (.int p2)] [(.long (w_W ||| ((q1 <<< (w_b &&& 0x3f).toInt64)))), (.ref o0)])) (fun t k => XS.lor X33.here hx rfl (hb hby d3_11) rfl k) ?_
  obtain ⟨T34, h34, X34, e34, W34, st34⟩ := putF X33 hx hZ hown (host := "") (Or.inl (hw _ (List.mem_of_getElem? (i := 18) rfl))) Via.refl e33 G2 G0 (Or.inl (hw _ (List.mem_of_getElem? (i := 19) rfl))) (hw _ (List.mem_of_getElem? (i := 2) rfl)) (ty := .long) (by decide) rfl rfl (g := (mkF m 12 #[.val (.ref o0), .val (.long q1), .second, .val (.int p2)] [(.long (w_W ||| ((q1 <<< (w_b &&& 0x3f).toInt64)))), (.ref o0)])) rfl rfl (hb hby d3_12)
  have F34 := G2.same W34
  have N34 := Fr.snoc X34 N0 g_o0
  have K35 : Keep h0 h34 [o0, w_data] := K0.wr W34 (Or.inl (List.mem_of_getElem? (i := 0) rfl))
  refine own_st (g' := (mkF m 15 #[.val (.ref o0), .val (.long q1), .second, .val (.int p2)] [])) (fun t k => st34 t k) ?_
  refine own_st (g' := (mkF m 16 #[.val (.ref o0), .val (.long q1), .second, .val (.int p2)] [(.ref o0)])) (fun t k => XS.aloadN X34.here hx rfl (hb hby d3_15) rfl rfl k) ?_
  refine own_st (g' := (mkF m 17 #[.val (.ref o0), .val (.long q1), .second, .val (.int p2)] [(.ref o0), (.ref o0)])) (fun t k => XS.dup X34.here hx rfl (hb hby d3_16) rfl rfl k) ?_
  have f36 := (G3.other W34 (Or.inr (slot_ne (Or.inl (hw _ (List.mem_of_getElem? (i := 21) rfl))) (Or.inl (hw _ (List.mem_of_getElem? (i := 19) rfl))) (by decide) (t := .int) (t' := .long) (by decide) (by decide))))
  obtain ⟨T37, X37, e37, st37⟩ := getF X34 hx hZ hown (host := "") (Or.inl (hw _ (List.mem_of_getElem? (i := 20) rfl))) Via.refl e34 f36 (g := (mkF m 17 #[.val (.ref o0), .val (.long q1), .second, .val (.int p2)] [(.ref o0), (.ref o0)])) rfl rfl (hb hby d3_17)
  refine own_st (g' := (mkF m 20 #[.val (.ref o0), .val (.long q1), .second, .val (.int p2)] [(.int w_b), (.ref o0)])) (fun t k => st37 t k) ?_
  refine own_st (g' := (mkF m 21 #[.val (.ref o0), .val (.long q1), .second, .val (.int p2)] [(.int p2), (.int w_b), (.ref o0)])) (fun t k => XS.iloadN X37.here hx rfl (hb hby d3_20) rfl  k) ?_
  refine own_st (g' := (mkF m 22 #[.val (.ref o0), .val (.long q1), .second, .val (.int p2)] [(.int (w_b + p2)), (.ref o0)])) (fun t k => XS.iadd X37.here hx rfl (hb hby d3_21) rfl k) ?_
  have f38 := (G0.wr W34)
  obtain ⟨T39, h39, X39, e39, W39, st39⟩ := putF X37 hx hZ hown (host := "") (Or.inl (hw _ (List.mem_of_getElem? (i := 20) rfl))) Via.refl e37 f36 f38 (Or.inl (hw _ (List.mem_of_getElem? (i := 21) rfl))) (hw _ (List.mem_of_getElem? (i := 2) rfl)) (ty := .int) (by decide) rfl rfl (g := (mkF m 22 #[.val (.ref o0), .val (.long q1), .second, .val (.int p2)] [(.int (w_b + p2)), (.ref o0)])) rfl rfl (hb hby d3_22)
  have F39 := f36.same W39
  have N39 := Fr.snoc X39 N34 g_o0
  have K40 : Keep h0 h39 [o0, w_data] := K35.wr W39 (Or.inl (List.mem_of_getElem? (i := 0) rfl))
  refine own_st (g' := (mkF m 25 #[.val (.ref o0), .val (.long q1), .second, .val (.int p2)] [])) (fun t k => st39 t k) ?_
  have f41 := (f38.wr W39)
  have f42 := ((G1.other W34 (Or.inr (slot_ne (Or.inr (hw _ (List.mem_of_getElem? (i := 12) rfl))) (Or.inl (hw _ (List.mem_of_getElem? (i := 19) rfl))) (by decide) (t := (.array .byte)) (t' := .long) (by decide) (by decide)))).other W39 (Or.inr (slot_ne (Or.inr (hw _ (List.mem_of_getElem? (i := 12) rfl))) (Or.inl (hw _ (List.mem_of_getElem? (i := 21) rfl))) (by decide) (t := (.array .byte)) (t' := .int) (by decide) (by decide))))
  have f43 := (F34.other W39 (Or.inr (slot_ne (Or.inl (hw _ (List.mem_of_getElem? (i := 19) rfl))) (Or.inl (hw _ (List.mem_of_getElem? (i := 21) rfl))) (by decide) (t := .long) (t' := .int) (by decide) (by decide))))
  have f44 := ((G4.other W34 (Or.inr (slot_ne (Or.inl (hw _ (List.mem_of_getElem? (i := 28) rfl))) (Or.inl (hw _ (List.mem_of_getElem? (i := 19) rfl))) (by decide) (t := .int) (t' := .long) (by decide) (by decide)))).other W39 (Or.inr (slot_ne (Or.inl (hw _ (List.mem_of_getElem? (i := 28) rfl))) (Or.inl (hw _ (List.mem_of_getElem? (i := 21) rfl))) (by decide) (t := .int) (t' := .int) (by decide) (by decide))))
  have f45 := ((G5.other W34 ne_w_data_o0).other W39 ne_w_data_o0)
  have d1 := own_addb hb0.1 hb0.2.1 hb0.2.2
  exact loop 8 T39 _ h39 (w_W ||| ((q1 <<< (w_b &&& 0x3f).toInt64))) (w_b + p2) w_n xs X39 e39 N39 K40 f41 f42 f43 F39 f44 f45 (by omega) (by omega) ⟨hn.1, by omega⟩ rfl
theorem d4_0 : decode prog_27_method_4_code 0 = .ok (.aload_n 0, 1) := by decide +kernel
theorem d4_1 : decode prog_27_method_4_code 1 = .ok (.getfield 27, 3) := by decide +kernel
theorem d4_4 : decode prog_27_method_4_code 4 = .ok (.ifCond .le 38, 3) := by decide +kernel
theorem d4_7 : decode prog_27_method_4_code 7 = .ok (.aload_n 0, 1) := by decide +kernel
theorem d4_8 : decode prog_27_method_4_code 8 = .ok (.getfield 7, 3) := by decide +kernel
theorem d4_11 : decode prog_27_method_4_code 11 = .ok (.aload_n 0, 1) := by decide +kernel
theorem d4_12 : decode prog_27_method_4_code 12 = .ok (.getfield 33, 3) := by decide +kernel
theorem d4_15 : decode prog_27_method_4_code 15 = .ok (.aload_n 0, 1) := by decide +kernel
theorem d4_16 : decode prog_27_method_4_code 16 = .ok (.getfield 23, 3) := by decide +kernel
theorem d4_19 : decode prog_27_method_4_code 19 = .ok (.l2i, 1) := by decide +kernel
theorem d4_20 : decode prog_27_method_4_code 20 = .ok (.i2b, 1) := by decide +kernel
theorem d4_21 : decode prog_27_method_4_code 21 = .ok (.bastore, 1) := by decide +kernel
theorem d4_22 : decode prog_27_method_4_code 22 = .ok (.aload_n 0, 1) := by decide +kernel
theorem d4_23 : decode prog_27_method_4_code 23 = .ok (.dup, 1) := by decide +kernel
theorem d4_24 : decode prog_27_method_4_code 24 = .ok (.getfield 33, 3) := by decide +kernel
theorem d4_27 : decode prog_27_method_4_code 27 = .ok (.iconst 1, 1) := by decide +kernel
theorem d4_28 : decode prog_27_method_4_code 28 = .ok (.iadd, 1) := by decide +kernel
theorem d4_29 : decode prog_27_method_4_code 29 = .ok (.putfield 33, 3) := by decide +kernel
theorem d4_32 : decode prog_27_method_4_code 32 = .ok (.aload_n 0, 1) := by decide +kernel
theorem d4_33 : decode prog_27_method_4_code 33 = .ok (.lconst 0, 1) := by decide +kernel
theorem d4_34 : decode prog_27_method_4_code 34 = .ok (.putfield 23, 3) := by decide +kernel
theorem d4_37 : decode prog_27_method_4_code 37 = .ok (.aload_n 0, 1) := by decide +kernel
theorem d4_38 : decode prog_27_method_4_code 38 = .ok (.iconst 0, 1) := by decide +kernel
theorem d4_39 : decode prog_27_method_4_code 39 = .ok (.putfield 27, 3) := by decide +kernel
theorem d4_42 : decode prog_27_method_4_code 42 = .ok (.aload_n 0, 1) := by decide +kernel
theorem d4_43 : decode prog_27_method_4_code 43 = .ok (.getfield 33, 3) := by decide +kernel
theorem d4_46 : decode prog_27_method_4_code 46 = .ok (.aload_n 0, 1) := by decide +kernel
theorem d4_47 : decode prog_27_method_4_code 47 = .ok (.getfield 7, 3) := by decide +kernel
theorem d4_50 : decode prog_27_method_4_code 50 = .ok (.arraylength, 1) := by decide +kernel
theorem d4_51 : decode prog_27_method_4_code 51 = .ok (.if_icmp .eq 25, 3) := by decide +kernel
theorem d4_76 : decode prog_27_method_4_code 76 = .ok (.aload_n 0, 1) := by decide +kernel
theorem d4_77 : decode prog_27_method_4_code 77 = .ok (.getfield 7, 3) := by decide +kernel
theorem d4_80 : decode prog_27_method_4_code 80 = .ok (.areturn, 1) := by decide +kernel
theorem pn_4 : plainName "com/example/dehull/dehull/codec/BitWriter" = true := by first | (simp [plainName, overriddenIn]; done) | decide +kernel
theorem ef_4 (m : MethodId) (x0 : Addr) : entryFrame m #[(.ref x0)] 1 = mkF m 0 #[.val (.ref x0)] [] := by first | (simp [entryFrame, mkF, argsToLocals, Value.category]; done) | rfl
def Q4 (Z : State) (o0 : Addr) (w_data : Addr) (k_d : ClassId) (z_d : Int32) (xs : List Int32) (w_W : Int64) (w_b : Int32) (w_n : Int32) (h0 : Heap) (n0 : Nat) (v : Option Value) (h : Heap) (L : List Loc) : Prop := v = some (.ref w_data) ∧ Fr n0 L ∧ Keep h0 h [o0, w_data] ∧ own_Ar Z h w_data k_d .byte z_d Value.int (0 : Int32) (own_fin w_W w_b w_n xs)
set_option maxRecDepth 65536 in
set_option maxHeartbeats 40000000 in
theorem rm4 (l : Launch) (Z : State) (a0 : Array Value) (hw : ∀ d ∈ tables_1, d.before a0 Z = true) (ws : List Jvm.Cond) (o0 : Addr) (w_data : Addr) (k_d : ClassId) (z_d : Int32) (xs : List Int32) (w_W : Int64) (w_b : Int32) (w_n : Int32) (h0 : Heap) (n0 : Nat) (Z0 : n0 ≤ h0.size) (G0 : Exa Z h0 o0 "com/example/dehull/dehull/codec/BitWriter") (G1 : Fld Z h0 o0 "com/example/dehull/dehull/codec/BitWriter" "data" "[B" (.ref w_data)) (G2 : Fld Z h0 o0 "com/example/dehull/dehull/codec/BitWriter" "window" "J" (.long w_W)) (G3 : Fld Z h0 o0 "com/example/dehull/dehull/codec/BitWriter" "windowBits" "I" (.int w_b)) (G4 : Fld Z h0 o0 "com/example/dehull/dehull/codec/BitWriter" "nextByte" "I" (.int w_n)) (G5 : own_Ar Z h0 w_data k_d .byte z_d Value.int (0 : Int32) xs) (g_o0 : n0 ≤ o0) (g_w_data : n0 ≤ w_data) (ne_w_data_o0 : w_data ≠ o0) (hfin : (if (0 : Int32) < w_b then w_n + (1 : Int32) else w_n) = z_d) (hif : (0 : Int32) < w_b → ¬ w_n < 0 ∧ w_n < z_d) :
    MetFree l (⟨"com/example/dehull/dehull/codec/BitWriter", "finish", "()[B"⟩ : MethodName) (head1 (Jvm.Cond.code (⟨"com/example/dehull/dehull/codec/BitWriter", "finish", "()[B"⟩ : MethodName) prog_27_method_4_code 1 (some (.array .byte)) :: ws) ({ frames := 0, cells := 0, slots := 0, locals := 0 } : Room)) (fun a U => a = #[(.ref o0)] ∧ Z.Warmed39 U.vm ∧ U.heap = h0) (fun _ _ _ _ _ => True) (fun _ U o U' => ∃ v L, o = .returned v ∧ Q4 Z o0 w_data k_d z_d xs w_W w_b w_n h0 n0 v U'.heap L ∧ FrameEnd U o U' L ({ frames := 0, cells := 0, slots := 0, locals := 0 } : Room).cells ({ frames := 0, cells := 0, slots := 0, locals := 0 } : Room).slots) := by
  refine MetFree.of_bodySF (plainFor_of_name pn_4) hisR ?_
  intro p e s m args below meth c s₁ Bd hml0 hP hK
  obtain ⟨rfl, hZ, hh⟩ := hP
  have hx := Bd.exec
  have hby := Bd.bytes
  have hml : c.maxLocals = 1 := hml0
  have hown : s.vm.findClass "com/example/dehull/dehull/codec/BitWriter" = some m.cls := findClass_of_methodNamed Bd.named
  have hnm := (name_of_methodNamed Bd.named Bd.method).1
  have X0 : Stand p l e ({ frames := 0, cells := 0, slots := 0, locals := 0 } : Room) s m #[(.ref o0)] below meth c s₁ [] 0 0 := Stand.of_body Bd
  have e0 : s₁.heap = h0 := by rw [← hh, Bd.state]; rfl
  have N0 := Fr.nil n0
  refine own_in (ef_4 m o0) ?_
  have K0 := Keep.refl h0 [o0, w_data]
  refine own_st (g' := (mkF m 1 #[.val (.ref o0)] [(.ref o0)])) (fun t k => XS.aloadN X0.here hx rfl (hb hby d4_0) rfl rfl k) ?_
  obtain ⟨T1, X1, e1, st1⟩ := getF X0 hx hZ hown (host := "") (Or.inl (hw _ (List.mem_of_getElem? (i := 20) rfl))) Via.refl e0 G3 (g := (mkF m 1 #[.val (.ref o0)] [(.ref o0)])) rfl rfl (hb hby d4_1)
  refine own_st (g' := (mkF m 4 #[.val (.ref o0)] [(.int w_b)])) (fun t k => st1 t k) ?_
  by_cases hc4_2 : (0 : Int32) < w_b
  · refine own_st (g' := (mkF m 7 #[.val (.ref o0)] [])) (fun t k => XS.ifNo X1.here hx rfl (hb hby d4_4) rfl ((if0 _ _).trans (tlt hc4_2).2.2.2) k) ?_
    refine own_st (g' := (mkF m 8 #[.val (.ref o0)] [(.ref o0)])) (fun t k => XS.aloadN X1.here hx rfl (hb hby d4_7) rfl rfl k) ?_
    obtain ⟨T3, X3, e3, st3⟩ := getF X1 hx hZ hown (host := "") (Or.inl (hw _ (List.mem_of_getElem? (i := 11) rfl))) Via.refl e1 G1 (g := (mkF m 8 #[.val (.ref o0)] [(.ref o0)])) rfl rfl (hb hby d4_8)
    refine own_st (g' := (mkF m 11 #[.val (.ref o0)] [(.ref w_data)])) (fun t k => st3 t k) ?_
    refine own_st (g' := (mkF m 12 #[.val (.ref o0)] [(.ref o0), (.ref w_data)])) (fun t k => XS.aloadN X3.here hx rfl (hb hby d4_11) rfl rfl k) ?_
    obtain ⟨T4, X4, e4, st4⟩ := getF X3 hx hZ hown (host := "") (Or.inl (hw _ (List.mem_of_getElem? (i := 27) rfl))) Via.refl e3 G4 (g := (mkF m 12 #[.val (.ref o0)] [(.ref o0), (.ref w_data)])) rfl rfl (hb hby d4_12)
    refine own_st (g' := (mkF m 15 #[.val (.ref o0)] [(.int w_n), (.ref w_data)])) (fun t k => st4 t k) ?_
    refine own_st (g' := (mkF m 16 #[.val (.ref o0)] [(.ref o0), (.int w_n), (.ref w_data)])) (fun t k => XS.aloadN X4.here hx rfl (hb hby d4_15) rfl rfl k) ?_
    obtain ⟨T5, X5, e5, st5⟩ := getF X4 hx hZ hown (host := "") (Or.inl (hw _ (List.mem_of_getElem? (i := 18) rfl))) Via.refl e4 G2 (g := (mkF m 16 #[.val (.ref o0)] [(.ref o0), (.int w_n), (.ref w_data)])) rfl rfl (hb hby d4_16)
    refine own_st (g' := (mkF m 19 #[.val (.ref o0)] [(.long w_W), (.int w_n), (.ref w_data)])) (fun t k => st5 t k) ?_
    refine own_st (g' := (mkF m 20 #[.val (.ref o0)] [(.int ((w_W).toInt32)), (.int w_n), (.ref w_data)])) (fun t k => XS.l2i X5.here hx rfl (hb hby d4_19) rfl k) ?_
    refine own_st (g' := (mkF m 21 #[.val (.ref o0)] [(.int ((((w_W).toInt32)).toInt8.toInt32)), (.int w_n), (.ref w_data)])) (fun t k => XS.i2b X5.here hx rfl (hb hby d4_20) rfl k) ?_
    obtain ⟨T6, h6, X6, e6, W6, V6, st6⟩ := own_bast X5 hx hZ e5 G5 (j := w_n) (hif hc4_2) (g := (mkF m 21 #[.val (.ref o0)] [(.int ((((w_W).toInt32)).toInt8.toInt32)), (.int w_n), (.ref w_data)])) rfl rfl (hb hby d4_21)
    replace V6 : own_Ar Z h6 w_data k_d .byte z_d Value.int (0 : Int32) (xs.set (w_n).toNatClampNeg (nar .byte ((((w_W).toInt32)).toInt8.toInt32))) := V6
    have N6 := Fr.snoc X6 N0 g_w_data
    have K7 : Keep h0 h6 [o0, w_data] := K0.wr W6 (Or.inl (List.mem_of_getElem? (i := 1) rfl))
    refine own_st (g' := (mkF m 22 #[.val (.ref o0)] [])) (fun t k => st6 t k) ?_
    refine own_st (g' := (mkF m 23 #[.val (.ref o0)] [(.ref o0)])) (fun t k => XS.aloadN X6.here hx rfl (hb hby d4_22) rfl rfl k) ?_
    refine own_st (g' := (mkF m 24 #[.val (.ref o0)] [(.ref o0), (.ref o0)])) (fun t k => XS.dup X6.here hx rfl (hb hby d4_23) rfl rfl k) ?_
    have f8 := (G4.other W6 (Or.inl (Ne.symm ne_w_data_o0)))
    obtain ⟨T9, X9, e9, st9⟩ := getF X6 hx hZ hown (host := "") (Or.inl (hw _ (List.mem_of_getElem? (i := 27) rfl))) Via.refl e6 f8 (g := (mkF m 24 #[.val (.ref o0)] [(.ref o0), (.ref o0)])) rfl rfl (hb hby d4_24)
    refine own_st (g' := (mkF m 27 #[.val (.ref o0)] [(.int w_n), (.ref o0)])) (fun t k => st9 t k) ?_
    refine own_st (g' := (mkF m 28 #[.val (.ref o0)] [(.int (1 : Int32)), (.int w_n), (.ref o0)])) (fun t k => XS.iconst X9.here hx rfl (hb hby d4_27) k) ?_
    refine own_st (g' := (mkF m 29 #[.val (.ref o0)] [(.int (w_n + (1 : Int32))), (.ref o0)])) (fun t k => XS.iadd X9.here hx rfl (hb hby d4_28) rfl k) ?_
    have f10 := (G0.wr W6)
    obtain ⟨T11, h11, X11, e11, W11, st11⟩ := putF X9 hx hZ hown (host := "") (Or.inl (hw _ (List.mem_of_getElem? (i := 27) rfl))) Via.refl e9 f8 f10 (Or.inl (hw _ (List.mem_of_getElem? (i := 28) rfl))) (hw _ (List.mem_of_getElem? (i := 2) rfl)) (ty := .int) (by decide) rfl rfl (g := (mkF m 29 #[.val (.ref o0)] [(.int (w_n + (1 : Int32))), (.ref o0)])) rfl rfl (hb hby d4_29)
    have F11 := f8.same W11
    have N11 := Fr.snoc X11 N6 g_o0
    have K12 : Keep h0 h11 [o0, w_data] := K7.wr W11 (Or.inl (List.mem_of_getElem? (i := 0) rfl))
    refine own_st (g' := (mkF m 32 #[.val (.ref o0)] [])) (fun t k => st11 t k) ?_
    refine own_st (g' := (mkF m 33 #[.val (.ref o0)] [(.ref o0)])) (fun t k => XS.aloadN X11.here hx rfl (hb hby d4_32) rfl rfl k) ?_
    refine own_st (g' := (mkF m 34 #[.val (.ref o0)] [(.long (0 : Int64)), (.ref o0)])) (fun t k => XS.lconst X11.here hx rfl (hb hby d4_33) k) ?_
    have f13 := (f10.wr W11)
    have f14 := ((G2.other W6 (Or.inl (Ne.symm ne_w_data_o0))).other W11 (Or.inr (slot_ne (Or.inl (hw _ (List.mem_of_getElem? (i := 19) rfl))) (Or.inl (hw _ (List.mem_of_getElem? (i := 28) rfl))) (by decide) (t := .long) (t' := .int) (by decide) (by decide))))
    obtain ⟨T15, h15, X15, e15, W15, st15⟩ := putF X11 hx hZ hown (host := "") (Or.inl (hw _ (List.mem_of_getElem? (i := 18) rfl))) Via.refl e11 f14 f13 (Or.inl (hw _ (List.mem_of_getElem? (i := 19) rfl))) (hw _ (List.mem_of_getElem? (i := 2) rfl)) (ty := .long) (by decide) rfl rfl (g := (mkF m 34 #[.val (.ref o0)] [(.long (0 : Int64)), (.ref o0)])) rfl rfl (hb hby d4_34)
    have F15 := f14.same W15
    have N15 := Fr.snoc X15 N11 g_o0
    have K16 : Keep h0 h15 [o0, w_data] := K12.wr W15 (Or.inl (List.mem_of_getElem? (i := 0) rfl))
    refine own_st (g' := (mkF m 37 #[.val (.ref o0)] [])) (fun t k => st15 t k) ?_
    refine own_st (g' := (mkF m 38 #[.val (.ref o0)] [(.ref o0)])) (fun t k => XS.aloadN X15.here hx rfl (hb hby d4_37) rfl rfl k) ?_
    refine own_st (g' := (mkF m 39 #[.val (.ref o0)] [(.int (0 : Int32)), (.ref o0)])) (fun t k => XS.iconst X15.here hx rfl (hb hby d4_38) k) ?_
    have f17 := (f13.wr W15)
    have f18 := (((G3.other W6 (Or.inl (Ne.symm ne_w_data_o0))).other W11 (Or.inr (slot_ne (Or.inl (hw _ (List.mem_of_getElem? (i := 21) rfl))) (Or.inl (hw _ (List.mem_of_getElem? (i := 28) rfl))) (by decide) (t := .int) (t' := .int) (by decide) (by decide)))).other W15 (Or.inr (slot_ne (Or.inl (hw _ (List.mem_of_getElem? (i := 21) rfl))) (Or.inl (hw _ (List.mem_of_getElem? (i := 19) rfl))) (by decide) (t := .int) (t' := .long) (by decide) (by decide))))
    obtain ⟨T19, h19, X19, e19, W19, st19⟩ := putF X15 hx hZ hown (host := "") (Or.inl (hw _ (List.mem_of_getElem? (i := 20) rfl))) Via.refl e15 f18 f17 (Or.inl (hw _ (List.mem_of_getElem? (i := 21) rfl))) (hw _ (List.mem_of_getElem? (i := 2) rfl)) (ty := .int) (by decide) rfl rfl (g := (mkF m 39 #[.val (.ref o0)] [(.int (0 : Int32)), (.ref o0)])) rfl rfl (hb hby d4_39)
    have F19 := f18.same W19
    have N19 := Fr.snoc X19 N15 g_o0
    have K20 : Keep h0 h19 [o0, w_data] := K16.wr W19 (Or.inl (List.mem_of_getElem? (i := 0) rfl))
    refine own_st (g' := (mkF m 42 #[.val (.ref o0)] [])) (fun t k => st19 t k) ?_
    refine own_st (g' := (mkF m 43 #[.val (.ref o0)] [(.ref o0)])) (fun t k => XS.aloadN X19.here hx rfl (hb hby d4_42) rfl rfl k) ?_
    have f21 := ((F11.other W15 (Or.inr (slot_ne (Or.inl (hw _ (List.mem_of_getElem? (i := 28) rfl))) (Or.inl (hw _ (List.mem_of_getElem? (i := 19) rfl))) (by decide) (t := .int) (t' := .long) (by decide) (by decide)))).other W19 (Or.inr (slot_ne (Or.inl (hw _ (List.mem_of_getElem? (i := 28) rfl))) (Or.inl (hw _ (List.mem_of_getElem? (i := 21) rfl))) (by decide) (t := .int) (t' := .int) (by decide) (by decide))))
    obtain ⟨T22, X22, e22, st22⟩ := getF X19 hx hZ hown (host := "") (Or.inl (hw _ (List.mem_of_getElem? (i := 27) rfl))) Via.refl e19 f21 (g := (mkF m 43 #[.val (.ref o0)] [(.ref o0)])) rfl rfl (hb hby d4_43)
    refine own_st (g' := (mkF m 46 #[.val (.ref o0)] [(.int (w_n + (1 : Int32)))])) (fun t k => st22 t k) ?_
    refine own_st (g' := (mkF m 47 #[.val (.ref o0)] [(.ref o0), (.int (w_n + (1 : Int32)))])) (fun t k => XS.aloadN X22.here hx rfl (hb hby d4_46) rfl rfl k) ?_
    have f23 := ((((G1.other W6 (Or.inl (Ne.symm ne_w_data_o0))).other W11 (Or.inr (slot_ne (Or.inr (hw _ (List.mem_of_getElem? (i := 12) rfl))) (Or.inl (hw _ (List.mem_of_getElem? (i := 28) rfl))) (by decide) (t := (.array .byte)) (t' := .int) (by decide) (by decide)))).other W15 (Or.inr (slot_ne (Or.inr (hw _ (List.mem_of_getElem? (i := 12) rfl))) (Or.inl (hw _ (List.mem_of_getElem? (i := 19) rfl))) (by decide) (t := (.array .byte)) (t' := .long) (by decide) (by decide)))).other W19 (Or.inr (slot_ne (Or.inr (hw _ (List.mem_of_getElem? (i := 12) rfl))) (Or.inl (hw _ (List.mem_of_getElem? (i := 21) rfl))) (by decide) (t := (.array .byte)) (t' := .int) (by decide) (by decide))))
    obtain ⟨T24, X24, e24, st24⟩ := getF X22 hx hZ hown (host := "") (Or.inl (hw _ (List.mem_of_getElem? (i := 11) rfl))) Via.refl e22 f23 (g := (mkF m 47 #[.val (.ref o0)] [(.ref o0), (.int (w_n + (1 : Int32)))])) rfl rfl (hb hby d4_47)
    refine own_st (g' := (mkF m 50 #[.val (.ref o0)] [(.ref w_data), (.int (w_n + (1 : Int32)))])) (fun t k => st24 t k) ?_
    have f25 := (((V6.other W11 ne_w_data_o0).other W15 ne_w_data_o0).other W19 ne_w_data_o0)
    refine own_st (g' := (mkF m 51 #[.val (.ref o0)] [(.int z_d), (.int (w_n + (1 : Int32)))])) (fun t k => own_alen X24 hx hZ e24 f25 (g := (mkF m 50 #[.val (.ref o0)] [(.ref w_data), (.int (w_n + (1 : Int32)))])) rfl rfl (hb hby d4_50) t k) ?_
    have hc51_26 : (w_n + (1 : Int32)) = z_d := (if_pos hc4_2).symm.trans hfin
    refine own_st (g' := (mkF m 76 #[.val (.ref o0)] [])) (fun t k => XS.icmpYes X24.here hx rfl (pc0 := 51) (pc' := 76) rfl (hb hby d4_51) rfl (teq hc51_26).1 (by decide) (by decide) k) ?_
    refine own_st (g' := (mkF m 77 #[.val (.ref o0)] [(.ref o0)])) (fun t k => XS.aloadN X24.here hx rfl (hb hby d4_76) rfl rfl k) ?_
    obtain ⟨T27, X27, e27, st27⟩ := getF X24 hx hZ hown (host := "") (Or.inl (hw _ (List.mem_of_getElem? (i := 11) rfl))) Via.refl e24 f23 (g := (mkF m 77 #[.val (.ref o0)] [(.ref o0)])) rfl rfl (hb hby d4_77)
    refine own_st (g' := (mkF m 80 #[.val (.ref o0)] [(.ref w_data)])) (fun t k => st27 t k) ?_
    exact own_retA X27 hx Bd.returns Bd.notSynchronized rfl (hb hby d4_80) (by rw [e27]; exact ⟨rfl, N19, K20, (by rw [own_fin_eq, if_pos hc4_2]; exact f25)⟩) (by decide) (by decide)
  · refine own_st (g' := (mkF m 42 #[.val (.ref o0)] [])) (fun t k => XS.ifYes X1.here hx rfl (pc0 := 4) (pc' := 42) rfl (hb hby d4_4) rfl ((if0 _ _).trans (flt hc4_2).2.2.2) (by decide) (by decide) k) ?_
    refine own_st (g' := (mkF m 43 #[.val (.ref o0)] [(.ref o0)])) (fun t k => XS.aloadN X1.here hx rfl (hb hby d4_42) rfl rfl k) ?_
    obtain ⟨T28, X28, e28, st28⟩ := getF X1 hx hZ hown (host := "") (Or.inl (hw _ (List.mem_of_getElem? (i := 27) rfl))) Via.refl e1 G4 (g := (mkF m 43 #[.val (.ref o0)] [(.ref o0)])) rfl rfl (hb hby d4_43)
    refine own_st (g' := (mkF m 46 #[.val (.ref o0)] [(.int w_n)])) (fun t k => st28 t k) ?_
    refine own_st (g' := (mkF m 47 #[.val (.ref o0)] [(.ref o0), (.int w_n)])) (fun t k => XS.aloadN X28.here hx rfl (hb hby d4_46) rfl rfl k) ?_
    obtain ⟨T29, X29, e29, st29⟩ := getF X28 hx hZ hown (host := "") (Or.inl (hw _ (List.mem_of_getElem? (i := 11) rfl))) Via.refl e28 G1 (g := (mkF m 47 #[.val (.ref o0)] [(.ref o0), (.int w_n)])) rfl rfl (hb hby d4_47)
    refine own_st (g' := (mkF m 50 #[.val (.ref o0)] [(.ref w_data), (.int w_n)])) (fun t k => st29 t k) ?_
    refine own_st (g' := (mkF m 51 #[.val (.ref o0)] [(.int z_d), (.int w_n)])) (fun t k => own_alen X29 hx hZ e29 G5 (g := (mkF m 50 #[.val (.ref o0)] [(.ref w_data), (.int w_n)])) rfl rfl (hb hby d4_50) t k) ?_
    have hc51_30 : w_n = z_d := (if_neg hc4_2).symm.trans hfin
    refine own_st (g' := (mkF m 76 #[.val (.ref o0)] [])) (fun t k => XS.icmpYes X29.here hx rfl (pc0 := 51) (pc' := 76) rfl (hb hby d4_51) rfl (teq hc51_30).1 (by decide) (by decide) k) ?_
    refine own_st (g' := (mkF m 77 #[.val (.ref o0)] [(.ref o0)])) (fun t k => XS.aloadN X29.here hx rfl (hb hby d4_76) rfl rfl k) ?_
    obtain ⟨T31, X31, e31, st31⟩ := getF X29 hx hZ hown (host := "") (Or.inl (hw _ (List.mem_of_getElem? (i := 11) rfl))) Via.refl e29 G1 (g := (mkF m 77 #[.val (.ref o0)] [(.ref o0)])) rfl rfl (hb hby d4_77)
    refine own_st (g' := (mkF m 80 #[.val (.ref o0)] [(.ref w_data)])) (fun t k => st31 t k) ?_
    exact own_retA X31 hx Bd.returns Bd.notSynchronized rfl (hb hby d4_80) (by rw [e31]; exact ⟨rfl, N0, K0, (by rw [own_fin_eq, if_neg hc4_2]; exact G5)⟩) (by decide) (by decide)
def own_f5_27 (p1 : Int32) (q2 : Int64) (z_d : Int32) (xs : List Int32) (t0_27 : Int32) : Int32 := (nar .boolean t0_27)
theorem own_f5_27_eq (p1 : Int32) (q2 : Int64) (z_d : Int32) (xs : List Int32) (t0_27 : Int32) : own_f5_27 p1 q2 z_d xs t0_27 = (nar .boolean t0_27) := rfl
def own_F5 (p1 : Int32) (q2 : Int64) (z_d : Int32) (xs : List Int32) : Int32 := (if p1 < z_d then (if (xs.getD (p1).toNatClampNeg (0 : Int32)) = (((((((q2).toUInt64 >>> (((8 : Int32) * p1) &&& 0x3f).toInt64.toUInt64).toInt64)).toInt32)).toInt8.toInt32) then (own_f5_27 p1 q2 z_d xs (1 : Int32)) else (own_f5_27 p1 q2 z_d xs (0 : Int32))) else (nar .boolean (1 : Int32)))
theorem own_F5_eq (p1 : Int32) (q2 : Int64) (z_d : Int32) (xs : List Int32) : own_F5 p1 q2 z_d xs = (if p1 < z_d then (if (xs.getD (p1).toNatClampNeg (0 : Int32)) = (((((((q2).toUInt64 >>> (((8 : Int32) * p1) &&& 0x3f).toInt64.toUInt64).toInt64)).toInt32)).toInt8.toInt32) then (own_f5_27 p1 q2 z_d xs (1 : Int32)) else (own_f5_27 p1 q2 z_d xs (0 : Int32))) else (nar .boolean (1 : Int32))) := rfl
theorem d5_0 : decode method_3_code 0 = .ok (.iload_n 1, 1) := by decide +kernel
theorem d5_1 : decode method_3_code 1 = .ok (.aload_n 0, 1) := by decide +kernel
theorem d5_2 : decode method_3_code 2 = .ok (.arraylength, 1) := by decide +kernel
theorem d5_3 : decode method_3_code 3 = .ok (.if_icmp .lt 5, 3) := by decide +kernel
theorem d5_6 : decode method_3_code 6 = .ok (.iconst 1, 1) := by decide +kernel
theorem d5_7 : decode method_3_code 7 = .ok (.ireturn, 1) := by decide +kernel
theorem d5_8 : decode method_3_code 8 = .ok (.aload_n 0, 1) := by decide +kernel
theorem d5_9 : decode method_3_code 9 = .ok (.iload_n 1, 1) := by decide +kernel
theorem d5_10 : decode method_3_code 10 = .ok (.baload, 1) := by decide +kernel
theorem d5_11 : decode method_3_code 11 = .ok (.lload_n 2, 1) := by decide +kernel
theorem d5_12 : decode method_3_code 12 = .ok (.bipush 8, 2) := by decide +kernel
theorem d5_14 : decode method_3_code 14 = .ok (.iload_n 1, 1) := by decide +kernel
theorem d5_15 : decode method_3_code 15 = .ok (.imul, 1) := by decide +kernel
theorem d5_16 : decode method_3_code 16 = .ok (.lushr, 1) := by decide +kernel
theorem d5_17 : decode method_3_code 17 = .ok (.l2i, 1) := by decide +kernel
theorem d5_18 : decode method_3_code 18 = .ok (.i2b, 1) := by decide +kernel
theorem d5_19 : decode method_3_code 19 = .ok (.if_icmp .ne 7, 3) := by decide +kernel
theorem d5_22 : decode method_3_code 22 = .ok (.iconst 1, 1) := by decide +kernel
theorem d5_23 : decode method_3_code 23 = .ok (.goto 4, 3) := by decide +kernel
theorem d5_26 : decode method_3_code 26 = .ok (.iconst 0, 1) := by decide +kernel
theorem d5_27 : decode method_3_code 27 = .ok (.ireturn, 1) := by decide +kernel
theorem pn_5 : plainName "com/example/dehull/dehull/codec/BitWriterWriteBitsPinLaw" = true := by first | (simp [plainName, overriddenIn]; done) | decide +kernel
theorem ef_5 (m : MethodId) (x0 : Addr) (x1 : Int32) (x2 : Int64) : entryFrame m #[(.ref x0), (.int x1), (.long x2)] 4 = mkF m 0 #[.val (.ref x0), .val (.int x1), .val (.long x2), .second] [] := by first | (simp [entryFrame, mkF, argsToLocals, Value.category]; done) | rfl
def Q5 (Z : State) (o0 : Addr) (p1 : Int32) (q2 : Int64) (k_d : ClassId) (z_d : Int32) (xs : List Int32) (h0 : Heap) (n0 : Nat) (v : Option Value) (h : Heap) (L : List Loc) : Prop := v = some (.int (own_F5 p1 q2 z_d xs)) ∧ Fr n0 L ∧ h = h0
set_option maxRecDepth 65536 in
set_option maxHeartbeats 40000000 in
theorem rm5 (l : Launch) (Z : State) (a0 : Array Value) (hw : ∀ d ∈ tables_1, d.before a0 Z = true) (ws : List Jvm.Cond) (o0 : Addr) (p1 : Int32) (q2 : Int64) (k_d : ClassId) (z_d : Int32) (xs : List Int32) (h0 : Heap) (n0 : Nat) (Z0 : n0 ≤ h0.size) (V0 : own_Ar Z h0 o0 k_d .byte z_d Value.int (0 : Int32) xs) (hi : ¬ p1 < 0) :
    MetFree l (⟨"com/example/dehull/dehull/codec/BitWriterWriteBitsPinLaw", "at", "([BIJ)Z"⟩ : MethodName) (head1 (Jvm.Cond.code (⟨"com/example/dehull/dehull/codec/BitWriterWriteBitsPinLaw", "at", "([BIJ)Z"⟩ : MethodName) method_3_code 4 (some .boolean) :: ws) ({ frames := 0, cells := 0, slots := 0, locals := 0 } : Room)) (fun a U => a = #[(.ref o0), (.int p1), (.long q2)] ∧ Z.Warmed39 U.vm ∧ U.heap = h0) (fun _ _ _ _ _ => True) (fun _ U o U' => ∃ v L, o = .returned v ∧ Q5 Z o0 p1 q2 k_d z_d xs h0 n0 v U'.heap L ∧ FrameEnd U o U' L ({ frames := 0, cells := 0, slots := 0, locals := 0 } : Room).cells ({ frames := 0, cells := 0, slots := 0, locals := 0 } : Room).slots) := by
  refine MetFree.of_bodySF (plainFor_of_name pn_5) hisR ?_
  intro p e s m args below meth c s₁ Bd hml0 hP hK
  obtain ⟨rfl, hZ, hh⟩ := hP
  have hx := Bd.exec
  have hby := Bd.bytes
  have hml : c.maxLocals = 4 := hml0
  have hown : s.vm.findClass "com/example/dehull/dehull/codec/BitWriterWriteBitsPinLaw" = some m.cls := findClass_of_methodNamed Bd.named
  have hnm := (name_of_methodNamed Bd.named Bd.method).1
  have X0 : Stand p l e ({ frames := 0, cells := 0, slots := 0, locals := 0 } : Room) s m #[(.ref o0), (.int p1), (.long q2)] below meth c s₁ [] 0 0 := Stand.of_body Bd
  have e0 : s₁.heap = h0 := by rw [← hh, Bd.state]; rfl
  have N0 := Fr.nil n0
  refine own_in (ef_5 m o0 p1 q2) ?_
  have hr0 := (own_F5_eq p1 q2 z_d xs).symm
  refine own_st (g' := (mkF m 1 #[.val (.ref o0), .val (.int p1), .val (.long q2), .second] [(.int p1)])) (fun t k => XS.iloadN X0.here hx rfl (hb hby d5_0) rfl  k) ?_
  refine own_st (g' := (mkF m 2 #[.val (.ref o0), .val (.int p1), .val (.long q2), .second] [(.ref o0), (.int p1)])) (fun t k => XS.aloadN X0.here hx rfl (hb hby d5_1) rfl rfl k) ?_
  refine own_st (g' := (mkF m 3 #[.val (.ref o0), .val (.int p1), .val (.long q2), .second] [(.int z_d), (.int p1)])) (fun t k => own_alen X0 hx hZ e0 V0 (g := (mkF m 2 #[.val (.ref o0), .val (.int p1), .val (.long q2), .second] [(.ref o0), (.int p1)])) rfl rfl (hb hby d5_2) t k) ?_
  have J27 : ∀ (T : State) (locs : List Loc) (t0_27 : Int32), Stand p l e ({ frames := 0, cells := 0, slots := 0, locals := 0 } : Room) s m #[(.ref o0), (.int p1), (.long q2)] below meth c T locs 0 0 → T.heap = h0 → Fr n0 locs → own_f5_27 p1 q2 z_d xs t0_27 = own_F5 p1 q2 z_d xs → own_Fin p e below s ({ frames := 0, cells := 0, slots := 0, locals := 0 } : Room).cells ({ frames := 0, cells := 0, slots := 0, locals := 0 } : Room).slots (Q5 Z o0 p1 q2 k_d z_d xs h0 n0) T (mkF m 27 #[.val (.ref o0), .val (.int p1), .val (.long q2), .second] [(.int t0_27)]) := by
    intro T5 locs5 t0_27  X5 e5 N5 hr5
    have hr5a := (own_f5_27_eq (p1) (q2) (z_d) (xs) (t0_27)).symm.trans hr5
    exact own_retN (t := .boolean) X5 hx Bd.returns Bd.notSynchronized (by simp) (hb hby d5_27) ⟨congrArg (fun q => some (Value.int q)) hr5a, N5, e5⟩ (by decide) (by decide)
  by_cases hc3_6 : p1 < z_d
  · have hr7 := (if_pos hc3_6).symm.trans hr0
    refine own_st (g' := (mkF m 8 #[.val (.ref o0), .val (.int p1), .val (.long q2), .second] [])) (fun t k => XS.icmpYes X0.here hx rfl (pc0 := 3) (pc' := 8) rfl (hb hby d5_3) rfl (tlt hc3_6).1 (by decide) (by decide) k) ?_
    refine own_st (g' := (mkF m 9 #[.val (.ref o0), .val (.int p1), .val (.long q2), .second] [(.ref o0)])) (fun t k => XS.aloadN X0.here hx rfl (hb hby d5_8) rfl rfl k) ?_
    refine own_st (g' := (mkF m 10 #[.val (.ref o0), .val (.int p1), .val (.long q2), .second] [(.int p1), (.ref o0)])) (fun t k => XS.iloadN X0.here hx rfl (hb hby d5_9) rfl  k) ?_
    refine own_st (g' := (mkF m 11 #[.val (.ref o0), .val (.int p1), .val (.long q2), .second] [(.int (xs.getD (p1).toNatClampNeg (0 : Int32)))])) (fun t k => own_bald X0 hx hZ e0 V0 (j := p1) ⟨hi, hc3_6⟩ (g := (mkF m 10 #[.val (.ref o0), .val (.int p1), .val (.long q2), .second] [(.int p1), (.ref o0)])) rfl rfl (hb hby d5_10) t k) ?_
    refine own_st (g' := (mkF m 12 #[.val (.ref o0), .val (.int p1), .val (.long q2), .second] [(.long q2), (.int (xs.getD (p1).toNatClampNeg (0 : Int32)))])) (fun t k => XS.lloadN X0.here hx rfl (hb hby d5_11) rfl  k) ?_
    refine own_st (g' := (mkF m 14 #[.val (.ref o0), .val (.int p1), .val (.long q2), .second] [(.int (8 : Int32)), (.long q2), (.int (xs.getD (p1).toNatClampNeg (0 : Int32)))])) (fun t k => XS.bipush X0.here hx rfl (hb hby d5_12) k) ?_
    refine own_st (g' := (mkF m 15 #[.val (.ref o0), .val (.int p1), .val (.long q2), .second] [(.int p1), (.int (8 : Int32)), (.long q2), (.int (xs.getD (p1).toNatClampNeg (0 : Int32)))])) (fun t k => XS.iloadN X0.here hx rfl (hb hby d5_14) rfl  k) ?_
    refine own_st (g' := (mkF m 16 #[.val (.ref o0), .val (.int p1), .val (.long q2), .second] [(.int ((8 : Int32) * p1)), (.long q2), (.int (xs.getD (p1).toNatClampNeg (0 : Int32)))])) (fun t k => XS.imul X0.here hx rfl (hb hby d5_15) rfl k) ?_
    refine own_st (g' := (mkF m 17 #[.val (.ref o0), .val (.int p1), .val (.long q2), .second] [(.long (((q2).toUInt64 >>> (((8 : Int32) * p1) &&& 0x3f).toInt64.toUInt64).toInt64)), (.int (xs.getD (p1).toNatClampNeg (0 : Int32)))])) (fun t k => XS.lushr X0.here hx rfl (hb hby d5_16) rfl k) ?_
    refine own_st (g' := (mkF m 18 #[.val (.ref o0), .val (.int p1), .val (.long q2), .second] [(.int (((((q2).toUInt64 >>> (((8 : Int32) * p1) &&& 0x3f).toInt64.toUInt64).toInt64)).toInt32)), (.int (xs.getD (p1).toNatClampNeg (0 : Int32)))])) (fun t k => XS.l2i X0.here hx rfl (hb hby d5_17) rfl k) ?_
    refine own_st (g' := (mkF m 19 #[.val (.ref o0), .val (.int p1), .val (.long q2), .second] [(.int (((((((q2).toUInt64 >>> (((8 : Int32) * p1) &&& 0x3f).toInt64.toUInt64).toInt64)).toInt32)).toInt8.toInt32)), (.int (xs.getD (p1).toNatClampNeg (0 : Int32)))])) (fun t k => XS.i2b X0.here hx rfl (hb hby d5_18) rfl k) ?_
    by_cases hc19_8 : (xs.getD (p1).toNatClampNeg (0 : Int32)) = (((((((q2).toUInt64 >>> (((8 : Int32) * p1) &&& 0x3f).toInt64.toUInt64).toInt64)).toInt32)).toInt8.toInt32)
    · have hr9 := (if_pos hc19_8).symm.trans hr7
      refine own_st (g' := (mkF m 22 #[.val (.ref o0), .val (.int p1), .val (.long q2), .second] [])) (fun t k => XS.icmpNo X0.here hx rfl (hb hby d5_19) rfl (teq hc19_8).2 k) ?_
      refine own_st (g' := (mkF m 23 #[.val (.ref o0), .val (.int p1), .val (.long q2), .second] [(.int (1 : Int32))])) (fun t k => XS.iconst X0.here hx rfl (hb hby d5_22) k) ?_
      refine own_st (g' := (mkF m 27 #[.val (.ref o0), .val (.int p1), .val (.long q2), .second] [(.int (1 : Int32))])) (fun t k => XS.goto X0.here hx rfl (pc0 := 23) (pc' := 27) rfl (hb hby d5_23) (by decide) (by decide) k) ?_
      exact J27 s₁ _ (1 : Int32)  X0 e0 N0 hr9
    · have hr10 := (if_neg hc19_8).symm.trans hr7
      refine own_st (g' := (mkF m 26 #[.val (.ref o0), .val (.int p1), .val (.long q2), .second] [])) (fun t k => XS.icmpYes X0.here hx rfl (pc0 := 19) (pc' := 26) rfl (hb hby d5_19) rfl (feq hc19_8).2 (by decide) (by decide) k) ?_
      refine own_st (g' := (mkF m 27 #[.val (.ref o0), .val (.int p1), .val (.long q2), .second] [(.int (0 : Int32))])) (fun t k => XS.iconst X0.here hx rfl (hb hby d5_26) k) ?_
      exact J27 s₁ _ (0 : Int32)  X0 e0 N0 hr10
  · have hr11 := (if_neg hc3_6).symm.trans hr0
    refine own_st (g' := (mkF m 6 #[.val (.ref o0), .val (.int p1), .val (.long q2), .second] [])) (fun t k => XS.icmpNo X0.here hx rfl (hb hby d5_3) rfl (flt hc3_6).1 k) ?_
    refine own_st (g' := (mkF m 7 #[.val (.ref o0), .val (.int p1), .val (.long q2), .second] [(.int (1 : Int32))])) (fun t k => XS.iconst X0.here hx rfl (hb hby d5_6) k) ?_
    exact own_retN (t := .boolean) X0 hx Bd.returns Bd.notSynchronized (by simp) (hb hby d5_7) ⟨congrArg (fun q => some (Value.int q)) hr11, N0, e0⟩ (by decide) (by decide)
def own_w0_7 (q0 : Int64) (p1 : Int32) (q2 : Int64) (p3 : Int32) : Int32 := ((p1 &&& (2147483647 : Int32)) % (33 : Int32))
theorem own_w0_7_eq (q0 : Int64) (p1 : Int32) (q2 : Int64) (p3 : Int32) : own_w0_7 q0 p1 q2 p3 = ((p1 &&& (2147483647 : Int32)) % (33 : Int32)) := rfl
def own_w0_17 (q0 : Int64) (p1 : Int32) (q2 : Int64) (p3 : Int32) : Int32 := ((p3 &&& (2147483647 : Int32)) % (33 : Int32))
theorem own_w0_17_eq (q0 : Int64) (p1 : Int32) (q2 : Int64) (p3 : Int32) : own_w0_17 q0 p1 q2 p3 = ((p3 &&& (2147483647 : Int32)) % (33 : Int32)) := rfl
def own_w0_27 (q0 : Int64) (p1 : Int32) (q2 : Int64) (p3 : Int32) : Int64 := (q0 &&& ((((1 : Int64) <<< ((own_w0_7 q0 p1 q2 p3) &&& 0x3f).toInt64)) - (1 : Int64)))
theorem own_w0_27_eq (q0 : Int64) (p1 : Int32) (q2 : Int64) (p3 : Int32) : own_w0_27 q0 p1 q2 p3 = (q0 &&& ((((1 : Int64) <<< ((own_w0_7 q0 p1 q2 p3) &&& 0x3f).toInt64)) - (1 : Int64))) := rfl
def own_w0_37 (q0 : Int64) (p1 : Int32) (q2 : Int64) (p3 : Int32) : Int64 := (q2 &&& ((((1 : Int64) <<< ((own_w0_17 q0 p1 q2 p3) &&& 0x3f).toInt64)) - (1 : Int64)))
theorem own_w0_37_eq (q0 : Int64) (p1 : Int32) (q2 : Int64) (p3 : Int32) : own_w0_37 q0 p1 q2 p3 = (q2 &&& ((((1 : Int64) <<< ((own_w0_17 q0 p1 q2 p3) &&& 0x3f).toInt64)) - (1 : Int64))) := rfl
def own_w0_44 (q0 : Int64) (p1 : Int32) (q2 : Int64) (p3 : Int32) : Int32 := ((own_w0_7 q0 p1 q2 p3) + (own_w0_17 q0 p1 q2 p3))
theorem own_w0_44_eq (q0 : Int64) (p1 : Int32) (q2 : Int64) (p3 : Int32) : own_w0_44 q0 p1 q2 p3 = ((own_w0_7 q0 p1 q2 p3) + (own_w0_17 q0 p1 q2 p3)) := rfl
def own_w0_54 (q0 : Int64) (p1 : Int32) (q2 : Int64) (p3 : Int32) : Int32 := (((own_w0_44 q0 p1 q2 p3) + (7 : Int32)) / (8 : Int32))
theorem own_w0_54_eq (q0 : Int64) (p1 : Int32) (q2 : Int64) (p3 : Int32) : own_w0_54 q0 p1 q2 p3 = (((own_w0_44 q0 p1 q2 p3) + (7 : Int32)) / (8 : Int32)) := rfl
def own_w0_100 (q0 : Int64) (p1 : Int32) (q2 : Int64) (p3 : Int32) : Int64 := ((own_w0_27 q0 p1 q2 p3) ||| (((own_w0_37 q0 p1 q2 p3) <<< ((own_w0_7 q0 p1 q2 p3) &&& 0x3f).toInt64)))
theorem own_w0_100_eq (q0 : Int64) (p1 : Int32) (q2 : Int64) (p3 : Int32) : own_w0_100 q0 p1 q2 p3 = ((own_w0_27 q0 p1 q2 p3) ||| (((own_w0_37 q0 p1 q2 p3) <<< ((own_w0_7 q0 p1 q2 p3) &&& 0x3f).toInt64))) := rfl
def own_s1 (q0 : Int64) (p1 : Int32) (q2 : Int64) (p3 : Int32) : Int64 × Int32 × Int32 × List Int32 := (own_wl 8 ((0 : Int64) ||| ((own_w0_27 q0 p1 q2 p3) <<< ((0 : Int32) &&& 0x3f).toInt64)) ((0 : Int32) + (own_w0_7 q0 p1 q2 p3)) (0 : Int32) (List.replicate ((own_w0_54 q0 p1 q2 p3)).toNatClampNeg (0 : Int32)))
def own_s2 (q0 : Int64) (p1 : Int32) (q2 : Int64) (p3 : Int32) : Int64 × Int32 × Int32 × List Int32 := (own_wl 8 ((own_s1 q0 p1 q2 p3).1 ||| ((own_w0_37 q0 p1 q2 p3) <<< ((own_s1 q0 p1 q2 p3).2.1 &&& 0x3f).toInt64)) ((own_s1 q0 p1 q2 p3).2.1 + (own_w0_17 q0 p1 q2 p3)) (own_s1 q0 p1 q2 p3).2.2.1 (own_s1 q0 p1 q2 p3).2.2.2)
def own_f0_207 (q0 : Int64) (p1 : Int32) (q2 : Int64) (p3 : Int32) (t0_207 : Int32) : Int32 := (nar .boolean t0_207)
theorem own_f0_207_eq (q0 : Int64) (p1 : Int32) (q2 : Int64) (p3 : Int32) (t0_207 : Int32) : own_f0_207 q0 p1 q2 p3 t0_207 = (nar .boolean t0_207) := rfl
def own_F0 (q0 : Int64) (p1 : Int32) (q2 : Int64) (p3 : Int32) : Int32 := (if (own_w0_54 q0 p1 q2 p3) = (own_w0_54 q0 p1 q2 p3) then (if (own_F5 (0 : Int32) (own_w0_100 q0 p1 q2 p3) (own_w0_54 q0 p1 q2 p3) (own_fin (own_s2 q0 p1 q2 p3).1 (own_s2 q0 p1 q2 p3).2.1 (own_s2 q0 p1 q2 p3).2.2.1 (own_s2 q0 p1 q2 p3).2.2.2)) = (0 : Int32) then (own_f0_207 q0 p1 q2 p3 (0 : Int32)) else (if (own_F5 (1 : Int32) (own_w0_100 q0 p1 q2 p3) (own_w0_54 q0 p1 q2 p3) (own_fin (own_s2 q0 p1 q2 p3).1 (own_s2 q0 p1 q2 p3).2.1 (own_s2 q0 p1 q2 p3).2.2.1 (own_s2 q0 p1 q2 p3).2.2.2)) = (0 : Int32) then (own_f0_207 q0 p1 q2 p3 (0 : Int32)) else (if (own_F5 (2 : Int32) (own_w0_100 q0 p1 q2 p3) (own_w0_54 q0 p1 q2 p3) (own_fin (own_s2 q0 p1 q2 p3).1 (own_s2 q0 p1 q2 p3).2.1 (own_s2 q0 p1 q2 p3).2.2.1 (own_s2 q0 p1 q2 p3).2.2.2)) = (0 : Int32) then (own_f0_207 q0 p1 q2 p3 (0 : Int32)) else (if (own_F5 (3 : Int32) (own_w0_100 q0 p1 q2 p3) (own_w0_54 q0 p1 q2 p3) (own_fin (own_s2 q0 p1 q2 p3).1 (own_s2 q0 p1 q2 p3).2.1 (own_s2 q0 p1 q2 p3).2.2.1 (own_s2 q0 p1 q2 p3).2.2.2)) = (0 : Int32) then (own_f0_207 q0 p1 q2 p3 (0 : Int32)) else (if (own_F5 (4 : Int32) (own_w0_100 q0 p1 q2 p3) (own_w0_54 q0 p1 q2 p3) (own_fin (own_s2 q0 p1 q2 p3).1 (own_s2 q0 p1 q2 p3).2.1 (own_s2 q0 p1 q2 p3).2.2.1 (own_s2 q0 p1 q2 p3).2.2.2)) = (0 : Int32) then (own_f0_207 q0 p1 q2 p3 (0 : Int32)) else (if (own_F5 (5 : Int32) (own_w0_100 q0 p1 q2 p3) (own_w0_54 q0 p1 q2 p3) (own_fin (own_s2 q0 p1 q2 p3).1 (own_s2 q0 p1 q2 p3).2.1 (own_s2 q0 p1 q2 p3).2.2.1 (own_s2 q0 p1 q2 p3).2.2.2)) = (0 : Int32) then (own_f0_207 q0 p1 q2 p3 (0 : Int32)) else (if (own_F5 (6 : Int32) (own_w0_100 q0 p1 q2 p3) (own_w0_54 q0 p1 q2 p3) (own_fin (own_s2 q0 p1 q2 p3).1 (own_s2 q0 p1 q2 p3).2.1 (own_s2 q0 p1 q2 p3).2.2.1 (own_s2 q0 p1 q2 p3).2.2.2)) = (0 : Int32) then (own_f0_207 q0 p1 q2 p3 (0 : Int32)) else (if (own_F5 (7 : Int32) (own_w0_100 q0 p1 q2 p3) (own_w0_54 q0 p1 q2 p3) (own_fin (own_s2 q0 p1 q2 p3).1 (own_s2 q0 p1 q2 p3).2.1 (own_s2 q0 p1 q2 p3).2.2.1 (own_s2 q0 p1 q2 p3).2.2.2)) = (0 : Int32) then (own_f0_207 q0 p1 q2 p3 (0 : Int32)) else (own_f0_207 q0 p1 q2 p3 (1 : Int32)))))))))) else (nar .boolean (0 : Int32)))
theorem own_F0_eq (q0 : Int64) (p1 : Int32) (q2 : Int64) (p3 : Int32) : own_F0 q0 p1 q2 p3 = (if (own_w0_54 q0 p1 q2 p3) = (own_w0_54 q0 p1 q2 p3) then (if (own_F5 (0 : Int32) (own_w0_100 q0 p1 q2 p3) (own_w0_54 q0 p1 q2 p3) (own_fin (own_s2 q0 p1 q2 p3).1 (own_s2 q0 p1 q2 p3).2.1 (own_s2 q0 p1 q2 p3).2.2.1 (own_s2 q0 p1 q2 p3).2.2.2)) = (0 : Int32) then (own_f0_207 q0 p1 q2 p3 (0 : Int32)) else (if (own_F5 (1 : Int32) (own_w0_100 q0 p1 q2 p3) (own_w0_54 q0 p1 q2 p3) (own_fin (own_s2 q0 p1 q2 p3).1 (own_s2 q0 p1 q2 p3).2.1 (own_s2 q0 p1 q2 p3).2.2.1 (own_s2 q0 p1 q2 p3).2.2.2)) = (0 : Int32) then (own_f0_207 q0 p1 q2 p3 (0 : Int32)) else (if (own_F5 (2 : Int32) (own_w0_100 q0 p1 q2 p3) (own_w0_54 q0 p1 q2 p3) (own_fin (own_s2 q0 p1 q2 p3).1 (own_s2 q0 p1 q2 p3).2.1 (own_s2 q0 p1 q2 p3).2.2.1 (own_s2 q0 p1 q2 p3).2.2.2)) = (0 : Int32) then (own_f0_207 q0 p1 q2 p3 (0 : Int32)) else (if (own_F5 (3 : Int32) (own_w0_100 q0 p1 q2 p3) (own_w0_54 q0 p1 q2 p3) (own_fin (own_s2 q0 p1 q2 p3).1 (own_s2 q0 p1 q2 p3).2.1 (own_s2 q0 p1 q2 p3).2.2.1 (own_s2 q0 p1 q2 p3).2.2.2)) = (0 : Int32) then (own_f0_207 q0 p1 q2 p3 (0 : Int32)) else (if (own_F5 (4 : Int32) (own_w0_100 q0 p1 q2 p3) (own_w0_54 q0 p1 q2 p3) (own_fin (own_s2 q0 p1 q2 p3).1 (own_s2 q0 p1 q2 p3).2.1 (own_s2 q0 p1 q2 p3).2.2.1 (own_s2 q0 p1 q2 p3).2.2.2)) = (0 : Int32) then (own_f0_207 q0 p1 q2 p3 (0 : Int32)) else (if (own_F5 (5 : Int32) (own_w0_100 q0 p1 q2 p3) (own_w0_54 q0 p1 q2 p3) (own_fin (own_s2 q0 p1 q2 p3).1 (own_s2 q0 p1 q2 p3).2.1 (own_s2 q0 p1 q2 p3).2.2.1 (own_s2 q0 p1 q2 p3).2.2.2)) = (0 : Int32) then (own_f0_207 q0 p1 q2 p3 (0 : Int32)) else (if (own_F5 (6 : Int32) (own_w0_100 q0 p1 q2 p3) (own_w0_54 q0 p1 q2 p3) (own_fin (own_s2 q0 p1 q2 p3).1 (own_s2 q0 p1 q2 p3).2.1 (own_s2 q0 p1 q2 p3).2.2.1 (own_s2 q0 p1 q2 p3).2.2.2)) = (0 : Int32) then (own_f0_207 q0 p1 q2 p3 (0 : Int32)) else (if (own_F5 (7 : Int32) (own_w0_100 q0 p1 q2 p3) (own_w0_54 q0 p1 q2 p3) (own_fin (own_s2 q0 p1 q2 p3).1 (own_s2 q0 p1 q2 p3).2.1 (own_s2 q0 p1 q2 p3).2.2.1 (own_s2 q0 p1 q2 p3).2.2.2)) = (0 : Int32) then (own_f0_207 q0 p1 q2 p3 (0 : Int32)) else (own_f0_207 q0 p1 q2 p3 (1 : Int32)))))))))) else (nar .boolean (0 : Int32))) := rfl
/-! ## The bits -/
theorem own_natI {x : Int32} {k : Nat} (h : x.toInt = k) : x.toBitVec.toNat = k := by
  have e : x.toBitVec.toInt = k := h
  rw [BitVec.toInt_eq_toNat_cond] at e
  have := x.toBitVec.isLt
  split at e <;> omega
theorem own_natL {x : Int64} {k : Nat} (h : x.toInt = k) : x.toBitVec.toNat = k := by
  have e : x.toBitVec.toInt = k := h
  rw [BitVec.toInt_eq_toNat_cond] at e
  have := x.toBitVec.isLt
  split at e <;> omega
theorem own_clamp {x : Int32} {k : Nat} (h : x.toInt = k) : x.toNatClampNeg = k := by
  simp only [Int32.toNatClampNeg, h]; rfl
/-- y is the byte of x -/
def own_isb (y : Int32) (x : Nat) : Prop := (y.toInt - (x : Int)) % 256 = 0 ∧ -128 ≤ y.toInt ∧ y.toInt < 128
theorem own_isb_uniq {y z : Int32} {x : Nat} (h1 : own_isb y x) (h2 : own_isb z x) : y = z := by
  obtain ⟨a1, a2, a3⟩ := h1; obtain ⟨b1, b2, b3⟩ := h2
  apply Int32.toInt_inj.mp; omega
theorem own_isb_mod {y : Int32} {x x' : Nat} (h : own_isb y x) (q : x % 256 = x' % 256) : own_isb y x' := by
  obtain ⟨a1, a2, a3⟩ := h; refine ⟨?_, a2, a3⟩; omega
theorem own_isb_of (W : Int64) (w : Nat) (h : (W.toInt - (w : Int)) % 18446744073709551616 = 0) : own_isb (W.toInt32.toInt8.toInt32) w := by
  have e1 := c_l2i W; have e2 := c_i2b W.toInt32
  refine ⟨?_, e2.2.1, e2.2.2⟩; omega
theorem own_isb_nar {y : Int32} {x : Nat} (h : own_isb y x) : own_isb (nar .byte y) x := by
  obtain ⟨a1, a2, a3⟩ := h; have e := c_i2b y
  show own_isb (y.toInt8.toInt32) x
  refine ⟨?_, e.2.1, e.2.2⟩; omega
theorem own_getset {xs : List Int32} {i : Nat} {v : Int32} (h : i < xs.length) : (xs.set i v).getD i 0 = v := by
  rw [List.getD_eq_getElem?_getD, List.getElem?_set_self h]; rfl
theorem own_getset' {xs : List Int32} {i j : Nat} {v : Int32} (h : i ≠ j) : (xs.set i v).getD j 0 = xs.getD j 0 := by
  rw [List.getD_eq_getElem?_getD, List.getD_eq_getElem?_getD, List.getElem?_set_ne h]
theorem own_run (f : Nat) : ∀ (W : Int64) (b n : Int32) (xs : List Int32) (w B K : Nat), W.toInt = w → b.toInt = B → n.toInt = K → B < 8 * f + 8 → K + B / 8 ≤ xs.length → xs.length < 1000 →
    (own_wl f W b n xs).1.toInt = ((w / 2 ^ (8 * (B / 8)) : Nat) : Int) ∧ (own_wl f W b n xs).2.1.toInt = ((B % 8 : Nat) : Int) ∧ (own_wl f W b n xs).2.2.1.toInt = ((K + B / 8 : Nat) : Int) ∧ (own_wl f W b n xs).2.2.2.length = xs.length ∧
    (∀ i, i < B / 8 → own_isb ((own_wl f W b n xs).2.2.2.getD (K + i) 0) (w / 2 ^ (8 * i))) ∧ (∀ i, i < K → (own_wl f W b n xs).2.2.2.getD i 0 = xs.getD i 0) := by
  induction f with
  | zero =>
    intro W b n xs w B K hW hb hn hB hK hl
    have h0 : B / 8 = 0 := by omega
    rw [own_wl_zero]
    refine ⟨by rw [h0]; simpa using hW, by rw [hb]; omega, by rw [hn, h0]; rfl, rfl, fun i hi => by omega, fun i _ => rfl⟩
  | succ f ih =>
    intro W b n xs w B K hW hb hn hB hK hl
    rw [own_wl_succ]
    by_cases q : b < (8 : Int32)
    · rw [if_pos q]
      have q' := Int32.lt_iff_toInt_lt.mp q
      rw [show (8 : Int32).toInt = 8 from by decide] at q'
      have h0 : B / 8 = 0 := by omega
      refine ⟨by rw [h0]; simpa using hW, by rw [hb]; omega, by rw [hn, h0]; rfl, rfl, fun i hi => by omega, fun i _ => rfl⟩
    · rw [if_neg q]
      have h8 := own_ge8 q
      have hdec := own_dec q
      have hinc : (n + (1 : Int32)).toInt = n.toInt + 1 := by
        have e := c_iadd n 1; have b1 := Int32.toInt_lt (n + 1); have b2 := Int32.le_toInt (n + 1)
        rw [show (1 : Int32).toInt = 1 from by decide] at e; omega
      have hsh := c_lushr W (8 : Int32) 8 (by decide) (by decide)
      have hb63 := Int64.toInt_lt W
      have hW' : ((W.toUInt64 >>> ((8 : Int32) &&& 0x3f).toInt64.toUInt64).toInt64).toInt = ((w / 256 : Nat) : Int) := by
        rw [hsh, hW]; omega
      have hcl : n.toNatClampNeg = K := own_clamp hn
      obtain ⟨i1, i2, i3, i4, i5, i6⟩ := ih _ _ _ (xs.set n.toNatClampNeg (nar .byte (W.toInt32.toInt8.toInt32))) (w / 256) (B - 8) (K + 1) hW' (by rw [hdec]; omega) (by rw [hinc]; omega) (by omega) (by rw [List.length_set]; omega) (by rw [List.length_set]; exact hl)
      have hB8 : B / 8 = (B - 8) / 8 + 1 := by omega
      have hpow : ∀ j, w / 256 / 2 ^ (8 * j) = w / 2 ^ (8 * (j + 1)) := fun j => by
        rw [Nat.div_div_eq_div_mul, show (256 : Nat) = 2 ^ 8 by decide, ← Nat.pow_add, show 8 + 8 * j = 8 * (j + 1) by omega]
      refine ⟨?_, ?_, ?_, ?_, ?_, ?_⟩
      · rw [i1, hpow, ← hB8]
      · rw [i2]; omega
      · rw [i3]; omega
      · rw [i4, List.length_set]
      · intro i hi
        rcases Nat.eq_zero_or_pos i with z | z
        · subst z
          have := i6 K (by omega)
          rw [Nat.add_zero, this, hcl, own_getset (by omega)]
          rw [Nat.mul_zero, Nat.pow_zero, Nat.div_one]
          exact own_isb_nar (own_isb_of W w (by rw [hW]; omega))
        · have := i5 (i - 1) (by omega)
          rw [hpow, show K + 1 + (i - 1) = K + i by omega, show i - 1 + 1 = i by omega] at this
          exact this
      · intro i hi
        rw [i6 i (by omega), hcl, own_getset' (by omega)]
theorem own_or {W m : Int64} {b : Int32} {w M B : Nat} (hW : W.toInt = w) (hm : m.toInt = M) (hb : b.toInt = B) (hB : B < 8) (hw : w < 2 ^ B) (hM : M < 4294967296) : (W ||| (m <<< (b &&& 0x3f).toInt64)).toInt = ((w + M * 2 ^ B : Nat) : Int) := by
  have e := c_lshl m b B (by rw [own_natI hb]; omega)
  have b1 := Int64.toInt_lt (m <<< (b &&& 0x3f).toInt64)
  have b2 := Int64.le_toInt (m <<< (b &&& 0x3f).toInt64)
  have hP : 2 ^ B ≤ 128 := by
    have : 2 ^ B ≤ 2 ^ 7 := Nat.pow_le_pow_right (by decide) (by omega)
    omega
  have hMP : M * 2 ^ B ≤ 4294967295 * 128 := Nat.mul_le_mul (by omega) hP
  rw [hm, ← Int.natCast_mul] at e
  have es : (m <<< (b &&& 0x3f).toInt64).toInt = ((M * 2 ^ B : Nat) : Int) := by
    generalize M * 2 ^ B = A at *
    omega
  have f := c_orL' W (m <<< (b &&& 0x3f).toInt64) B (by omega) ((2 ^ B : Nat) : Int) rfl (by rw [es, Int.natCast_mul]; exact Int.mul_emod_left _ _) (by rw [hW]; exact Int.natCast_nonneg _) (by rw [hW]; exact Int.ofNat_lt.mpr hw)
  have b3 := Int64.toInt_lt (W ||| (m <<< (b &&& 0x3f).toInt64))
  have b4 := Int64.le_toInt (W ||| (m <<< (b &&& 0x3f).toInt64))
  rw [es, hW] at f
  generalize M * 2 ^ B = A at *
  omega
section OwnNums
variable (q0 : Int64) (p1 : Int32) (q2 : Int64) (p3 : Int32)
theorem own_rem33 (x : Int32) : ∃ k : Nat, k ≤ 32 ∧ ((x &&& (2147483647 : Int32)) % (33 : Int32)).toInt = k := by
  have e1 := c_mask x (2147483647 : Int32) 31 (by decide) (by decide)
  have e2 := (c_irem (x &&& (2147483647 : Int32)) (33 : Int32) 33 (by decide)).1 (by omega)
  exact ⟨((x &&& (2147483647 : Int32)) % (33 : Int32)).toInt.toNat, by omega, by omega⟩
theorem own_low (x : Int64) (c : Int32) (k : Nat) (hc : c.toInt = k) (hk : k ≤ 32) : ∃ M : Nat, M < 2 ^ k ∧ (x &&& (((1 : Int64) <<< (c &&& 0x3f).toInt64) - (1 : Int64))).toInt = M := by
  have hP : 1 ≤ 2 ^ k ∧ 2 ^ k ≤ 4294967296 := ⟨Nat.one_le_two_pow, by rw [show (4294967296 : Nat) = 2 ^ 32 by decide]; exact Nat.pow_le_pow_right (by decide) hk⟩
  have e := c_lshl (1 : Int64) c k (by rw [own_natI hc]; omega)
  have b1 := Int64.toInt_lt ((1 : Int64) <<< (c &&& 0x3f).toInt64)
  have b2 := Int64.le_toInt ((1 : Int64) <<< (c &&& 0x3f).toInt64)
  rw [show (1 : Int64).toInt = 1 from by decide, Int.one_mul] at e
  have e2 := c_lsub ((1 : Int64) <<< (c &&& 0x3f).toInt64) (1 : Int64)
  have b3 := Int64.toInt_lt (((1 : Int64) <<< (c &&& 0x3f).toInt64) - (1 : Int64))
  have b4 := Int64.le_toInt (((1 : Int64) <<< (c &&& 0x3f).toInt64) - (1 : Int64))
  rw [show (1 : Int64).toInt = 1 from by decide] at e2
  have em : (((1 : Int64) <<< (c &&& 0x3f).toInt64) - (1 : Int64)).toInt = ((2 ^ k - 1 : Nat) : Int) := by omega
  have ea := c_maskL x (((1 : Int64) <<< (c &&& 0x3f).toInt64) - (1 : Int64)) k (by omega) (own_natL em)
  have r1 := Int.emod_nonneg x.toInt (show ((2 ^ k : Nat) : Int) ≠ 0 by omega)
  have r2 := Int.emod_lt_of_pos x.toInt (show (0 : Int) < ((2 ^ k : Nat) : Int) by omega)
  exact ⟨(x.toInt % ((2 ^ k : Nat) : Int)).toNat, by omega, by rw [ea]; omega⟩
theorem own_facts : ∃ c1 c2 M1 M2 : Nat, c1 ≤ 32 ∧ c2 ≤ 32 ∧ M1 < 2 ^ c1 ∧ M2 < 2 ^ c2 ∧ (own_w0_7 q0 p1 q2 p3).toInt = c1 ∧ (own_w0_17 q0 p1 q2 p3).toInt = c2 ∧ (own_w0_27 q0 p1 q2 p3).toInt = M1 ∧ (own_w0_37 q0 p1 q2 p3).toInt = M2 ∧ (own_w0_54 q0 p1 q2 p3).toInt = (((c1 + c2 + 7) / 8 : Nat) : Int) := by
  obtain ⟨c1, h1, e1⟩ := own_rem33 p1
  obtain ⟨c2, h2, e2⟩ := own_rem33 p3
  have e1' : (own_w0_7 q0 p1 q2 p3).toInt = c1 := e1
  have e2' : (own_w0_17 q0 p1 q2 p3).toInt = c2 := e2
  obtain ⟨M1, g1, f1⟩ := own_low q0 _ c1 e1' h1
  obtain ⟨M2, g2, f2⟩ := own_low q2 _ c2 e2' h2
  refine ⟨c1, c2, M1, M2, h1, h2, g1, g2, e1', e2', f1, f2, ?_⟩
  have a1 := c_iadd (own_w0_7 q0 p1 q2 p3) (own_w0_17 q0 p1 q2 p3)
  have b1 := Int32.toInt_lt (own_w0_7 q0 p1 q2 p3 + own_w0_17 q0 p1 q2 p3)
  have b2 := Int32.le_toInt (own_w0_7 q0 p1 q2 p3 + own_w0_17 q0 p1 q2 p3)
  have a2 := c_iadd (own_w0_44 q0 p1 q2 p3) (7 : Int32)
  have b3 := Int32.toInt_lt (own_w0_44 q0 p1 q2 p3 + (7 : Int32))
  have b4 := Int32.le_toInt (own_w0_44 q0 p1 q2 p3 + (7 : Int32))
  rw [show (7 : Int32).toInt = 7 from by decide] at a2
  have e44 : (own_w0_44 q0 p1 q2 p3).toInt = c1 + c2 := by
    show (own_w0_7 q0 p1 q2 p3 + own_w0_17 q0 p1 q2 p3).toInt = _; omega
  have a3 := (c_idiv (own_w0_44 q0 p1 q2 p3 + (7 : Int32)) (8 : Int32) 8 (by decide) (by decide)).1 (by omega)
  show ((own_w0_44 q0 p1 q2 p3 + (7 : Int32)) / (8 : Int32)).toInt = _
  rw [a3]; omega
theorem own_sz0 : ¬ own_w0_54 q0 p1 q2 p3 < 0 := fun z => by
  obtain ⟨c1, c2, M1, M2, h1, h2, -, -, -, -, -, -, e⟩ := own_facts q0 p1 q2 p3
  have := Int32.lt_iff_toInt_lt.mp z; rw [e, show (0 : Int32).toInt = 0 from rfl] at this; omega
theorem own_sz8 : (own_w0_54 q0 p1 q2 p3).toNatClampNeg ≤ 8 := by
  obtain ⟨c1, c2, M1, M2, h1, h2, -, -, -, -, -, -, e⟩ := own_facts q0 p1 q2 p3
  rw [own_clamp e]; omega
theorem own_pa : 0 ≤ (0 : Int32).toInt ∧ 0 ≤ (own_w0_7 q0 p1 q2 p3).toInt ∧ (0 : Int32).toInt + (own_w0_7 q0 p1 q2 p3).toInt < 72 := by
  obtain ⟨c1, c2, M1, M2, h1, h2, -, -, e1, -, -, -, e⟩ := own_facts q0 p1 q2 p3
  rw [e1, show (0 : Int32).toInt = 0 from rfl]; omega
theorem own_pb : 0 ≤ (0 : Int32).toInt ∧ (0 : Int32).toInt + ((0 : Int32).toInt + (own_w0_7 q0 p1 q2 p3).toInt) / 8 ≤ (own_w0_54 q0 p1 q2 p3).toInt := by
  obtain ⟨c1, c2, M1, M2, h1, h2, -, -, e1, -, -, -, e⟩ := own_facts q0 p1 q2 p3
  rw [e1, e, show (0 : Int32).toInt = 0 from rfl]; omega
theorem own_two : ∃ c1 c2 M1 M2 : Nat, c1 ≤ 32 ∧ c2 ≤ 32 ∧ M1 < 2 ^ c1 ∧ M2 < 2 ^ c2 ∧ (own_w0_7 q0 p1 q2 p3).toInt = c1 ∧ (own_w0_17 q0 p1 q2 p3).toInt = c2 ∧ (own_w0_27 q0 p1 q2 p3).toInt = M1 ∧ (own_w0_37 q0 p1 q2 p3).toInt = M2 ∧ (own_w0_54 q0 p1 q2 p3).toInt = (((c1 + c2 + 7) / 8 : Nat) : Int) ∧
    (own_s1 q0 p1 q2 p3).2.1.toInt = ((c1 % 8 : Nat) : Int) ∧ (own_s1 q0 p1 q2 p3).2.2.1.toInt = ((c1 / 8 : Nat) : Int) ∧
    (own_s2 q0 p1 q2 p3).1.toInt = (((M1 + M2 * 2 ^ c1) / 2 ^ (8 * ((c1 + c2) / 8)) : Nat) : Int) ∧ (own_s2 q0 p1 q2 p3).2.1.toInt = (((c1 + c2) % 8 : Nat) : Int) ∧ (own_s2 q0 p1 q2 p3).2.2.1.toInt = (((c1 + c2) / 8 : Nat) : Int) ∧ (own_s2 q0 p1 q2 p3).2.2.2.length = (c1 + c2 + 7) / 8 ∧
    (∀ i, i < (c1 + c2) / 8 → own_isb ((own_s2 q0 p1 q2 p3).2.2.2.getD i 0) ((M1 + M2 * 2 ^ c1) / 2 ^ (8 * i))) := by
  obtain ⟨c1, c2, M1, M2, h1, h2, g1, g2, e1, e2, f1, f2, e⟩ := own_facts q0 p1 q2 p3
  have hP1 : 2 ^ c1 ≤ 4294967296 := by rw [show (4294967296 : Nat) = 2 ^ 32 by decide]; exact Nat.pow_le_pow_right (by decide) h1
  have hP2 : 2 ^ c2 ≤ 4294967296 := by rw [show (4294967296 : Nat) = 2 ^ 32 by decide]; exact Nat.pow_le_pow_right (by decide) h2
  -- the first write
  have w1 := own_or (W := (0 : Int64)) (m := own_w0_27 q0 p1 q2 p3) (b := (0 : Int32)) (w := 0) (M := M1) (B := 0) (by decide) f1 (by decide) (by decide) (by decide) (by omega)
  rw [Nat.pow_zero, Nat.mul_one, Nat.zero_add] at w1
  have hb1 : ((0 : Int32) + own_w0_7 q0 p1 q2 p3).toInt = c1 := by
    rw [own_addb (by decide) (by omega) (by rw [show (0 : Int32).toInt = 0 from rfl]; omega), e1, show (0 : Int32).toInt = 0 from rfl]; omega
  have hlen : (List.replicate (own_w0_54 q0 p1 q2 p3).toNatClampNeg (0 : Int32)).length = (c1 + c2 + 7) / 8 := by rw [List.length_replicate, own_clamp e]
  obtain ⟨i1, i2, i3, i4, i5, -⟩ := own_run 8 _ _ (0 : Int32) (List.replicate (own_w0_54 q0 p1 q2 p3).toNatClampNeg (0 : Int32)) M1 c1 0 w1 hb1 (by decide) (by omega) (by rw [hlen]; omega) (by rw [hlen]; omega)
  change (own_s1 q0 p1 q2 p3).1.toInt = _ at i1
  change (own_s1 q0 p1 q2 p3).2.1.toInt = _ at i2
  change (own_s1 q0 p1 q2 p3).2.2.1.toInt = _ at i3
  change (own_s1 q0 p1 q2 p3).2.2.2.length = _ at i4
  change ∀ i, i < c1 / 8 → own_isb ((own_s1 q0 p1 q2 p3).2.2.2.getD (0 + i) 0) _ at i5
  rw [Nat.zero_add] at i3
  -- the second write
  have hsplit : 2 ^ c1 = 2 ^ (c1 % 8) * 2 ^ (8 * (c1 / 8)) := by rw [← Nat.pow_add]; congr 1; omega
  have hw : M1 / 2 ^ (8 * (c1 / 8)) < 2 ^ (c1 % 8) := by
    rw [Nat.div_lt_iff_lt_mul (Nat.two_pow_pos _), ← hsplit]; exact g1
  have w2 := own_or i1 f2 i2 (by omega) hw (by omega)
  have hb2 : ((own_s1 q0 p1 q2 p3).2.1 + own_w0_17 q0 p1 q2 p3).toInt = ((c1 % 8 + c2 : Nat) : Int) := by
    rw [own_addb (by omega) (by omega) (by omega), i2, e2]; omega
  obtain ⟨j1, j2, j3, j4, j5, j6⟩ := own_run 8 _ _ _ _ _ _ _ w2 hb2 i3 (by omega) (by rw [i4, hlen]; omega) (by rw [i4, hlen]; omega)
  change (own_s2 q0 p1 q2 p3).1.toInt = _ at j1
  change (own_s2 q0 p1 q2 p3).2.1.toInt = _ at j2
  change (own_s2 q0 p1 q2 p3).2.2.1.toInt = _ at j3
  change (own_s2 q0 p1 q2 p3).2.2.2.length = _ at j4
  change ∀ i, i < (c1 % 8 + c2) / 8 → own_isb ((own_s2 q0 p1 q2 p3).2.2.2.getD (c1 / 8 + i) 0) _ at j5
  change ∀ i, i < c1 / 8 → (own_s2 q0 p1 q2 p3).2.2.2.getD i 0 = (own_s1 q0 p1 q2 p3).2.2.2.getD i 0 at j6
  -- the whole number, from its lower end
  have hA : (M1 + M2 * 2 ^ c1) / 2 ^ (8 * (c1 / 8)) = M1 / 2 ^ (8 * (c1 / 8)) + M2 * 2 ^ (c1 % 8) := by
    rw [hsplit, ← Nat.mul_assoc, Nat.add_mul_div_right _ _ (Nat.two_pow_pos _)]
  have hAi : ∀ i, (M1 + M2 * 2 ^ c1) / 2 ^ (8 * (c1 / 8 + i)) = (M1 / 2 ^ (8 * (c1 / 8)) + M2 * 2 ^ (c1 % 8)) / 2 ^ (8 * i) := fun i => by
    rw [← hA, Nat.div_div_eq_div_mul, ← Nat.pow_add, show 8 * (c1 / 8) + 8 * i = 8 * (c1 / 8 + i) by omega]
  have ht : c1 / 8 + (c1 % 8 + c2) / 8 = (c1 + c2) / 8 := by omega
  refine ⟨c1, c2, M1, M2, h1, h2, g1, g2, e1, e2, f1, f2, e, i2, i3, ?_, ?_, ?_, ?_, ?_⟩
  · rw [j1, ← ht, hAi]
  · rw [j2]; omega
  · rw [j3, ht]
  · rw [j4, i4, hlen]
  · intro i hi
    by_cases q : i < c1 / 8
    · have := i5 i q
      rw [Nat.zero_add] at this
      rw [j6 i q]
      refine own_isb_mod this ?_
      have hs : 2 ^ c1 = 2 ^ (c1 - 8 * i - 8) * 256 * 2 ^ (8 * i) := by
        rw [show (256 : Nat) = 2 ^ 8 by decide, ← Nat.pow_add, ← Nat.pow_add]; congr 1; omega
      rw [hs, ← Nat.mul_assoc, Nat.add_mul_div_right _ _ (Nat.two_pow_pos _), ← Nat.mul_assoc]
      omega
    · have := j5 (i - c1 / 8) (by omega)
      rw [show c1 / 8 + (i - c1 / 8) = i by omega, ← hAi, show c1 / 8 + (i - c1 / 8) = i by omega] at this
      exact this
theorem own_pc : 0 ≤ (own_s1 q0 p1 q2 p3).2.1.toInt ∧ 0 ≤ (own_w0_17 q0 p1 q2 p3).toInt ∧ (own_s1 q0 p1 q2 p3).2.1.toInt + (own_w0_17 q0 p1 q2 p3).toInt < 72 := by
  obtain ⟨c1, c2, M1, M2, h1, h2, -, -, -, e2, -, -, e, i2, i3, -⟩ := own_two q0 p1 q2 p3
  rw [i2, e2]; omega
theorem own_pd : 0 ≤ (own_s1 q0 p1 q2 p3).2.2.1.toInt ∧ (own_s1 q0 p1 q2 p3).2.2.1.toInt + ((own_s1 q0 p1 q2 p3).2.1.toInt + (own_w0_17 q0 p1 q2 p3).toInt) / 8 ≤ (own_w0_54 q0 p1 q2 p3).toInt := by
  obtain ⟨c1, c2, M1, M2, h1, h2, -, -, -, e2, -, -, e, i2, i3, -⟩ := own_two q0 p1 q2 p3
  rw [i2, i3, e2, e]; omega
theorem own_pe : (if (0 : Int32) < (own_s2 q0 p1 q2 p3).2.1 then (own_s2 q0 p1 q2 p3).2.2.1 + (1 : Int32) else (own_s2 q0 p1 q2 p3).2.2.1) = own_w0_54 q0 p1 q2 p3 := by
  obtain ⟨c1, c2, M1, M2, h1, h2, -, -, -, e2, -, -, e, i2, i3, -, j2, j3, -⟩ := own_two q0 p1 q2 p3
  split
  · rename_i z
    have z' := Int32.lt_iff_toInt_lt.mp z; rw [j2, show (0 : Int32).toInt = 0 from rfl] at z'
    have a := c_iadd (own_s2 q0 p1 q2 p3).2.2.1 (1 : Int32)
    have b1 := Int32.toInt_lt ((own_s2 q0 p1 q2 p3).2.2.1 + (1 : Int32))
    have b2 := Int32.le_toInt ((own_s2 q0 p1 q2 p3).2.2.1 + (1 : Int32))
    rw [j3, show (1 : Int32).toInt = 1 from by decide] at a
    apply Int32.toInt_inj.mp; rw [e]; omega
  · rename_i z
    have z' := mt Int32.lt_iff_toInt_lt.mpr z; rw [j2, show (0 : Int32).toInt = 0 from rfl] at z'
    apply Int32.toInt_inj.mp; rw [e, j3]; omega
theorem own_pf : (0 : Int32) < (own_s2 q0 p1 q2 p3).2.1 → ¬ (own_s2 q0 p1 q2 p3).2.2.1 < 0 ∧ (own_s2 q0 p1 q2 p3).2.2.1 < own_w0_54 q0 p1 q2 p3 := fun z => by
  obtain ⟨c1, c2, M1, M2, h1, h2, -, -, -, e2, -, -, e, i2, i3, -, j2, j3, -⟩ := own_two q0 p1 q2 p3
  have z' := Int32.lt_iff_toInt_lt.mp z; rw [j2, show (0 : Int32).toInt = 0 from rfl] at z'
  rw [Int32.lt_iff_toInt_lt, Int32.lt_iff_toInt_lt, j3, e, show (0 : Int32).toInt = 0 from rfl]; omega
end OwnNums

theorem pn_0 : plainName "com/example/dehull/dehull/codec/BitWriterWriteBitsPinLaw" = true := by first | (simp [plainName, overriddenIn]; done) | decide +kernel
theorem pd_0_0 : parseMethodDescriptor "(I)V" = some ⟨[.int], none⟩ := by decide +kernel
theorem pd_0_1 : parseMethodDescriptor "(JI)V" = some ⟨[.long, .int], none⟩ := by decide +kernel
theorem pd_0_2 : parseMethodDescriptor "()[B" = some ⟨[], some (.array .byte)⟩ := by decide +kernel
theorem pd_0_3 : parseMethodDescriptor "([BIJ)Z" = some ⟨[(.array .byte), .int, .long], some .boolean⟩ := by decide +kernel
theorem ef_0 (m : MethodId) (x0 : Int64) (x1 : Int32) (x2 : Int64) (x3 : Int32) : entryFrame m #[(.long x0), (.int x1), (.long x2), (.int x3)] maxLocals = mkF m 0 #[.val (.long x0), .second, .val (.int x1), .val (.long x2), .second, .val (.int x3), .unset, .unset, .unset, .unset, .unset, .unset, .unset, .unset, .unset, .unset, .unset, .unset] [] := by first | (simp [entryFrame, mkF, argsToLocals, Value.category, maxLocals]; done) | rfl
def Q0 (Z : State) (q0 : Int64) (p1 : Int32) (q2 : Int64) (p3 : Int32) (h0 : Heap) (n0 : Nat) (v : Option Value) (h : Heap) (L : List Loc) : Prop := v = some (.int 1) ∧ Fr n0 L
set_option maxRecDepth 65536 in
set_option maxHeartbeats 40000000 in
theorem rm0 (l : Launch) (Z : State) (a0 : Array Value) (hw : ∀ d ∈ tables_1, d.before a0 Z = true) (ws : List Jvm.Cond) (q0 : Int64) (p1 : Int32) (q2 : Int64) (p3 : Int32) (h0 : Heap) (n0 : Nat) (Z0 : n0 ≤ h0.size) (hlaw : own_F0 q0 p1 q2 p3 = 1) :
    MetFree l x (head1 (Jvm.Cond.code x code maxLocals ret :: ws) room_1) (fun a U => a = #[(.long q0), (.int p1), (.long q2), (.int p3)] ∧ Z.Warmed39 U.vm ∧ U.heap = h0) (fun _ _ _ _ _ => True) (fun _ U o U' => ∃ v L, o = .returned v ∧ Q0 Z q0 p1 q2 p3 h0 n0 v U'.heap L ∧ FrameEnd U o U' L 16 128) := by
  refine MetFree.of_bodySF (plainFor_of_name pn_0) hisR ?_
  intro p e s m args below meth c s₁ Bd hml0 hP hK
  obtain ⟨rfl, hZ, hh⟩ := hP
  have hx := Bd.exec
  have hby := Bd.bytes
  have hml : c.maxLocals = 18 := hml0
  have hown : s.vm.findClass "com/example/dehull/dehull/codec/BitWriterWriteBitsPinLaw" = some m.cls := findClass_of_methodNamed Bd.named
  have hnm := (name_of_methodNamed Bd.named Bd.method).1
  have X0 : Stand p l e room_1 s m #[(.long q0), (.int p1), (.long q2), (.int p3)] below meth c s₁ [] 0 0 := Stand.of_body Bd
  have e0 : s₁.heap = h0 := by rw [← hh, Bd.state]; rfl
  have N0 := Fr.nil n0
  refine own_in (ef_0 m q0 p1 q2 p3) ?_
  have hr0 := (own_F0_eq q0 p1 q2 p3).symm.trans hlaw
  refine own_st (g' := (mkF m 1 #[.val (.long q0), .second, .val (.int p1), .val (.long q2), .second, .val (.int p3), .unset, .unset, .unset, .unset, .unset, .unset, .unset, .unset, .unset, .unset, .unset, .unset] [(.int p1)])) (fun t k => XS.iloadN X0.here hx rfl (hb hby at_0) rfl  k) ?_
  refine own_st (g' := (mkF m 3 #[.val (.long q0), .second, .val (.int p1), .val (.long q2), .second, .val (.int p3), .unset, .unset, .unset, .unset, .unset, .unset, .unset, .unset, .unset, .unset, .unset, .unset] [(.int (2147483647 : Int32)), (.int p1)])) (fun t k => X0.ldcInt hx hown (mvT hZ (hw _ (List.mem_of_getElem? (i := 0) rfl))) (g := (mkF m 1 #[.val (.long q0), .second, .val (.int p1), .val (.long q2), .second, .val (.int p3), .unset, .unset, .unset, .unset, .unset, .unset, .unset, .unset, .unset, .unset, .unset, .unset] [(.int p1)])) rfl (hb hby at_1) t k) ?_
  refine own_st (g' := (mkF m 4 #[.val (.long q0), .second, .val (.int p1), .val (.long q2), .second, .val (.int p3), .unset, .unset, .unset, .unset, .unset, .unset, .unset, .unset, .unset, .unset, .unset, .unset] [(.int (p1 &&& (2147483647 : Int32)))])) (fun t k => XS.iand X0.here hx rfl (hb hby at_3) rfl k) ?_
  refine own_st (g' := (mkF m 6 #[.val (.long q0), .second, .val (.int p1), .val (.long q2), .second, .val (.int p3), .unset, .unset, .unset, .unset, .unset, .unset, .unset, .unset, .unset, .unset, .unset, .unset] [(.int (33 : Int32)), (.int (p1 &&& (2147483647 : Int32)))])) (fun t k => XS.bipush X0.here hx rfl (hb hby at_4) k) ?_
  refine own_st (g' := (mkF m 7 #[.val (.long q0), .second, .val (.int p1), .val (.long q2), .second, .val (.int p3), .unset, .unset, .unset, .unset, .unset, .unset, .unset, .unset, .unset, .unset, .unset, .unset] [(.int ((p1 &&& (2147483647 : Int32)) % (33 : Int32)))])) (fun t k => iremM X0 hx rfl (hb hby at_6) rfl (by decide) k) ?_
  refine own_st (g' := (mkF m 9 #[.val (.long q0), .second, .val (.int p1), .val (.long q2), .second, .val (.int p3), .val (.int (own_w0_7 q0 p1 q2 p3)), .unset, .unset, .unset, .unset, .unset, .unset, .unset, .unset, .unset, .unset, .unset] [])) (fun t k => XS.istore X0.here hx rfl (hb hby at_7) rfl (l' := #[.val (.long q0), .second, .val (.int p1), .val (.long q2), .second, .val (.int p3), .val (.int (own_w0_7 q0 p1 q2 p3)), .unset, .unset, .unset, .unset, .unset, .unset, .unset, .unset, .unset, .unset, .unset]) rfl k) ?_
  refine own_st (g' := (mkF m 11 #[.val (.long q0), .second, .val (.int p1), .val (.long q2), .second, .val (.int p3), .val (.int (own_w0_7 q0 p1 q2 p3)), .unset, .unset, .unset, .unset, .unset, .unset, .unset, .unset, .unset, .unset, .unset] [(.int p3)])) (fun t k => XS.iload X0.here hx rfl (hb hby at_9) rfl  k) ?_
  refine own_st (g' := (mkF m 13 #[.val (.long q0), .second, .val (.int p1), .val (.long q2), .second, .val (.int p3), .val (.int (own_w0_7 q0 p1 q2 p3)), .unset, .unset, .unset, .unset, .unset, .unset, .unset, .unset, .unset, .unset, .unset] [(.int (2147483647 : Int32)), (.int p3)])) (fun t k => X0.ldcInt hx hown (mvT hZ (hw _ (List.mem_of_getElem? (i := 0) rfl))) (g := (mkF m 11 #[.val (.long q0), .second, .val (.int p1), .val (.long q2), .second, .val (.int p3), .val (.int (own_w0_7 q0 p1 q2 p3)), .unset, .unset, .unset, .unset, .unset, .unset, .unset, .unset, .unset, .unset, .unset] [(.int p3)])) rfl (hb hby at_11) t k) ?_
  refine own_st (g' := (mkF m 14 #[.val (.long q0), .second, .val (.int p1), .val (.long q2), .second, .val (.int p3), .val (.int (own_w0_7 q0 p1 q2 p3)), .unset, .unset, .unset, .unset, .unset, .unset, .unset, .unset, .unset, .unset, .unset] [(.int (p3 &&& (2147483647 : Int32)))])) (fun t k => XS.iand X0.here hx rfl (hb hby at_13) rfl k) ?_
  refine own_st (g' := (mkF m 16 #[.val (.long q0), .second, .val (.int p1), .val (.long q2), .second, .val (.int p3), .val (.int (own_w0_7 q0 p1 q2 p3)), .unset, .unset, .unset, .unset, .unset, .unset, .unset, .unset, .unset, .unset, .unset] [(.int (33 : Int32)), (.int (p3 &&& (2147483647 : Int32)))])) (fun t k => XS.bipush X0.here hx rfl (hb hby at_14) k) ?_
  refine own_st (g' := (mkF m 17 #[.val (.long q0), .second, .val (.int p1), .val (.long q2), .second, .val (.int p3), .val (.int (own_w0_7 q0 p1 q2 p3)), .unset, .unset, .unset, .unset, .unset, .unset, .unset, .unset, .unset, .unset, .unset] [(.int ((p3 &&& (2147483647 : Int32)) % (33 : Int32)))])) (fun t k => iremM X0 hx rfl (hb hby at_16) rfl (by decide) k) ?_
  refine own_st (g' := (mkF m 19 #[.val (.long q0), .second, .val (.int p1), .val (.long q2), .second, .val (.int p3), .val (.int (own_w0_7 q0 p1 q2 p3)), .val (.int (own_w0_17 q0 p1 q2 p3)), .unset, .unset, .unset, .unset, .unset, .unset, .unset, .unset, .unset, .unset] [])) (fun t k => XS.istore X0.here hx rfl (hb hby at_17) rfl (l' := #[.val (.long q0), .second, .val (.int p1), .val (.long q2), .second, .val (.int p3), .val (.int (own_w0_7 q0 p1 q2 p3)), .val (.int (own_w0_17 q0 p1 q2 p3)), .unset, .unset, .unset, .unset, .unset, .unset, .unset, .unset, .unset, .unset]) rfl k) ?_
  refine own_st (g' := (mkF m 20 #[.val (.long q0), .second, .val (.int p1), .val (.long q2), .second, .val (.int p3), .val (.int (own_w0_7 q0 p1 q2 p3)), .val (.int (own_w0_17 q0 p1 q2 p3)), .unset, .unset, .unset, .unset, .unset, .unset, .unset, .unset, .unset, .unset] [(.long q0)])) (fun t k => XS.lloadN X0.here hx rfl (hb hby at_19) rfl  k) ?_
  refine own_st (g' := (mkF m 21 #[.val (.long q0), .second, .val (.int p1), .val (.long q2), .second, .val (.int p3), .val (.int (own_w0_7 q0 p1 q2 p3)), .val (.int (own_w0_17 q0 p1 q2 p3)), .unset, .unset, .unset, .unset, .unset, .unset, .unset, .unset, .unset, .unset] [(.long (1 : Int64)), (.long q0)])) (fun t k => XS.lconst X0.here hx rfl (hb hby at_20) k) ?_
  refine own_st (g' := (mkF m 23 #[.val (.long q0), .second, .val (.int p1), .val (.long q2), .second, .val (.int p3), .val (.int (own_w0_7 q0 p1 q2 p3)), .val (.int (own_w0_17 q0 p1 q2 p3)), .unset, .unset, .unset, .unset, .unset, .unset, .unset, .unset, .unset, .unset] [(.int (own_w0_7 q0 p1 q2 p3)), (.long (1 : Int64)), (.long q0)])) (fun t k => XS.iload X0.here hx rfl (hb hby at_21) rfl  k) ?_
  refine own_st (g' := (mkF m 24 #[.val (.long q0), .second, .val (.int p1), .val (.long q2), .second, .val (.int p3), .val (.int (own_w0_7 q0 p1 q2 p3)), .val (.int (own_w0_17 q0 p1 q2 p3)), .unset, .unset, .unset, .unset, .unset, .unset, .unset, .unset, .unset, .unset] [(.long (((1 : Int64) <<< ((own_w0_7 q0 p1 q2 p3) &&& 0x3f).toInt64))), (.long q0)])) (fun t k => XS.lshl X0.here hx rfl (hb hby at_23) rfl k) ?_
  refine own_st (g' := (mkF m 25 #[.val (.long q0), .second, .val (.int p1), .val (.long q2), .second, .val (.int p3), .val (.int (own_w0_7 q0 p1 q2 p3)), .val (.int (own_w0_17 q0 p1 q2 p3)), .unset, .unset, .unset, .unset, .unset, .unset, .unset, .unset, .unset, .unset] [(.long (1 : Int64)), (.long (((1 : Int64) <<< ((own_w0_7 q0 p1 q2 p3) &&& 0x3f).toInt64))), (.long q0)])) (fun t k => XS.lconst X0.here hx rfl (hb hby at_24) k) ?_
  refine own_st (g' := (mkF m 26 #[.val (.long q0), .second, .val (.int p1), .val (.long q2), .second, .val (.int p3), .val (.int (own_w0_7 q0 p1 q2 p3)), .val (.int (own_w0_17 q0 p1 q2 p3)), .unset, .unset, .unset, .unset, .unset, .unset, .unset, .unset, .unset, .unset] [(.long ((((1 : Int64) <<< ((own_w0_7 q0 p1 q2 p3) &&& 0x3f).toInt64)) - (1 : Int64))), (.long q0)])) (fun t k => XS.lsub X0.here hx rfl (hb hby at_25) rfl k) ?_
  refine own_st (g' := (mkF m 27 #[.val (.long q0), .second, .val (.int p1), .val (.long q2), .second, .val (.int p3), .val (.int (own_w0_7 q0 p1 q2 p3)), .val (.int (own_w0_17 q0 p1 q2 p3)), .unset, .unset, .unset, .unset, .unset, .unset, .unset, .unset, .unset, .unset] [(.long (q0 &&& ((((1 : Int64) <<< ((own_w0_7 q0 p1 q2 p3) &&& 0x3f).toInt64)) - (1 : Int64))))])) (fun t k => XS.land X0.here hx rfl (hb hby at_26) rfl k) ?_
  refine own_st (g' := (mkF m 29 #[.val (.long q0), .second, .val (.int p1), .val (.long q2), .second, .val (.int p3), .val (.int (own_w0_7 q0 p1 q2 p3)), .val (.int (own_w0_17 q0 p1 q2 p3)), .val (.long (own_w0_27 q0 p1 q2 p3)), .second, .unset, .unset, .unset, .unset, .unset, .unset, .unset, .unset] [])) (fun t k => XS.lstore X0.here hx rfl (hb hby at_27) rfl (l' := #[.val (.long q0), .second, .val (.int p1), .val (.long q2), .second, .val (.int p3), .val (.int (own_w0_7 q0 p1 q2 p3)), .val (.int (own_w0_17 q0 p1 q2 p3)), .val (.long (own_w0_27 q0 p1 q2 p3)), .second, .unset, .unset, .unset, .unset, .unset, .unset, .unset, .unset]) rfl k) ?_
  refine own_st (g' := (mkF m 30 #[.val (.long q0), .second, .val (.int p1), .val (.long q2), .second, .val (.int p3), .val (.int (own_w0_7 q0 p1 q2 p3)), .val (.int (own_w0_17 q0 p1 q2 p3)), .val (.long (own_w0_27 q0 p1 q2 p3)), .second, .unset, .unset, .unset, .unset, .unset, .unset, .unset, .unset] [(.long q2)])) (fun t k => XS.lloadN X0.here hx rfl (hb hby at_29) rfl  k) ?_
  refine own_st (g' := (mkF m 31 #[.val (.long q0), .second, .val (.int p1), .val (.long q2), .second, .val (.int p3), .val (.int (own_w0_7 q0 p1 q2 p3)), .val (.int (own_w0_17 q0 p1 q2 p3)), .val (.long (own_w0_27 q0 p1 q2 p3)), .second, .unset, .unset, .unset, .unset, .unset, .unset, .unset, .unset] [(.long (1 : Int64)), (.long q2)])) (fun t k => XS.lconst X0.here hx rfl (hb hby at_30) k) ?_
  refine own_st (g' := (mkF m 33 #[.val (.long q0), .second, .val (.int p1), .val (.long q2), .second, .val (.int p3), .val (.int (own_w0_7 q0 p1 q2 p3)), .val (.int (own_w0_17 q0 p1 q2 p3)), .val (.long (own_w0_27 q0 p1 q2 p3)), .second, .unset, .unset, .unset, .unset, .unset, .unset, .unset, .unset] [(.int (own_w0_17 q0 p1 q2 p3)), (.long (1 : Int64)), (.long q2)])) (fun t k => XS.iload X0.here hx rfl (hb hby at_31) rfl  k) ?_
  refine own_st (g' := (mkF m 34 #[.val (.long q0), .second, .val (.int p1), .val (.long q2), .second, .val (.int p3), .val (.int (own_w0_7 q0 p1 q2 p3)), .val (.int (own_w0_17 q0 p1 q2 p3)), .val (.long (own_w0_27 q0 p1 q2 p3)), .second, .unset, .unset, .unset, .unset, .unset, .unset, .unset, .unset] [(.long (((1 : Int64) <<< ((own_w0_17 q0 p1 q2 p3) &&& 0x3f).toInt64))), (.long q2)])) (fun t k => XS.lshl X0.here hx rfl (hb hby at_33) rfl k) ?_
  refine own_st (g' := (mkF m 35 #[.val (.long q0), .second, .val (.int p1), .val (.long q2), .second, .val (.int p3), .val (.int (own_w0_7 q0 p1 q2 p3)), .val (.int (own_w0_17 q0 p1 q2 p3)), .val (.long (own_w0_27 q0 p1 q2 p3)), .second, .unset, .unset, .unset, .unset, .unset, .unset, .unset, .unset] [(.long (1 : Int64)), (.long (((1 : Int64) <<< ((own_w0_17 q0 p1 q2 p3) &&& 0x3f).toInt64))), (.long q2)])) (fun t k => XS.lconst X0.here hx rfl (hb hby at_34) k) ?_
  refine own_st (g' := (mkF m 36 #[.val (.long q0), .second, .val (.int p1), .val (.long q2), .second, .val (.int p3), .val (.int (own_w0_7 q0 p1 q2 p3)), .val (.int (own_w0_17 q0 p1 q2 p3)), .val (.long (own_w0_27 q0 p1 q2 p3)), .second, .unset, .unset, .unset, .unset, .unset, .unset, .unset, .unset] [(.long ((((1 : Int64) <<< ((own_w0_17 q0 p1 q2 p3) &&& 0x3f).toInt64)) - (1 : Int64))), (.long q2)])) (fun t k => XS.lsub X0.here hx rfl (hb hby at_35) rfl k) ?_
  refine own_st (g' := (mkF m 37 #[.val (.long q0), .second, .val (.int p1), .val (.long q2), .second, .val (.int p3), .val (.int (own_w0_7 q0 p1 q2 p3)), .val (.int (own_w0_17 q0 p1 q2 p3)), .val (.long (own_w0_27 q0 p1 q2 p3)), .second, .unset, .unset, .unset, .unset, .unset, .unset, .unset, .unset] [(.long (q2 &&& ((((1 : Int64) <<< ((own_w0_17 q0 p1 q2 p3) &&& 0x3f).toInt64)) - (1 : Int64))))])) (fun t k => XS.land X0.here hx rfl (hb hby at_36) rfl k) ?_
  refine own_st (g' := (mkF m 39 #[.val (.long q0), .second, .val (.int p1), .val (.long q2), .second, .val (.int p3), .val (.int (own_w0_7 q0 p1 q2 p3)), .val (.int (own_w0_17 q0 p1 q2 p3)), .val (.long (own_w0_27 q0 p1 q2 p3)), .second, .val (.long (own_w0_37 q0 p1 q2 p3)), .second, .unset, .unset, .unset, .unset, .unset, .unset] [])) (fun t k => XS.lstore X0.here hx rfl (hb hby at_37) rfl (l' := #[.val (.long q0), .second, .val (.int p1), .val (.long q2), .second, .val (.int p3), .val (.int (own_w0_7 q0 p1 q2 p3)), .val (.int (own_w0_17 q0 p1 q2 p3)), .val (.long (own_w0_27 q0 p1 q2 p3)), .second, .val (.long (own_w0_37 q0 p1 q2 p3)), .second, .unset, .unset, .unset, .unset, .unset, .unset]) rfl k) ?_
  refine own_st (g' := (mkF m 41 #[.val (.long q0), .second, .val (.int p1), .val (.long q2), .second, .val (.int p3), .val (.int (own_w0_7 q0 p1 q2 p3)), .val (.int (own_w0_17 q0 p1 q2 p3)), .val (.long (own_w0_27 q0 p1 q2 p3)), .second, .val (.long (own_w0_37 q0 p1 q2 p3)), .second, .unset, .unset, .unset, .unset, .unset, .unset] [(.int (own_w0_7 q0 p1 q2 p3))])) (fun t k => XS.iload X0.here hx rfl (hb hby at_39) rfl  k) ?_
  refine own_st (g' := (mkF m 43 #[.val (.long q0), .second, .val (.int p1), .val (.long q2), .second, .val (.int p3), .val (.int (own_w0_7 q0 p1 q2 p3)), .val (.int (own_w0_17 q0 p1 q2 p3)), .val (.long (own_w0_27 q0 p1 q2 p3)), .second, .val (.long (own_w0_37 q0 p1 q2 p3)), .second, .unset, .unset, .unset, .unset, .unset, .unset] [(.int (own_w0_17 q0 p1 q2 p3)), (.int (own_w0_7 q0 p1 q2 p3))])) (fun t k => XS.iload X0.here hx rfl (hb hby at_41) rfl  k) ?_
  refine own_st (g' := (mkF m 44 #[.val (.long q0), .second, .val (.int p1), .val (.long q2), .second, .val (.int p3), .val (.int (own_w0_7 q0 p1 q2 p3)), .val (.int (own_w0_17 q0 p1 q2 p3)), .val (.long (own_w0_27 q0 p1 q2 p3)), .second, .val (.long (own_w0_37 q0 p1 q2 p3)), .second, .unset, .unset, .unset, .unset, .unset, .unset] [(.int ((own_w0_7 q0 p1 q2 p3) + (own_w0_17 q0 p1 q2 p3)))])) (fun t k => XS.iadd X0.here hx rfl (hb hby at_43) rfl k) ?_
  refine own_st (g' := (mkF m 46 #[.val (.long q0), .second, .val (.int p1), .val (.long q2), .second, .val (.int p3), .val (.int (own_w0_7 q0 p1 q2 p3)), .val (.int (own_w0_17 q0 p1 q2 p3)), .val (.long (own_w0_27 q0 p1 q2 p3)), .second, .val (.long (own_w0_37 q0 p1 q2 p3)), .second, .val (.int (own_w0_44 q0 p1 q2 p3)), .unset, .unset, .unset, .unset, .unset] [])) (fun t k => XS.istore X0.here hx rfl (hb hby at_44) rfl (l' := #[.val (.long q0), .second, .val (.int p1), .val (.long q2), .second, .val (.int p3), .val (.int (own_w0_7 q0 p1 q2 p3)), .val (.int (own_w0_17 q0 p1 q2 p3)), .val (.long (own_w0_27 q0 p1 q2 p3)), .second, .val (.long (own_w0_37 q0 p1 q2 p3)), .second, .val (.int (own_w0_44 q0 p1 q2 p3)), .unset, .unset, .unset, .unset, .unset]) rfl k) ?_
  refine own_st (g' := (mkF m 48 #[.val (.long q0), .second, .val (.int p1), .val (.long q2), .second, .val (.int p3), .val (.int (own_w0_7 q0 p1 q2 p3)), .val (.int (own_w0_17 q0 p1 q2 p3)), .val (.long (own_w0_27 q0 p1 q2 p3)), .second, .val (.long (own_w0_37 q0 p1 q2 p3)), .second, .val (.int (own_w0_44 q0 p1 q2 p3)), .unset, .unset, .unset, .unset, .unset] [(.int (own_w0_44 q0 p1 q2 p3))])) (fun t k => XS.iload X0.here hx rfl (hb hby at_46) rfl  k) ?_
  refine own_st (g' := (mkF m 50 #[.val (.long q0), .second, .val (.int p1), .val (.long q2), .second, .val (.int p3), .val (.int (own_w0_7 q0 p1 q2 p3)), .val (.int (own_w0_17 q0 p1 q2 p3)), .val (.long (own_w0_27 q0 p1 q2 p3)), .second, .val (.long (own_w0_37 q0 p1 q2 p3)), .second, .val (.int (own_w0_44 q0 p1 q2 p3)), .unset, .unset, .unset, .unset, .unset] [(.int (7 : Int32)), (.int (own_w0_44 q0 p1 q2 p3))])) (fun t k => XS.bipush X0.here hx rfl (hb hby at_48) k) ?_
  refine own_st (g' := (mkF m 51 #[.val (.long q0), .second, .val (.int p1), .val (.long q2), .second, .val (.int p3), .val (.int (own_w0_7 q0 p1 q2 p3)), .val (.int (own_w0_17 q0 p1 q2 p3)), .val (.long (own_w0_27 q0 p1 q2 p3)), .second, .val (.long (own_w0_37 q0 p1 q2 p3)), .second, .val (.int (own_w0_44 q0 p1 q2 p3)), .unset, .unset, .unset, .unset, .unset] [(.int ((own_w0_44 q0 p1 q2 p3) + (7 : Int32)))])) (fun t k => XS.iadd X0.here hx rfl (hb hby at_50) rfl k) ?_
  refine own_st (g' := (mkF m 53 #[.val (.long q0), .second, .val (.int p1), .val (.long q2), .second, .val (.int p3), .val (.int (own_w0_7 q0 p1 q2 p3)), .val (.int (own_w0_17 q0 p1 q2 p3)), .val (.long (own_w0_27 q0 p1 q2 p3)), .second, .val (.long (own_w0_37 q0 p1 q2 p3)), .second, .val (.int (own_w0_44 q0 p1 q2 p3)), .unset, .unset, .unset, .unset, .unset] [(.int (8 : Int32)), (.int ((own_w0_44 q0 p1 q2 p3) + (7 : Int32)))])) (fun t k => XS.bipush X0.here hx rfl (hb hby at_51) k) ?_
  refine own_st (g' := (mkF m 54 #[.val (.long q0), .second, .val (.int p1), .val (.long q2), .second, .val (.int p3), .val (.int (own_w0_7 q0 p1 q2 p3)), .val (.int (own_w0_17 q0 p1 q2 p3)), .val (.long (own_w0_27 q0 p1 q2 p3)), .second, .val (.long (own_w0_37 q0 p1 q2 p3)), .second, .val (.int (own_w0_44 q0 p1 q2 p3)), .unset, .unset, .unset, .unset, .unset] [(.int (((own_w0_44 q0 p1 q2 p3) + (7 : Int32)) / (8 : Int32)))])) (fun t k => XS.idiv X0.here hx rfl (hb hby at_53) rfl (by decide) k) ?_
  refine own_st (g' := (mkF m 56 #[.val (.long q0), .second, .val (.int p1), .val (.long q2), .second, .val (.int p3), .val (.int (own_w0_7 q0 p1 q2 p3)), .val (.int (own_w0_17 q0 p1 q2 p3)), .val (.long (own_w0_27 q0 p1 q2 p3)), .second, .val (.long (own_w0_37 q0 p1 q2 p3)), .second, .val (.int (own_w0_44 q0 p1 q2 p3)), .val (.int (own_w0_54 q0 p1 q2 p3)), .unset, .unset, .unset, .unset] [])) (fun t k => XS.istore X0.here hx rfl (hb hby at_54) rfl (l' := #[.val (.long q0), .second, .val (.int p1), .val (.long q2), .second, .val (.int p3), .val (.int (own_w0_7 q0 p1 q2 p3)), .val (.int (own_w0_17 q0 p1 q2 p3)), .val (.long (own_w0_27 q0 p1 q2 p3)), .second, .val (.long (own_w0_37 q0 p1 q2 p3)), .second, .val (.int (own_w0_44 q0 p1 q2 p3)), .val (.int (own_w0_54 q0 p1 q2 p3)), .unset, .unset, .unset, .unset]) rfl k) ?_
  obtain ⟨T45, h45, X45, e45, E45, A45, D45, -, st45⟩ := newO X0 hx hZ hown (hw _ (List.mem_of_getElem? (i := 1) rfl)) (hw _ (List.mem_of_getElem? (i := 2) rfl)) (hw _ (List.mem_of_getElem? (i := 3) rfl)) e0 (g := (mkF m 56 #[.val (.long q0), .second, .val (.int p1), .val (.long q2), .second, .val (.int p3), .val (.int (own_w0_7 q0 p1 q2 p3)), .val (.int (own_w0_17 q0 p1 q2 p3)), .val (.long (own_w0_27 q0 p1 q2 p3)), .second, .val (.long (own_w0_37 q0 p1 q2 p3)), .second, .val (.int (own_w0_44 q0 p1 q2 p3)), .val (.int (own_w0_54 q0 p1 q2 p3)), .unset, .unset, .unset, .unset] [])) rfl (hb hby at_56) (by decide) (by decide)
  obtain ⟨b56, gg45⟩ : ∃ q, q = h0.size := ⟨_, rfl⟩
  rw [← gg45] at A45 D45 st45
  have g_b56 : n0 ≤ b56 := Nat.le_trans Z0 (Nat.le_of_eq gg45.symm)
  have F45_data : Fld Z h45 b56 "com/example/dehull/dehull/codec/BitWriter" "data" "[B" .null := D45 (Or.inr (hw _ (List.mem_of_getElem? (i := 12) rfl))) (ty := (.array .byte)) (by decide)
  have F45_window : Fld Z h45 b56 "com/example/dehull/dehull/codec/BitWriter" "window" "J" (.long (0 : Int64)) := D45 (Or.inl (hw _ (List.mem_of_getElem? (i := 19) rfl))) (ty := .long) (by decide)
  have F45_windowBits : Fld Z h45 b56 "com/example/dehull/dehull/codec/BitWriter" "windowBits" "I" (.int (0 : Int32)) := D45 (Or.inl (hw _ (List.mem_of_getElem? (i := 21) rfl))) (ty := .int) (by decide)
  have F45_nextByte : Fld Z h45 b56 "com/example/dehull/dehull/codec/BitWriter" "nextByte" "I" (.int (0 : Int32)) := D45 (Or.inl (hw _ (List.mem_of_getElem? (i := 28) rfl))) (ty := .int) (by decide)
  refine own_st (g' := (mkF m 59 #[.val (.long q0), .second, .val (.int p1), .val (.long q2), .second, .val (.int p3), .val (.int (own_w0_7 q0 p1 q2 p3)), .val (.int (own_w0_17 q0 p1 q2 p3)), .val (.long (own_w0_27 q0 p1 q2 p3)), .second, .val (.long (own_w0_37 q0 p1 q2 p3)), .second, .val (.int (own_w0_44 q0 p1 q2 p3)), .val (.int (own_w0_54 q0 p1 q2 p3)), .unset, .unset, .unset, .unset] [(.ref b56)])) (fun t k => st45 t k) ?_
  refine own_st (g' := (mkF m 60 #[.val (.long q0), .second, .val (.int p1), .val (.long q2), .second, .val (.int p3), .val (.int (own_w0_7 q0 p1 q2 p3)), .val (.int (own_w0_17 q0 p1 q2 p3)), .val (.long (own_w0_27 q0 p1 q2 p3)), .second, .val (.long (own_w0_37 q0 p1 q2 p3)), .second, .val (.int (own_w0_44 q0 p1 q2 p3)), .val (.int (own_w0_54 q0 p1 q2 p3)), .unset, .unset, .unset, .unset] [(.ref b56), (.ref b56)])) (fun t k => XS.dup X45.here hx rfl (hb hby at_59) rfl rfl k) ?_
  refine own_st (g' := (mkF m 62 #[.val (.long q0), .second, .val (.int p1), .val (.long q2), .second, .val (.int p3), .val (.int (own_w0_7 q0 p1 q2 p3)), .val (.int (own_w0_17 q0 p1 q2 p3)), .val (.long (own_w0_27 q0 p1 q2 p3)), .second, .val (.long (own_w0_37 q0 p1 q2 p3)), .second, .val (.int (own_w0_44 q0 p1 q2 p3)), .val (.int (own_w0_54 q0 p1 q2 p3)), .unset, .unset, .unset, .unset] [(.int (own_w0_54 q0 p1 q2 p3)), (.ref b56), (.ref b56)])) (fun t k => XS.iload X45.here hx rfl (hb hby at_60) rfl  k) ?_
  have Z47 : n0 ≤ h45.size := (Nat.le_trans Z0 E45.1)
  obtain ⟨_, _, ⟨T46, L46, k46, n46⟩, -, X46, ⟨Lc46, hQ46, l46, y46, z46⟩, st46⟩ := X45.specialBack hx (y := (⟨"com/example/dehull/dehull/codec/BitWriter", "<init>", "(I)V"⟩ : MethodName)) rfl hown (mvT hZ (hw _ (List.mem_of_getElem? (i := 4) rfl))) (mvT hZ (hw _ (List.mem_of_getElem? (i := 5) rfl))) (mvT hZ (hw _ (List.mem_of_getElem? (i := 6) rfl))) (by decide) (backOf (W := 1) (rm1 l Z a0 hw [] b56 (own_w0_54 q0 p1 q2 p3)  h45 n0 Z47 A45 F45_data F45_window F45_windowBits F45_nextByte g_b56  (own_sz0 q0 p1 q2 p3) (own_sz8 q0 p1 q2 p3)) hZ (hw _ (List.mem_of_getElem? (i := 6) rfl)) (hw _ (List.mem_of_getElem? (i := 3) rfl)) (by decide) (by decide)) (g := (mkF m 62 #[.val (.long q0), .second, .val (.int p1), .val (.long q2), .second, .val (.int p3), .val (.int (own_w0_7 q0 p1 q2 p3)), .val (.int (own_w0_17 q0 p1 q2 p3)), .val (.long (own_w0_27 q0 p1 q2 p3)), .second, .val (.long (own_w0_37 q0 p1 q2 p3)), .second, .val (.int (own_w0_44 q0 p1 q2 p3)), .val (.int (own_w0_54 q0 p1 q2 p3)), .unset, .unset, .unset, .unset] [(.int (own_w0_54 q0 p1 q2 p3)), (.ref b56), (.ref b56)])) rfl (by rw [hml]; rfl) (Steps.refl _) (a := b56) (argsL := [(.int (own_w0_54 q0 p1 q2 p3))]) (rest := [(.ref b56)]) (lenOf pd_0_0 rfl) rfl (by show 2 * 0 + _ ≤ _; exact Nat.le_of_eq rfl) (hb hby at_62) (fun _ _ => ⟨rfl, e45, (by decide : 1 + 1 ≤ _), (by decide : 4 + 8 ≤ _)⟩)
  dsimp only [Pt.U, Pt.locs, Pt.cells, Pt.slots] at X46 l46 y46 z46 st46 hQ46
  subst l46 y46 z46
  obtain ⟨c62_data, k_c62_data, rfl, N46q, K46, g_c62_data, sb_c62_data, P46_0, P46_1, P46_2, P46_3, P46_4, P46_5⟩ := hQ46
  have N46 := Fr.app N0 N46q
  have ne_b56_c62_data : b56 ≠ c62_data := Nat.ne_of_lt (Nat.lt_of_lt_of_le A45.lt sb_c62_data)
  refine own_st (g' := (mkF m 65 #[.val (.long q0), .second, .val (.int p1), .val (.long q2), .second, .val (.int p3), .val (.int (own_w0_7 q0 p1 q2 p3)), .val (.int (own_w0_17 q0 p1 q2 p3)), .val (.long (own_w0_27 q0 p1 q2 p3)), .second, .val (.long (own_w0_37 q0 p1 q2 p3)), .second, .val (.int (own_w0_44 q0 p1 q2 p3)), .val (.int (own_w0_54 q0 p1 q2 p3)), .unset, .unset, .unset, .unset] [(.ref b56)])) (fun t k => st46.trans k) ?_
  refine own_st (g' := (mkF m 67 #[.val (.long q0), .second, .val (.int p1), .val (.long q2), .second, .val (.int p3), .val (.int (own_w0_7 q0 p1 q2 p3)), .val (.int (own_w0_17 q0 p1 q2 p3)), .val (.long (own_w0_27 q0 p1 q2 p3)), .second, .val (.long (own_w0_37 q0 p1 q2 p3)), .second, .val (.int (own_w0_44 q0 p1 q2 p3)), .val (.int (own_w0_54 q0 p1 q2 p3)), .val (.ref b56), .unset, .unset, .unset] [])) (fun t k => XS.astore X46.here hx rfl (hb hby at_65) rfl rfl (l' := #[.val (.long q0), .second, .val (.int p1), .val (.long q2), .second, .val (.int p3), .val (.int (own_w0_7 q0 p1 q2 p3)), .val (.int (own_w0_17 q0 p1 q2 p3)), .val (.long (own_w0_27 q0 p1 q2 p3)), .second, .val (.long (own_w0_37 q0 p1 q2 p3)), .second, .val (.int (own_w0_44 q0 p1 q2 p3)), .val (.int (own_w0_54 q0 p1 q2 p3)), .val (.ref b56), .unset, .unset, .unset]) rfl k) ?_
  refine own_st (g' := (mkF m 69 #[.val (.long q0), .second, .val (.int p1), .val (.long q2), .second, .val (.int p3), .val (.int (own_w0_7 q0 p1 q2 p3)), .val (.int (own_w0_17 q0 p1 q2 p3)), .val (.long (own_w0_27 q0 p1 q2 p3)), .second, .val (.long (own_w0_37 q0 p1 q2 p3)), .second, .val (.int (own_w0_44 q0 p1 q2 p3)), .val (.int (own_w0_54 q0 p1 q2 p3)), .val (.ref b56), .unset, .unset, .unset] [(.ref b56)])) (fun t k => XS.aload X46.here hx rfl (hb hby at_67) rfl rfl k) ?_
  refine own_st (g' := (mkF m 71 #[.val (.long q0), .second, .val (.int p1), .val (.long q2), .second, .val (.int p3), .val (.int (own_w0_7 q0 p1 q2 p3)), .val (.int (own_w0_17 q0 p1 q2 p3)), .val (.long (own_w0_27 q0 p1 q2 p3)), .second, .val (.long (own_w0_37 q0 p1 q2 p3)), .second, .val (.int (own_w0_44 q0 p1 q2 p3)), .val (.int (own_w0_54 q0 p1 q2 p3)), .val (.ref b56), .unset, .unset, .unset] [(.long (own_w0_27 q0 p1 q2 p3)), (.ref b56)])) (fun t k => XS.lload X46.here hx rfl (hb hby at_69) rfl  k) ?_
  refine own_st (g' := (mkF m 73 #[.val (.long q0), .second, .val (.int p1), .val (.long q2), .second, .val (.int p3), .val (.int (own_w0_7 q0 p1 q2 p3)), .val (.int (own_w0_17 q0 p1 q2 p3)), .val (.long (own_w0_27 q0 p1 q2 p3)), .second, .val (.long (own_w0_37 q0 p1 q2 p3)), .second, .val (.int (own_w0_44 q0 p1 q2 p3)), .val (.int (own_w0_54 q0 p1 q2 p3)), .val (.ref b56), .unset, .unset, .unset] [(.int (own_w0_7 q0 p1 q2 p3)), (.long (own_w0_27 q0 p1 q2 p3)), (.ref b56)])) (fun t k => XS.iload X46.here hx rfl (hb hby at_71) rfl  k) ?_
  have Z49 : n0 ≤ T46.heap.size := (Nat.le_trans Z47 K46.1)
  obtain ⟨cq48, kq48, q48a, q48b, q48c⟩ := isOf hZ (rfl : T46.heap = T46.heap) P46_0
  obtain ⟨_, _, ⟨T48, L48, k48, n48⟩, -, X48, ⟨Lc48, hQ48, l48, y48, z48⟩, st48⟩ := X46.virtualBack hx (y := (⟨"com/example/dehull/dehull/codec/BitWriter", "writeBits", "(JI)V"⟩ : MethodName)) (z := (⟨"com/example/dehull/dehull/codec/BitWriter", "writeBits", "(JI)V"⟩ : MethodName)) hown (mvT hZ (hw _ (List.mem_of_getElem? (i := 13) rfl))) (mvT hZ (hw _ (List.mem_of_getElem? (i := 14) rfl))) (notFace_of_selects (args := #[]) (mvT hZ (hw _ (List.mem_of_getElem? (i := 16) rfl)))) (mvT hZ (hw _ (List.mem_of_getElem? (i := 16) rfl))) (mvT hZ (hw _ (List.mem_of_getElem? (i := 15) rfl))) (by decide) (backOf (W := 0) (rm3 l Z a0 hw [] b56 (own_w0_27 q0 p1 q2 p3) (own_w0_7 q0 p1 q2 p3) c62_data k_c62_data (own_w0_54 q0 p1 q2 p3) (List.replicate ((own_w0_54 q0 p1 q2 p3)).toNatClampNeg (0 : Int32)) (0 : Int64) (0 : Int32) (0 : Int32) T46.heap n0 Z49 P46_0 P46_1 P46_2 P46_3 P46_4 P46_5 g_b56 g_c62_data (Ne.symm ne_b56_c62_data) (own_pa q0 p1 q2 p3) (own_pb q0 p1 q2 p3)) hZ (hw _ (List.mem_of_getElem? (i := 17) rfl)) (hw _ (List.mem_of_getElem? (i := 3) rfl)) (by decide) (by decide)) q48a q48c (g := (mkF m 73 #[.val (.long q0), .second, .val (.int p1), .val (.long q2), .second, .val (.int p3), .val (.int (own_w0_7 q0 p1 q2 p3)), .val (.int (own_w0_17 q0 p1 q2 p3)), .val (.long (own_w0_27 q0 p1 q2 p3)), .second, .val (.long (own_w0_37 q0 p1 q2 p3)), .second, .val (.int (own_w0_44 q0 p1 q2 p3)), .val (.int (own_w0_54 q0 p1 q2 p3)), .val (.ref b56), .unset, .unset, .unset] [(.int (own_w0_7 q0 p1 q2 p3)), (.long (own_w0_27 q0 p1 q2 p3)), (.ref b56)])) rfl (by rw [hml]; rfl) (Steps.refl _) (argsL := [(.long (own_w0_27 q0 p1 q2 p3)), (.int (own_w0_7 q0 p1 q2 p3))]) (rest := []) (lenOf pd_0_1 rfl) rfl (by show 2 * 0 + _ ≤ _; exact Nat.le_of_eq rfl) (hb hby at_73) (fun _ _ => ⟨rfl, (rfl : T46.heap = T46.heap), (by decide : 2 + 0 ≤ _), (by decide : 12 + 0 ≤ _)⟩)
  dsimp only [Pt.U, Pt.locs, Pt.cells, Pt.slots] at X48 l48 y48 z48 st48 hQ48
  subst l48 y48 z48
  obtain ⟨rfl, N48q, K48, P48_0, P48_1, P48_2, P48_3, P48_4, P48_5⟩ := hQ48
  have N48 := Fr.app N46 N48q
  refine own_st (g' := (mkF m 76 #[.val (.long q0), .second, .val (.int p1), .val (.long q2), .second, .val (.int p3), .val (.int (own_w0_7 q0 p1 q2 p3)), .val (.int (own_w0_17 q0 p1 q2 p3)), .val (.long (own_w0_27 q0 p1 q2 p3)), .second, .val (.long (own_w0_37 q0 p1 q2 p3)), .second, .val (.int (own_w0_44 q0 p1 q2 p3)), .val (.int (own_w0_54 q0 p1 q2 p3)), .val (.ref b56), .unset, .unset, .unset] [])) (fun t k => st48.trans k) ?_
  have fx50 : Fld Z T48.heap b56 "com/example/dehull/dehull/codec/BitWriter" "window" "J" (.long (own_s1 q0 p1 q2 p3).1) := P48_2
  have fx51 : Fld Z T48.heap b56 "com/example/dehull/dehull/codec/BitWriter" "windowBits" "I" (.int (own_s1 q0 p1 q2 p3).2.1) := P48_3
  have fx52 : Fld Z T48.heap b56 "com/example/dehull/dehull/codec/BitWriter" "nextByte" "I" (.int (own_s1 q0 p1 q2 p3).2.2.1) := P48_4
  have fx53 : own_Ar Z T48.heap c62_data k_c62_data .byte (own_w0_54 q0 p1 q2 p3) Value.int (0 : Int32) (own_s1 q0 p1 q2 p3).2.2.2 := P48_5
  refine own_st (g' := (mkF m 78 #[.val (.long q0), .second, .val (.int p1), .val (.long q2), .second, .val (.int p3), .val (.int (own_w0_7 q0 p1 q2 p3)), .val (.int (own_w0_17 q0 p1 q2 p3)), .val (.long (own_w0_27 q0 p1 q2 p3)), .second, .val (.long (own_w0_37 q0 p1 q2 p3)), .second, .val (.int (own_w0_44 q0 p1 q2 p3)), .val (.int (own_w0_54 q0 p1 q2 p3)), .val (.ref b56), .unset, .unset, .unset] [(.ref b56)])) (fun t k => XS.aload X48.here hx rfl (hb hby at_76) rfl rfl k) ?_
  refine own_st (g' := (mkF m 80 #[.val (.long q0), .second, .val (.int p1), .val (.long q2), .second, .val (.int p3), .val (.int (own_w0_7 q0 p1 q2 p3)), .val (.int (own_w0_17 q0 p1 q2 p3)), .val (.long (own_w0_27 q0 p1 q2 p3)), .second, .val (.long (own_w0_37 q0 p1 q2 p3)), .second, .val (.int (own_w0_44 q0 p1 q2 p3)), .val (.int (own_w0_54 q0 p1 q2 p3)), .val (.ref b56), .unset, .unset, .unset] [(.long (own_w0_37 q0 p1 q2 p3)), (.ref b56)])) (fun t k => XS.lload X48.here hx rfl (hb hby at_78) rfl  k) ?_
  refine own_st (g' := (mkF m 82 #[.val (.long q0), .second, .val (.int p1), .val (.long q2), .second, .val (.int p3), .val (.int (own_w0_7 q0 p1 q2 p3)), .val (.int (own_w0_17 q0 p1 q2 p3)), .val (.long (own_w0_27 q0 p1 q2 p3)), .second, .val (.long (own_w0_37 q0 p1 q2 p3)), .second, .val (.int (own_w0_44 q0 p1 q2 p3)), .val (.int (own_w0_54 q0 p1 q2 p3)), .val (.ref b56), .unset, .unset, .unset] [(.int (own_w0_17 q0 p1 q2 p3)), (.long (own_w0_37 q0 p1 q2 p3)), (.ref b56)])) (fun t k => XS.iload X48.here hx rfl (hb hby at_80) rfl  k) ?_
  have Z55 : n0 ≤ T48.heap.size := (Nat.le_trans Z49 K48.1)
  obtain ⟨cq54, kq54, q54a, q54b, q54c⟩ := isOf hZ (rfl : T48.heap = T48.heap) P48_0
  obtain ⟨_, _, ⟨T54, L54, k54, n54⟩, -, X54, ⟨Lc54, hQ54, l54, y54, z54⟩, st54⟩ := X48.virtualBack hx (y := (⟨"com/example/dehull/dehull/codec/BitWriter", "writeBits", "(JI)V"⟩ : MethodName)) (z := (⟨"com/example/dehull/dehull/codec/BitWriter", "writeBits", "(JI)V"⟩ : MethodName)) hown (mvT hZ (hw _ (List.mem_of_getElem? (i := 13) rfl))) (mvT hZ (hw _ (List.mem_of_getElem? (i := 14) rfl))) (notFace_of_selects (args := #[]) (mvT hZ (hw _ (List.mem_of_getElem? (i := 16) rfl)))) (mvT hZ (hw _ (List.mem_of_getElem? (i := 16) rfl))) (mvT hZ (hw _ (List.mem_of_getElem? (i := 15) rfl))) (by decide) (backOf (W := 0) (rm3 l Z a0 hw [] b56 (own_w0_37 q0 p1 q2 p3) (own_w0_17 q0 p1 q2 p3) c62_data k_c62_data (own_w0_54 q0 p1 q2 p3) (own_s1 q0 p1 q2 p3).2.2.2 (own_s1 q0 p1 q2 p3).1 (own_s1 q0 p1 q2 p3).2.1 (own_s1 q0 p1 q2 p3).2.2.1 T48.heap n0 Z55 P48_0 P48_1 fx50 fx51 fx52 fx53 g_b56 g_c62_data (Ne.symm ne_b56_c62_data) (own_pc q0 p1 q2 p3) (own_pd q0 p1 q2 p3)) hZ (hw _ (List.mem_of_getElem? (i := 17) rfl)) (hw _ (List.mem_of_getElem? (i := 3) rfl)) (by decide) (by decide)) q54a q54c (g := (mkF m 82 #[.val (.long q0), .second, .val (.int p1), .val (.long q2), .second, .val (.int p3), .val (.int (own_w0_7 q0 p1 q2 p3)), .val (.int (own_w0_17 q0 p1 q2 p3)), .val (.long (own_w0_27 q0 p1 q2 p3)), .second, .val (.long (own_w0_37 q0 p1 q2 p3)), .second, .val (.int (own_w0_44 q0 p1 q2 p3)), .val (.int (own_w0_54 q0 p1 q2 p3)), .val (.ref b56), .unset, .unset, .unset] [(.int (own_w0_17 q0 p1 q2 p3)), (.long (own_w0_37 q0 p1 q2 p3)), (.ref b56)])) rfl (by rw [hml]; rfl) (Steps.refl _) (argsL := [(.long (own_w0_37 q0 p1 q2 p3)), (.int (own_w0_17 q0 p1 q2 p3))]) (rest := []) (lenOf pd_0_1 rfl) rfl (by show 2 * 0 + _ ≤ _; exact Nat.le_of_eq rfl) (hb hby at_82) (fun _ _ => ⟨rfl, (rfl : T48.heap = T48.heap), (by decide : 2 + 0 ≤ _), (by decide : 12 + 0 ≤ _)⟩)
  dsimp only [Pt.U, Pt.locs, Pt.cells, Pt.slots] at X54 l54 y54 z54 st54 hQ54
  subst l54 y54 z54
  obtain ⟨rfl, N54q, K54, P54_0, P54_1, P54_2, P54_3, P54_4, P54_5⟩ := hQ54
  have N54 := Fr.app N48 N54q
  refine own_st (g' := (mkF m 85 #[.val (.long q0), .second, .val (.int p1), .val (.long q2), .second, .val (.int p3), .val (.int (own_w0_7 q0 p1 q2 p3)), .val (.int (own_w0_17 q0 p1 q2 p3)), .val (.long (own_w0_27 q0 p1 q2 p3)), .second, .val (.long (own_w0_37 q0 p1 q2 p3)), .second, .val (.int (own_w0_44 q0 p1 q2 p3)), .val (.int (own_w0_54 q0 p1 q2 p3)), .val (.ref b56), .unset, .unset, .unset] [])) (fun t k => st54.trans k) ?_
  have fx56 : Fld Z T54.heap b56 "com/example/dehull/dehull/codec/BitWriter" "window" "J" (.long (own_s2 q0 p1 q2 p3).1) := P54_2
  have fx57 : Fld Z T54.heap b56 "com/example/dehull/dehull/codec/BitWriter" "windowBits" "I" (.int (own_s2 q0 p1 q2 p3).2.1) := P54_3
  have fx58 : Fld Z T54.heap b56 "com/example/dehull/dehull/codec/BitWriter" "nextByte" "I" (.int (own_s2 q0 p1 q2 p3).2.2.1) := P54_4
  have fx59 : own_Ar Z T54.heap c62_data k_c62_data .byte (own_w0_54 q0 p1 q2 p3) Value.int (0 : Int32) (own_s2 q0 p1 q2 p3).2.2.2 := P54_5
  refine own_st (g' := (mkF m 87 #[.val (.long q0), .second, .val (.int p1), .val (.long q2), .second, .val (.int p3), .val (.int (own_w0_7 q0 p1 q2 p3)), .val (.int (own_w0_17 q0 p1 q2 p3)), .val (.long (own_w0_27 q0 p1 q2 p3)), .second, .val (.long (own_w0_37 q0 p1 q2 p3)), .second, .val (.int (own_w0_44 q0 p1 q2 p3)), .val (.int (own_w0_54 q0 p1 q2 p3)), .val (.ref b56), .unset, .unset, .unset] [(.ref b56)])) (fun t k => XS.aload X54.here hx rfl (hb hby at_85) rfl rfl k) ?_
  have Z61 : n0 ≤ T54.heap.size := (Nat.le_trans Z55 K54.1)
  obtain ⟨cq60, kq60, q60a, q60b, q60c⟩ := isOf hZ (rfl : T54.heap = T54.heap) P54_0
  obtain ⟨_, _, ⟨T60, L60, k60, n60⟩, -, X60, ⟨Lc60, hQ60, l60, y60, z60⟩, st60⟩ := X54.virtualBack hx (y := (⟨"com/example/dehull/dehull/codec/BitWriter", "finish", "()[B"⟩ : MethodName)) (z := (⟨"com/example/dehull/dehull/codec/BitWriter", "finish", "()[B"⟩ : MethodName)) hown (mvT hZ (hw _ (List.mem_of_getElem? (i := 22) rfl))) (mvT hZ (hw _ (List.mem_of_getElem? (i := 23) rfl))) (notFace_of_selects (args := #[]) (mvT hZ (hw _ (List.mem_of_getElem? (i := 25) rfl)))) (mvT hZ (hw _ (List.mem_of_getElem? (i := 25) rfl))) (mvT hZ (hw _ (List.mem_of_getElem? (i := 24) rfl))) (by decide) (backOf (W := 0) (rm4 l Z a0 hw [] b56 c62_data k_c62_data (own_w0_54 q0 p1 q2 p3) (own_s2 q0 p1 q2 p3).2.2.2 (own_s2 q0 p1 q2 p3).1 (own_s2 q0 p1 q2 p3).2.1 (own_s2 q0 p1 q2 p3).2.2.1 T54.heap n0 Z61 P54_0 P54_1 fx56 fx57 fx58 fx59 g_b56 g_c62_data (Ne.symm ne_b56_c62_data) (own_pe q0 p1 q2 p3) (own_pf q0 p1 q2 p3)) hZ (hw _ (List.mem_of_getElem? (i := 26) rfl)) (hw _ (List.mem_of_getElem? (i := 3) rfl)) (by decide) (by decide)) q60a q60c (g := (mkF m 87 #[.val (.long q0), .second, .val (.int p1), .val (.long q2), .second, .val (.int p3), .val (.int (own_w0_7 q0 p1 q2 p3)), .val (.int (own_w0_17 q0 p1 q2 p3)), .val (.long (own_w0_27 q0 p1 q2 p3)), .second, .val (.long (own_w0_37 q0 p1 q2 p3)), .second, .val (.int (own_w0_44 q0 p1 q2 p3)), .val (.int (own_w0_54 q0 p1 q2 p3)), .val (.ref b56), .unset, .unset, .unset] [(.ref b56)])) rfl (by rw [hml]; rfl) (Steps.refl _) (argsL := []) (rest := []) (lenOf pd_0_2 rfl) rfl (by show 2 * 0 + _ ≤ _; exact Nat.le_of_eq rfl) (hb hby at_87) (fun _ _ => ⟨rfl, (rfl : T54.heap = T54.heap), (by decide : 2 + 0 ≤ _), (by decide : 12 + 0 ≤ _)⟩)
  dsimp only [Pt.U, Pt.locs, Pt.cells, Pt.slots] at X60 l60 y60 z60 st60 hQ60
  subst l60 y60 z60
  obtain ⟨rfl, N60q, K60, P60_0⟩ := hQ60
  have N60 := Fr.app N54 N60q
  refine own_st (g' := (mkF m 90 #[.val (.long q0), .second, .val (.int p1), .val (.long q2), .second, .val (.int p3), .val (.int (own_w0_7 q0 p1 q2 p3)), .val (.int (own_w0_17 q0 p1 q2 p3)), .val (.long (own_w0_27 q0 p1 q2 p3)), .second, .val (.long (own_w0_37 q0 p1 q2 p3)), .second, .val (.int (own_w0_44 q0 p1 q2 p3)), .val (.int (own_w0_54 q0 p1 q2 p3)), .val (.ref b56), .unset, .unset, .unset] [(.ref c62_data)])) (fun t k => st60.trans k) ?_
  refine own_st (g' := (mkF m 92 #[.val (.long q0), .second, .val (.int p1), .val (.long q2), .second, .val (.int p3), .val (.int (own_w0_7 q0 p1 q2 p3)), .val (.int (own_w0_17 q0 p1 q2 p3)), .val (.long (own_w0_27 q0 p1 q2 p3)), .second, .val (.long (own_w0_37 q0 p1 q2 p3)), .second, .val (.int (own_w0_44 q0 p1 q2 p3)), .val (.int (own_w0_54 q0 p1 q2 p3)), .val (.ref b56), .val (.ref c62_data), .unset, .unset] [])) (fun t k => XS.astore X60.here hx rfl (hb hby at_90) rfl rfl (l' := #[.val (.long q0), .second, .val (.int p1), .val (.long q2), .second, .val (.int p3), .val (.int (own_w0_7 q0 p1 q2 p3)), .val (.int (own_w0_17 q0 p1 q2 p3)), .val (.long (own_w0_27 q0 p1 q2 p3)), .second, .val (.long (own_w0_37 q0 p1 q2 p3)), .second, .val (.int (own_w0_44 q0 p1 q2 p3)), .val (.int (own_w0_54 q0 p1 q2 p3)), .val (.ref b56), .val (.ref c62_data), .unset, .unset]) rfl k) ?_
  refine own_st (g' := (mkF m 94 #[.val (.long q0), .second, .val (.int p1), .val (.long q2), .second, .val (.int p3), .val (.int (own_w0_7 q0 p1 q2 p3)), .val (.int (own_w0_17 q0 p1 q2 p3)), .val (.long (own_w0_27 q0 p1 q2 p3)), .second, .val (.long (own_w0_37 q0 p1 q2 p3)), .second, .val (.int (own_w0_44 q0 p1 q2 p3)), .val (.int (own_w0_54 q0 p1 q2 p3)), .val (.ref b56), .val (.ref c62_data), .unset, .unset] [(.long (own_w0_27 q0 p1 q2 p3))])) (fun t k => XS.lload X60.here hx rfl (hb hby at_92) rfl  k) ?_
  refine own_st (g' := (mkF m 96 #[.val (.long q0), .second, .val (.int p1), .val (.long q2), .second, .val (.int p3), .val (.int (own_w0_7 q0 p1 q2 p3)), .val (.int (own_w0_17 q0 p1 q2 p3)), .val (.long (own_w0_27 q0 p1 q2 p3)), .second, .val (.long (own_w0_37 q0 p1 q2 p3)), .second, .val (.int (own_w0_44 q0 p1 q2 p3)), .val (.int (own_w0_54 q0 p1 q2 p3)), .val (.ref b56), .val (.ref c62_data), .unset, .unset] [(.long (own_w0_37 q0 p1 q2 p3)), (.long (own_w0_27 q0 p1 q2 p3))])) (fun t k => XS.lload X60.here hx rfl (hb hby at_94) rfl  k) ?_
  refine own_st (g' := (mkF m 98 #[.val (.long q0), .second, .val (.int p1), .val (.long q2), .second, .val (.int p3), .val (.int (own_w0_7 q0 p1 q2 p3)), .val (.int (own_w0_17 q0 p1 q2 p3)), .val (.long (own_w0_27 q0 p1 q2 p3)), .second, .val (.long (own_w0_37 q0 p1 q2 p3)), .second, .val (.int (own_w0_44 q0 p1 q2 p3)), .val (.int (own_w0_54 q0 p1 q2 p3)), .val (.ref b56), .val (.ref c62_data), .unset, .unset] [(.int (own_w0_7 q0 p1 q2 p3)), (.long (own_w0_37 q0 p1 q2 p3)), (.long (own_w0_27 q0 p1 q2 p3))])) (fun t k => XS.iload X60.here hx rfl (hb hby at_96) rfl  k) ?_
  refine own_st (g' := (mkF m 99 #[.val (.long q0), .second, .val (.int p1), .val (.long q2), .second, .val (.int p3), .val (.int (own_w0_7 q0 p1 q2 p3)), .val (.int (own_w0_17 q0 p1 q2 p3)), .val (.long (own_w0_27 q0 p1 q2 p3)), .second, .val (.long (own_w0_37 q0 p1 q2 p3)), .second, .val (.int (own_w0_44 q0 p1 q2 p3)), .val (.int (own_w0_54 q0 p1 q2 p3)), .val (.ref b56), .val (.ref c62_data), .unset, .unset] [(.long (((own_w0_37 q0 p1 q2 p3) <<< ((own_w0_7 q0 p1 q2 p3) &&& 0x3f).toInt64))), (.long (own_w0_27 q0 p1 q2 p3))])) (fun t k => XS.lshl X60.here hx rfl (hb hby at_98) rfl k) ?_
  refine own_st (g' := (mkF m 100 #[.val (.long q0), .second, .val (.int p1), .val (.long q2), .second, .val (.int p3), .val (.int (own_w0_7 q0 p1 q2 p3)), .val (.int (own_w0_17 q0 p1 q2 p3)), .val (.long (own_w0_27 q0 p1 q2 p3)), .second, .val (.long (own_w0_37 q0 p1 q2 p3)), .second, .val (.int (own_w0_44 q0 p1 q2 p3)), .val (.int (own_w0_54 q0 p1 q2 p3)), .val (.ref b56), .val (.ref c62_data), .unset, .unset] [(.long ((own_w0_27 q0 p1 q2 p3) ||| (((own_w0_37 q0 p1 q2 p3) <<< ((own_w0_7 q0 p1 q2 p3) &&& 0x3f).toInt64))))])) (fun t k => XS.lor X60.here hx rfl (hb hby at_99) rfl k) ?_
  refine own_st (g' := (mkF m 102 #[.val (.long q0), .second, .val (.int p1), .val (.long q2), .second, .val (.int p3), .val (.int (own_w0_7 q0 p1 q2 p3)), .val (.int (own_w0_17 q0 p1 q2 p3)), .val (.long (own_w0_27 q0 p1 q2 p3)), .second, .val (.long (own_w0_37 q0 p1 q2 p3)), .second, .val (.int (own_w0_44 q0 p1 q2 p3)), .val (.int (own_w0_54 q0 p1 q2 p3)), .val (.ref b56), .val (.ref c62_data), .val (.long (own_w0_100 q0 p1 q2 p3)), .second] [])) (fun t k => XS.lstore X60.here hx rfl (hb hby at_100) rfl (l' := #[.val (.long q0), .second, .val (.int p1), .val (.long q2), .second, .val (.int p3), .val (.int (own_w0_7 q0 p1 q2 p3)), .val (.int (own_w0_17 q0 p1 q2 p3)), .val (.long (own_w0_27 q0 p1 q2 p3)), .second, .val (.long (own_w0_37 q0 p1 q2 p3)), .second, .val (.int (own_w0_44 q0 p1 q2 p3)), .val (.int (own_w0_54 q0 p1 q2 p3)), .val (.ref b56), .val (.ref c62_data), .val (.long (own_w0_100 q0 p1 q2 p3)), .second]) rfl k) ?_
  refine own_st (g' := (mkF m 104 #[.val (.long q0), .second, .val (.int p1), .val (.long q2), .second, .val (.int p3), .val (.int (own_w0_7 q0 p1 q2 p3)), .val (.int (own_w0_17 q0 p1 q2 p3)), .val (.long (own_w0_27 q0 p1 q2 p3)), .second, .val (.long (own_w0_37 q0 p1 q2 p3)), .second, .val (.int (own_w0_44 q0 p1 q2 p3)), .val (.int (own_w0_54 q0 p1 q2 p3)), .val (.ref b56), .val (.ref c62_data), .val (.long (own_w0_100 q0 p1 q2 p3)), .second] [(.ref c62_data)])) (fun t k => XS.aload X60.here hx rfl (hb hby at_102) rfl rfl k) ?_
  refine own_st (g' := (mkF m 105 #[.val (.long q0), .second, .val (.int p1), .val (.long q2), .second, .val (.int p3), .val (.int (own_w0_7 q0 p1 q2 p3)), .val (.int (own_w0_17 q0 p1 q2 p3)), .val (.long (own_w0_27 q0 p1 q2 p3)), .second, .val (.long (own_w0_37 q0 p1 q2 p3)), .second, .val (.int (own_w0_44 q0 p1 q2 p3)), .val (.int (own_w0_54 q0 p1 q2 p3)), .val (.ref b56), .val (.ref c62_data), .val (.long (own_w0_100 q0 p1 q2 p3)), .second] [(.int (own_w0_54 q0 p1 q2 p3))])) (fun t k => own_alen X60 hx hZ (rfl : T60.heap = T60.heap) P60_0 (g := (mkF m 104 #[.val (.long q0), .second, .val (.int p1), .val (.long q2), .second, .val (.int p3), .val (.int (own_w0_7 q0 p1 q2 p3)), .val (.int (own_w0_17 q0 p1 q2 p3)), .val (.long (own_w0_27 q0 p1 q2 p3)), .second, .val (.long (own_w0_37 q0 p1 q2 p3)), .second, .val (.int (own_w0_44 q0 p1 q2 p3)), .val (.int (own_w0_54 q0 p1 q2 p3)), .val (.ref b56), .val (.ref c62_data), .val (.long (own_w0_100 q0 p1 q2 p3)), .second] [(.ref c62_data)])) rfl rfl (hb hby at_104) t k) ?_
  refine own_st (g' := (mkF m 107 #[.val (.long q0), .second, .val (.int p1), .val (.long q2), .second, .val (.int p3), .val (.int (own_w0_7 q0 p1 q2 p3)), .val (.int (own_w0_17 q0 p1 q2 p3)), .val (.long (own_w0_27 q0 p1 q2 p3)), .second, .val (.long (own_w0_37 q0 p1 q2 p3)), .second, .val (.int (own_w0_44 q0 p1 q2 p3)), .val (.int (own_w0_54 q0 p1 q2 p3)), .val (.ref b56), .val (.ref c62_data), .val (.long (own_w0_100 q0 p1 q2 p3)), .second] [(.int (own_w0_54 q0 p1 q2 p3)), (.int (own_w0_54 q0 p1 q2 p3))])) (fun t k => XS.iload X60.here hx rfl (hb hby at_105) rfl  k) ?_
  have f62 := (P54_0.keep K60)
  have Z63 : n0 ≤ T60.heap.size := (Nat.le_trans Z61 K60.1)
  have J207 : ∀ (T : State) (locs : List Loc) (t0_207 : Int32), Stand p l e room_1 s m #[(.long q0), (.int p1), (.long q2), (.int p3)] below meth c T locs 2 12 → T.heap = T60.heap → Fr n0 locs → own_f0_207 q0 p1 q2 p3 t0_207 = (1 : Int32) → own_Fin p e below s 16 128 (Q0 Z q0 p1 q2 p3 h0 n0) T (mkF m 207 #[.val (.long q0), .second, .val (.int p1), .val (.long q2), .second, .val (.int p3), .val (.int (own_w0_7 q0 p1 q2 p3)), .val (.int (own_w0_17 q0 p1 q2 p3)), .val (.long (own_w0_27 q0 p1 q2 p3)), .second, .val (.long (own_w0_37 q0 p1 q2 p3)), .second, .val (.int (own_w0_44 q0 p1 q2 p3)), .val (.int (own_w0_54 q0 p1 q2 p3)), .val (.ref b56), .val (.ref c62_data), .val (.long (own_w0_100 q0 p1 q2 p3)), .second] [(.int t0_207)]) := by
    intro T64 locs64 t0_207  X64 e64 N64 hr64
    have hr64a := (own_f0_207_eq (q0) (p1) (q2) (p3) (t0_207)).symm.trans hr64
    exact own_retN (t := .boolean) X64 hx Bd.returns Bd.notSynchronized (by simp) (hb hby at_207) ⟨congrArg (fun q => some (Value.int q)) hr64a, N64⟩ (by decide) (by decide)
  by_cases hc107_65 : (own_w0_54 q0 p1 q2 p3) = (own_w0_54 q0 p1 q2 p3)
  · have hr66 := (if_pos hc107_65).symm.trans hr0
    refine own_st (g' := (mkF m 112 #[.val (.long q0), .second, .val (.int p1), .val (.long q2), .second, .val (.int p3), .val (.int (own_w0_7 q0 p1 q2 p3)), .val (.int (own_w0_17 q0 p1 q2 p3)), .val (.long (own_w0_27 q0 p1 q2 p3)), .second, .val (.long (own_w0_37 q0 p1 q2 p3)), .second, .val (.int (own_w0_44 q0 p1 q2 p3)), .val (.int (own_w0_54 q0 p1 q2 p3)), .val (.ref b56), .val (.ref c62_data), .val (.long (own_w0_100 q0 p1 q2 p3)), .second] [])) (fun t k => XS.icmpYes X60.here hx rfl (pc0 := 107) (pc' := 112) rfl (hb hby at_107) rfl (teq hc107_65).1 (by decide) (by decide) k) ?_
    refine own_st (g' := (mkF m 114 #[.val (.long q0), .second, .val (.int p1), .val (.long q2), .second, .val (.int p3), .val (.int (own_w0_7 q0 p1 q2 p3)), .val (.int (own_w0_17 q0 p1 q2 p3)), .val (.long (own_w0_27 q0 p1 q2 p3)), .second, .val (.long (own_w0_37 q0 p1 q2 p3)), .second, .val (.int (own_w0_44 q0 p1 q2 p3)), .val (.int (own_w0_54 q0 p1 q2 p3)), .val (.ref b56), .val (.ref c62_data), .val (.long (own_w0_100 q0 p1 q2 p3)), .second] [(.ref c62_data)])) (fun t k => XS.aload X60.here hx rfl (hb hby at_112) rfl rfl k) ?_
    refine own_st (g' := (mkF m 115 #[.val (.long q0), .second, .val (.int p1), .val (.long q2), .second, .val (.int p3), .val (.int (own_w0_7 q0 p1 q2 p3)), .val (.int (own_w0_17 q0 p1 q2 p3)), .val (.long (own_w0_27 q0 p1 q2 p3)), .second, .val (.long (own_w0_37 q0 p1 q2 p3)), .second, .val (.int (own_w0_44 q0 p1 q2 p3)), .val (.int (own_w0_54 q0 p1 q2 p3)), .val (.ref b56), .val (.ref c62_data), .val (.long (own_w0_100 q0 p1 q2 p3)), .second] [(.int (0 : Int32)), (.ref c62_data)])) (fun t k => XS.iconst X60.here hx rfl (hb hby at_114) k) ?_
    refine own_st (g' := (mkF m 117 #[.val (.long q0), .second, .val (.int p1), .val (.long q2), .second, .val (.int p3), .val (.int (own_w0_7 q0 p1 q2 p3)), .val (.int (own_w0_17 q0 p1 q2 p3)), .val (.long (own_w0_27 q0 p1 q2 p3)), .second, .val (.long (own_w0_37 q0 p1 q2 p3)), .second, .val (.int (own_w0_44 q0 p1 q2 p3)), .val (.int (own_w0_54 q0 p1 q2 p3)), .val (.ref b56), .val (.ref c62_data), .val (.long (own_w0_100 q0 p1 q2 p3)), .second] [(.long (own_w0_100 q0 p1 q2 p3)), (.int (0 : Int32)), (.ref c62_data)])) (fun t k => XS.lload X60.here hx rfl (hb hby at_115) rfl  k) ?_
    obtain ⟨_, _, ⟨T67, L67, k67, n67⟩, -, X67, ⟨Lc67, hQ67, l67, y67, z67⟩, st67⟩ := Jvm.LawKit.callS X60 hx (y := (⟨"com/example/dehull/dehull/codec/BitWriterWriteBitsPinLaw", "at", "([BIJ)Z"⟩ : MethodName)) hown (mvT hZ (hw _ (List.mem_of_getElem? (i := 29) rfl))) (mvT hZ (hw _ (List.mem_of_getElem? (i := 30) rfl))) (mvT hZ (hw _ (List.mem_of_getElem? (i := 31) rfl))) (mvT hZ (hw _ (List.mem_of_getElem? (i := 32) rfl))) (by decide) (backOf (W := 0) (rm5 l Z a0 hw [] c62_data (0 : Int32) (own_w0_100 q0 p1 q2 p3) k_c62_data (own_w0_54 q0 p1 q2 p3) (own_fin (own_s2 q0 p1 q2 p3).1 (own_s2 q0 p1 q2 p3).2.1 (own_s2 q0 p1 q2 p3).2.2.1 (own_s2 q0 p1 q2 p3).2.2.2) T60.heap n0 Z63 P60_0 (by decide)) hZ (hw _ (List.mem_of_getElem? (i := 32) rfl)) (hw _ (List.mem_of_getElem? (i := 31) rfl)) (by decide) (by decide)) (g := (mkF m 117 #[.val (.long q0), .second, .val (.int p1), .val (.long q2), .second, .val (.int p3), .val (.int (own_w0_7 q0 p1 q2 p3)), .val (.int (own_w0_17 q0 p1 q2 p3)), .val (.long (own_w0_27 q0 p1 q2 p3)), .second, .val (.long (own_w0_37 q0 p1 q2 p3)), .second, .val (.int (own_w0_44 q0 p1 q2 p3)), .val (.int (own_w0_54 q0 p1 q2 p3)), .val (.ref b56), .val (.ref c62_data), .val (.long (own_w0_100 q0 p1 q2 p3)), .second] [(.long (own_w0_100 q0 p1 q2 p3)), (.int (0 : Int32)), (.ref c62_data)])) rfl (by rw [hml]; rfl) (argsL := [(.ref c62_data), (.int (0 : Int32)), (.long (own_w0_100 q0 p1 q2 p3))]) (rest := []) (lenOf pd_0_3 rfl) rfl (by show 2 * 0 + _ ≤ _; exact Nat.le_of_eq rfl) (hb hby at_117) (fun _ _ => ⟨rfl, (rfl : T60.heap = T60.heap), (by decide : 2 + 0 ≤ _), (by decide : 12 + 0 ≤ _)⟩)
    dsimp only [Pt.U, Pt.locs, Pt.cells, Pt.slots] at X67 l67 y67 z67 st67 hQ67
    subst l67 y67 z67
    obtain ⟨rfl, N67q, e67⟩ := hQ67
    have N67 := Fr.app N60 N67q
    refine own_st (g' := (mkF m 120 #[.val (.long q0), .second, .val (.int p1), .val (.long q2), .second, .val (.int p3), .val (.int (own_w0_7 q0 p1 q2 p3)), .val (.int (own_w0_17 q0 p1 q2 p3)), .val (.long (own_w0_27 q0 p1 q2 p3)), .second, .val (.long (own_w0_37 q0 p1 q2 p3)), .second, .val (.int (own_w0_44 q0 p1 q2 p3)), .val (.int (own_w0_54 q0 p1 q2 p3)), .val (.ref b56), .val (.ref c62_data), .val (.long (own_w0_100 q0 p1 q2 p3)), .second] [(.int (own_F5 (0 : Int32) (own_w0_100 q0 p1 q2 p3) (own_w0_54 q0 p1 q2 p3) (own_fin (own_s2 q0 p1 q2 p3).1 (own_s2 q0 p1 q2 p3).2.1 (own_s2 q0 p1 q2 p3).2.2.1 (own_s2 q0 p1 q2 p3).2.2.2)))])) (fun t k => st67 t k) ?_
    by_cases hc120_68 : (own_F5 (0 : Int32) (own_w0_100 q0 p1 q2 p3) (own_w0_54 q0 p1 q2 p3) (own_fin (own_s2 q0 p1 q2 p3).1 (own_s2 q0 p1 q2 p3).2.1 (own_s2 q0 p1 q2 p3).2.2.1 (own_s2 q0 p1 q2 p3).2.2.2)) = (0 : Int32)
    · have hr69 := (if_pos hc120_68).symm.trans hr66
      refine own_st (g' := (mkF m 206 #[.val (.long q0), .second, .val (.int p1), .val (.long q2), .second, .val (.int p3), .val (.int (own_w0_7 q0 p1 q2 p3)), .val (.int (own_w0_17 q0 p1 q2 p3)), .val (.long (own_w0_27 q0 p1 q2 p3)), .second, .val (.long (own_w0_37 q0 p1 q2 p3)), .second, .val (.int (own_w0_44 q0 p1 q2 p3)), .val (.int (own_w0_54 q0 p1 q2 p3)), .val (.ref b56), .val (.ref c62_data), .val (.long (own_w0_100 q0 p1 q2 p3)), .second] [])) (fun t k => XS.ifYes X67.here hx rfl (pc0 := 120) (pc' := 206) rfl (hb hby at_120) rfl ((if0 _ _).trans (teq hc120_68).1) (by decide) (by decide) k) ?_
      refine own_st (g' := (mkF m 207 #[.val (.long q0), .second, .val (.int p1), .val (.long q2), .second, .val (.int p3), .val (.int (own_w0_7 q0 p1 q2 p3)), .val (.int (own_w0_17 q0 p1 q2 p3)), .val (.long (own_w0_27 q0 p1 q2 p3)), .second, .val (.long (own_w0_37 q0 p1 q2 p3)), .second, .val (.int (own_w0_44 q0 p1 q2 p3)), .val (.int (own_w0_54 q0 p1 q2 p3)), .val (.ref b56), .val (.ref c62_data), .val (.long (own_w0_100 q0 p1 q2 p3)), .second] [(.int (0 : Int32))])) (fun t k => XS.iconst X67.here hx rfl (hb hby at_206) k) ?_
      exact J207 T67 _ (0 : Int32)  X67 e67 N67 hr69
    · have hr70 := (if_neg hc120_68).symm.trans hr66
      refine own_st (g' := (mkF m 123 #[.val (.long q0), .second, .val (.int p1), .val (.long q2), .second, .val (.int p3), .val (.int (own_w0_7 q0 p1 q2 p3)), .val (.int (own_w0_17 q0 p1 q2 p3)), .val (.long (own_w0_27 q0 p1 q2 p3)), .second, .val (.long (own_w0_37 q0 p1 q2 p3)), .second, .val (.int (own_w0_44 q0 p1 q2 p3)), .val (.int (own_w0_54 q0 p1 q2 p3)), .val (.ref b56), .val (.ref c62_data), .val (.long (own_w0_100 q0 p1 q2 p3)), .second] [])) (fun t k => XS.ifNo X67.here hx rfl (hb hby at_120) rfl ((if0 _ _).trans (feq hc120_68).1) k) ?_
      refine own_st (g' := (mkF m 125 #[.val (.long q0), .second, .val (.int p1), .val (.long q2), .second, .val (.int p3), .val (.int (own_w0_7 q0 p1 q2 p3)), .val (.int (own_w0_17 q0 p1 q2 p3)), .val (.long (own_w0_27 q0 p1 q2 p3)), .second, .val (.long (own_w0_37 q0 p1 q2 p3)), .second, .val (.int (own_w0_44 q0 p1 q2 p3)), .val (.int (own_w0_54 q0 p1 q2 p3)), .val (.ref b56), .val (.ref c62_data), .val (.long (own_w0_100 q0 p1 q2 p3)), .second] [(.ref c62_data)])) (fun t k => XS.aload X67.here hx rfl (hb hby at_123) rfl rfl k) ?_
      refine own_st (g' := (mkF m 126 #[.val (.long q0), .second, .val (.int p1), .val (.long q2), .second, .val (.int p3), .val (.int (own_w0_7 q0 p1 q2 p3)), .val (.int (own_w0_17 q0 p1 q2 p3)), .val (.long (own_w0_27 q0 p1 q2 p3)), .second, .val (.long (own_w0_37 q0 p1 q2 p3)), .second, .val (.int (own_w0_44 q0 p1 q2 p3)), .val (.int (own_w0_54 q0 p1 q2 p3)), .val (.ref b56), .val (.ref c62_data), .val (.long (own_w0_100 q0 p1 q2 p3)), .second] [(.int (1 : Int32)), (.ref c62_data)])) (fun t k => XS.iconst X67.here hx rfl (hb hby at_125) k) ?_
      refine own_st (g' := (mkF m 128 #[.val (.long q0), .second, .val (.int p1), .val (.long q2), .second, .val (.int p3), .val (.int (own_w0_7 q0 p1 q2 p3)), .val (.int (own_w0_17 q0 p1 q2 p3)), .val (.long (own_w0_27 q0 p1 q2 p3)), .second, .val (.long (own_w0_37 q0 p1 q2 p3)), .second, .val (.int (own_w0_44 q0 p1 q2 p3)), .val (.int (own_w0_54 q0 p1 q2 p3)), .val (.ref b56), .val (.ref c62_data), .val (.long (own_w0_100 q0 p1 q2 p3)), .second] [(.long (own_w0_100 q0 p1 q2 p3)), (.int (1 : Int32)), (.ref c62_data)])) (fun t k => XS.lload X67.here hx rfl (hb hby at_126) rfl  k) ?_
      obtain ⟨_, _, ⟨T71, L71, k71, n71⟩, -, X71, ⟨Lc71, hQ71, l71, y71, z71⟩, st71⟩ := Jvm.LawKit.callS X67 hx (y := (⟨"com/example/dehull/dehull/codec/BitWriterWriteBitsPinLaw", "at", "([BIJ)Z"⟩ : MethodName)) hown (mvT hZ (hw _ (List.mem_of_getElem? (i := 29) rfl))) (mvT hZ (hw _ (List.mem_of_getElem? (i := 30) rfl))) (mvT hZ (hw _ (List.mem_of_getElem? (i := 31) rfl))) (mvT hZ (hw _ (List.mem_of_getElem? (i := 32) rfl))) (by decide) (backOf (W := 0) (rm5 l Z a0 hw [] c62_data (1 : Int32) (own_w0_100 q0 p1 q2 p3) k_c62_data (own_w0_54 q0 p1 q2 p3) (own_fin (own_s2 q0 p1 q2 p3).1 (own_s2 q0 p1 q2 p3).2.1 (own_s2 q0 p1 q2 p3).2.2.1 (own_s2 q0 p1 q2 p3).2.2.2) T60.heap n0 Z63 P60_0 (by decide)) hZ (hw _ (List.mem_of_getElem? (i := 32) rfl)) (hw _ (List.mem_of_getElem? (i := 31) rfl)) (by decide) (by decide)) (g := (mkF m 128 #[.val (.long q0), .second, .val (.int p1), .val (.long q2), .second, .val (.int p3), .val (.int (own_w0_7 q0 p1 q2 p3)), .val (.int (own_w0_17 q0 p1 q2 p3)), .val (.long (own_w0_27 q0 p1 q2 p3)), .second, .val (.long (own_w0_37 q0 p1 q2 p3)), .second, .val (.int (own_w0_44 q0 p1 q2 p3)), .val (.int (own_w0_54 q0 p1 q2 p3)), .val (.ref b56), .val (.ref c62_data), .val (.long (own_w0_100 q0 p1 q2 p3)), .second] [(.long (own_w0_100 q0 p1 q2 p3)), (.int (1 : Int32)), (.ref c62_data)])) rfl (by rw [hml]; rfl) (argsL := [(.ref c62_data), (.int (1 : Int32)), (.long (own_w0_100 q0 p1 q2 p3))]) (rest := []) (lenOf pd_0_3 rfl) rfl (by show 2 * 0 + _ ≤ _; exact Nat.le_of_eq rfl) (hb hby at_128) (fun _ _ => ⟨rfl, e67, (by decide : 2 + 0 ≤ _), (by decide : 12 + 0 ≤ _)⟩)
      dsimp only [Pt.U, Pt.locs, Pt.cells, Pt.slots] at X71 l71 y71 z71 st71 hQ71
      subst l71 y71 z71
      obtain ⟨rfl, N71q, e71⟩ := hQ71
      have N71 := Fr.app N67 N71q
      refine own_st (g' := (mkF m 131 #[.val (.long q0), .second, .val (.int p1), .val (.long q2), .second, .val (.int p3), .val (.int (own_w0_7 q0 p1 q2 p3)), .val (.int (own_w0_17 q0 p1 q2 p3)), .val (.long (own_w0_27 q0 p1 q2 p3)), .second, .val (.long (own_w0_37 q0 p1 q2 p3)), .second, .val (.int (own_w0_44 q0 p1 q2 p3)), .val (.int (own_w0_54 q0 p1 q2 p3)), .val (.ref b56), .val (.ref c62_data), .val (.long (own_w0_100 q0 p1 q2 p3)), .second] [(.int (own_F5 (1 : Int32) (own_w0_100 q0 p1 q2 p3) (own_w0_54 q0 p1 q2 p3) (own_fin (own_s2 q0 p1 q2 p3).1 (own_s2 q0 p1 q2 p3).2.1 (own_s2 q0 p1 q2 p3).2.2.1 (own_s2 q0 p1 q2 p3).2.2.2)))])) (fun t k => st71 t k) ?_
      by_cases hc131_72 : (own_F5 (1 : Int32) (own_w0_100 q0 p1 q2 p3) (own_w0_54 q0 p1 q2 p3) (own_fin (own_s2 q0 p1 q2 p3).1 (own_s2 q0 p1 q2 p3).2.1 (own_s2 q0 p1 q2 p3).2.2.1 (own_s2 q0 p1 q2 p3).2.2.2)) = (0 : Int32)
      · have hr73 := (if_pos hc131_72).symm.trans hr70
        refine own_st (g' := (mkF m 206 #[.val (.long q0), .second, .val (.int p1), .val (.long q2), .second, .val (.int p3), .val (.int (own_w0_7 q0 p1 q2 p3)), .val (.int (own_w0_17 q0 p1 q2 p3)), .val (.long (own_w0_27 q0 p1 q2 p3)), .second, .val (.long (own_w0_37 q0 p1 q2 p3)), .second, .val (.int (own_w0_44 q0 p1 q2 p3)), .val (.int (own_w0_54 q0 p1 q2 p3)), .val (.ref b56), .val (.ref c62_data), .val (.long (own_w0_100 q0 p1 q2 p3)), .second] [])) (fun t k => XS.ifYes X71.here hx rfl (pc0 := 131) (pc' := 206) rfl (hb hby at_131) rfl ((if0 _ _).trans (teq hc131_72).1) (by decide) (by decide) k) ?_
        refine own_st (g' := (mkF m 207 #[.val (.long q0), .second, .val (.int p1), .val (.long q2), .second, .val (.int p3), .val (.int (own_w0_7 q0 p1 q2 p3)), .val (.int (own_w0_17 q0 p1 q2 p3)), .val (.long (own_w0_27 q0 p1 q2 p3)), .second, .val (.long (own_w0_37 q0 p1 q2 p3)), .second, .val (.int (own_w0_44 q0 p1 q2 p3)), .val (.int (own_w0_54 q0 p1 q2 p3)), .val (.ref b56), .val (.ref c62_data), .val (.long (own_w0_100 q0 p1 q2 p3)), .second] [(.int (0 : Int32))])) (fun t k => XS.iconst X71.here hx rfl (hb hby at_206) k) ?_
        exact J207 T71 _ (0 : Int32)  X71 e71 N71 hr73
      · have hr74 := (if_neg hc131_72).symm.trans hr70
        refine own_st (g' := (mkF m 134 #[.val (.long q0), .second, .val (.int p1), .val (.long q2), .second, .val (.int p3), .val (.int (own_w0_7 q0 p1 q2 p3)), .val (.int (own_w0_17 q0 p1 q2 p3)), .val (.long (own_w0_27 q0 p1 q2 p3)), .second, .val (.long (own_w0_37 q0 p1 q2 p3)), .second, .val (.int (own_w0_44 q0 p1 q2 p3)), .val (.int (own_w0_54 q0 p1 q2 p3)), .val (.ref b56), .val (.ref c62_data), .val (.long (own_w0_100 q0 p1 q2 p3)), .second] [])) (fun t k => XS.ifNo X71.here hx rfl (hb hby at_131) rfl ((if0 _ _).trans (feq hc131_72).1) k) ?_
        refine own_st (g' := (mkF m 136 #[.val (.long q0), .second, .val (.int p1), .val (.long q2), .second, .val (.int p3), .val (.int (own_w0_7 q0 p1 q2 p3)), .val (.int (own_w0_17 q0 p1 q2 p3)), .val (.long (own_w0_27 q0 p1 q2 p3)), .second, .val (.long (own_w0_37 q0 p1 q2 p3)), .second, .val (.int (own_w0_44 q0 p1 q2 p3)), .val (.int (own_w0_54 q0 p1 q2 p3)), .val (.ref b56), .val (.ref c62_data), .val (.long (own_w0_100 q0 p1 q2 p3)), .second] [(.ref c62_data)])) (fun t k => XS.aload X71.here hx rfl (hb hby at_134) rfl rfl k) ?_
        refine own_st (g' := (mkF m 137 #[.val (.long q0), .second, .val (.int p1), .val (.long q2), .second, .val (.int p3), .val (.int (own_w0_7 q0 p1 q2 p3)), .val (.int (own_w0_17 q0 p1 q2 p3)), .val (.long (own_w0_27 q0 p1 q2 p3)), .second, .val (.long (own_w0_37 q0 p1 q2 p3)), .second, .val (.int (own_w0_44 q0 p1 q2 p3)), .val (.int (own_w0_54 q0 p1 q2 p3)), .val (.ref b56), .val (.ref c62_data), .val (.long (own_w0_100 q0 p1 q2 p3)), .second] [(.int (2 : Int32)), (.ref c62_data)])) (fun t k => XS.iconst X71.here hx rfl (hb hby at_136) k) ?_
        refine own_st (g' := (mkF m 139 #[.val (.long q0), .second, .val (.int p1), .val (.long q2), .second, .val (.int p3), .val (.int (own_w0_7 q0 p1 q2 p3)), .val (.int (own_w0_17 q0 p1 q2 p3)), .val (.long (own_w0_27 q0 p1 q2 p3)), .second, .val (.long (own_w0_37 q0 p1 q2 p3)), .second, .val (.int (own_w0_44 q0 p1 q2 p3)), .val (.int (own_w0_54 q0 p1 q2 p3)), .val (.ref b56), .val (.ref c62_data), .val (.long (own_w0_100 q0 p1 q2 p3)), .second] [(.long (own_w0_100 q0 p1 q2 p3)), (.int (2 : Int32)), (.ref c62_data)])) (fun t k => XS.lload X71.here hx rfl (hb hby at_137) rfl  k) ?_
        obtain ⟨_, _, ⟨T75, L75, k75, n75⟩, -, X75, ⟨Lc75, hQ75, l75, y75, z75⟩, st75⟩ := Jvm.LawKit.callS X71 hx (y := (⟨"com/example/dehull/dehull/codec/BitWriterWriteBitsPinLaw", "at", "([BIJ)Z"⟩ : MethodName)) hown (mvT hZ (hw _ (List.mem_of_getElem? (i := 29) rfl))) (mvT hZ (hw _ (List.mem_of_getElem? (i := 30) rfl))) (mvT hZ (hw _ (List.mem_of_getElem? (i := 31) rfl))) (mvT hZ (hw _ (List.mem_of_getElem? (i := 32) rfl))) (by decide) (backOf (W := 0) (rm5 l Z a0 hw [] c62_data (2 : Int32) (own_w0_100 q0 p1 q2 p3) k_c62_data (own_w0_54 q0 p1 q2 p3) (own_fin (own_s2 q0 p1 q2 p3).1 (own_s2 q0 p1 q2 p3).2.1 (own_s2 q0 p1 q2 p3).2.2.1 (own_s2 q0 p1 q2 p3).2.2.2) T60.heap n0 Z63 P60_0 (by decide)) hZ (hw _ (List.mem_of_getElem? (i := 32) rfl)) (hw _ (List.mem_of_getElem? (i := 31) rfl)) (by decide) (by decide)) (g := (mkF m 139 #[.val (.long q0), .second, .val (.int p1), .val (.long q2), .second, .val (.int p3), .val (.int (own_w0_7 q0 p1 q2 p3)), .val (.int (own_w0_17 q0 p1 q2 p3)), .val (.long (own_w0_27 q0 p1 q2 p3)), .second, .val (.long (own_w0_37 q0 p1 q2 p3)), .second, .val (.int (own_w0_44 q0 p1 q2 p3)), .val (.int (own_w0_54 q0 p1 q2 p3)), .val (.ref b56), .val (.ref c62_data), .val (.long (own_w0_100 q0 p1 q2 p3)), .second] [(.long (own_w0_100 q0 p1 q2 p3)), (.int (2 : Int32)), (.ref c62_data)])) rfl (by rw [hml]; rfl) (argsL := [(.ref c62_data), (.int (2 : Int32)), (.long (own_w0_100 q0 p1 q2 p3))]) (rest := []) (lenOf pd_0_3 rfl) rfl (by show 2 * 0 + _ ≤ _; exact Nat.le_of_eq rfl) (hb hby at_139) (fun _ _ => ⟨rfl, e71, (by decide : 2 + 0 ≤ _), (by decide : 12 + 0 ≤ _)⟩)
        dsimp only [Pt.U, Pt.locs, Pt.cells, Pt.slots] at X75 l75 y75 z75 st75 hQ75
        subst l75 y75 z75
        obtain ⟨rfl, N75q, e75⟩ := hQ75
        have N75 := Fr.app N71 N75q
        refine own_st (g' := (mkF m 142 #[.val (.long q0), .second, .val (.int p1), .val (.long q2), .second, .val (.int p3), .val (.int (own_w0_7 q0 p1 q2 p3)), .val (.int (own_w0_17 q0 p1 q2 p3)), .val (.long (own_w0_27 q0 p1 q2 p3)), .second, .val (.long (own_w0_37 q0 p1 q2 p3)), .second, .val (.int (own_w0_44 q0 p1 q2 p3)), .val (.int (own_w0_54 q0 p1 q2 p3)), .val (.ref b56), .val (.ref c62_data), .val (.long (own_w0_100 q0 p1 q2 p3)), .second] [(.int (own_F5 (2 : Int32) (own_w0_100 q0 p1 q2 p3) (own_w0_54 q0 p1 q2 p3) (own_fin (own_s2 q0 p1 q2 p3).1 (own_s2 q0 p1 q2 p3).2.1 (own_s2 q0 p1 q2 p3).2.2.1 (own_s2 q0 p1 q2 p3).2.2.2)))])) (fun t k => st75 t k) ?_
        by_cases hc142_76 : (own_F5 (2 : Int32) (own_w0_100 q0 p1 q2 p3) (own_w0_54 q0 p1 q2 p3) (own_fin (own_s2 q0 p1 q2 p3).1 (own_s2 q0 p1 q2 p3).2.1 (own_s2 q0 p1 q2 p3).2.2.1 (own_s2 q0 p1 q2 p3).2.2.2)) = (0 : Int32)
        · have hr77 := (if_pos hc142_76).symm.trans hr74
          refine own_st (g' := (mkF m 206 #[.val (.long q0), .second, .val (.int p1), .val (.long q2), .second, .val (.int p3), .val (.int (own_w0_7 q0 p1 q2 p3)), .val (.int (own_w0_17 q0 p1 q2 p3)), .val (.long (own_w0_27 q0 p1 q2 p3)), .second, .val (.long (own_w0_37 q0 p1 q2 p3)), .second, .val (.int (own_w0_44 q0 p1 q2 p3)), .val (.int (own_w0_54 q0 p1 q2 p3)), .val (.ref b56), .val (.ref c62_data), .val (.long (own_w0_100 q0 p1 q2 p3)), .second] [])) (fun t k => XS.ifYes X75.here hx rfl (pc0 := 142) (pc' := 206) rfl (hb hby at_142) rfl ((if0 _ _).trans (teq hc142_76).1) (by decide) (by decide) k) ?_
          refine own_st (g' := (mkF m 207 #[.val (.long q0), .second, .val (.int p1), .val (.long q2), .second, .val (.int p3), .val (.int (own_w0_7 q0 p1 q2 p3)), .val (.int (own_w0_17 q0 p1 q2 p3)), .val (.long (own_w0_27 q0 p1 q2 p3)), .second, .val (.long (own_w0_37 q0 p1 q2 p3)), .second, .val (.int (own_w0_44 q0 p1 q2 p3)), .val (.int (own_w0_54 q0 p1 q2 p3)), .val (.ref b56), .val (.ref c62_data), .val (.long (own_w0_100 q0 p1 q2 p3)), .second] [(.int (0 : Int32))])) (fun t k => XS.iconst X75.here hx rfl (hb hby at_206) k) ?_
          exact J207 T75 _ (0 : Int32)  X75 e75 N75 hr77
        · have hr78 := (if_neg hc142_76).symm.trans hr74
          refine own_st (g' := (mkF m 145 #[.val (.long q0), .second, .val (.int p1), .val (.long q2), .second, .val (.int p3), .val (.int (own_w0_7 q0 p1 q2 p3)), .val (.int (own_w0_17 q0 p1 q2 p3)), .val (.long (own_w0_27 q0 p1 q2 p3)), .second, .val (.long (own_w0_37 q0 p1 q2 p3)), .second, .val (.int (own_w0_44 q0 p1 q2 p3)), .val (.int (own_w0_54 q0 p1 q2 p3)), .val (.ref b56), .val (.ref c62_data), .val (.long (own_w0_100 q0 p1 q2 p3)), .second] [])) (fun t k => XS.ifNo X75.here hx rfl (hb hby at_142) rfl ((if0 _ _).trans (feq hc142_76).1) k) ?_
          refine own_st (g' := (mkF m 147 #[.val (.long q0), .second, .val (.int p1), .val (.long q2), .second, .val (.int p3), .val (.int (own_w0_7 q0 p1 q2 p3)), .val (.int (own_w0_17 q0 p1 q2 p3)), .val (.long (own_w0_27 q0 p1 q2 p3)), .second, .val (.long (own_w0_37 q0 p1 q2 p3)), .second, .val (.int (own_w0_44 q0 p1 q2 p3)), .val (.int (own_w0_54 q0 p1 q2 p3)), .val (.ref b56), .val (.ref c62_data), .val (.long (own_w0_100 q0 p1 q2 p3)), .second] [(.ref c62_data)])) (fun t k => XS.aload X75.here hx rfl (hb hby at_145) rfl rfl k) ?_
          refine own_st (g' := (mkF m 148 #[.val (.long q0), .second, .val (.int p1), .val (.long q2), .second, .val (.int p3), .val (.int (own_w0_7 q0 p1 q2 p3)), .val (.int (own_w0_17 q0 p1 q2 p3)), .val (.long (own_w0_27 q0 p1 q2 p3)), .second, .val (.long (own_w0_37 q0 p1 q2 p3)), .second, .val (.int (own_w0_44 q0 p1 q2 p3)), .val (.int (own_w0_54 q0 p1 q2 p3)), .val (.ref b56), .val (.ref c62_data), .val (.long (own_w0_100 q0 p1 q2 p3)), .second] [(.int (3 : Int32)), (.ref c62_data)])) (fun t k => XS.iconst X75.here hx rfl (hb hby at_147) k) ?_
          refine own_st (g' := (mkF m 150 #[.val (.long q0), .second, .val (.int p1), .val (.long q2), .second, .val (.int p3), .val (.int (own_w0_7 q0 p1 q2 p3)), .val (.int (own_w0_17 q0 p1 q2 p3)), .val (.long (own_w0_27 q0 p1 q2 p3)), .second, .val (.long (own_w0_37 q0 p1 q2 p3)), .second, .val (.int (own_w0_44 q0 p1 q2 p3)), .val (.int (own_w0_54 q0 p1 q2 p3)), .val (.ref b56), .val (.ref c62_data), .val (.long (own_w0_100 q0 p1 q2 p3)), .second] [(.long (own_w0_100 q0 p1 q2 p3)), (.int (3 : Int32)), (.ref c62_data)])) (fun t k => XS.lload X75.here hx rfl (hb hby at_148) rfl  k) ?_
          obtain ⟨_, _, ⟨T79, L79, k79, n79⟩, -, X79, ⟨Lc79, hQ79, l79, y79, z79⟩, st79⟩ := Jvm.LawKit.callS X75 hx (y := (⟨"com/example/dehull/dehull/codec/BitWriterWriteBitsPinLaw", "at", "([BIJ)Z"⟩ : MethodName)) hown (mvT hZ (hw _ (List.mem_of_getElem? (i := 29) rfl))) (mvT hZ (hw _ (List.mem_of_getElem? (i := 30) rfl))) (mvT hZ (hw _ (List.mem_of_getElem? (i := 31) rfl))) (mvT hZ (hw _ (List.mem_of_getElem? (i := 32) rfl))) (by decide) (backOf (W := 0) (rm5 l Z a0 hw [] c62_data (3 : Int32) (own_w0_100 q0 p1 q2 p3) k_c62_data (own_w0_54 q0 p1 q2 p3) (own_fin (own_s2 q0 p1 q2 p3).1 (own_s2 q0 p1 q2 p3).2.1 (own_s2 q0 p1 q2 p3).2.2.1 (own_s2 q0 p1 q2 p3).2.2.2) T60.heap n0 Z63 P60_0 (by decide)) hZ (hw _ (List.mem_of_getElem? (i := 32) rfl)) (hw _ (List.mem_of_getElem? (i := 31) rfl)) (by decide) (by decide)) (g := (mkF m 150 #[.val (.long q0), .second, .val (.int p1), .val (.long q2), .second, .val (.int p3), .val (.int (own_w0_7 q0 p1 q2 p3)), .val (.int (own_w0_17 q0 p1 q2 p3)), .val (.long (own_w0_27 q0 p1 q2 p3)), .second, .val (.long (own_w0_37 q0 p1 q2 p3)), .second, .val (.int (own_w0_44 q0 p1 q2 p3)), .val (.int (own_w0_54 q0 p1 q2 p3)), .val (.ref b56), .val (.ref c62_data), .val (.long (own_w0_100 q0 p1 q2 p3)), .second] [(.long (own_w0_100 q0 p1 q2 p3)), (.int (3 : Int32)), (.ref c62_data)])) rfl (by rw [hml]; rfl) (argsL := [(.ref c62_data), (.int (3 : Int32)), (.long (own_w0_100 q0 p1 q2 p3))]) (rest := []) (lenOf pd_0_3 rfl) rfl (by show 2 * 0 + _ ≤ _; exact Nat.le_of_eq rfl) (hb hby at_150) (fun _ _ => ⟨rfl, e75, (by decide : 2 + 0 ≤ _), (by decide : 12 + 0 ≤ _)⟩)
          dsimp only [Pt.U, Pt.locs, Pt.cells, Pt.slots] at X79 l79 y79 z79 st79 hQ79
          subst l79 y79 z79
          obtain ⟨rfl, N79q, e79⟩ := hQ79
          have N79 := Fr.app N75 N79q
          refine own_st (g' := (mkF m 153 #[.val (.long q0), .second, .val (.int p1), .val (.long q2), .second, .val (.int p3), .val (.int (own_w0_7 q0 p1 q2 p3)), .val (.int (own_w0_17 q0 p1 q2 p3)), .val (.long (own_w0_27 q0 p1 q2 p3)), .second, .val (.long (own_w0_37 q0 p1 q2 p3)), .second, .val (.int (own_w0_44 q0 p1 q2 p3)), .val (.int (own_w0_54 q0 p1 q2 p3)), .val (.ref b56), .val (.ref c62_data), .val (.long (own_w0_100 q0 p1 q2 p3)), .second] [(.int (own_F5 (3 : Int32) (own_w0_100 q0 p1 q2 p3) (own_w0_54 q0 p1 q2 p3) (own_fin (own_s2 q0 p1 q2 p3).1 (own_s2 q0 p1 q2 p3).2.1 (own_s2 q0 p1 q2 p3).2.2.1 (own_s2 q0 p1 q2 p3).2.2.2)))])) (fun t k => st79 t k) ?_
          by_cases hc153_80 : (own_F5 (3 : Int32) (own_w0_100 q0 p1 q2 p3) (own_w0_54 q0 p1 q2 p3) (own_fin (own_s2 q0 p1 q2 p3).1 (own_s2 q0 p1 q2 p3).2.1 (own_s2 q0 p1 q2 p3).2.2.1 (own_s2 q0 p1 q2 p3).2.2.2)) = (0 : Int32)
          · have hr81 := (if_pos hc153_80).symm.trans hr78
            refine own_st (g' := (mkF m 206 #[.val (.long q0), .second, .val (.int p1), .val (.long q2), .second, .val (.int p3), .val (.int (own_w0_7 q0 p1 q2 p3)), .val (.int (own_w0_17 q0 p1 q2 p3)), .val (.long (own_w0_27 q0 p1 q2 p3)), .second, .val (.long (own_w0_37 q0 p1 q2 p3)), .second, .val (.int (own_w0_44 q0 p1 q2 p3)), .val (.int (own_w0_54 q0 p1 q2 p3)), .val (.ref b56), .val (.ref c62_data), .val (.long (own_w0_100 q0 p1 q2 p3)), .second] [])) (fun t k => XS.ifYes X79.here hx rfl (pc0 := 153) (pc' := 206) rfl (hb hby at_153) rfl ((if0 _ _).trans (teq hc153_80).1) (by decide) (by decide) k) ?_
            refine own_st (g' := (mkF m 207 #[.val (.long q0), .second, .val (.int p1), .val (.long q2), .second, .val (.int p3), .val (.int (own_w0_7 q0 p1 q2 p3)), .val (.int (own_w0_17 q0 p1 q2 p3)), .val (.long (own_w0_27 q0 p1 q2 p3)), .second, .val (.long (own_w0_37 q0 p1 q2 p3)), .second, .val (.int (own_w0_44 q0 p1 q2 p3)), .val (.int (own_w0_54 q0 p1 q2 p3)), .val (.ref b56), .val (.ref c62_data), .val (.long (own_w0_100 q0 p1 q2 p3)), .second] [(.int (0 : Int32))])) (fun t k => XS.iconst X79.here hx rfl (hb hby at_206) k) ?_
            exact J207 T79 _ (0 : Int32)  X79 e79 N79 hr81
          · have hr82 := (if_neg hc153_80).symm.trans hr78
            refine own_st (g' := (mkF m 156 #[.val (.long q0), .second, .val (.int p1), .val (.long q2), .second, .val (.int p3), .val (.int (own_w0_7 q0 p1 q2 p3)), .val (.int (own_w0_17 q0 p1 q2 p3)), .val (.long (own_w0_27 q0 p1 q2 p3)), .second, .val (.long (own_w0_37 q0 p1 q2 p3)), .second, .val (.int (own_w0_44 q0 p1 q2 p3)), .val (.int (own_w0_54 q0 p1 q2 p3)), .val (.ref b56), .val (.ref c62_data), .val (.long (own_w0_100 q0 p1 q2 p3)), .second] [])) (fun t k => XS.ifNo X79.here hx rfl (hb hby at_153) rfl ((if0 _ _).trans (feq hc153_80).1) k) ?_
            refine own_st (g' := (mkF m 158 #[.val (.long q0), .second, .val (.int p1), .val (.long q2), .second, .val (.int p3), .val (.int (own_w0_7 q0 p1 q2 p3)), .val (.int (own_w0_17 q0 p1 q2 p3)), .val (.long (own_w0_27 q0 p1 q2 p3)), .second, .val (.long (own_w0_37 q0 p1 q2 p3)), .second, .val (.int (own_w0_44 q0 p1 q2 p3)), .val (.int (own_w0_54 q0 p1 q2 p3)), .val (.ref b56), .val (.ref c62_data), .val (.long (own_w0_100 q0 p1 q2 p3)), .second] [(.ref c62_data)])) (fun t k => XS.aload X79.here hx rfl (hb hby at_156) rfl rfl k) ?_
            refine own_st (g' := (mkF m 159 #[.val (.long q0), .second, .val (.int p1), .val (.long q2), .second, .val (.int p3), .val (.int (own_w0_7 q0 p1 q2 p3)), .val (.int (own_w0_17 q0 p1 q2 p3)), .val (.long (own_w0_27 q0 p1 q2 p3)), .second, .val (.long (own_w0_37 q0 p1 q2 p3)), .second, .val (.int (own_w0_44 q0 p1 q2 p3)), .val (.int (own_w0_54 q0 p1 q2 p3)), .val (.ref b56), .val (.ref c62_data), .val (.long (own_w0_100 q0 p1 q2 p3)), .second] [(.int (4 : Int32)), (.ref c62_data)])) (fun t k => XS.iconst X79.here hx rfl (hb hby at_158) k) ?_
            refine own_st (g' := (mkF m 161 #[.val (.long q0), .second, .val (.int p1), .val (.long q2), .second, .val (.int p3), .val (.int (own_w0_7 q0 p1 q2 p3)), .val (.int (own_w0_17 q0 p1 q2 p3)), .val (.long (own_w0_27 q0 p1 q2 p3)), .second, .val (.long (own_w0_37 q0 p1 q2 p3)), .second, .val (.int (own_w0_44 q0 p1 q2 p3)), .val (.int (own_w0_54 q0 p1 q2 p3)), .val (.ref b56), .val (.ref c62_data), .val (.long (own_w0_100 q0 p1 q2 p3)), .second] [(.long (own_w0_100 q0 p1 q2 p3)), (.int (4 : Int32)), (.ref c62_data)])) (fun t k => XS.lload X79.here hx rfl (hb hby at_159) rfl  k) ?_
            obtain ⟨_, _, ⟨T83, L83, k83, n83⟩, -, X83, ⟨Lc83, hQ83, l83, y83, z83⟩, st83⟩ := Jvm.LawKit.callS X79 hx (y := (⟨"com/example/dehull/dehull/codec/BitWriterWriteBitsPinLaw", "at", "([BIJ)Z"⟩ : MethodName)) hown (mvT hZ (hw _ (List.mem_of_getElem? (i := 29) rfl))) (mvT hZ (hw _ (List.mem_of_getElem? (i := 30) rfl))) (mvT hZ (hw _ (List.mem_of_getElem? (i := 31) rfl))) (mvT hZ (hw _ (List.mem_of_getElem? (i := 32) rfl))) (by decide) (backOf (W := 0) (rm5 l Z a0 hw [] c62_data (4 : Int32) (own_w0_100 q0 p1 q2 p3) k_c62_data (own_w0_54 q0 p1 q2 p3) (own_fin (own_s2 q0 p1 q2 p3).1 (own_s2 q0 p1 q2 p3).2.1 (own_s2 q0 p1 q2 p3).2.2.1 (own_s2 q0 p1 q2 p3).2.2.2) T60.heap n0 Z63 P60_0 (by decide)) hZ (hw _ (List.mem_of_getElem? (i := 32) rfl)) (hw _ (List.mem_of_getElem? (i := 31) rfl)) (by decide) (by decide)) (g := (mkF m 161 #[.val (.long q0), .second, .val (.int p1), .val (.long q2), .second, .val (.int p3), .val (.int (own_w0_7 q0 p1 q2 p3)), .val (.int (own_w0_17 q0 p1 q2 p3)), .val (.long (own_w0_27 q0 p1 q2 p3)), .second, .val (.long (own_w0_37 q0 p1 q2 p3)), .second, .val (.int (own_w0_44 q0 p1 q2 p3)), .val (.int (own_w0_54 q0 p1 q2 p3)), .val (.ref b56), .val (.ref c62_data), .val (.long (own_w0_100 q0 p1 q2 p3)), .second] [(.long (own_w0_100 q0 p1 q2 p3)), (.int (4 : Int32)), (.ref c62_data)])) rfl (by rw [hml]; rfl) (argsL := [(.ref c62_data), (.int (4 : Int32)), (.long (own_w0_100 q0 p1 q2 p3))]) (rest := []) (lenOf pd_0_3 rfl) rfl (by show 2 * 0 + _ ≤ _; exact Nat.le_of_eq rfl) (hb hby at_161) (fun _ _ => ⟨rfl, e79, (by decide : 2 + 0 ≤ _), (by decide : 12 + 0 ≤ _)⟩)
            dsimp only [Pt.U, Pt.locs, Pt.cells, Pt.slots] at X83 l83 y83 z83 st83 hQ83
            subst l83 y83 z83
            obtain ⟨rfl, N83q, e83⟩ := hQ83
            have N83 := Fr.app N79 N83q
            refine own_st (g' := (mkF m 164 #[.val (.long q0), .second, .val (.int p1), .val (.long q2), .second, .val (.int p3), .val (.int (own_w0_7 q0 p1 q2 p3)), .val (.int (own_w0_17 q0 p1 q2 p3)), .val (.long (own_w0_27 q0 p1 q2 p3)), .second, .val (.long (own_w0_37 q0 p1 q2 p3)), .second, .val (.int (own_w0_44 q0 p1 q2 p3)), .val (.int (own_w0_54 q0 p1 q2 p3)), .val (.ref b56), .val (.ref c62_data), .val (.long (own_w0_100 q0 p1 q2 p3)), .second] [(.int (own_F5 (4 : Int32) (own_w0_100 q0 p1 q2 p3) (own_w0_54 q0 p1 q2 p3) (own_fin (own_s2 q0 p1 q2 p3).1 (own_s2 q0 p1 q2 p3).2.1 (own_s2 q0 p1 q2 p3).2.2.1 (own_s2 q0 p1 q2 p3).2.2.2)))])) (fun t k => st83 t k) ?_
            by_cases hc164_84 : (own_F5 (4 : Int32) (own_w0_100 q0 p1 q2 p3) (own_w0_54 q0 p1 q2 p3) (own_fin (own_s2 q0 p1 q2 p3).1 (own_s2 q0 p1 q2 p3).2.1 (own_s2 q0 p1 q2 p3).2.2.1 (own_s2 q0 p1 q2 p3).2.2.2)) = (0 : Int32)
            · have hr85 := (if_pos hc164_84).symm.trans hr82
              refine own_st (g' := (mkF m 206 #[.val (.long q0), .second, .val (.int p1), .val (.long q2), .second, .val (.int p3), .val (.int (own_w0_7 q0 p1 q2 p3)), .val (.int (own_w0_17 q0 p1 q2 p3)), .val (.long (own_w0_27 q0 p1 q2 p3)), .second, .val (.long (own_w0_37 q0 p1 q2 p3)), .second, .val (.int (own_w0_44 q0 p1 q2 p3)), .val (.int (own_w0_54 q0 p1 q2 p3)), .val (.ref b56), .val (.ref c62_data), .val (.long (own_w0_100 q0 p1 q2 p3)), .second] [])) (fun t k => XS.ifYes X83.here hx rfl (pc0 := 164) (pc' := 206) rfl (hb hby at_164) rfl ((if0 _ _).trans (teq hc164_84).1) (by decide) (by decide) k) ?_
              refine own_st (g' := (mkF m 207 #[.val (.long q0), .second, .val (.int p1), .val (.long q2), .second, .val (.int p3), .val (.int (own_w0_7 q0 p1 q2 p3)), .val (.int (own_w0_17 q0 p1 q2 p3)), .val (.long (own_w0_27 q0 p1 q2 p3)), .second, .val (.long (own_w0_37 q0 p1 q2 p3)), .second, .val (.int (own_w0_44 q0 p1 q2 p3)), .val (.int (own_w0_54 q0 p1 q2 p3)), .val (.ref b56), .val (.ref c62_data), .val (.long (own_w0_100 q0 p1 q2 p3)), .second] [(.int (0 : Int32))])) (fun t k => XS.iconst X83.here hx rfl (hb hby at_206) k) ?_
              exact J207 T83 _ (0 : Int32)  X83 e83 N83 hr85
            · have hr86 := (if_neg hc164_84).symm.trans hr82
              refine own_st (g' := (mkF m 167 #[.val (.long q0), .second, .val (.int p1), .val (.long q2), .second, .val (.int p3), .val (.int (own_w0_7 q0 p1 q2 p3)), .val (.int (own_w0_17 q0 p1 q2 p3)), .val (.long (own_w0_27 q0 p1 q2 p3)), .second, .val (.long (own_w0_37 q0 p1 q2 p3)), .second, .val (.int (own_w0_44 q0 p1 q2 p3)), .val (.int (own_w0_54 q0 p1 q2 p3)), .val (.ref b56), .val (.ref c62_data), .val (.long (own_w0_100 q0 p1 q2 p3)), .second] [])) (fun t k => XS.ifNo X83.here hx rfl (hb hby at_164) rfl ((if0 _ _).trans (feq hc164_84).1) k) ?_
              refine own_st (g' := (mkF m 169 #[.val (.long q0), .second, .val (.int p1), .val (.long q2), .second, .val (.int p3), .val (.int (own_w0_7 q0 p1 q2 p3)), .val (.int (own_w0_17 q0 p1 q2 p3)), .val (.long (own_w0_27 q0 p1 q2 p3)), .second, .val (.long (own_w0_37 q0 p1 q2 p3)), .second, .val (.int (own_w0_44 q0 p1 q2 p3)), .val (.int (own_w0_54 q0 p1 q2 p3)), .val (.ref b56), .val (.ref c62_data), .val (.long (own_w0_100 q0 p1 q2 p3)), .second] [(.ref c62_data)])) (fun t k => XS.aload X83.here hx rfl (hb hby at_167) rfl rfl k) ?_
              refine own_st (g' := (mkF m 170 #[.val (.long q0), .second, .val (.int p1), .val (.long q2), .second, .val (.int p3), .val (.int (own_w0_7 q0 p1 q2 p3)), .val (.int (own_w0_17 q0 p1 q2 p3)), .val (.long (own_w0_27 q0 p1 q2 p3)), .second, .val (.long (own_w0_37 q0 p1 q2 p3)), .second, .val (.int (own_w0_44 q0 p1 q2 p3)), .val (.int (own_w0_54 q0 p1 q2 p3)), .val (.ref b56), .val (.ref c62_data), .val (.long (own_w0_100 q0 p1 q2 p3)), .second] [(.int (5 : Int32)), (.ref c62_data)])) (fun t k => XS.iconst X83.here hx rfl (hb hby at_169) k) ?_
              refine own_st (g' := (mkF m 172 #[.val (.long q0), .second, .val (.int p1), .val (.long q2), .second, .val (.int p3), .val (.int (own_w0_7 q0 p1 q2 p3)), .val (.int (own_w0_17 q0 p1 q2 p3)), .val (.long (own_w0_27 q0 p1 q2 p3)), .second, .val (.long (own_w0_37 q0 p1 q2 p3)), .second, .val (.int (own_w0_44 q0 p1 q2 p3)), .val (.int (own_w0_54 q0 p1 q2 p3)), .val (.ref b56), .val (.ref c62_data), .val (.long (own_w0_100 q0 p1 q2 p3)), .second] [(.long (own_w0_100 q0 p1 q2 p3)), (.int (5 : Int32)), (.ref c62_data)])) (fun t k => XS.lload X83.here hx rfl (hb hby at_170) rfl  k) ?_
              obtain ⟨_, _, ⟨T87, L87, k87, n87⟩, -, X87, ⟨Lc87, hQ87, l87, y87, z87⟩, st87⟩ := Jvm.LawKit.callS X83 hx (y := (⟨"com/example/dehull/dehull/codec/BitWriterWriteBitsPinLaw", "at", "([BIJ)Z"⟩ : MethodName)) hown (mvT hZ (hw _ (List.mem_of_getElem? (i := 29) rfl))) (mvT hZ (hw _ (List.mem_of_getElem? (i := 30) rfl))) (mvT hZ (hw _ (List.mem_of_getElem? (i := 31) rfl))) (mvT hZ (hw _ (List.mem_of_getElem? (i := 32) rfl))) (by decide) (backOf (W := 0) (rm5 l Z a0 hw [] c62_data (5 : Int32) (own_w0_100 q0 p1 q2 p3) k_c62_data (own_w0_54 q0 p1 q2 p3) (own_fin (own_s2 q0 p1 q2 p3).1 (own_s2 q0 p1 q2 p3).2.1 (own_s2 q0 p1 q2 p3).2.2.1 (own_s2 q0 p1 q2 p3).2.2.2) T60.heap n0 Z63 P60_0 (by decide)) hZ (hw _ (List.mem_of_getElem? (i := 32) rfl)) (hw _ (List.mem_of_getElem? (i := 31) rfl)) (by decide) (by decide)) (g := (mkF m 172 #[.val (.long q0), .second, .val (.int p1), .val (.long q2), .second, .val (.int p3), .val (.int (own_w0_7 q0 p1 q2 p3)), .val (.int (own_w0_17 q0 p1 q2 p3)), .val (.long (own_w0_27 q0 p1 q2 p3)), .second, .val (.long (own_w0_37 q0 p1 q2 p3)), .second, .val (.int (own_w0_44 q0 p1 q2 p3)), .val (.int (own_w0_54 q0 p1 q2 p3)), .val (.ref b56), .val (.ref c62_data), .val (.long (own_w0_100 q0 p1 q2 p3)), .second] [(.long (own_w0_100 q0 p1 q2 p3)), (.int (5 : Int32)), (.ref c62_data)])) rfl (by rw [hml]; rfl) (argsL := [(.ref c62_data), (.int (5 : Int32)), (.long (own_w0_100 q0 p1 q2 p3))]) (rest := []) (lenOf pd_0_3 rfl) rfl (by show 2 * 0 + _ ≤ _; exact Nat.le_of_eq rfl) (hb hby at_172) (fun _ _ => ⟨rfl, e83, (by decide : 2 + 0 ≤ _), (by decide : 12 + 0 ≤ _)⟩)
              dsimp only [Pt.U, Pt.locs, Pt.cells, Pt.slots] at X87 l87 y87 z87 st87 hQ87
              subst l87 y87 z87
              obtain ⟨rfl, N87q, e87⟩ := hQ87
              have N87 := Fr.app N83 N87q
              refine own_st (g' := (mkF m 175 #[.val (.long q0), .second, .val (.int p1), .val (.long q2), .second, .val (.int p3), .val (.int (own_w0_7 q0 p1 q2 p3)), .val (.int (own_w0_17 q0 p1 q2 p3)), .val (.long (own_w0_27 q0 p1 q2 p3)), .second, .val (.long (own_w0_37 q0 p1 q2 p3)), .second, .val (.int (own_w0_44 q0 p1 q2 p3)), .val (.int (own_w0_54 q0 p1 q2 p3)), .val (.ref b56), .val (.ref c62_data), .val (.long (own_w0_100 q0 p1 q2 p3)), .second] [(.int (own_F5 (5 : Int32) (own_w0_100 q0 p1 q2 p3) (own_w0_54 q0 p1 q2 p3) (own_fin (own_s2 q0 p1 q2 p3).1 (own_s2 q0 p1 q2 p3).2.1 (own_s2 q0 p1 q2 p3).2.2.1 (own_s2 q0 p1 q2 p3).2.2.2)))])) (fun t k => st87 t k) ?_
              by_cases hc175_88 : (own_F5 (5 : Int32) (own_w0_100 q0 p1 q2 p3) (own_w0_54 q0 p1 q2 p3) (own_fin (own_s2 q0 p1 q2 p3).1 (own_s2 q0 p1 q2 p3).2.1 (own_s2 q0 p1 q2 p3).2.2.1 (own_s2 q0 p1 q2 p3).2.2.2)) = (0 : Int32)
              · have hr89 := (if_pos hc175_88).symm.trans hr86
                refine own_st (g' := (mkF m 206 #[.val (.long q0), .second, .val (.int p1), .val (.long q2), .second, .val (.int p3), .val (.int (own_w0_7 q0 p1 q2 p3)), .val (.int (own_w0_17 q0 p1 q2 p3)), .val (.long (own_w0_27 q0 p1 q2 p3)), .second, .val (.long (own_w0_37 q0 p1 q2 p3)), .second, .val (.int (own_w0_44 q0 p1 q2 p3)), .val (.int (own_w0_54 q0 p1 q2 p3)), .val (.ref b56), .val (.ref c62_data), .val (.long (own_w0_100 q0 p1 q2 p3)), .second] [])) (fun t k => XS.ifYes X87.here hx rfl (pc0 := 175) (pc' := 206) rfl (hb hby at_175) rfl ((if0 _ _).trans (teq hc175_88).1) (by decide) (by decide) k) ?_
                refine own_st (g' := (mkF m 207 #[.val (.long q0), .second, .val (.int p1), .val (.long q2), .second, .val (.int p3), .val (.int (own_w0_7 q0 p1 q2 p3)), .val (.int (own_w0_17 q0 p1 q2 p3)), .val (.long (own_w0_27 q0 p1 q2 p3)), .second, .val (.long (own_w0_37 q0 p1 q2 p3)), .second, .val (.int (own_w0_44 q0 p1 q2 p3)), .val (.int (own_w0_54 q0 p1 q2 p3)), .val (.ref b56), .val (.ref c62_data), .val (.long (own_w0_100 q0 p1 q2 p3)), .second] [(.int (0 : Int32))])) (fun t k => XS.iconst X87.here hx rfl (hb hby at_206) k) ?_
                exact J207 T87 _ (0 : Int32)  X87 e87 N87 hr89
              · have hr90 := (if_neg hc175_88).symm.trans hr86
                refine own_st (g' := (mkF m 178 #[.val (.long q0), .second, .val (.int p1), .val (.long q2), .second, .val (.int p3), .val (.int (own_w0_7 q0 p1 q2 p3)), .val (.int (own_w0_17 q0 p1 q2 p3)), .val (.long (own_w0_27 q0 p1 q2 p3)), .second, .val (.long (own_w0_37 q0 p1 q2 p3)), .second, .val (.int (own_w0_44 q0 p1 q2 p3)), .val (.int (own_w0_54 q0 p1 q2 p3)), .val (.ref b56), .val (.ref c62_data), .val (.long (own_w0_100 q0 p1 q2 p3)), .second] [])) (fun t k => XS.ifNo X87.here hx rfl (hb hby at_175) rfl ((if0 _ _).trans (feq hc175_88).1) k) ?_
                refine own_st (g' := (mkF m 180 #[.val (.long q0), .second, .val (.int p1), .val (.long q2), .second, .val (.int p3), .val (.int (own_w0_7 q0 p1 q2 p3)), .val (.int (own_w0_17 q0 p1 q2 p3)), .val (.long (own_w0_27 q0 p1 q2 p3)), .second, .val (.long (own_w0_37 q0 p1 q2 p3)), .second, .val (.int (own_w0_44 q0 p1 q2 p3)), .val (.int (own_w0_54 q0 p1 q2 p3)), .val (.ref b56), .val (.ref c62_data), .val (.long (own_w0_100 q0 p1 q2 p3)), .second] [(.ref c62_data)])) (fun t k => XS.aload X87.here hx rfl (hb hby at_178) rfl rfl k) ?_
                refine own_st (g' := (mkF m 182 #[.val (.long q0), .second, .val (.int p1), .val (.long q2), .second, .val (.int p3), .val (.int (own_w0_7 q0 p1 q2 p3)), .val (.int (own_w0_17 q0 p1 q2 p3)), .val (.long (own_w0_27 q0 p1 q2 p3)), .second, .val (.long (own_w0_37 q0 p1 q2 p3)), .second, .val (.int (own_w0_44 q0 p1 q2 p3)), .val (.int (own_w0_54 q0 p1 q2 p3)), .val (.ref b56), .val (.ref c62_data), .val (.long (own_w0_100 q0 p1 q2 p3)), .second] [(.int (6 : Int32)), (.ref c62_data)])) (fun t k => XS.bipush X87.here hx rfl (hb hby at_180) k) ?_
                refine own_st (g' := (mkF m 184 #[.val (.long q0), .second, .val (.int p1), .val (.long q2), .second, .val (.int p3), .val (.int (own_w0_7 q0 p1 q2 p3)), .val (.int (own_w0_17 q0 p1 q2 p3)), .val (.long (own_w0_27 q0 p1 q2 p3)), .second, .val (.long (own_w0_37 q0 p1 q2 p3)), .second, .val (.int (own_w0_44 q0 p1 q2 p3)), .val (.int (own_w0_54 q0 p1 q2 p3)), .val (.ref b56), .val (.ref c62_data), .val (.long (own_w0_100 q0 p1 q2 p3)), .second] [(.long (own_w0_100 q0 p1 q2 p3)), (.int (6 : Int32)), (.ref c62_data)])) (fun t k => XS.lload X87.here hx rfl (hb hby at_182) rfl  k) ?_
                obtain ⟨_, _, ⟨T91, L91, k91, n91⟩, -, X91, ⟨Lc91, hQ91, l91, y91, z91⟩, st91⟩ := Jvm.LawKit.callS X87 hx (y := (⟨"com/example/dehull/dehull/codec/BitWriterWriteBitsPinLaw", "at", "([BIJ)Z"⟩ : MethodName)) hown (mvT hZ (hw _ (List.mem_of_getElem? (i := 29) rfl))) (mvT hZ (hw _ (List.mem_of_getElem? (i := 30) rfl))) (mvT hZ (hw _ (List.mem_of_getElem? (i := 31) rfl))) (mvT hZ (hw _ (List.mem_of_getElem? (i := 32) rfl))) (by decide) (backOf (W := 0) (rm5 l Z a0 hw [] c62_data (6 : Int32) (own_w0_100 q0 p1 q2 p3) k_c62_data (own_w0_54 q0 p1 q2 p3) (own_fin (own_s2 q0 p1 q2 p3).1 (own_s2 q0 p1 q2 p3).2.1 (own_s2 q0 p1 q2 p3).2.2.1 (own_s2 q0 p1 q2 p3).2.2.2) T60.heap n0 Z63 P60_0 (by decide)) hZ (hw _ (List.mem_of_getElem? (i := 32) rfl)) (hw _ (List.mem_of_getElem? (i := 31) rfl)) (by decide) (by decide)) (g := (mkF m 184 #[.val (.long q0), .second, .val (.int p1), .val (.long q2), .second, .val (.int p3), .val (.int (own_w0_7 q0 p1 q2 p3)), .val (.int (own_w0_17 q0 p1 q2 p3)), .val (.long (own_w0_27 q0 p1 q2 p3)), .second, .val (.long (own_w0_37 q0 p1 q2 p3)), .second, .val (.int (own_w0_44 q0 p1 q2 p3)), .val (.int (own_w0_54 q0 p1 q2 p3)), .val (.ref b56), .val (.ref c62_data), .val (.long (own_w0_100 q0 p1 q2 p3)), .second] [(.long (own_w0_100 q0 p1 q2 p3)), (.int (6 : Int32)), (.ref c62_data)])) rfl (by rw [hml]; rfl) (argsL := [(.ref c62_data), (.int (6 : Int32)), (.long (own_w0_100 q0 p1 q2 p3))]) (rest := []) (lenOf pd_0_3 rfl) rfl (by show 2 * 0 + _ ≤ _; exact Nat.le_of_eq rfl) (hb hby at_184) (fun _ _ => ⟨rfl, e87, (by decide : 2 + 0 ≤ _), (by decide : 12 + 0 ≤ _)⟩)
                dsimp only [Pt.U, Pt.locs, Pt.cells, Pt.slots] at X91 l91 y91 z91 st91 hQ91
                subst l91 y91 z91
                obtain ⟨rfl, N91q, e91⟩ := hQ91
                have N91 := Fr.app N87 N91q
                refine own_st (g' := (mkF m 187 #[.val (.long q0), .second, .val (.int p1), .val (.long q2), .second, .val (.int p3), .val (.int (own_w0_7 q0 p1 q2 p3)), .val (.int (own_w0_17 q0 p1 q2 p3)), .val (.long (own_w0_27 q0 p1 q2 p3)), .second, .val (.long (own_w0_37 q0 p1 q2 p3)), .second, .val (.int (own_w0_44 q0 p1 q2 p3)), .val (.int (own_w0_54 q0 p1 q2 p3)), .val (.ref b56), .val (.ref c62_data), .val (.long (own_w0_100 q0 p1 q2 p3)), .second] [(.int (own_F5 (6 : Int32) (own_w0_100 q0 p1 q2 p3) (own_w0_54 q0 p1 q2 p3) (own_fin (own_s2 q0 p1 q2 p3).1 (own_s2 q0 p1 q2 p3).2.1 (own_s2 q0 p1 q2 p3).2.2.1 (own_s2 q0 p1 q2 p3).2.2.2)))])) (fun t k => st91 t k) ?_
                by_cases hc187_92 : (own_F5 (6 : Int32) (own_w0_100 q0 p1 q2 p3) (own_w0_54 q0 p1 q2 p3) (own_fin (own_s2 q0 p1 q2 p3).1 (own_s2 q0 p1 q2 p3).2.1 (own_s2 q0 p1 q2 p3).2.2.1 (own_s2 q0 p1 q2 p3).2.2.2)) = (0 : Int32)
                · have hr93 := (if_pos hc187_92).symm.trans hr90
                  refine own_st (g' := (mkF m 206 #[.val (.long q0), .second, .val (.int p1), .val (.long q2), .second, .val (.int p3), .val (.int (own_w0_7 q0 p1 q2 p3)), .val (.int (own_w0_17 q0 p1 q2 p3)), .val (.long (own_w0_27 q0 p1 q2 p3)), .second, .val (.long (own_w0_37 q0 p1 q2 p3)), .second, .val (.int (own_w0_44 q0 p1 q2 p3)), .val (.int (own_w0_54 q0 p1 q2 p3)), .val (.ref b56), .val (.ref c62_data), .val (.long (own_w0_100 q0 p1 q2 p3)), .second] [])) (fun t k => XS.ifYes X91.here hx rfl (pc0 := 187) (pc' := 206) rfl (hb hby at_187) rfl ((if0 _ _).trans (teq hc187_92).1) (by decide) (by decide) k) ?_
                  refine own_st (g' := (mkF m 207 #[.val (.long q0), .second, .val (.int p1), .val (.long q2), .second, .val (.int p3), .val (.int (own_w0_7 q0 p1 q2 p3)), .val (.int (own_w0_17 q0 p1 q2 p3)), .val (.long (own_w0_27 q0 p1 q2 p3)), .second, .val (.long (own_w0_37 q0 p1 q2 p3)), .second, .val (.int (own_w0_44 q0 p1 q2 p3)), .val (.int (own_w0_54 q0 p1 q2 p3)), .val (.ref b56), .val (.ref c62_data), .val (.long (own_w0_100 q0 p1 q2 p3)), .second] [(.int (0 : Int32))])) (fun t k => XS.iconst X91.here hx rfl (hb hby at_206) k) ?_
                  exact J207 T91 _ (0 : Int32)  X91 e91 N91 hr93
                · have hr94 := (if_neg hc187_92).symm.trans hr90
                  refine own_st (g' := (mkF m 190 #[.val (.long q0), .second, .val (.int p1), .val (.long q2), .second, .val (.int p3), .val (.int (own_w0_7 q0 p1 q2 p3)), .val (.int (own_w0_17 q0 p1 q2 p3)), .val (.long (own_w0_27 q0 p1 q2 p3)), .second, .val (.long (own_w0_37 q0 p1 q2 p3)), .second, .val (.int (own_w0_44 q0 p1 q2 p3)), .val (.int (own_w0_54 q0 p1 q2 p3)), .val (.ref b56), .val (.ref c62_data), .val (.long (own_w0_100 q0 p1 q2 p3)), .second] [])) (fun t k => XS.ifNo X91.here hx rfl (hb hby at_187) rfl ((if0 _ _).trans (feq hc187_92).1) k) ?_
                  refine own_st (g' := (mkF m 192 #[.val (.long q0), .second, .val (.int p1), .val (.long q2), .second, .val (.int p3), .val (.int (own_w0_7 q0 p1 q2 p3)), .val (.int (own_w0_17 q0 p1 q2 p3)), .val (.long (own_w0_27 q0 p1 q2 p3)), .second, .val (.long (own_w0_37 q0 p1 q2 p3)), .second, .val (.int (own_w0_44 q0 p1 q2 p3)), .val (.int (own_w0_54 q0 p1 q2 p3)), .val (.ref b56), .val (.ref c62_data), .val (.long (own_w0_100 q0 p1 q2 p3)), .second] [(.ref c62_data)])) (fun t k => XS.aload X91.here hx rfl (hb hby at_190) rfl rfl k) ?_
                  refine own_st (g' := (mkF m 194 #[.val (.long q0), .second, .val (.int p1), .val (.long q2), .second, .val (.int p3), .val (.int (own_w0_7 q0 p1 q2 p3)), .val (.int (own_w0_17 q0 p1 q2 p3)), .val (.long (own_w0_27 q0 p1 q2 p3)), .second, .val (.long (own_w0_37 q0 p1 q2 p3)), .second, .val (.int (own_w0_44 q0 p1 q2 p3)), .val (.int (own_w0_54 q0 p1 q2 p3)), .val (.ref b56), .val (.ref c62_data), .val (.long (own_w0_100 q0 p1 q2 p3)), .second] [(.int (7 : Int32)), (.ref c62_data)])) (fun t k => XS.bipush X91.here hx rfl (hb hby at_192) k) ?_
                  refine own_st (g' := (mkF m 196 #[.val (.long q0), .second, .val (.int p1), .val (.long q2), .second, .val (.int p3), .val (.int (own_w0_7 q0 p1 q2 p3)), .val (.int (own_w0_17 q0 p1 q2 p3)), .val (.long (own_w0_27 q0 p1 q2 p3)), .second, .val (.long (own_w0_37 q0 p1 q2 p3)), .second, .val (.int (own_w0_44 q0 p1 q2 p3)), .val (.int (own_w0_54 q0 p1 q2 p3)), .val (.ref b56), .val (.ref c62_data), .val (.long (own_w0_100 q0 p1 q2 p3)), .second] [(.long (own_w0_100 q0 p1 q2 p3)), (.int (7 : Int32)), (.ref c62_data)])) (fun t k => XS.lload X91.here hx rfl (hb hby at_194) rfl  k) ?_
                  obtain ⟨_, _, ⟨T95, L95, k95, n95⟩, -, X95, ⟨Lc95, hQ95, l95, y95, z95⟩, st95⟩ := Jvm.LawKit.callS X91 hx (y := (⟨"com/example/dehull/dehull/codec/BitWriterWriteBitsPinLaw", "at", "([BIJ)Z"⟩ : MethodName)) hown (mvT hZ (hw _ (List.mem_of_getElem? (i := 29) rfl))) (mvT hZ (hw _ (List.mem_of_getElem? (i := 30) rfl))) (mvT hZ (hw _ (List.mem_of_getElem? (i := 31) rfl))) (mvT hZ (hw _ (List.mem_of_getElem? (i := 32) rfl))) (by decide) (backOf (W := 0) (rm5 l Z a0 hw [] c62_data (7 : Int32) (own_w0_100 q0 p1 q2 p3) k_c62_data (own_w0_54 q0 p1 q2 p3) (own_fin (own_s2 q0 p1 q2 p3).1 (own_s2 q0 p1 q2 p3).2.1 (own_s2 q0 p1 q2 p3).2.2.1 (own_s2 q0 p1 q2 p3).2.2.2) T60.heap n0 Z63 P60_0 (by decide)) hZ (hw _ (List.mem_of_getElem? (i := 32) rfl)) (hw _ (List.mem_of_getElem? (i := 31) rfl)) (by decide) (by decide)) (g := (mkF m 196 #[.val (.long q0), .second, .val (.int p1), .val (.long q2), .second, .val (.int p3), .val (.int (own_w0_7 q0 p1 q2 p3)), .val (.int (own_w0_17 q0 p1 q2 p3)), .val (.long (own_w0_27 q0 p1 q2 p3)), .second, .val (.long (own_w0_37 q0 p1 q2 p3)), .second, .val (.int (own_w0_44 q0 p1 q2 p3)), .val (.int (own_w0_54 q0 p1 q2 p3)), .val (.ref b56), .val (.ref c62_data), .val (.long (own_w0_100 q0 p1 q2 p3)), .second] [(.long (own_w0_100 q0 p1 q2 p3)), (.int (7 : Int32)), (.ref c62_data)])) rfl (by rw [hml]; rfl) (argsL := [(.ref c62_data), (.int (7 : Int32)), (.long (own_w0_100 q0 p1 q2 p3))]) (rest := []) (lenOf pd_0_3 rfl) rfl (by show 2 * 0 + _ ≤ _; exact Nat.le_of_eq rfl) (hb hby at_196) (fun _ _ => ⟨rfl, e91, (by decide : 2 + 0 ≤ _), (by decide : 12 + 0 ≤ _)⟩)
                  dsimp only [Pt.U, Pt.locs, Pt.cells, Pt.slots] at X95 l95 y95 z95 st95 hQ95
                  subst l95 y95 z95
                  obtain ⟨rfl, N95q, e95⟩ := hQ95
                  have N95 := Fr.app N91 N95q
                  refine own_st (g' := (mkF m 199 #[.val (.long q0), .second, .val (.int p1), .val (.long q2), .second, .val (.int p3), .val (.int (own_w0_7 q0 p1 q2 p3)), .val (.int (own_w0_17 q0 p1 q2 p3)), .val (.long (own_w0_27 q0 p1 q2 p3)), .second, .val (.long (own_w0_37 q0 p1 q2 p3)), .second, .val (.int (own_w0_44 q0 p1 q2 p3)), .val (.int (own_w0_54 q0 p1 q2 p3)), .val (.ref b56), .val (.ref c62_data), .val (.long (own_w0_100 q0 p1 q2 p3)), .second] [(.int (own_F5 (7 : Int32) (own_w0_100 q0 p1 q2 p3) (own_w0_54 q0 p1 q2 p3) (own_fin (own_s2 q0 p1 q2 p3).1 (own_s2 q0 p1 q2 p3).2.1 (own_s2 q0 p1 q2 p3).2.2.1 (own_s2 q0 p1 q2 p3).2.2.2)))])) (fun t k => st95 t k) ?_
                  by_cases hc199_96 : (own_F5 (7 : Int32) (own_w0_100 q0 p1 q2 p3) (own_w0_54 q0 p1 q2 p3) (own_fin (own_s2 q0 p1 q2 p3).1 (own_s2 q0 p1 q2 p3).2.1 (own_s2 q0 p1 q2 p3).2.2.1 (own_s2 q0 p1 q2 p3).2.2.2)) = (0 : Int32)
                  · have hr97 := (if_pos hc199_96).symm.trans hr94
                    refine own_st (g' := (mkF m 206 #[.val (.long q0), .second, .val (.int p1), .val (.long q2), .second, .val (.int p3), .val (.int (own_w0_7 q0 p1 q2 p3)), .val (.int (own_w0_17 q0 p1 q2 p3)), .val (.long (own_w0_27 q0 p1 q2 p3)), .second, .val (.long (own_w0_37 q0 p1 q2 p3)), .second, .val (.int (own_w0_44 q0 p1 q2 p3)), .val (.int (own_w0_54 q0 p1 q2 p3)), .val (.ref b56), .val (.ref c62_data), .val (.long (own_w0_100 q0 p1 q2 p3)), .second] [])) (fun t k => XS.ifYes X95.here hx rfl (pc0 := 199) (pc' := 206) rfl (hb hby at_199) rfl ((if0 _ _).trans (teq hc199_96).1) (by decide) (by decide) k) ?_
                    refine own_st (g' := (mkF m 207 #[.val (.long q0), .second, .val (.int p1), .val (.long q2), .second, .val (.int p3), .val (.int (own_w0_7 q0 p1 q2 p3)), .val (.int (own_w0_17 q0 p1 q2 p3)), .val (.long (own_w0_27 q0 p1 q2 p3)), .second, .val (.long (own_w0_37 q0 p1 q2 p3)), .second, .val (.int (own_w0_44 q0 p1 q2 p3)), .val (.int (own_w0_54 q0 p1 q2 p3)), .val (.ref b56), .val (.ref c62_data), .val (.long (own_w0_100 q0 p1 q2 p3)), .second] [(.int (0 : Int32))])) (fun t k => XS.iconst X95.here hx rfl (hb hby at_206) k) ?_
                    exact J207 T95 _ (0 : Int32)  X95 e95 N95 hr97
                  · have hr98 := (if_neg hc199_96).symm.trans hr94
                    refine own_st (g' := (mkF m 202 #[.val (.long q0), .second, .val (.int p1), .val (.long q2), .second, .val (.int p3), .val (.int (own_w0_7 q0 p1 q2 p3)), .val (.int (own_w0_17 q0 p1 q2 p3)), .val (.long (own_w0_27 q0 p1 q2 p3)), .second, .val (.long (own_w0_37 q0 p1 q2 p3)), .second, .val (.int (own_w0_44 q0 p1 q2 p3)), .val (.int (own_w0_54 q0 p1 q2 p3)), .val (.ref b56), .val (.ref c62_data), .val (.long (own_w0_100 q0 p1 q2 p3)), .second] [])) (fun t k => XS.ifNo X95.here hx rfl (hb hby at_199) rfl ((if0 _ _).trans (feq hc199_96).1) k) ?_
                    refine own_st (g' := (mkF m 203 #[.val (.long q0), .second, .val (.int p1), .val (.long q2), .second, .val (.int p3), .val (.int (own_w0_7 q0 p1 q2 p3)), .val (.int (own_w0_17 q0 p1 q2 p3)), .val (.long (own_w0_27 q0 p1 q2 p3)), .second, .val (.long (own_w0_37 q0 p1 q2 p3)), .second, .val (.int (own_w0_44 q0 p1 q2 p3)), .val (.int (own_w0_54 q0 p1 q2 p3)), .val (.ref b56), .val (.ref c62_data), .val (.long (own_w0_100 q0 p1 q2 p3)), .second] [(.int (1 : Int32))])) (fun t k => XS.iconst X95.here hx rfl (hb hby at_202) k) ?_
                    refine own_st (g' := (mkF m 207 #[.val (.long q0), .second, .val (.int p1), .val (.long q2), .second, .val (.int p3), .val (.int (own_w0_7 q0 p1 q2 p3)), .val (.int (own_w0_17 q0 p1 q2 p3)), .val (.long (own_w0_27 q0 p1 q2 p3)), .second, .val (.long (own_w0_37 q0 p1 q2 p3)), .second, .val (.int (own_w0_44 q0 p1 q2 p3)), .val (.int (own_w0_54 q0 p1 q2 p3)), .val (.ref b56), .val (.ref c62_data), .val (.long (own_w0_100 q0 p1 q2 p3)), .second] [(.int (1 : Int32))])) (fun t k => XS.goto X95.here hx rfl (pc0 := 203) (pc' := 207) rfl (hb hby at_203) (by decide) (by decide) k) ?_
                    exact J207 T95 _ (1 : Int32)  X95 e95 N95 hr98
  · have hr99 := (if_neg hc107_65).symm.trans hr0
    refine own_st (g' := (mkF m 110 #[.val (.long q0), .second, .val (.int p1), .val (.long q2), .second, .val (.int p3), .val (.int (own_w0_7 q0 p1 q2 p3)), .val (.int (own_w0_17 q0 p1 q2 p3)), .val (.long (own_w0_27 q0 p1 q2 p3)), .second, .val (.long (own_w0_37 q0 p1 q2 p3)), .second, .val (.int (own_w0_44 q0 p1 q2 p3)), .val (.int (own_w0_54 q0 p1 q2 p3)), .val (.ref b56), .val (.ref c62_data), .val (.long (own_w0_100 q0 p1 q2 p3)), .second] [])) (fun t k => XS.icmpNo X60.here hx rfl (hb hby at_107) rfl (feq hc107_65).1 k) ?_
    refine own_st (g' := (mkF m 111 #[.val (.long q0), .second, .val (.int p1), .val (.long q2), .second, .val (.int p3), .val (.int (own_w0_7 q0 p1 q2 p3)), .val (.int (own_w0_17 q0 p1 q2 p3)), .val (.long (own_w0_27 q0 p1 q2 p3)), .second, .val (.long (own_w0_37 q0 p1 q2 p3)), .second, .val (.int (own_w0_44 q0 p1 q2 p3)), .val (.int (own_w0_54 q0 p1 q2 p3)), .val (.ref b56), .val (.ref c62_data), .val (.long (own_w0_100 q0 p1 q2 p3)), .second] [(.int (0 : Int32))])) (fun t k => XS.iconst X60.here hx rfl (hb hby at_110) k) ?_
    exact own_retN (t := .boolean) X60 hx Bd.returns Bd.notSynchronized (by simp) (hb hby at_111) ⟨congrArg (fun q => some (Value.int q)) hr99, N60⟩ (by decide) (by decide)
/-! ## The plain law -/
theorem own_n1 : nar .boolean (1 : Int32) = 1 := by decide
section OwnLaw
variable (q0 : Int64) (p1 : Int32) (q2 : Int64) (p3 : Int32)
theorem own_bytes : ∃ A : Nat, (own_w0_100 q0 p1 q2 p3).toBitVec.toNat = A ∧ ∀ i : Nat, (i : Int) < (own_w0_54 q0 p1 q2 p3).toInt → own_isb ((own_fin (own_s2 q0 p1 q2 p3).1 (own_s2 q0 p1 q2 p3).2.1 (own_s2 q0 p1 q2 p3).2.2.1 (own_s2 q0 p1 q2 p3).2.2.2).getD i 0) (A / 2 ^ (8 * i)) := by
  obtain ⟨c1, c2, M1, M2, h1, h2, g1, g2, e1, e2, f1, f2, e, -, -, j1, j2, j3, j4, j5⟩ := own_two q0 p1 q2 p3
  refine ⟨M1 + M2 * 2 ^ c1, ?_, ?_⟩
  · show (own_w0_27 q0 p1 q2 p3 ||| (own_w0_37 q0 p1 q2 p3 <<< (own_w0_7 q0 p1 q2 p3 &&& 0x3f).toInt64)).toBitVec.toNat = _
    have hs : (own_w0_37 q0 p1 q2 p3 <<< (own_w0_7 q0 p1 q2 p3 &&& 0x3f).toInt64).toBitVec.toNat = M2 * 2 ^ c1 := by
      have a := c_lshl (own_w0_37 q0 p1 q2 p3) (own_w0_7 q0 p1 q2 p3) c1 (by rw [own_natI e1]; omega)
      have hlt := (own_w0_37 q0 p1 q2 p3 <<< (own_w0_7 q0 p1 q2 p3 &&& 0x3f).toInt64).toBitVec.isLt
      have hi : (own_w0_37 q0 p1 q2 p3 <<< (own_w0_7 q0 p1 q2 p3 &&& 0x3f).toInt64).toInt = (own_w0_37 q0 p1 q2 p3 <<< (own_w0_7 q0 p1 q2 p3 &&& 0x3f).toInt64).toBitVec.toInt := rfl
      rw [hi, BitVec.toInt_eq_toNat_cond, f2, ← Int.natCast_mul] at a
      have hM : M2 * 2 ^ c1 < 2 ^ 64 := by
        have hP2 : 2 ^ c2 ≤ 2 ^ 32 := Nat.pow_le_pow_right (by decide) h2
        have hP1 : 2 ^ c1 ≤ 2 ^ 32 := Nat.pow_le_pow_right (by decide) h1
        calc M2 * 2 ^ c1 < 2 ^ c2 * 2 ^ c1 := (Nat.mul_lt_mul_right (Nat.two_pow_pos _)).mpr g2
          _ ≤ 2 ^ 32 * 2 ^ 32 := Nat.mul_le_mul hP2 hP1
          _ = 2 ^ 64 := by decide
      generalize M2 * 2 ^ c1 = Y at *
      split at a <;> omega
    rw [Int64.toBitVec_or, BitVec.toNat_or, own_natL f1, hs, Nat.or_comm, Nat.mul_comm M2, ← Nat.two_pow_add_eq_or_of_lt g1, Nat.add_comm]
  · intro i hi
    rw [e] at hi
    rw [own_fin_eq]
    by_cases z : (0 : Int32) < (own_s2 q0 p1 q2 p3).2.1
    · rw [if_pos z, own_clamp j3]
      have z' := Int32.lt_iff_toInt_lt.mp z; rw [j2, show (0 : Int32).toInt = 0 from rfl] at z'
      by_cases q : i = (c1 + c2) / 8
      · subst q
        rw [own_getset (by rw [j4]; omega)]
        exact own_isb_nar (own_isb_of _ _ (by rw [j1, Int.sub_self]; rfl))
      · rw [own_getset' (fun y => q y.symm)]; exact j5 i (by omega)
    · rw [if_neg z]
      have z' := mt Int32.lt_iff_toInt_lt.mpr z; rw [j2, show (0 : Int32).toInt = 0 from rfl] at z'
      exact j5 i (by omega)
theorem own_shr (x : Int64) (q : Int32) (k A : Nat) (hq : q.toBitVec.toNat = k) (hk : k < 64) (hA : x.toBitVec.toNat = A) : own_isb (((x.toUInt64 >>> (q &&& 0x3f).toInt64.toUInt64).toInt64).toInt32.toInt8.toInt32) (A / 2 ^ k) := by
  refine own_isb_of _ _ ?_
  have hlt := x.toBitVec.isLt
  have hx : x.toInt = x.toBitVec.toInt := rfl
  rcases Nat.eq_zero_or_pos k with z | z
  · subst z
    have e0 : (q &&& 0x3f).toInt64.toUInt64 = 0 := by
      have : q = 0 := by
        apply Int32.toBitVec_inj.mp; apply BitVec.eq_of_toNat_eq; rw [hq]; rfl
      rw [this]; decide
    have e1 : (x.toUInt64 >>> (0 : UInt64)).toInt64 = x := by
      rw [UInt64.shiftRight_zero]; rfl
    rw [e0, e1, Nat.pow_zero, Nat.div_one, hx, BitVec.toInt_eq_toNat_cond, hA]
    split <;> omega
  · have h := c_lushr x q k (by rw [hq]; exact Nat.mod_eq_of_lt hk) z
    rw [h]
    have hm : x.toInt % 18446744073709551616 = (A : Int) := by
      rw [hx, BitVec.toInt_eq_toNat_cond, hA]; rw [hA] at hlt; split <;> omega
    rw [hm, ← Int.natCast_ediv, Int.sub_self]; rfl
theorem own_at (j : Nat) (i : Int32) (hj : i.toInt = j) (h8 : j < 8) (hm : ((8 : Int32) * i).toBitVec.toNat = 8 * j) : own_F5 i (own_w0_100 q0 p1 q2 p3) (own_w0_54 q0 p1 q2 p3) (own_fin (own_s2 q0 p1 q2 p3).1 (own_s2 q0 p1 q2 p3).2.1 (own_s2 q0 p1 q2 p3).2.2.1 (own_s2 q0 p1 q2 p3).2.2.2) = 1 := by
  obtain ⟨A, hA, hall⟩ := own_bytes q0 p1 q2 p3
  rw [own_F5_eq]; split
  · rename_i z
    have z' := Int32.lt_iff_toInt_lt.mp z; rw [hj] at z'
    have h1 := hall j z'
    have h2 := own_shr (own_w0_100 q0 p1 q2 p3) ((8 : Int32) * i) (8 * j) A hm (by omega) hA
    rw [own_clamp hj, if_pos (own_isb_uniq h1 h2), own_f5_27_eq, own_n1]
  · rw [own_n1]
theorem own_law : own_F0 q0 p1 q2 p3 = 1 := by
  have n0 : ¬ (1 : Int32) = (0 : Int32) := by decide
  rw [own_F0_eq, if_pos rfl,
    own_at q0 p1 q2 p3 0 (0 : Int32) (by decide) (by decide) (by decide), if_neg n0,
    own_at q0 p1 q2 p3 1 (1 : Int32) (by decide) (by decide) (by decide), if_neg n0,
    own_at q0 p1 q2 p3 2 (2 : Int32) (by decide) (by decide) (by decide), if_neg n0,
    own_at q0 p1 q2 p3 3 (3 : Int32) (by decide) (by decide) (by decide), if_neg n0,
    own_at q0 p1 q2 p3 4 (4 : Int32) (by decide) (by decide) (by decide), if_neg n0,
    own_at q0 p1 q2 p3 5 (5 : Int32) (by decide) (by decide) (by decide), if_neg n0,
    own_at q0 p1 q2 p3 6 (6 : Int32) (by decide) (by decide) (by decide), if_neg n0,
    own_at q0 p1 q2 p3 7 (7 : Int32) (by decide) (by decide) (by decide), if_neg n0, own_f0_207_eq, own_n1]
end OwnLaw

set_option maxRecDepth 65536 in
set_option maxHeartbeats 40000000 in
theorem comes_1 {Post : Tables → Env → Array Value → State → Outcome → State → Prop} (hpost : ∀ tb e args s v u, (limb_1_1.after args s (.returned v) u = true ∧ limb_1_2.after args s (.returned v) u = true ∧ True) → FrameEnd s (.returned v) u (Jvm.fieldLocs frame_1_writes args s ++ Jvm.arrayLocs frame_1_arrays args s ++ Jvm.staticLocs frame_1_statics s) 16 128 → Post tb e args s (.returned v) u) :
    ArmFor flags0 classFile x code maxLocals ret World_1 tables_1 room_1 Calls_1 rest_1 Pre_1 Post := by
  intro l hfl _ _ p e ha hc hk s m args below hf hA hF happ hP
  obtain ⟨hcalls, hrest, hpre⟩ := hP
  obtain ⟨-, -, -, hnamed, -, -, -, hat⟩ := (Spec.applies_iff hf).mp happ
  obtain ⟨hg, hn⟩ := and_e (Cond.before_iff.mp (show (Jvm.Cond.and given_1 narrow_1).before args s = true from hpre))
  obtain ⟨hg0, hq0⟩ := and_e hg
  obtain ⟨ha0, hq1⟩ := and_e hq0
  obtain ⟨ha1, hq2⟩ := and_e hq1
  obtain ⟨ha2, hq3⟩ := and_e hq2
  have ha3 := hq3
  obtain ⟨w0, w1, w2, w3, rfl⟩ : ∃ w0 w1 w2 w3 : Value, args = #[w0, w1, w2, w3] := by
    have hs : args.size = 4 := by simpa [Cond.value, given_1] using hg0
    obtain ⟨L⟩ := args
    match L, hs with
    | [w0, w1, w2, w3], _ => exact ⟨w0, w1, w2, w3, rfl⟩
  have hw := fun d (hd : d ∈ tables_1) => atoms_spec (ws := Jvm.Cond.code x code maxLocals ret :: tables_1) hat d (List.mem_cons_of_mem _ hd)
  obtain ⟨i0, ei0⟩ := isL_v ha0
  obtain rfl : w0 = (.long i0) := Option.some.inj ei0
  obtain ⟨i1, ei1⟩ := is_v ha1
  obtain rfl : w1 = (.int i1) := Option.some.inj ei1
  obtain ⟨i2, ei2⟩ := isL_v ha2
  obtain rfl : w2 = (.long i2) := Option.some.inj ei2
  obtain ⟨i3, ei3⟩ := is_v ha3
  obtain rfl : w3 = (.int i3) := Option.some.inj ei3
  obtain ⟨n, o, h1, h2, h3, _, L, rfl, ⟨rfl, N⟩, hq⟩ := rm0 l s _ hw tables_1 i0 i1 i2 i3 s.heap s.heap.size (Nat.le_refl _) (own_law i0 i1 i2 i3) p e ha hc hk s m _ below hf ((Spec.applies_iff_loose hf).mp happ).1 ⟨rfl, State.Warmed39.refl s, rfl⟩ trivial
  refine ⟨n, _, h1, h2, h3, hpost _ _ _ _ _ _ ⟨Cond.after_iff.mpr rfl, Cond.after_iff.mpr (eq_i res_at (Term.int_eval (1)) rfl), trivial⟩ ⟨hq.1, hq.2.1, (hq.2.2.sift fun y hy => Or.inr (N y hy)).mono (by decide) (by decide)⟩⟩
theorem main_1_1 : Claimed_1_1 := comes_1 fun _ _ _ _ _ _ h hF => ⟨h.1, hF⟩
theorem main_1_2 : Claimed_1_2 := comes_1 fun _ _ _ _ _ _ h hF => ⟨h.2.1, hF⟩
end Jvm.Pilot.@@N@@
namespace Jvm.Pilot.@@N@@
open Jvm Jvm.ClassFile Sem Op Lib Jvm.Free Jvm.Stand Jvm.Pilot.@@N@@.Jvm.D
/-! MADE BY PROGRAM (witnessworld.py) out of the Statement's table words and the real class files: 9 classes; the members and pool entries that the words name. The judged class is class 1, her method 1. -/
namespace start1
open Jvm.ClassFile
def u (s : String) : CpInfo := .utf8 (stringToUtf16 s)
/-- a pool by its gaps: so many unusable entries, then the entry; so many at the end -/
def gap : Nat → List CpInfo → List CpInfo
  | 0, r => r
  | n + 1, r => .unusable :: gap n r
def poolList (es : List (Nat × CpInfo)) (last : Nat) : List CpInfo := es.foldr (fun e r => gap e.1 (e.2 :: r)) (gap last [])
def pool (es : List (Nat × CpInfo)) (last : Nat) : Array CpInfo := ⟨poolList es last⟩
def fileOf (pool : Array CpInfo) (this : Nat) (attrs : Array Attribute := #[]) (ms : Array MethodInfo := #[]) (fl : Nat := 33) (sup : Nat := 0) (ifs : Array Nat := #[]) (fds : Array FieldInfo := #[]) : ClassFile where
  minorVersion := 0
  majorVersion := 65
  constantPool := pool
  accessFlags := fl
  thisClass := this
  superClass := sup
  interfaces := ifs
  fields := fds
  methods := ms
  attributes := attrs
def plain (name : String) (sup : Option ClassId) : Class where
  name := name
  kind := .ordinary
  loader := none
  accessFlags := 33
  super := sup
  interfaces := #[]
  cf := none
  fields := #[]
  methods := #[]
  instanceTypes := #[]
  staticTypes := #[]
  resolved := #[]
  callSites := []
  init := .initialized
  statics := none
  mirror := none

def pool0 : Array CpInfo := pool [(5, u "<init>"), (0, u "()V"), (1, .class_ 10), (1, u "java/lang/Object")] 113

def k0c0 : Code := { maxStack := 0, maxLocals := 1, code := object_method_1_code, exceptionTable := #[], attributes := #[] }
def k0m0 : Method := { name := "<init>", desc := "()V", sig := { parameters := [], returnType := none }, accessFlags := 1, code := some k0c0 }
/-- java/lang/Object -/
def k0 : Class := { plain "java/lang/Object" none with
  accessFlags := 33
  interfaces := #[]
  cf := some (fileOf pool0 8 #[] #[{ accessFlags := 1, nameIndex := 5, descriptorIndex := 6, attributes := #[] }] 33 0 #[] #[])
  fields := #[]
  methods := #[k0m0]
  instanceTypes := #[]
  staticTypes := #[]
  resolved := Array.replicate 124 none
  statics := none }

def pool1 : Array CpInfo := pool [(2, .class_ 4), (1, u "java/lang/Object"), (0, u "<init>"), (0, u "()V"), (0, .integer 2147483647), (0, .class_ 9), (0, u "com/example/dehull/dehull/codec/BitWriter"), (0, .methodref 8 11), (0, .nameAndType 5 12), (0, u "(I)V"), (0, .methodref 8 14), (0, .nameAndType 15 16), (0, u "writeBits"), (0, u "(JI)V"), (0, .methodref 8 18), (0, .nameAndType 19 20), (0, u "finish"), (0, u "()[B"), (0, .methodref 22 23), (0, .class_ 24), (0, .nameAndType 25 26), (0, u "com/example/dehull/dehull/codec/BitWriterWriteBitsPinLaw"), (0, u "at"), (0, u "([BIJ)Z"), (2, u "law"), (0, u "(JIJI)Z")] 5

def k1m0 : Method := { name := "<init>", desc := "()V", sig := { parameters := [], returnType := none }, accessFlags := 1, code := none }
def k1c1 : Code := { maxStack := 6, maxLocals := 18, code := code, exceptionTable := #[], attributes := #[] }
def k1m1 : Method := { name := "law", desc := "(JIJI)Z", sig := { parameters := [.long, .int, .long, .int], returnType := some .boolean }, accessFlags := 9, code := some k1c1 }
def k1c2 : Code := { maxStack := 5, maxLocals := 4, code := method_3_code, exceptionTable := #[], attributes := #[] }
def k1m2 : Method := { name := "at", desc := "([BIJ)Z", sig := { parameters := [(.array .byte), .int, .long], returnType := some .boolean }, accessFlags := 10, code := some k1c2 }
/-- com/example/dehull/dehull/codec/BitWriterWriteBitsPinLaw -/
def k1 : Class := { plain "com/example/dehull/dehull/codec/BitWriterWriteBitsPinLaw" (some 0) with
  accessFlags := 49
  interfaces := #[]
  cf := some (fileOf pool1 22 #[] #[{ accessFlags := 1, nameIndex := 5, descriptorIndex := 6, attributes := #[] }, { accessFlags := 9, nameIndex := 29, descriptorIndex := 30, attributes := #[] }, { accessFlags := 10, nameIndex := 25, descriptorIndex := 26, attributes := #[] }] 49 2 #[] #[])
  fields := #[]
  methods := #[k1m0, k1m1, k1m2]
  instanceTypes := #[]
  staticTypes := #[]
  resolved := Array.replicate 36 none
  statics := none }

def pool2 : Array CpInfo := pool [(1, .methodref 2 3), (0, .class_ 4), (0, .nameAndType 5 6), (0, u "java/lang/Object"), (0, u "<init>"), (0, u "()V"), (0, .fieldref 8 9), (0, .class_ 10), (0, .nameAndType 11 12), (0, u "com/example/dehull/dehull/codec/BitWriter"), (0, u "data"), (0, u "[B"), (8, u "writeBits"), (0, u "(JI)V"), (0, .fieldref 8 24), (0, .nameAndType 25 26), (0, u "window"), (0, u "J"), (0, .fieldref 8 28), (0, .nameAndType 29 30), (0, u "windowBits"), (0, u "I"), (2, .fieldref 8 34), (0, .nameAndType 35 30), (0, u "nextByte"), (9, u "(I)V"), (5, u "finish"), (0, u "()[B")] 17

def k2c0 : Code := { maxStack := 2, maxLocals := 2, code := prog_27_method_1_code, exceptionTable := #[], attributes := #[] }
def k2m0 : Method := { name := "<init>", desc := "(I)V", sig := { parameters := [.int], returnType := none }, accessFlags := 0, code := some k2c0 }
def k2c1 : Code := { maxStack := 6, maxLocals := 4, code := prog_27_method_3_code, exceptionTable := #[], attributes := #[] }
def k2m1 : Method := { name := "writeBits", desc := "(JI)V", sig := { parameters := [.long, .int], returnType := none }, accessFlags := 0, code := some k2c1 }
def k2c2 : Code := { maxStack := 4, maxLocals := 1, code := prog_27_method_4_code, exceptionTable := #[], attributes := #[] }
def k2m2 : Method := { name := "finish", desc := "()[B", sig := { parameters := [], returnType := some (.array .byte) }, accessFlags := 0, code := some k2c2 }
/-- com/example/dehull/dehull/codec/BitWriter -/
def k2 : Class := { plain "com/example/dehull/dehull/codec/BitWriter" (some 0) with
  accessFlags := 48
  interfaces := #[]
  cf := some (fileOf pool2 8 #[] #[{ accessFlags := 0, nameIndex := 5, descriptorIndex := 45, attributes := #[] }, { accessFlags := 0, nameIndex := 21, descriptorIndex := 22, attributes := #[] }, { accessFlags := 0, nameIndex := 51, descriptorIndex := 52, attributes := #[] }] 48 2 #[] #[{ accessFlags := 18, nameIndex := 11, descriptorIndex := 12, attributes := #[] }, { accessFlags := 2, nameIndex := 35, descriptorIndex := 30, attributes := #[] }, { accessFlags := 2, nameIndex := 25, descriptorIndex := 26, attributes := #[] }, { accessFlags := 2, nameIndex := 29, descriptorIndex := 30, attributes := #[] }])
  fields := #[{ name := "data", type := (.array .byte), accessFlags := 18, slot := 0, constantValue := 0 }, { name := "nextByte", type := .int, accessFlags := 2, slot := 1, constantValue := 0 }, { name := "window", type := .long, accessFlags := 2, slot := 2, constantValue := 0 }, { name := "windowBits", type := .int, accessFlags := 2, slot := 3, constantValue := 0 }]
  methods := #[k2m0, k2m1, k2m2]
  instanceTypes := #[(.array .byte), .int, .long, .int]
  staticTypes := #[]
  resolved := Array.replicate 70 none
  statics := none }

def pool3 : Array CpInfo := pool [(1, u "java/lang/Cloneable"), (0, .class_ 1), (0, u "java/lang/Object"), (0, .class_ 3)] 3

/-- java/lang/Cloneable -/
def k3 : Class := { plain "java/lang/Cloneable" (some 0) with
  accessFlags := 1537
  interfaces := #[]
  cf := some (fileOf pool3 2 #[] #[] 1537 4 #[] #[])
  fields := #[]
  methods := #[]
  instanceTypes := #[]
  staticTypes := #[]
  resolved := Array.replicate 8 none
  statics := none }

def pool4 : Array CpInfo := pool [(1, u "java/io/Serializable"), (0, .class_ 1), (0, u "java/lang/Object"), (0, .class_ 3)] 3

/-- java/io/Serializable -/
def k4 : Class := { plain "java/io/Serializable" (some 0) with
  accessFlags := 1537
  interfaces := #[]
  cf := some (fileOf pool4 2 #[] #[] 1537 4 #[] #[])
  fields := #[]
  methods := #[]
  instanceTypes := #[]
  staticTypes := #[]
  resolved := Array.replicate 8 none
  statics := none }

/-- the primitive byte -/
def k5 : Class := { plain "byte" none with kind := .primitive 'B', accessFlags := 0x411 }
/-- [B -/
def k6 : Class := { plain "[B" (some 0) with kind := .array 5 .byte, interfaces := #[3, 4], accessFlags := 1041 }

/-- the primitive int -/
def k7 : Class := { plain "int" none with kind := .primitive 'I', accessFlags := 0x411 }
/-- [I -/
def k8 : Class := { plain "[I" (some 0) with kind := .array 7 .int, interfaces := #[3, 4], accessFlags := 1041 }

def heap : Heap := #[]
def classes : Array Class := #[k0, k1, k2, k3, k4, k5, k6, k7, k8]
def interned : List (Array UInt16 × Addr) := []
def slotsUsed : Nat := 0
def theMethod : MethodId := ⟨1, 1⟩
def args0 : Array Value := #[.long 5, .int 5, .long 5, .int 5]
def aboutOver (below : List Frame) : State where
  vm := { classes := classes, interned := interned.toArray }
  heap := heap
  slotsUsed := slotsUsed
  threads := #[{ frames := .invoking theMethod args0 :: below }]
def below0 : List Frame := [.native { method := ⟨0, 0⟩, args := #[] }]
def about1 : State := aboutOver below0
def p0 : Program := .bare "" "" ""
def e0 : Env := launch0.env 0 0 0
theorem w_frames : about1.frames = Frame.invoking theMethod args0 :: below0 := rfl
set_option maxRecDepth 65536 in
theorem w_args : argsFit about1.vm theMethod args0 = true := by decide +kernel
set_option maxRecDepth 65536 in
theorem w_heap : heapFits about1 = true := by decide +kernel
set_option maxRecDepth 65536 in
theorem w_runnable : about1.curStatus? = some .runnable := by decide +kernel
set_option maxRecDepth 65536 in
theorem w_alone : about1.alone = true := by decide +kernel
set_option maxRecDepth 65536 in
theorem w_named : about1.methodNamed? x = some theMethod := by decide +kernel
set_option maxRecDepth 65536 in
theorem w_hears : about1.hears theMethod below0 = true := by decide +kernel
set_option maxRecDepth 65536 in
theorem w_ripe : about1.ripe theMethod args0 below0 = true := by decide +kernel
theorem w_running : about1.status = .running := rfl
set_option maxRecDepth 65536 in
theorem w_room : about1.hasRoom e0.platform room_1 = true :=
  launch0.hasRoom_least _ room_1 (by decide +kernel) (by decide +kernel) (by decide +kernel) (by decide +kernel) (by decide +kernel) (by decide +kernel)
theorem allAtoms_all (ts : List Jvm.Cond) (a : Array Jvm.Value) (st : Jvm.State) : (allAtoms ts).before a st = ts.all (fun c => c.before a st) := by
  induction ts with
  | nil => rfl
  | cons c t ih =>
    show (Jvm.Cond.and c (allAtoms t)).before a st = _
    rw [Jvm.Cond.before_and, ih, List.all_cons]
def words1 : List Jvm.Cond := Jvm.Cond.code x code maxLocals ret :: tables_1
/-- a 'code' word, met by the world's own term for the bytes: nothing is compared byte by byte -/
theorem code_word {y : MethodName} {bytes : ByteArray} {mx : Nat} {rt : Option FieldType} {a : Array Value} {s : State} {m : MethodId} {meth : Method} {c : Code} (h1 : s.methodNamed? y = some m) (h2 : s.vm.method? m = some meth) (h3 : meth.code = some c) (h4 : c.code = bytes)
    (h5 : (c.maxLocals == mx && c.exceptionTable.isEmpty && decide (c.maxStack ≤ mostOperands) && decide (meth.sig.returnType = rt) && !meth.locks && decide (parseMethodDescriptor y.desc = some meth.sig)) = true) : (Jvm.Cond.code y bytes mx rt).before a s = true := by
  simp only [Bool.and_eq_true, beq_iff_eq, Bool.not_eq_true', decide_eq_true_eq] at h5
  obtain ⟨⟨⟨⟨⟨g1, g2⟩, g3⟩, g4⟩, g5⟩, g6⟩ := h5
  simp [Cond.before, Cond.holds, Cond.value, h1, h2, h3, h4, g1, g2, g3, g4, g5, g6]
def isCode : Jvm.Cond → Bool
  | .code _ _ _ _ => true
  | _ => false
theorem all_split {L : List Jvm.Cond} {P : Jvm.Cond → Bool} (h1 : L.all (fun c => isCode c || P c) = true) (h2 : ∀ c ∈ L.filter isCode, P c = true) : L.all P = true := by
  refine List.all_eq_true.mpr fun c hc => ?_
  have h := List.all_eq_true.mp h1 c hc
  rcases Bool.eq_false_or_eq_true (isCode c) with hi | hi
  · exact h2 c (List.mem_filter.mpr ⟨hc, hi⟩)
  · simpa [hi] using h
set_option maxRecDepth 65536 in
theorem w_c0 : (Jvm.Cond.code x code maxLocals ret).before args0 about1 = true := code_word (m := ⟨1, 1⟩) (meth := k1m1) (c := k1c1) (by decide +kernel) rfl rfl rfl (by decide +kernel)
set_option maxRecDepth 65536 in
theorem w_c1 : (Jvm.Cond.code ({ cls := "com/example/dehull/dehull/codec/BitWriter", name := "<init>", desc := "(I)V" } : Jvm.MethodName) prog_27_method_1_code (2 : Nat) (Option.none : Option Jvm.ClassFile.FieldType)).before args0 about1 = true := code_word (m := ⟨2, 0⟩) (meth := k2m0) (c := k2c0) (by decide +kernel) rfl rfl rfl (by decide +kernel)
set_option maxRecDepth 65536 in
theorem w_c2 : (Jvm.Cond.code ({ cls := "java/lang/Object", name := "<init>", desc := "()V" } : Jvm.MethodName) object_method_1_code (1 : Nat) (Option.none : Option Jvm.ClassFile.FieldType)).before args0 about1 = true := code_word (m := ⟨0, 0⟩) (meth := k0m0) (c := k0c0) (by decide +kernel) rfl rfl rfl (by decide +kernel)
set_option maxRecDepth 65536 in
theorem w_c3 : (Jvm.Cond.code ({ cls := "com/example/dehull/dehull/codec/BitWriter", name := "writeBits", desc := "(JI)V" } : Jvm.MethodName) prog_27_method_3_code (4 : Nat) (Option.none : Option Jvm.ClassFile.FieldType)).before args0 about1 = true := code_word (m := ⟨2, 1⟩) (meth := k2m1) (c := k2c1) (by decide +kernel) rfl rfl rfl (by decide +kernel)
set_option maxRecDepth 65536 in
theorem w_c4 : (Jvm.Cond.code ({ cls := "com/example/dehull/dehull/codec/BitWriter", name := "finish", desc := "()[B" } : Jvm.MethodName) prog_27_method_4_code (1 : Nat) (Option.some (Jvm.ClassFile.FieldType.array Jvm.ClassFile.FieldType.byte))).before args0 about1 = true := code_word (m := ⟨2, 2⟩) (meth := k2m2) (c := k2c2) (by decide +kernel) rfl rfl rfl (by decide +kernel)
set_option maxRecDepth 65536 in
theorem w_c5 : (Jvm.Cond.code ({ cls := "com/example/dehull/dehull/codec/BitWriterWriteBitsPinLaw", name := "at", desc := "([BIJ)Z" } : Jvm.MethodName) method_3_code (4 : Nat) (Option.some Jvm.ClassFile.FieldType.boolean)).before args0 about1 = true := code_word (m := ⟨1, 2⟩) (meth := k1m2) (c := k1c2) (by decide +kernel) rfl rfl rfl (by decide +kernel)
def codes1 : List Jvm.Cond := [Jvm.Cond.code x code maxLocals ret, Jvm.Cond.code ({ cls := "com/example/dehull/dehull/codec/BitWriter", name := "<init>", desc := "(I)V" } : Jvm.MethodName) prog_27_method_1_code (2 : Nat) (Option.none : Option Jvm.ClassFile.FieldType), Jvm.Cond.code ({ cls := "java/lang/Object", name := "<init>", desc := "()V" } : Jvm.MethodName) object_method_1_code (1 : Nat) (Option.none : Option Jvm.ClassFile.FieldType), Jvm.Cond.code ({ cls := "com/example/dehull/dehull/codec/BitWriter", name := "writeBits", desc := "(JI)V" } : Jvm.MethodName) prog_27_method_3_code (4 : Nat) (Option.none : Option Jvm.ClassFile.FieldType), Jvm.Cond.code ({ cls := "com/example/dehull/dehull/codec/BitWriter", name := "finish", desc := "()[B" } : Jvm.MethodName) prog_27_method_4_code (1 : Nat) (Option.some (Jvm.ClassFile.FieldType.array Jvm.ClassFile.FieldType.byte)), Jvm.Cond.code ({ cls := "com/example/dehull/dehull/codec/BitWriterWriteBitsPinLaw", name := "at", desc := "([BIJ)Z" } : Jvm.MethodName) method_3_code (4 : Nat) (Option.some Jvm.ClassFile.FieldType.boolean)]
set_option maxRecDepth 65536 in
theorem codes_eq : words1.filter isCode = codes1 := rfl
theorem w_codes : ∀ c ∈ words1.filter isCode, c.before args0 about1 = true := by
  rw [codes_eq]
  intro c hc
  simp only [codes1, List.mem_cons, List.not_mem_nil, or_false] at hc
  rcases hc with rfl | rfl | rfl | rfl | rfl | rfl
  · exact w_c0
  · exact w_c1
  · exact w_c2
  · exact w_c3
  · exact w_c4
  · exact w_c5
set_option maxRecDepth 65536 in
theorem w_t1 : (words1.take 24).all (fun c => isCode c || c.before args0 about1) = true := by decide +kernel
set_option maxRecDepth 65536 in
theorem w_t2 : (words1.drop 24).all (fun c => isCode c || c.before args0 about1) = true := by decide +kernel
theorem w_tables : (allAtoms (Jvm.Cond.code x code maxLocals ret :: tables_1)).before args0 about1 = true := by
  rw [allAtoms_all]
  show words1.all (fun c => c.before args0 about1) = true
  refine all_split ?_ w_codes
  rw [← List.take_append_drop 24 words1, List.all_append, w_t1, w_t2]
  rfl
set_option maxRecDepth 65536 in
theorem w_case : (Jvm.Cond.and given_1 narrow_1).before args0 about1 = true := by decide +kernel
theorem w_applies : (headSpec (Jvm.Cond.code x code maxLocals ret :: tables_1) room_1).applies x e0.platform about1 = true :=
  (Spec.applies_iff w_frames).mpr ⟨w_running, w_runnable, w_alone, w_named, w_hears, w_ripe, w_room, w_tables⟩
theorem atStart : AtStart classFile x code maxLocals ret World_1 tables_1 room_1 Calls_1 rest_1 Pre_1 launch0 p0 e0 about1 theMethod args0 below0 :=
  ⟨lists_1, trivial, launch0.admits_env _ _ _, launch0.least_env, fairChoices_fair.cas, fairChoices_fair.clock, w_frames, w_args, w_heap, w_applies, trivial, trivial, w_case⟩
end start1
theorem witness_1 : WitnessClaimed_1 := ⟨start1.p0, start1.e0, start1.about1, start1.theMethod, start1.args0, start1.below0, start1.atStart⟩
end Jvm.Pilot.@@N@@
