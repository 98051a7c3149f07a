import JvmDerived
import JvmDerived.Pilot.@@N@@Statement
import JvmDerived.Pilot.@@N@@Code
set_option linter.unusedVariables false
set_option linter.unusedSimpArgs false
namespace Jvm.OwnKit
open Sem ClassFile Op Lib Jvm.Stand Jvm.Free Jvm.LawKit Jvm.RoadKit
section Own
variable {p : Program} {l : Launch} {e : Env} {R : Room} {s : State} {m : MethodId} {args : Array Value} {below : List Frame} {meth : Method} {c : Code} {T : State} {locs : List Loc} {cells slots : Nat}
/-- from the state S the run ends, and P says how -/
def GoOn (p : Program) (e : Env) (below : List Frame) (P : Outcome → State → Prop) (S : State) : Prop := ∃ s₂ o, Steps p.tables e below S s₂ ∧ s₂.status = .running ∧ Ended s₂ below o ∧ P o s₂
theorem GoOn.st {P : Outcome → State → Prop} {S S' : State} (h : ∀ t, Steps p.tables e below S' t → Steps p.tables e below S t) (k : GoOn p e below P S') : GoOn p e below P S := by
  obtain ⟨s₂, o, h1, h2⟩ := k; exact ⟨s₂, o, h _ h1, h2⟩
theorem gs {P : Outcome → State → Prop} {S S' : State} (k : GoOn p e below P S') (h : ∀ t, Steps p.tables e below S' t → Steps p.tables e below S t) : GoOn p e below P S := GoOn.st h k
abbrev vi (n : Int32) : Slot := .val (.int n)
abbrev vr (a : Addr) : Slot := .val (.ref a)
abbrev vz : Slot := .val .null
abbrev vu : Slot := .unset
/-- the end as a contract says it: what is returned, the heap, the written places -/
def OwPost (Q : Option Value → Heap → List Loc → Prop) (s : State) (rc rs : Nat) : Outcome → State → Prop := fun o U' => ∃ v L, o = .returned v ∧ Q v U'.heap L ∧ FrameEnd s o U' L rc rs
/-- a contract: the body y, called with as at a heap h0, ends as Q says -/
def OwCon (l : Launch) (Z : State) (y : MethodName) (bytes : ByteArray) (maxL : Nat) (ret : Option FieldType) (ws : List Jvm.Cond) (rm : Room) (as : Array Value) (h0 : Heap) (Q : Option Value → Heap → List Loc → Prop) : Prop :=
  MetFree l y (head1 (Jvm.Cond.code y bytes maxL ret :: ws) rm) (fun a U => a = as ∧ Z.Warmed39 U.vm ∧ U.heap = h0) (fun _ _ _ _ _ => True) (fun _ U o U' => ∃ v L, o = .returned v ∧ Q v U'.heap L ∧ FrameEnd U o U' L rm.cells rm.slots)
theorem OwCon.of {Z : State} {y : MethodName} {bytes : ByteArray} {maxL : Nat} {ret : Option FieldType} {ws : List Jvm.Cond} {rm : Room} {as : Array Value} {h0 : Heap} {Q : Option Value → Heap → List Loc → Prop} (hpl : plainFor y = true)
    (body : ∀ (p : Program) (e : Env) (s : State) (m : MethodId) (below : List Frame) (meth : Method) (c : Code) (s₁ : State), Stand p l e rm s m as below meth c s₁ [] 0 0 → p.tables.exec = Jvm.exec → c.code = bytes → c.maxLocals = maxL → meth.sig.returnType = ret → meth.locks = false → s.vm.findClass y.cls = some m.cls → meth.name = y.name → Z.Warmed39 s.vm → s₁.heap = h0 →
      GoOn p e below (OwPost Q s rm.cells rm.slots) (s₁.setTop (entryFrame m as maxL))) : OwCon l Z y bytes maxL ret ws rm as h0 Q := by
  refine MetFree.of_bodySF hpl hisR ?_
  intro p e s m args below meth c s₁ Bd hml hP hK
  obtain ⟨rfl, hZ, hh⟩ := hP
  exact body p e s m below meth c s₁ (Stand.of_body Bd) Bd.exec Bd.bytes hml Bd.returns Bd.notSynchronized (findClass_of_methodNamed Bd.named) (name_of_methodNamed Bd.named Bd.method).1 hZ (by rw [← hh, Bd.state]; rfl)
theorem OwCon.mono {Z : State} {y : MethodName} {bytes : ByteArray} {maxL : Nat} {ret : Option FieldType} {ws : List Jvm.Cond} {rm : Room} {as : Array Value} {h0 : Heap} {Q Q' : Option Value → Heap → List Loc → Prop} (C : OwCon l Z y bytes maxL ret ws rm as h0 Q) (h : ∀ v u L, Q v u L → Q' v u L) : OwCon l Z y bytes maxL ret ws rm as h0 Q' := by
  intro p e ha hc hk s m args below hf happ hP hK
  obtain ⟨n, o, h1, h2, h3, v, L, h4, h5, h6⟩ := C p e ha hc hk s m args below hf happ hP hK
  exact ⟨n, o, h1, h2, h3, v, L, h4, h _ _ _ h5, h6⟩
theorem GoOn.out {Q : Option Value → Heap → List Loc → Prop} {rc rs : Nat} {S : State} (X : Stand p l e R s m args below meth c T locs cells slots) (hlk : meth.locks = false) {v : Option Value} (hv : meth.sig.returnType = none → v = none) (hq : Q v T.heap locs) (hc : cells ≤ rc) (hs : slots ≤ rs)
    (st : ∀ fs, (∀ (f : JFrame) (acts : List Action), f.method = m → f.locked = none → f.entered = [] → (doReturn e (T.setTop f) acts v).1 = T.setFrames fs) → Steps p.tables e below S (T.setFrames fs)) : GoOn p e below (OwPost Q s rc rs) S := by
  obtain ⟨fs, hr, hrun, hended, hW, hsame⟩ := X.leave (v := v) hv hlk
  exact ⟨_, _, st fs hr, hrun, hended, v, locs, rfl, hq, ⟨_, rfl⟩, hW, hsame.mono hc hs⟩
theorem GoOn.retI {Q : Option Value → Heap → List Loc → Prop} {rc rs : Nat} (X : Stand p l e R s m args below meth c T locs cells slots) (hx : p.tables.exec = Jvm.exec) (hlk : meth.locks = false) {pc : Nat} {Ls : Array Slot} {z : Int32} {rest : List Value} (hret : meth.sig.returnType = some .int) (hd : decode c.code pc = .ok (.ireturn, 1))
    (hq : Q (some (.int z)) T.heap locs) (hc : cells ≤ rc) (hs : slots ≤ rs) : GoOn p e below (OwPost Q s rc rs) (T.setTop (mkF m pc Ls (.int z :: rest))) :=
  GoOn.out X hlk (fun h => by rw [hret] at h; cases h) hq hc hs fun fs hr => retOut X hx hret rfl (Or.inl ⟨rfl, Or.inl rfl, _, rfl⟩) hd hr
theorem GoOn.retZ {Q : Option Value → Heap → List Loc → Prop} {rc rs : Nat} (X : Stand p l e R s m args below meth c T locs cells slots) (hx : p.tables.exec = Jvm.exec) (hlk : meth.locks = false) {pc : Nat} {Ls : Array Slot} {z : Int32} {rest : List Value} {t : FieldType} (hret : meth.sig.returnType = some t) (ht : t = .boolean ∨ t = .byte ∨ t = .char ∨ t = .short) (hn : narrow t (.int z) = .int z) (hd : decode c.code pc = .ok (.ireturn, 1))
    (hq : Q (some (.int z)) T.heap locs) (hc : cells ≤ rc) (hs : slots ≤ rs) : GoOn p e below (OwPost Q s rc rs) (T.setTop (mkF m pc Ls (.int z :: rest))) :=
  GoOn.out X hlk (fun h => by rw [hret] at h; cases h) hq hc hs fun fs hr => retOut X hx hret hn (Or.inl ⟨rfl, Or.inr ht, _, rfl⟩) hd hr
theorem GoOn.retJ {Q : Option Value → Heap → List Loc → Prop} {rc rs : Nat} (X : Stand p l e R s m args below meth c T locs cells slots) (hx : p.tables.exec = Jvm.exec) (hlk : meth.locks = false) {pc : Nat} {Ls : Array Slot} {z : Int64} {rest : List Value} (hret : meth.sig.returnType = some .long) (hd : decode c.code pc = .ok (.lreturn, 1))
    (hq : Q (some (.long z)) T.heap locs) (hc : cells ≤ rc) (hs : slots ≤ rs) : GoOn p e below (OwPost Q s rc rs) (T.setTop (mkF m pc Ls (.long z :: rest))) :=
  GoOn.out X hlk (fun h => by rw [hret] at h; cases h) hq hc hs fun fs hr => retOut X hx hret rfl (Or.inr (Or.inl ⟨rfl, rfl, _, rfl⟩)) hd hr
theorem GoOn.retA {Q : Option Value → Heap → List Loc → Prop} {rc rs : Nat} (X : Stand p l e R s m args below meth c T locs cells slots) (hx : p.tables.exec = Jvm.exec) (hlk : meth.locks = false) {pc : Nat} {Ls : Array Slot} {w : Value} {rest : List Value} {t : FieldType} (hret : meth.sig.returnType = some t) (ht : t.isReference = true) (hw : w.isRef = true) (hn : narrow t w = w) (hd : decode c.code pc = .ok (.areturn, 1))
    (hq : Q (some w) T.heap locs) (hc : cells ≤ rc) (hs : slots ≤ rs) : GoOn p e below (OwPost Q s rc rs) (T.setTop (mkF m pc Ls (w :: rest))) :=
  GoOn.out X hlk (fun h => by rw [hret] at h; cases h) hq hc hs fun fs hr => retOut X hx hret hn (Or.inr (Or.inr (Or.inr (Or.inr ⟨rfl, ht, hw⟩)))) hd hr
theorem GoOn.retV {Q : Option Value → Heap → List Loc → Prop} {rc rs : Nat} (X : Stand p l e R s m args below meth c T locs cells slots) (hx : p.tables.exec = Jvm.exec) (hlk : meth.locks = false) {pc : Nat} {Ls : Array Slot} (hret : meth.sig.returnType = none) (hd : decode c.code pc = .ok (.return_, 1))
    (hq : Q none T.heap locs) (hc : cells ≤ rc) (hs : slots ≤ rs) : GoOn p e below (OwPost Q s rc rs) (T.setTop (mkF m pc Ls [])) :=
  GoOn.out X hlk (fun _ => rfl) hq hc hs fun fs hr => X.returnOut hx hret hd hr
/-- nothing written, nothing made: v is returned -/
def OwRet (v : Option Value) (h0 : Heap) : Option Value → Heap → List Loc → Prop := fun v' h L => v' = v ∧ L = [] ∧ h = h0
variable {Z : State} {a0 : Array Value} {h : Heap} {own : String} {index : Nat} {y z : MethodName} {bytes : ByteArray} {maxL : Nat} {ret : Option FieldType} {rm : Room} {Q : Option Value → Heap → List Loc → Prop} {P : Outcome → State → Prop}
theorem GoOn.callS {W pc : Nat} {Ls : Array Slot} {argsL rest : List Value} {ps : List FieldType} {rt : Option FieldType} {st : List Value} (X : Stand p l e R s m args below meth c T locs cells slots) (hx : p.tables.exec = Jvm.exec) (hZ : Z.Warmed39 s.vm) (hown : s.vm.findClass own = some m.cls)
    (w1 : (Cond.methodLink own index y).before a0 Z = true) (w2 : (Cond.static y).before a0 Z = true) (w3 : (Cond.initialized y.cls).before a0 Z = true) (w4 : (Cond.code y bytes maxL ret).before a0 Z = true) (hy : y.cls ≠ "java/lang/invoke/MethodHandle" ∧ y.cls ≠ "java/lang/invoke/VarHandle")
    (C : OwCon l Z y bytes maxL ret [] rm argsL.toArray h Q) (eT : T.heap = h) (hfr : rm.frames + 1 ≤ R.frames) (hlo : W + (maxL + 11) + rm.locals ≤ R.locals) (hsize : Ls.size = c.maxLocals) (hd : parseMethodDescriptor y.desc = some ⟨ps, rt⟩) (hl : argsL.length = ps.length) (hst : st = argsL.reverse ++ rest)
    (hW : (rest.map fun v => v.category).sum ≤ W) (hdg : decode c.code pc = .ok (.invokestatic index, 3)) (hc : cells + rm.cells ≤ R.cells) (hs : slots + rm.slots ≤ R.slots)
    (k : ∀ (v : Option Value) (T' : State) (L : List Loc), Stand p l e R s m args below meth c T' (locs ++ L) (cells + rm.cells) (slots + rm.slots) → Q v T'.heap L → GoOn p e below P (T'.setTop (mkF m (pc + 3) Ls (v.toList ++ rest)))) : GoOn p e below P (T.setTop (mkF m pc Ls st)) := by
  obtain ⟨v, vm₁, ⟨T', L', c', s'⟩, -, X', ⟨Lc, hQ, l1, l2, l3⟩, stp⟩ := Jvm.LawKit.callS X hx (y := y) hown (mvT hZ w1) (mvT hZ w2) (mvT hZ w3) (mvT hZ w4) hy (backOf (W := W) C hZ w4 w3 hfr hlo) (g := mkF m pc Ls st) rfl hsize (argsL := argsL) (rest := rest) (lenOf hd hl) hst (by show 2 * 0 + _ ≤ _; omega) hdg (fun _ _ => ⟨rfl, eT, hc, hs⟩)
  dsimp only [Pt.U, Pt.locs, Pt.cells, Pt.slots] at X' l1 l2 l3 stp hQ
  subst l1 l2 l3
  exact GoOn.st stp (k _ _ _ X' hQ)
theorem GoOn.callC {W pc : Nat} {Ls : Array Slot} {a : Addr} {argsL rest : List Value} {ps : List FieldType} {rt : Option FieldType} {st : List Value} (X : Stand p l e R s m args below meth c T locs cells slots) (hx : p.tables.exec = Jvm.exec) (hZ : Z.Warmed39 s.vm) (hown : s.vm.findClass own = some m.cls) (hy1 : y.name = "<init>")
    (w1 : (Cond.methodLink own index y).before a0 Z = true) (w2 : (Cond.instanceMethod y).before a0 Z = true) (w3 : (Cond.initialized y.cls).before a0 Z = true) (w4 : (Cond.code y bytes maxL none).before a0 Z = true) (hy : y.cls ≠ "java/lang/invoke/MethodHandle" ∧ y.cls ≠ "java/lang/invoke/VarHandle")
    (C : OwCon l Z y bytes maxL none [] rm (.ref a :: argsL).toArray h Q) (eT : T.heap = h) (hfr : rm.frames + 1 ≤ R.frames) (hlo : W + (maxL + 11) + rm.locals ≤ R.locals) (hsize : Ls.size = c.maxLocals) (hd : parseMethodDescriptor y.desc = some ⟨ps, rt⟩) (hl : argsL.length = ps.length) (hst : st = argsL.reverse ++ .ref a :: rest)
    (hW : (rest.map fun v => v.category).sum ≤ W) (hdg : decode c.code pc = .ok (.invokespecial index, 3)) (hc : cells + rm.cells ≤ R.cells) (hs : slots + rm.slots ≤ R.slots)
    (k : ∀ (v : Option Value) (T' : State) (L : List Loc), Stand p l e R s m args below meth c T' (locs ++ L) (cells + rm.cells) (slots + rm.slots) → Q v T'.heap L → GoOn p e below P (T'.setTop (mkF m (pc + 3) Ls (v.toList ++ rest)))) : GoOn p e below P (T.setTop (mkF m pc Ls st)) := by
  obtain ⟨v, vm₁, ⟨T', L', c', s'⟩, -, X', ⟨Lc, hQ, l1, l2, l3⟩, stp⟩ := X.specialBack hx (y := y) hy1 hown (mvT hZ w1) (mvT hZ w2) (mvT hZ w4) hy (backOf (W := W) C hZ w4 w3 hfr hlo) (g := mkF m pc Ls st) rfl hsize (Steps.refl _) (a := a) (argsL := argsL) (rest := rest) (lenOf hd hl) hst (by show 2 * 0 + _ ≤ _; omega) hdg (fun _ _ => ⟨rfl, eT, hc, hs⟩)
  dsimp only [Pt.U, Pt.locs, Pt.cells, Pt.slots] at X' l1 l2 l3 stp hQ
  subst l1 l2 l3
  exact GoOn.st (fun _ q => stp.trans q) (k _ _ _ X' hQ)
theorem GoOn.callV {W pc : Nat} {Ls : Array Slot} {a : Addr} {K : String} {argsL rest : List Value} {ps : List FieldType} {rt : Option FieldType} {st : List Value} (X : Stand p l e R s m args below meth c T locs cells slots) (hx : p.tables.exec = Jvm.exec) (hZ : Z.Warmed39 s.vm) (hown : s.vm.findClass own = some m.cls)
    (w1 : (Cond.methodLink own index y).before a0 Z = true) (w5 : (Cond.declares y).before a0 Z = true) (nf : NotFace s y) (w6 : (Cond.selects K y z).before a0 Z = true) (w2 : (Cond.instanceMethod z).before a0 Z = true) (w3 : (Cond.initialized z.cls).before a0 Z = true) (w4 : (Cond.code z bytes maxL ret).before a0 Z = true) (hy : y.cls ≠ "java/lang/invoke/MethodHandle" ∧ y.cls ≠ "java/lang/invoke/VarHandle")
    (C : OwCon l Z z bytes maxL ret [] rm (.ref a :: argsL).toArray h Q) (eT : T.heap = h) (E : Exa Z h a K) (hfr : rm.frames + 1 ≤ R.frames) (hlo : W + (maxL + 11) + rm.locals ≤ R.locals) (hsize : Ls.size = c.maxLocals) (hd : parseMethodDescriptor y.desc = some ⟨ps, rt⟩) (hl : argsL.length = ps.length) (hst : st = argsL.reverse ++ .ref a :: rest)
    (hW : (rest.map fun v => v.category).sum ≤ W) (hdg : decode c.code pc = .ok (.invokevirtual index, 3)) (hc : cells + rm.cells ≤ R.cells) (hs : slots + rm.slots ≤ R.slots)
    (k : ∀ (v : Option Value) (T' : State) (L : List Loc), Stand p l e R s m args below meth c T' (locs ++ L) (cells + rm.cells) (slots + rm.slots) → Q v T'.heap L → GoOn p e below P (T'.setTop (mkF m (pc + 3) Ls (v.toList ++ rest)))) : GoOn p e below P (T.setTop (mkF m pc Ls st)) := by
  obtain ⟨cB, kB, q1, q2, q3⟩ := isOf hZ eT E
  obtain ⟨v, vm₁, ⟨T', L', c', s'⟩, -, X', ⟨Lc, hQ, l1, l2, l3⟩, stp⟩ := X.virtualBack hx (y := y) (z := z) hown (mvT hZ w1) (mvT hZ w5) nf (mvT hZ w6) (mvT hZ w2) hy (backOf (W := W) C hZ w4 w3 hfr hlo) q1 q3 (g := mkF m pc Ls st) rfl hsize (Steps.refl _) (argsL := argsL) (rest := rest) (lenOf hd hl) hst (by show 2 * 0 + _ ≤ _; omega) hdg (fun _ _ => ⟨rfl, eT, hc, hs⟩)
  dsimp only [Pt.U, Pt.locs, Pt.cells, Pt.slots] at X' l1 l2 l3 stp hQ
  subst l1 l2 l3
  exact GoOn.st (fun _ q => stp.trans q) (k _ _ _ X' hQ)
theorem GoOn.callP {W pc : Nat} {Ls : Array Slot} {a : Addr} {argsL rest : List Value} {ps : List FieldType} {rt : Option FieldType} {st : List Value} (X : Stand p l e R s m args below meth c T locs cells slots) (hx : p.tables.exec = Jvm.exec) (hZ : Z.Warmed39 s.vm) (hown : s.vm.findClass own = some m.cls)
    (w1 : (Cond.methodLink own index y).before a0 Z = true) (w2 : (Cond.instanceMethod y).before a0 Z = true) (w5 : (Cond.selects y.cls y y).before a0 Z = true) (w6 : (Cond.privateMethod y).before a0 Z = true) (w3 : (Cond.initialized y.cls).before a0 Z = true) (w4 : (Cond.code y bytes maxL ret).before a0 Z = true) (hy : y.cls ≠ "java/lang/invoke/MethodHandle" ∧ y.cls ≠ "java/lang/invoke/VarHandle")
    (C : OwCon l Z y bytes maxL ret [] rm (.ref a :: argsL).toArray h Q) (eT : T.heap = h) (hcl : ∃ cl : Cell, h[a]? = some cl ∧ ∀ q, cl.vm ≠ .statics q) (hfr : rm.frames + 1 ≤ R.frames) (hlo : W + (maxL + 11) + rm.locals ≤ R.locals) (hsize : Ls.size = c.maxLocals) (hd : parseMethodDescriptor y.desc = some ⟨ps, rt⟩) (hl : argsL.length = ps.length) (hst : st = argsL.reverse ++ .ref a :: rest)
    (hW : (rest.map fun v => v.category).sum ≤ W) (hdg : decode c.code pc = .ok (.invokevirtual index, 3)) (hc : cells + rm.cells ≤ R.cells) (hs : slots + rm.slots ≤ R.slots)
    (k : ∀ (v : Option Value) (T' : State) (L : List Loc), Stand p l e R s m args below meth c T' (locs ++ L) (cells + rm.cells) (slots + rm.slots) → Q v T'.heap L → GoOn p e below P (T'.setTop (mkF m (pc + 3) Ls (v.toList ++ rest)))) : GoOn p e below P (T.setTop (mkF m pc Ls st)) := by
  obtain ⟨cl, q1, q2⟩ := hcl
  obtain ⟨v, vm₁, ⟨T', L', c', s'⟩, -, X', ⟨Lc, hQ, l1, l2, l3⟩, stp⟩ := X.privateBack hx (y := y) hown (mvT hZ w1) (mvT hZ w2) (mvT hZ w5) (Cond.privateMethod_at (mvP hZ w6 (args := #[]))) (mvT hZ w4) hy (backOf (W := W) C hZ w4 w3 hfr hlo) (g := mkF m pc Ls st) rfl hsize (Steps.refl _) (a := a) (by rw [eT]; exact q1) q2 (argsL := argsL) (rest := rest) (lenOf hd hl) hst (by show 2 * 0 + _ ≤ _; omega) hdg (fun _ _ => ⟨rfl, eT, hc, hs⟩)
  dsimp only [Pt.U, Pt.locs, Pt.cells, Pt.slots] at X' l1 l2 l3 stp hQ
  subst l1 l2 l3
  exact GoOn.st (fun _ q => stp.trans q) (k _ _ _ X' hQ)
theorem GoOn.callI {W pc count : Nat} {Ls : Array Slot} {a : Addr} {K : String} {argsL rest : List Value} {ps : List FieldType} {rt : Option FieldType} {st : List Value} (X : Stand p l e R s m args below meth c T locs cells slots) (hx : p.tables.exec = Jvm.exec) (hZ : Z.Warmed39 s.vm) (hown : s.vm.findClass own = some m.cls)
    (w1 : (Cond.methodLink own index y).before a0 Z = true) (w5 : (Cond.declares y).before a0 Z = true) (w7 : (Cond.interfaceMethod y.cls y.cls y.name y.desc).before a0 Z = true) (w6 : (Cond.selects K y z).before a0 Z = true) (w2 : (Cond.instanceMethod z).before a0 Z = true) (w8 : (Cond.publicMethod z).before a0 Z = true) (w9 : (Cond.unhidden K y.name y.desc).before a0 Z = true) (w10 : (Cond.castable K y.cls).before a0 Z = true) (hfa : ((Cond.interfaceMethod y.cls y.cls y.name y.desc).onTables && (Cond.interfaceMethod y.cls y.cls y.name y.desc).keepsFace) = true) (w3 : (Cond.initialized z.cls).before a0 Z = true) (w4 : (Cond.code z bytes maxL ret).before a0 Z = true) (hy : y.cls ≠ "java/lang/invoke/MethodHandle" ∧ y.cls ≠ "java/lang/invoke/VarHandle")
    (C : OwCon l Z z bytes maxL ret [] rm (.ref a :: argsL).toArray h Q) (eT : T.heap = h) (E : Exa Z h a K) (hfr : rm.frames + 1 ≤ R.frames) (hlo : W + (maxL + 11) + rm.locals ≤ R.locals) (hsize : Ls.size = c.maxLocals) (hd : parseMethodDescriptor y.desc = some ⟨ps, rt⟩) (hl : argsL.length = ps.length) (hst : st = argsL.reverse ++ .ref a :: rest)
    (hW : (rest.map fun v => v.category).sum ≤ W) (hdg : decode c.code pc = .ok (.invokeinterface index count, 5)) (hc : cells + rm.cells ≤ R.cells) (hs : slots + rm.slots ≤ R.slots)
    (k : ∀ (v : Option Value) (T' : State) (L : List Loc), Stand p l e R s m args below meth c T' (locs ++ L) (cells + rm.cells) (slots + rm.slots) → Q v T'.heap L → GoOn p e below P (T'.setTop (mkF m (pc + 5) Ls (v.toList ++ rest)))) : GoOn p e below P (T.setTop (mkF m pc Ls st)) := by
  obtain ⟨cB, kB, q1, q2, q3⟩ := isOf hZ eT E
  obtain ⟨v, vm₁, ⟨T', L', c', s'⟩, -, X', ⟨Lc, hQ, l1, l2, l3⟩, stp⟩ := X.interfaceBack hx (xi := y) (y := z) hown (mvT hZ w1) (mvT hZ w5) (mvT hZ w7 hfa) (mvT hZ w6) (mvT hZ w2) (mvT hZ w8) (mvT hZ w9) (mvT hZ w10) hy (backOf (W := W) C hZ w4 w3 hfr hlo) q1 q2 q3 (g := mkF m pc Ls st) rfl hsize (Steps.refl _) (argsL := argsL) (rest := rest) (lenOf hd hl) hst (by show 2 * 0 + _ ≤ _; omega) hdg (fun _ _ => ⟨rfl, eT, hc, hs⟩)
  dsimp only [Pt.U, Pt.locs, Pt.cells, Pt.slots] at X' l1 l2 l3 stp hQ
  subst l1 l2 l3
  exact GoOn.st (fun _ q => stp.trans q) (k _ _ _ X' hQ)
theorem own_aaload {a : Addr} {kc : ClassId} {ty : FieldType} {zl j : Int32} {vs : List Value} {dv v : Value} (X : Stand p l e R s m args below meth c T locs cells slots) (hx : p.tables.exec = Jvm.exec) (hZ : Z.Warmed39 s.vm) (eT : T.heap = h) (V : Arv Z h a kc ty zl vs dv) (hty : ty.isReference = true) (hj : ¬ j < 0 ∧ j < zl) (hv : vs.getD j.toNatClampNeg dv = v) {pc : Nat} {Ls : Array Slot} {rest : List Value} (hd : decode c.code pc = .ok (.aaload, 1)) :
    ∀ t, Steps p.tables e below (T.setTop (mkF m (pc + 1) Ls (v :: rest))) t → Steps p.tables e below (T.setTop (mkF m pc Ls (.int j :: .ref a :: rest))) t := by
  obtain ⟨cl, A, -, S, N, H, -⟩ := V
  intro t k
  exact X.aaload hx (j := j) (v := v) (by rw [eT]; exact A.1) (State.isArrayOf_alike hZ.alike A.2.1) hty A.2.2 (inb_of S hj) (H.at (inb_of S hj) hv) (g := mkF m pc Ls (.int j :: .ref a :: rest)) rfl rfl hd _ k
theorem own_aastore {a b : Addr} {kc : ClassId} {C : String} {ty : FieldType} {zl j : Int32} {vs : List Value} {dv : Value} (X : Stand p l e R s m args below meth c T locs cells slots) (hx : p.tables.exec = Jvm.exec) (hZ : Z.Warmed39 s.vm) (eT : T.heap = h) (V : Arv Z h a kc ty zl vs dv) (hty : ty.isReference = true) (hfit : fits ty (.ref b) = true) (O : Ovr Z kc C) (I : Ins Z h b C true) (hj : ¬ j < 0 ∧ j < zl) (i : Nat) (hi : j.toNatClampNeg = i) (hl : i < vs.length) {pc : Nat} {Ls : Array Slot} {rest : List Value} (hd : decode c.code pc = .ok (.aastore, 1)) :
    ∃ T' h', Stand p l e R s m args below meth c T' (locs ++ [⟨a, j.toNatClampNeg⟩]) cells slots ∧ T'.heap = h' ∧ Wr h h' a j.toNatClampNeg (.ref b) ∧ Arv Z h' a kc ty zl (vs.set i (.ref b)) dv ∧ ∀ t, Steps p.tables e below (T'.setTop (mkF m (pc + 1) Ls rest)) t → Steps p.tables e below (T.setTop (mkF m pc Ls (.ref b :: .int j :: .ref a :: rest))) t := by
  obtain ⟨cl, A, q1, S, N, H, G⟩ := V
  obtain ⟨T', h', X', e', W, st⟩ := stR X hx hZ eT A (j := j) (inb_of S hj) hty (Sto.ofV A q1 O I) (g := mkF m pc Ls (.ref b :: .int j :: .ref a :: rest)) rfl rfl hd
  exact ⟨T', h', X', e', W, Arv.set A q1 S N H G hfit W i hi hl, st⟩
theorem own_aastoreN {a : Addr} {kc : ClassId} {ty : FieldType} {zl j : Int32} {vs : List Value} {dv : Value} (X : Stand p l e R s m args below meth c T locs cells slots) (hx : p.tables.exec = Jvm.exec) (hZ : Z.Warmed39 s.vm) (eT : T.heap = h) (V : Arv Z h a kc ty zl vs dv) (hty : ty.isReference = true) (hfit : fits ty .null = true) (hj : ¬ j < 0 ∧ j < zl) (i : Nat) (hi : j.toNatClampNeg = i) (hl : i < vs.length) {pc : Nat} {Ls : Array Slot} {rest : List Value} (hd : decode c.code pc = .ok (.aastore, 1)) :
    ∃ T' h', Stand p l e R s m args below meth c T' (locs ++ [⟨a, j.toNatClampNeg⟩]) cells slots ∧ T'.heap = h' ∧ Wr h h' a j.toNatClampNeg .null ∧ Arv Z h' a kc ty zl (vs.set i .null) dv ∧ ∀ t, Steps p.tables e below (T'.setTop (mkF m (pc + 1) Ls rest)) t → Steps p.tables e below (T.setTop (mkF m pc Ls (.null :: .int j :: .ref a :: rest))) t := by
  obtain ⟨cl, A, q1, S, N, H, G⟩ := V
  obtain ⟨T', h', X', e', W, st⟩ := stR X hx hZ eT A (j := j) (inb_of S hj) hty (Or.inl rfl) (g := mkF m pc Ls (.null :: .int j :: .ref a :: rest)) rfl rfl hd
  exact ⟨T', h', X', e', W, Arv.set A q1 S N H G hfit W i hi hl, st⟩
theorem own_arrlen {a : Addr} {kc : ClassId} {ty : FieldType} {zl : Int32} {vs : List Value} {dv : Value} (X : Stand p l e R s m args below meth c T locs cells slots) (hx : p.tables.exec = Jvm.exec) (hZ : Z.Warmed39 s.vm) (eT : T.heap = h) (V : Arv Z h a kc ty zl vs dv) {pc : Nat} {Ls : Array Slot} {rest : List Value} (hd : decode c.code pc = .ok (.arraylength, 1)) :
    ∀ t, Steps p.tables e below (T.setTop (mkF m (pc + 1) Ls (.int zl :: rest))) t → Steps p.tables e below (T.setTop (mkF m pc Ls (.ref a :: rest))) t := by
  obtain ⟨cl, A, -, S, N, -, -⟩ := V
  intro t k
  refine X.arraylength hx (by rw [eT]; exact A.1) (State.isArrayOf_alike hZ.alike A.2.1) (g := mkF m pc Ls (.ref a :: rest)) rfl rfl hd _ ?_
  rw [len_of S N]; exact k
theorem own_iaload {a : Addr} {kc : ClassId} {zl j : Int32} {vs : List Value} {dv v : Value} (X : Stand p l e R s m args below meth c T locs cells slots) (hx : p.tables.exec = Jvm.exec) (hZ : Z.Warmed39 s.vm) (eT : T.heap = h) (V : Arv Z h a kc .int zl vs dv) (hj : ¬ j < 0 ∧ j < zl) (hv : vs.getD j.toNatClampNeg dv = v) {pc : Nat} {Ls : Array Slot} {rest : List Value} (hd : decode c.code pc = .ok (.iaload, 1)) :
    ∀ t, Steps p.tables e below (T.setTop (mkF m (pc + 1) Ls (v :: rest))) t → Steps p.tables e below (T.setTop (mkF m pc Ls (.int j :: .ref a :: rest))) t := by
  obtain ⟨cl, A, -, S, N, H, -⟩ := V
  intro t k
  exact X.iaload hx (j := j) (v := v) (by rw [eT]; exact A.1) (State.isArrayOf_alike hZ.alike A.2.1) A.2.2 (inb_of S hj) (H.at (inb_of S hj) hv) (g := mkF m pc Ls (.int j :: .ref a :: rest)) rfl rfl hd _ k
theorem own_caload {a : Addr} {kc : ClassId} {zl j : Int32} {vs : List Value} {dv v : Value} (X : Stand p l e R s m args below meth c T locs cells slots) (hx : p.tables.exec = Jvm.exec) (hZ : Z.Warmed39 s.vm) (eT : T.heap = h) (V : Arv Z h a kc .char zl vs dv) (hj : ¬ j < 0 ∧ j < zl) (hv : vs.getD j.toNatClampNeg dv = v) {pc : Nat} {Ls : Array Slot} {rest : List Value} (hd : decode c.code pc = .ok (.caload, 1)) :
    ∀ t, Steps p.tables e below (T.setTop (mkF m (pc + 1) Ls (v :: rest))) t → Steps p.tables e below (T.setTop (mkF m pc Ls (.int j :: .ref a :: rest))) t := by
  obtain ⟨cl, A, -, S, N, H, -⟩ := V
  intro t k
  exact X.caload hx (j := j) (v := v) (by rw [eT]; exact A.1) (State.isArrayOf_alike hZ.alike A.2.1) A.2.2 (inb_of S hj) (H.at (inb_of S hj) hv) (g := mkF m pc Ls (.int j :: .ref a :: rest)) rfl rfl hd _ k
theorem own_baload {a : Addr} {kc : ClassId} {zl j : Int32} {vs : List Value} {dv v : Value} (X : Stand p l e R s m args below meth c T locs cells slots) (hx : p.tables.exec = Jvm.exec) (hZ : Z.Warmed39 s.vm) (eT : T.heap = h) (V : Arv Z h a kc .byte zl vs dv) (hj : ¬ j < 0 ∧ j < zl) (hv : vs.getD j.toNatClampNeg dv = v) {pc : Nat} {Ls : Array Slot} {rest : List Value} (hd : decode c.code pc = .ok (.baload, 1)) :
    ∀ t, Steps p.tables e below (T.setTop (mkF m (pc + 1) Ls (v :: rest))) t → Steps p.tables e below (T.setTop (mkF m pc Ls (.int j :: .ref a :: rest))) t := by
  obtain ⟨cl, A, -, S, N, H, -⟩ := V
  intro t k
  exact X.baloadBytes hx (j := j) (v := v) (by rw [eT]; exact A.1) (State.isArrayOf_alike hZ.alike A.2.1) A.2.2 (inb_of S hj) (H.at (inb_of S hj) hv) (g := mkF m pc Ls (.int j :: .ref a :: rest)) rfl rfl hd _ k
theorem own_zaload {a : Addr} {kc : ClassId} {zl j : Int32} {vs : List Value} {dv v : Value} (X : Stand p l e R s m args below meth c T locs cells slots) (hx : p.tables.exec = Jvm.exec) (hZ : Z.Warmed39 s.vm) (eT : T.heap = h) (V : Arv Z h a kc .boolean zl vs dv) (hj : ¬ j < 0 ∧ j < zl) (hv : vs.getD j.toNatClampNeg dv = v) {pc : Nat} {Ls : Array Slot} {rest : List Value} (hd : decode c.code pc = .ok (.baload, 1)) :
    ∀ t, Steps p.tables e below (T.setTop (mkF m (pc + 1) Ls (v :: rest))) t → Steps p.tables e below (T.setTop (mkF m pc Ls (.int j :: .ref a :: rest))) t := by
  obtain ⟨cl, A, -, S, N, H, -⟩ := V
  intro t k
  exact X.baloadBooleans hx (j := j) (v := v) (by rw [eT]; exact A.1) (State.isArrayOf_alike hZ.alike A.2.1) A.2.2 (inb_of S hj) (H.at (inb_of S hj) hv) (g := mkF m pc Ls (.int j :: .ref a :: rest)) rfl rfl hd _ k
theorem own_laload {a : Addr} {kc : ClassId} {zl j : Int32} {vs : List Value} {dv v : Value} (X : Stand p l e R s m args below meth c T locs cells slots) (hx : p.tables.exec = Jvm.exec) (hZ : Z.Warmed39 s.vm) (eT : T.heap = h) (V : Arv Z h a kc .long zl vs dv) (hj : ¬ j < 0 ∧ j < zl) (hv : vs.getD j.toNatClampNeg dv = v) {pc : Nat} {Ls : Array Slot} {rest : List Value} (hd : decode c.code pc = .ok (.laload, 1)) :
    ∀ t, Steps p.tables e below (T.setTop (mkF m (pc + 1) Ls (v :: rest))) t → Steps p.tables e below (T.setTop (mkF m pc Ls (.int j :: .ref a :: rest))) t := by
  obtain ⟨cl, A, -, S, N, H, -⟩ := V
  intro t k
  exact X.laload hx (j := j) (v := v) (by rw [eT]; exact A.1) (State.isArrayOf_alike hZ.alike A.2.1) A.2.2 (inb_of S hj) (H.at (inb_of S hj) hv) (g := mkF m pc Ls (.int j :: .ref a :: rest)) rfl rfl hd _ k
theorem own_iastore {a : Addr} {kc : ClassId} {zl j : Int32} {x : Int32} {vs : List Value} {dv : Value} (X : Stand p l e R s m args below meth c T locs cells slots) (hx : p.tables.exec = Jvm.exec) (hZ : Z.Warmed39 s.vm) (eT : T.heap = h) (V : Arv Z h a kc .int zl vs dv) (hj : ¬ j < 0 ∧ j < zl) (i : Nat) (hi : j.toNatClampNeg = i) (hl : i < vs.length) {pc : Nat} {Ls : Array Slot} {rest : List Value} (hd : decode c.code pc = .ok (.iastore, 1)) :
    ∃ T' h', Stand p l e R s m args below meth c T' (locs ++ [⟨a, j.toNatClampNeg⟩]) cells slots ∧ T'.heap = h' ∧ Wr h h' a j.toNatClampNeg (.int x) ∧ Arv Z h' a kc .int zl (vs.set i (.int x)) dv ∧ ∀ t, Steps p.tables e below (T'.setTop (mkF m (pc + 1) Ls rest)) t → Steps p.tables e below (T.setTop (mkF m pc Ls ((.int x) :: .int j :: .ref a :: rest))) t := by
  obtain ⟨cl, A, q1, S, N, H, G⟩ := V
  obtain ⟨T', h', X', e', W, st⟩ := stI X hx hZ eT A (j := j) (x := x) (inb_of S hj) (g := mkF m pc Ls ((.int x) :: .int j :: .ref a :: rest)) rfl rfl hd
  exact ⟨T', h', X', e', W, Arv.set A q1 S N H G rfl W i hi hl, st⟩
theorem own_castore {a : Addr} {kc : ClassId} {zl j : Int32} {x : Int32} {vs : List Value} {dv : Value} (X : Stand p l e R s m args below meth c T locs cells slots) (hx : p.tables.exec = Jvm.exec) (hZ : Z.Warmed39 s.vm) (eT : T.heap = h) (V : Arv Z h a kc .char zl vs dv) (hj : ¬ j < 0 ∧ j < zl) (i : Nat) (hi : j.toNatClampNeg = i) (hl : i < vs.length) {pc : Nat} {Ls : Array Slot} {rest : List Value} (hd : decode c.code pc = .ok (.castore, 1)) :
    ∃ T' h', Stand p l e R s m args below meth c T' (locs ++ [⟨a, j.toNatClampNeg⟩]) cells slots ∧ T'.heap = h' ∧ Wr h h' a j.toNatClampNeg (.int (nar .char x)) ∧ Arv Z h' a kc .char zl (vs.set i (.int (nar .char x))) dv ∧ ∀ t, Steps p.tables e below (T'.setTop (mkF m (pc + 1) Ls rest)) t → Steps p.tables e below (T.setTop (mkF m pc Ls ((.int x) :: .int j :: .ref a :: rest))) t := by
  obtain ⟨cl, A, q1, S, N, H, G⟩ := V
  obtain ⟨T', h', X', e', W, st⟩ := stC X hx hZ eT A (j := j) (x := x) (inb_of S hj) (g := mkF m pc Ls ((.int x) :: .int j :: .ref a :: rest)) rfl rfl hd
  exact ⟨T', h', X', e', W, Arv.set A q1 S N H G (fits_nar_char x) W i hi hl, st⟩
theorem own_bastore {a : Addr} {kc : ClassId} {zl j : Int32} {x : Int32} {vs : List Value} {dv : Value} (X : Stand p l e R s m args below meth c T locs cells slots) (hx : p.tables.exec = Jvm.exec) (hZ : Z.Warmed39 s.vm) (eT : T.heap = h) (V : Arv Z h a kc .byte zl vs dv) (hj : ¬ j < 0 ∧ j < zl) (i : Nat) (hi : j.toNatClampNeg = i) (hl : i < vs.length) {pc : Nat} {Ls : Array Slot} {rest : List Value} (hd : decode c.code pc = .ok (.bastore, 1)) :
    ∃ T' h', Stand p l e R s m args below meth c T' (locs ++ [⟨a, j.toNatClampNeg⟩]) cells slots ∧ T'.heap = h' ∧ Wr h h' a j.toNatClampNeg (.int (nar .byte x)) ∧ Arv Z h' a kc .byte zl (vs.set i (.int (nar .byte x))) dv ∧ ∀ t, Steps p.tables e below (T'.setTop (mkF m (pc + 1) Ls rest)) t → Steps p.tables e below (T.setTop (mkF m pc Ls ((.int x) :: .int j :: .ref a :: rest))) t := by
  obtain ⟨cl, A, q1, S, N, H, G⟩ := V
  obtain ⟨T', h', X', e', W, st⟩ := stB X hx hZ eT A (j := j) (x := x) (inb_of S hj) (g := mkF m pc Ls ((.int x) :: .int j :: .ref a :: rest)) rfl rfl hd
  exact ⟨T', h', X', e', W, Arv.set A q1 S N H G (fits_nar_byte x) W i hi hl, st⟩
theorem own_zastore {a : Addr} {kc : ClassId} {zl j : Int32} {x : Int32} {vs : List Value} {dv : Value} (X : Stand p l e R s m args below meth c T locs cells slots) (hx : p.tables.exec = Jvm.exec) (hZ : Z.Warmed39 s.vm) (eT : T.heap = h) (V : Arv Z h a kc .boolean zl vs dv) (hj : ¬ j < 0 ∧ j < zl) (i : Nat) (hi : j.toNatClampNeg = i) (hl : i < vs.length) {pc : Nat} {Ls : Array Slot} {rest : List Value} (hd : decode c.code pc = .ok (.bastore, 1)) :
    ∃ T' h', Stand p l e R s m args below meth c T' (locs ++ [⟨a, j.toNatClampNeg⟩]) cells slots ∧ T'.heap = h' ∧ Wr h h' a j.toNatClampNeg (.int (nar .boolean x)) ∧ Arv Z h' a kc .boolean zl (vs.set i (.int (nar .boolean x))) dv ∧ ∀ t, Steps p.tables e below (T'.setTop (mkF m (pc + 1) Ls rest)) t → Steps p.tables e below (T.setTop (mkF m pc Ls ((.int x) :: .int j :: .ref a :: rest))) t := by
  obtain ⟨cl, A, q1, S, N, H, G⟩ := V
  obtain ⟨T', h', X', e', W, st⟩ := stZ X hx hZ eT A (j := j) (x := x) (inb_of S hj) (g := mkF m pc Ls ((.int x) :: .int j :: .ref a :: rest)) rfl rfl hd
  exact ⟨T', h', X', e', W, Arv.set A q1 S N H G (fits_nar_bool x) W i hi hl, st⟩
theorem own_lastore {a : Addr} {kc : ClassId} {zl j : Int32} {x : Int64} {vs : List Value} {dv : Value} (X : Stand p l e R s m args below meth c T locs cells slots) (hx : p.tables.exec = Jvm.exec) (hZ : Z.Warmed39 s.vm) (eT : T.heap = h) (V : Arv Z h a kc .long zl vs dv) (hj : ¬ j < 0 ∧ j < zl) (i : Nat) (hi : j.toNatClampNeg = i) (hl : i < vs.length) {pc : Nat} {Ls : Array Slot} {rest : List Value} (hd : decode c.code pc = .ok (.lastore, 1)) :
    ∃ T' h', Stand p l e R s m args below meth c T' (locs ++ [⟨a, j.toNatClampNeg⟩]) cells slots ∧ T'.heap = h' ∧ Wr h h' a j.toNatClampNeg (.long x) ∧ Arv Z h' a kc .long zl (vs.set i (.long x)) dv ∧ ∀ t, Steps p.tables e below (T'.setTop (mkF m (pc + 1) Ls rest)) t → Steps p.tables e below (T.setTop (mkF m pc Ls ((.long x) :: .int j :: .ref a :: rest))) t := by
  obtain ⟨cl, A, q1, S, N, H, G⟩ := V
  obtain ⟨T', h', X', e', W, st⟩ := stJ X hx hZ eT A (j := j) (x := x) (inb_of S hj) (g := mkF m pc Ls ((.long x) :: .int j :: .ref a :: rest)) rfl rfl hd
  exact ⟨T', h', X', e', W, Arv.set A q1 S N H G rfl W i hi hl, st⟩
theorem own_if_pos {P : Prop} [Decidable P] {a b z : Int32} (h : P) (e : a = z) : (if P then a else b) = z := (if_pos h).trans e
theorem own_nar_ite {P : Prop} [Decidable P] : narrow .boolean (.int (if P then (1 : Int32) else (0 : Int32))) = .int (if P then (1 : Int32) else (0 : Int32)) := by split <;> rfl
theorem own_nar_ite' {P : Prop} [Decidable P] : narrow .boolean (.int (if P then (0 : Int32) else (1 : Int32))) = .int (if P then (0 : Int32) else (1 : Int32)) := by split <;> rfl
theorem own_nar_char (x : Int32) : nar .char x.toUInt32.toUInt16.toUInt32.toInt32 = x.toUInt32.toUInt16.toUInt32.toInt32 := by
  simp [nar]
  congr 1
  apply UInt32.toNat_inj.mp
  simp
theorem GoOn.retD {Q : Option Value → Heap → List Loc → Prop} {rc rs : Nat} (X : Stand p l e R s m args below meth c T locs cells slots) (hx : p.tables.exec = Jvm.exec) (hlk : meth.locks = false) {pc : Nat} {Ls : Array Slot} {z : UInt64} {rest : List Value} (hret : meth.sig.returnType = some .double) (hd : decode c.code pc = .ok (.dreturn, 1))
    (hq : Q (some (.double z)) T.heap locs) (hc : cells ≤ rc) (hs : slots ≤ rs) : GoOn p e below (OwPost Q s rc rs) (T.setTop (mkF m pc Ls (.double z :: rest))) :=
  GoOn.out X hlk (fun h => by rw [hret] at h; cases h) hq hc hs fun fs hr => retOut X hx hret rfl (Or.inr (Or.inr (Or.inl ⟨rfl, rfl, _, rfl⟩))) hd hr
theorem own_daload {a : Addr} {kc : ClassId} {zl j : Int32} {vs : List Value} {dv v : Value} (X : Stand p l e R s m args below meth c T locs cells slots) (hx : p.tables.exec = Jvm.exec) (hZ : Z.Warmed39 s.vm) (eT : T.heap = h) (V : Arv Z h a kc .double zl vs dv) (hj : ¬ j < 0 ∧ j < zl) (hv : vs.getD j.toNatClampNeg dv = v) {pc : Nat} {Ls : Array Slot} {rest : List Value} (hd : decode c.code pc = .ok (.daload, 1)) :
    ∀ t, Steps p.tables e below (T.setTop (mkF m (pc + 1) Ls (v :: rest))) t → Steps p.tables e below (T.setTop (mkF m pc Ls (.int j :: .ref a :: rest))) t := by
  obtain ⟨cl, A, -, S, N, H, -⟩ := V
  intro t k
  exact X.daload hx (j := j) (v := v) (by rw [eT]; exact A.1) (State.isArrayOf_alike hZ.alike A.2.1) A.2.2 (inb_of S hj) (H.at (inb_of S hj) hv) (g := mkF m pc Ls (.int j :: .ref a :: rest)) rfl rfl hd _ k
theorem own_dastore {a : Addr} {kc : ClassId} {zl j : Int32} {x : UInt64} {vs : List Value} {dv : Value} (X : Stand p l e R s m args below meth c T locs cells slots) (hx : p.tables.exec = Jvm.exec) (hZ : Z.Warmed39 s.vm) (eT : T.heap = h) (V : Arv Z h a kc .double zl vs dv) (hj : ¬ j < 0 ∧ j < zl) (i : Nat) (hi : j.toNatClampNeg = i) (hl : i < vs.length) {pc : Nat} {Ls : Array Slot} {rest : List Value} (hd : decode c.code pc = .ok (.dastore, 1)) :
    ∃ T' h', Stand p l e R s m args below meth c T' (locs ++ [⟨a, j.toNatClampNeg⟩]) cells slots ∧ T'.heap = h' ∧ Wr h h' a j.toNatClampNeg (.double x) ∧ Arv Z h' a kc .double zl (vs.set i (.double x)) dv ∧ ∀ t, Steps p.tables e below (T'.setTop (mkF m (pc + 1) Ls rest)) t → Steps p.tables e below (T.setTop (mkF m pc Ls (.double x :: .int j :: .ref a :: rest))) t := by
  obtain ⟨cl, A, q1, S, N, H, G⟩ := V
  obtain ⟨T', h', X', e', W, st⟩ := stD X hx hZ eT A (j := j) (x := x) (inb_of S hj) (g := mkF m pc Ls (.double x :: .int j :: .ref a :: rest)) rfl rfl hd
  exact ⟨T', h', X', e', W, Arv.set A q1 S N H G rfl W i hi hl, st⟩
theorem own_arv_out {a : Addr} {kc : ClassId} {ty : FieldType} {zl j : Int32} {vs : List Value} {dv v : Value} (V : Arv Z h a kc ty zl vs dv) (i : Nat) (hi : j.toNatClampNeg = i) (hj : ¬ j < 0) (hz : ¬ j < zl) : Arv Z h a kc ty zl (vs.set i v) dv := by
  obtain ⟨cl, A, q1, S, N, H, G⟩ := V
  have hlt : cl.slots.size ≤ i := by
    rw [S, ← hi]
    rw [Int32.lt_iff_toInt_lt] at hj hz N
    have e0 : (0 : Int32).toInt = 0 := rfl
    simp only [Int32.toNatClampNeg]; omega
  have e : ∀ x, x < cl.slots.size → (vs.set i v).getD x dv = vs.getD x dv := fun x hx => by
    simp only [List.getD_eq_getElem?_getD]
    rw [List.getElem?_set_ne (by omega)]
  exact ⟨cl, A, q1, S, N, fun x hx => by rw [e x hx]; exact H x hx, fun x hx => by rw [e x hx]; exact G x hx⟩
end Own
end Jvm.OwnKit
namespace Jvm.OwnKit
open Sem ClassFile Op Lib Jvm.Stand Jvm.Free Jvm.LawKit Jvm.RoadKit
section OwnW
variable {p : Program} {l : Launch} {e : Env} {R : Room} {s : State} {m : MethodId} {args : Array Value} {below : List Frame} {meth : Method} {c : Code} {T : State} {locs : List Loc} {cells slots : Nat} {vm0 : Vm} {k0 : Nat}
/-- the end of a body that may have loaded String constants -/
def OwPostW (Q : Option Value → Heap → List Loc → Prop) (s : State) (rc rs : Nat) : Outcome → State → Prop := fun o U' => ∃ v L, o = .returned v ∧ Q v U'.heap L ∧ ReturnedEndW s o U' L rc rs
def OwConW (l : Launch) (Z : State) (y : MethodName) (bytes : ByteArray) (maxL : Nat) (ret : Option FieldType) (ws : List Jvm.Cond) (rm : Room) (as : Array Value) (h0 : Heap) (Q : Option Value → Heap → List Loc → Prop) : Prop :=
  MetFree l y (head1 (Jvm.Cond.code y bytes maxL ret :: ws) rm) (fun a U => a = as ∧ Z.Warmed39 U.vm ∧ U.heap = h0) (fun _ _ _ _ _ => True) (fun _ U o U' => ∃ v L, o = .returned v ∧ Q v U'.heap L ∧ ReturnedEndW U o U' L rm.cells rm.slots)
theorem OwConW.of {Z : State} {y : MethodName} {bytes : ByteArray} {maxL : Nat} {ret : Option FieldType} {ws : List Jvm.Cond} {rm : Room} {as : Array Value} {h0 : Heap} {Q : Option Value → Heap → List Loc → Prop} (hpl : plainFor y = true)
    (body : ∀ (p : Program) (e : Env) (s : State) (m : MethodId) (below : List Frame) (meth : Method) (c : Code) (s₁ : State), Stand p l e rm (s.setVm s.vm) m as below meth c s₁ [] 0 0 → p.tables.exec = Jvm.exec → c.code = bytes → c.maxLocals = maxL → meth.sig.returnType = ret → meth.locks = false → (s.setVm s.vm).vm.findClass y.cls = some m.cls → meth.name = y.name → Z.Warmed39 (s.setVm s.vm).vm → s₁.heap = h0 → s.Since s.vm h0.size →
      GoOn p e below (OwPostW Q s rm.cells rm.slots) (s₁.setTop (entryFrame m as maxL))) : OwConW l Z y bytes maxL ret ws rm as h0 Q := by
  refine MetFree.of_bodySF hpl hisR ?_
  intro p e s m args below meth c s₁ Bd hml hP hK
  obtain ⟨rfl, hZ, hh⟩ := hP
  exact body p e s m below meth c s₁ (Stand.of_body Bd) Bd.exec Bd.bytes hml Bd.returns Bd.notSynchronized (findClass_of_methodNamed Bd.named) (name_of_methodNamed Bd.named Bd.method).1 hZ (by rw [← hh, Bd.state]; rfl) ((State.WarmedH.refl s).since _)
theorem GoOn.outW {Q : Option Value → Heap → List Loc → Prop} {rc rs : Nat} {S : State} (X : Stand p l e R (s.setVm vm0) m args below meth c T locs cells slots) (hS : s.Since vm0 k0) (hk : k0 ≤ T.heap.size) (hlk : meth.locks = false) {v : Option Value} (hv : meth.sig.returnType = none → v = none) (hq : Q v T.heap locs) (hc : cells ≤ rc) (hs : slots ≤ rs)
    (st : ∀ fs, (∀ (f : JFrame) (acts : List Action), f.method = m → f.locked = none → f.entered = [] → (doReturn e (T.setTop f) acts v).1 = T.setFrames fs) → Steps p.tables e below S (T.setFrames fs)) : GoOn p e below (OwPostW Q s rc rs) S := by
  obtain ⟨fs, hr, hrun, hended, r1, r2, r3, r4⟩ := X.leaveW hS hk (v := v) hv hlk
  exact ⟨_, _, st fs hr, hrun, hended, v, locs, rfl, hq, r1, r2, r3, r4.mono hc hs⟩
variable {Q : Option Value → Heap → List Loc → Prop} {rc rs : Nat} {pc : Nat} {Ls : Array Slot} {rest : List Value}
theorem GoOn.retWI (X : Stand p l e R (s.setVm vm0) m args below meth c T locs cells slots) (hS : s.Since vm0 k0) (hk : k0 ≤ T.heap.size) (hx : p.tables.exec = Jvm.exec) (hlk : meth.locks = false) {z : Int32} (hret : meth.sig.returnType = some .int) (hd : decode c.code pc = .ok (.ireturn, 1))
    (hq : Q (some (.int z)) T.heap locs) (hc : cells ≤ rc) (hs : slots ≤ rs) : GoOn p e below (OwPostW Q s rc rs) (T.setTop (mkF m pc Ls (.int z :: rest))) :=
  GoOn.outW X hS hk hlk (fun h => by rw [hret] at h; cases h) hq hc hs fun fs hr => retOut X hx hret rfl (Or.inl ⟨rfl, Or.inl rfl, _, rfl⟩) hd hr
theorem GoOn.retWZ (X : Stand p l e R (s.setVm vm0) m args below meth c T locs cells slots) (hS : s.Since vm0 k0) (hk : k0 ≤ T.heap.size) (hx : p.tables.exec = Jvm.exec) (hlk : meth.locks = false) {z : Int32} {t : FieldType} (hret : meth.sig.returnType = some t) (ht : t = .boolean ∨ t = .byte ∨ t = .char ∨ t = .short) (hn : narrow t (.int z) = .int z) (hd : decode c.code pc = .ok (.ireturn, 1))
    (hq : Q (some (.int z)) T.heap locs) (hc : cells ≤ rc) (hs : slots ≤ rs) : GoOn p e below (OwPostW Q s rc rs) (T.setTop (mkF m pc Ls (.int z :: rest))) :=
  GoOn.outW X hS hk hlk (fun h => by rw [hret] at h; cases h) hq hc hs fun fs hr => retOut X hx hret hn (Or.inl ⟨rfl, Or.inr ht, _, rfl⟩) hd hr
theorem GoOn.retWJ (X : Stand p l e R (s.setVm vm0) m args below meth c T locs cells slots) (hS : s.Since vm0 k0) (hk : k0 ≤ T.heap.size) (hx : p.tables.exec = Jvm.exec) (hlk : meth.locks = false) {z : Int64} (hret : meth.sig.returnType = some .long) (hd : decode c.code pc = .ok (.lreturn, 1))
    (hq : Q (some (.long z)) T.heap locs) (hc : cells ≤ rc) (hs : slots ≤ rs) : GoOn p e below (OwPostW Q s rc rs) (T.setTop (mkF m pc Ls (.long z :: rest))) :=
  GoOn.outW X hS hk hlk (fun h => by rw [hret] at h; cases h) hq hc hs fun fs hr => retOut X hx hret rfl (Or.inr (Or.inl ⟨rfl, rfl, _, rfl⟩)) hd hr
theorem GoOn.retWA (X : Stand p l e R (s.setVm vm0) m args below meth c T locs cells slots) (hS : s.Since vm0 k0) (hk : k0 ≤ T.heap.size) (hx : p.tables.exec = Jvm.exec) (hlk : meth.locks = false) {w : Value} {t : FieldType} (hret : meth.sig.returnType = some t) (ht : t.isReference = true) (hw : w.isRef = true) (hn : narrow t w = w) (hd : decode c.code pc = .ok (.areturn, 1))
    (hq : Q (some w) T.heap locs) (hc : cells ≤ rc) (hs : slots ≤ rs) : GoOn p e below (OwPostW Q s rc rs) (T.setTop (mkF m pc Ls (w :: rest))) :=
  GoOn.outW X hS hk hlk (fun h => by rw [hret] at h; cases h) hq hc hs fun fs hr => retOut X hx hret hn (Or.inr (Or.inr (Or.inr (Or.inr ⟨rfl, ht, hw⟩)))) hd hr
theorem GoOn.retWV (X : Stand p l e R (s.setVm vm0) m args below meth c T locs cells slots) (hS : s.Since vm0 k0) (hk : k0 ≤ T.heap.size) (hx : p.tables.exec = Jvm.exec) (hlk : meth.locks = false) (hret : meth.sig.returnType = none) (hd : decode c.code pc = .ok (.return_, 1))
    (hq : Q none T.heap locs) (hc : cells ≤ rc) (hs : slots ≤ rs) : GoOn p e below (OwPostW Q s rc rs) (T.setTop (mkF m pc Ls [])) :=
  GoOn.outW X hS hk hlk (fun _ => rfl) hq hc hs fun fs hr => X.returnOut hx hret hd hr
variable {Z : State} {a0 : Array Value} {h : Heap} {own : String} {index : Nat} {y z : MethodName} {bytes : ByteArray} {maxL : Nat} {ret : Option FieldType} {rm : Room} {P : Outcome → State → Prop} {W : Nat} {argsL : List Value} {ps : List FieldType} {rt : Option FieldType} {st : List Value}
theorem GoOn.callSW (X : Stand p l e R (s.setVm vm0) m args below meth c T locs cells slots) (hS : s.Since vm0 k0) (hk : k0 ≤ h.size) (hx : p.tables.exec = Jvm.exec) (hZ : Z.Warmed39 (s.setVm vm0).vm) (hown : (s.setVm vm0).vm.findClass own = some m.cls)
    (w1 : (Cond.methodLink own index y).before a0 Z = true) (w2 : (Cond.static y).before a0 Z = true) (w3 : (Cond.initialized y.cls).before a0 Z = true) (w4 : (Cond.code y bytes maxL ret).before a0 Z = true) (hy : y.cls ≠ "java/lang/invoke/MethodHandle" ∧ y.cls ≠ "java/lang/invoke/VarHandle")
    (C : OwConW l Z y bytes maxL ret [] rm argsL.toArray h Q) (eT : T.heap = h) (hfr : rm.frames + 1 ≤ R.frames) (hlo : W + (maxL + 11) + rm.locals ≤ R.locals) (hsize : Ls.size = c.maxLocals) (hd : parseMethodDescriptor y.desc = some ⟨ps, rt⟩) (hl : argsL.length = ps.length) (hst : st = argsL.reverse ++ rest)
    (hW : (rest.map fun v => v.category).sum ≤ W) (hdg : decode c.code pc = .ok (.invokestatic index, 3)) (hc : cells + rm.cells ≤ R.cells) (hs : slots + rm.slots ≤ R.slots)
    (k : ∀ (v : Option Value) (T' : State) (L : List Loc), Stand p l e R (s.setVm T'.vm) m args below meth c T' (locs ++ L) (cells + rm.cells) (slots + rm.slots) → s.Since T'.vm T'.heap.size → Z.Warmed39 (s.setVm T'.vm).vm → (s.setVm T'.vm).vm.findClass own = some m.cls → Q v T'.heap L → GoOn p e below P (T'.setTop (mkF m (pc + 3) Ls (v.toList ++ rest)))) : GoOn p e below P (T.setTop (mkF m pc Ls st)) := by
  obtain ⟨v, vm₁, ⟨T', L', c', s'⟩, -, X', h2, g, ⟨Lc, hQ, l1, l2, l3⟩, stp⟩ := callSS X hx (y := y) hown (mvT hZ w1) (mvT hZ w2) (mvT hZ w3) (mvT hZ w4) hy (backOfS (W := W) C hZ w4 w3 hfr hlo) (g := mkF m pc Ls st) rfl hsize (argsL := argsL) (rest := rest) (lenOf hd hl) hst (by show 2 * 0 + _ ≤ _; omega) hdg (fun _ _ => ⟨rfl, eT, hc, hs⟩)
  dsimp only [Pt.U, Pt.locs, Pt.cells, Pt.slots] at X' h2 g l1 l2 l3 stp hQ
  subst l1 l2 l3
  rw [eT] at g
  obtain ⟨X2, r1, r2, r3⟩ := rebS hS hk X' h2 g hZ hown
  exact GoOn.st (fun _ q => stp.trans q) (k _ _ _ X2 r1 r2 r3 hQ)
end OwnW
end Jvm.OwnKit
namespace Jvm.Pilot.@@N@@
open Jvm Jvm.ClassFile Sem Op Lib Jvm.Free Jvm.Stand Jvm.LawKit Jvm.RoadKit Jvm.OwnKit Bundle Jvm.Pilot.@@N@@.Jvm.D
theorem own_and3 (x : Int32) : x &&& (3 : Int32) = 0 ∨ x &&& (3 : Int32) = 1 ∨ x &&& (3 : Int32) = 2 ∨ x &&& (3 : Int32) = 3 := by
  have h : (x &&& 3).toBitVec.toNat < 4 := by
    rw [Int32.toBitVec_and, BitVec.toNat_and]
    exact Nat.and_lt_two_pow (n := 2) _ (by decide)
  have key : ∀ k : Nat, (x &&& 3).toBitVec.toNat = k → (x &&& 3) = Int32.ofBitVec (BitVec.ofNat 32 k) := fun k hk => by
    apply Int32.toBitVec.inj; apply BitVec.eq_of_toNat_eq
    rw [hk]; simp; omega
  generalize hk : (x &&& 3).toBitVec.toNat = k at h
  have := key k hk
  match k, h with
  | 0, _ => exact Or.inl this
  | 1, _ => exact Or.inr (Or.inl this)
  | 2, _ => exact Or.inr (Or.inr (Or.inl this))
  | 3, _ => exact Or.inr (Or.inr (Or.inr this))
def own_min (x y : Int32) : Int32 := if y < x then y else x
def own_max (x y : Int32) : Int32 := if x < y then y else x
def own_low (r : Int64) : Int32 := own_min ((r.toUInt64 >>> ((32 : Int32) &&& 0x3f).toInt64.toUInt64).toInt64.toInt32) r.toInt32
def own_high (r : Int64) : Int32 := own_max ((r.toUInt64 >>> ((32 : Int32) &&& 0x3f).toInt64.toUInt64).toInt64.toInt32) r.toInt32
/-- how many values a variable has -/
def own_vals (r : Int64) : Int64 := ((own_high r).toInt64 - (own_low r).toInt64) + (1 : Int64)
def own_step (p v : Int64) : Int64 := if (9223372036854775807 : Int64) / v < p then (9223372036854775807 : Int64) else p * v
def own_sat (a b c : Int64) : Int64 := if (0 : Int64) < a * b then (if (9223372036854775807 : Int64) / c < a * b then (9223372036854775807 : Int64) else a * b * c) else (9223372036854775807 : Int64)
def own_in (v : Int64) : Prop := 1 ≤ v.toInt ∧ v.toInt ≤ 4294967296
theorem own_in_one : own_in 1 := by unfold own_in; decide
theorem own_in_vals (r : Int64) : own_in (own_vals r) := by
  unfold own_in own_vals own_high own_low own_min own_max
  generalize (r.toUInt64 >>> ((32 : Int32) &&& 0x3f).toInt64.toUInt64).toInt64.toInt32 = x
  generalize r.toInt32 = y
  have h1 := Int32.le_toInt x; have h2 := Int32.toInt_lt x; have h3 := Int32.le_toInt y; have h4 := Int32.toInt_lt y
  have one : (1 : Int64).toInt = 1 := rfl
  have key : ∀ a b : Int32, b.toInt ≤ a.toInt → ((a.toInt64 - b.toInt64) + (1 : Int64)).toInt = a.toInt - b.toInt + 1 := fun a b hab => by
    have g1 := Int32.le_toInt a; have g2 := Int32.toInt_lt a; have g3 := Int32.le_toInt b; have g4 := Int32.toInt_lt b
    have e : (a.toInt64 - b.toInt64).toInt = a.toInt - b.toInt := by
      rw [Int64.toInt_sub, Int32.toInt_toInt64, Int32.toInt_toInt64]; exact Int.bmod_eq_of_le (by omega) (by omega)
    rw [Int64.toInt_add, e, one]; exact Int.bmod_eq_of_le (by omega) (by omega)
  by_cases q : x < y
  · have q' : ¬ y < x := by rw [Int32.lt_iff_toInt_lt] at *; omega
    rw [if_pos q, if_neg q']
    rw [Int32.lt_iff_toInt_lt] at q
    rw [key y x (by omega)]; omega
  · rw [if_neg q]
    by_cases q' : y < x
    · rw [if_pos q']; rw [Int32.lt_iff_toInt_lt] at q'; rw [key x y (by omega)]; omega
    · rw [if_neg q']; rw [key x x (by omega)]; omega
theorem own_in_nz {v : Int64} (h : own_in v) : v ≠ 0 := fun e => by rw [e] at h; exact absurd h.1 (by decide)
theorem own_div_toInt {v : Int64} (h : own_in v) : ((9223372036854775807 : Int64) / v).toInt = 9223372036854775807 / v.toInt := by
  have e : (9223372036854775807 : Int64).toInt = 9223372036854775807 := rfl
  obtain ⟨h1, h2⟩ := h
  rw [Int64.toInt_div_of_ne_right (a := 9223372036854775807) (b := v) (by intro q; rw [q] at h1; exact absurd h1 (by decide)), e]
  exact Int.tdiv_eq_ediv_of_nonneg (by decide)
/-- p > MAX / v says: p * v is more than MAX -/
theorem own_step_lt {p v : Int64} (hv : own_in v) (hp : 1 ≤ p.toInt) : (9223372036854775807 : Int64) / v < p ↔ 9223372036854775807 < p.toInt * v.toInt := by
  rw [Int64.lt_iff_toInt_lt, own_div_toInt hv]
  obtain ⟨h1, h2⟩ := hv
  rw [Int.ediv_lt_iff_lt_mul (by omega)]
theorem own_step_one (p : Int64) (hp : 1 ≤ p.toInt) : own_step p 1 = p := by
  unfold own_step
  rw [if_neg (by rw [own_step_lt own_in_one hp]; have := Int64.toInt_lt p; rw [show (1 : Int64).toInt = 1 from rfl]; omega), Int64.mul_one]
theorem own_step_first {v : Int64} (hv : own_in v) : own_step 1 v = v := by
  unfold own_step
  rw [if_neg (by rw [own_step_lt hv (by decide)]; have := hv.2; rw [show (1 : Int64).toInt = 1 from rfl]; omega), Int64.one_mul]
theorem own_mul_big {a b : Int64} (ha : own_in a) (hb : own_in b) : (0 : Int64) < a * b ↔ a.toInt * b.toInt ≤ 9223372036854775807 := by
  obtain ⟨a1, a2⟩ := ha; obtain ⟨b1, b2⟩ := hb
  rw [Int64.lt_iff_toInt_lt, Int64.toInt_mul, Int64.toInt_zero]
  have m1 : 1 ≤ a.toInt * b.toInt := by have := Int.mul_le_mul a1 b1 (by omega) (by omega); omega
  have m2 : a.toInt * b.toInt ≤ 4294967296 * 4294967296 := Int.mul_le_mul a2 b2 (by omega) (by omega)
  generalize a.toInt * b.toInt = w at *
  rw [Int.bmod_def]
  have : (w : Int) % ((2 ^ 64 : Nat) : Int) = if w < 18446744073709551616 then w else 0 := by split <;> omega
  rw [this]
  split <;> (try split) <;> omega
theorem own_law {a b c : Int64} (ha : own_in a) (hb : own_in b) (hc : own_in c) : own_step (own_step a b) c = own_sat a b c := by
  unfold own_sat
  have e := own_mul_big ha hb
  have s := own_step_lt hb ha.1
  by_cases q : (9223372036854775807 : Int64) / b < a
  · have q2 : ¬ (0 : Int64) < a * b := by rw [e]; have := s.mp q; omega
    rw [if_neg q2]
    have : own_step a b = (9223372036854775807 : Int64) := if_pos q
    rw [this]
    unfold own_step
    by_cases q3 : (9223372036854775807 : Int64) / c < (9223372036854775807 : Int64)
    · rw [if_pos q3]
    · rw [if_neg q3]
      have t := own_step_lt (p := 9223372036854775807) hc (by decide)
      rw [t, show (9223372036854775807 : Int64).toInt = 9223372036854775807 from rfl] at q3
      have : c = 1 := by rw [← Int64.toInt_inj]; have := hc.1; show _ = (1 : Int); omega
      rw [this]; rfl
  · have q2 : (0 : Int64) < a * b := by
      rw [e]; by_cases z : a.toInt * b.toInt ≤ 9223372036854775807; exact z; exact absurd (s.mpr (by omega)) q
    rw [if_pos q2]
    have : own_step a b = a * b := if_neg q
    rw [this]; rfl
theorem own_step_pos {p v : Int64} (hv : own_in v) (hp : 1 ≤ p.toInt) : 1 ≤ (own_step p v).toInt := by
  unfold own_step
  by_cases q : (9223372036854775807 : Int64) / v < p
  · rw [if_pos q]; decide
  · rw [if_neg q]
    rw [own_step_lt hv hp] at q
    obtain ⟨v1, v2⟩ := hv
    have m1 : 1 ≤ p.toInt * v.toInt := by have := Int.mul_le_mul hp v1 (by omega) (by omega); omega
    rw [Int64.toInt_mul]
    generalize p.toInt * v.toInt = w at *
    rw [Int.bmod_eq_of_le (by omega) (by omega)]; exact m1
theorem own_strAtoms {a0 : Array Value} {Z : State} (hw : ∀ d ∈ tables_1, d.before a0 Z = true) : ∀ a ∈ Bundle.stringAtoms, a.before a0 Z = true := fun a ha => by
  simp only [Bundle.stringAtoms, List.mem_cons, List.not_mem_nil, or_false] at ha
  rcases ha with rfl | rfl | rfl | rfl | rfl | rfl | rfl
  · exact hw _ (List.mem_of_getElem? (i := 8) rfl)
  · exact hw _ (List.mem_of_getElem? (i := 9) rfl)
  · exact hw _ (List.mem_of_getElem? (i := 10) rfl)
  · exact hw _ (List.mem_of_getElem? (i := 11) rfl)
  · exact hw _ (List.mem_of_getElem? (i := 12) rfl)
  · exact hw _ (List.mem_of_getElem? (i := 13) rfl)
  · exact hw _ (List.mem_of_getElem? (i := 14) rfl)
theorem own_empty {Z : State} {args : Array Value} {t : Term} {a : Addr} {ty : FieldType} (hf : Fit Z) (ev : t.eval args Z none [] Z = some (.ref a)) (hx : (Cond.arrayOf t ty).value args Z none Z [] = some true) (hl : (Cond.eq (.length t) (.int 0)).before args Z = true) : ∃ k, Arv Z Z.heap a k ty 0 [] .null := by
  obtain ⟨c, A⟩ := Arr.start ev hx
  have e := Cond.eq_int hl rfl
  have ha : Z.arrayAt? a = some c := A.fin (Vm.Alike.refl _)
  simp only [Term.eval, ev, ha, Option.bind_eq_bind, Option.bind_some] at e
  split at e
  · rename_i q
    exact ⟨c.cls, Arv.start hf A q (by simpa using e) (by decide) rfl trivial⟩
  · cases e
theorem ef_min (m : MethodId) (x0 : Int32) (x1 : Int32) : entryFrame m #[(.int x0), (.int x1)] 2 = mkF m 0 #[.val (.int x0), .val (.int x1)] [] := by first | (simp [entryFrame, mkF, argsToLocals, Value.category]; done) | rfl
theorem d_jdk_29_method_69_0 : decode jdk_29_method_69_code 0 = .ok (.iload_n 0, 1) := by decide +kernel
theorem d_jdk_29_method_69_1 : decode jdk_29_method_69_code 1 = .ok (.iload_n 1, 1) := by decide +kernel
theorem d_jdk_29_method_69_2 : decode jdk_29_method_69_code 2 = .ok (.if_icmp .gt 7, 3) := by decide +kernel
theorem d_jdk_29_method_69_9 : decode jdk_29_method_69_code 9 = .ok (.iload_n 1, 1) := by decide +kernel
theorem d_jdk_29_method_69_10 : decode jdk_29_method_69_code 10 = .ok (.ireturn, 1) := by decide +kernel
theorem d_jdk_29_method_69_5 : decode jdk_29_method_69_code 5 = .ok (.iload_n 0, 1) := by decide +kernel
theorem d_jdk_29_method_69_6 : decode jdk_29_method_69_code 6 = .ok (.goto 4, 3) := by decide +kernel
set_option maxRecDepth 65536 in
set_option maxHeartbeats 40000000 in
theorem rm_min (l : Launch) (Z : State) (a0 : Array Value) (hw : ∀ d ∈ tables_1, d.before a0 Z = true) (p1 p2 : Int32) (h0 : Heap) :
    OwCon l Z (⟨"java/lang/Math", "min", "(II)I"⟩ : MethodName) jdk_29_method_69_code 2 (some .int) [] ({ frames := 0, cells := 0, slots := 0, locals := 0 } : Room) #[(.int p1), (.int p2)] h0 (OwRet (some (.int (own_min p1 p2))) h0) := by
  refine OwCon.of (Jvm.Free.JP.mathPlain rfl (by decide +kernel)) ?_
  intro p e s m below meth cd_ s₁ X0 hx hby hml hret hlk hown hnm hZ e0
  refine GoOn.st (fun t_ k_ => castTop (ef_min m p1 p2) k_) ?_
  show GoOn _ _ _ _ (s₁.setTop (mkF m 0 #[.val (.int p1), .val (.int p2)] []))
  refine GoOn.st (fun t_ k_ => XS.iloadN X0.here hx rfl (hb hby d_jdk_29_method_69_0) rfl k_) ?_
  refine GoOn.st (fun t_ k_ => XS.iloadN X0.here hx rfl (hb hby d_jdk_29_method_69_1) rfl k_) ?_
  by_cases hc1 : p2 < p1
  · skip
    refine GoOn.st (fun t_ k_ => XS.icmpYes X0.here hx rfl (pc0 := 2) (pc' := 9) rfl (hb hby d_jdk_29_method_69_2) rfl (tlt hc1).2.2.1 (by decide) (by decide) k_) ?_
    refine GoOn.st (fun t_ k_ => XS.iloadN X0.here hx rfl (hb hby d_jdk_29_method_69_9) rfl k_) ?_
    show GoOn _ _ _ _ (s₁.setTop (mkF m 10 #[.val (.int p1), .val (.int p2)] [(.int p2)]))
    exact GoOn.retI X0 hx hlk hret (hb hby d_jdk_29_method_69_10) (by rw [e0]; exact ⟨by simp [own_min, own_max, hc1], rfl, rfl⟩) (by decide) (by decide)
  · skip
    refine GoOn.st (fun t_ k_ => XS.icmpNo X0.here hx rfl (hb hby d_jdk_29_method_69_2) rfl (flt hc1).2.2.1 k_) ?_
    refine GoOn.st (fun t_ k_ => XS.iloadN X0.here hx rfl (hb hby d_jdk_29_method_69_5) rfl k_) ?_
    show GoOn _ _ _ _ (s₁.setTop (mkF m 6 #[.val (.int p1), .val (.int p2)] [(.int p1)]))
    refine GoOn.st (fun t_ k_ => XS.goto X0.here hx rfl (pc0 := 6) (pc' := 10) rfl (hb hby d_jdk_29_method_69_6) (by decide) (by decide) k_) ?_
    show GoOn _ _ _ _ (s₁.setTop (mkF m 10 #[.val (.int p1), .val (.int p2)] [(.int p1)]))
    exact GoOn.retI X0 hx hlk hret (hb hby d_jdk_29_method_69_10) (by rw [e0]; exact ⟨by simp [own_min, own_max, hc1], rfl, rfl⟩) (by decide) (by decide)
theorem ef_max (m : MethodId) (x0 : Int32) (x1 : Int32) : entryFrame m #[(.int x0), (.int x1)] 2 = mkF m 0 #[.val (.int x0), .val (.int x1)] [] := by first | (simp [entryFrame, mkF, argsToLocals, Value.category]; done) | rfl
theorem d_jdk_29_method_65_0 : decode jdk_29_method_65_code 0 = .ok (.iload_n 0, 1) := by decide +kernel
theorem d_jdk_29_method_65_1 : decode jdk_29_method_65_code 1 = .ok (.iload_n 1, 1) := by decide +kernel
theorem d_jdk_29_method_65_2 : decode jdk_29_method_65_code 2 = .ok (.if_icmp .lt 7, 3) := by decide +kernel
theorem d_jdk_29_method_65_9 : decode jdk_29_method_65_code 9 = .ok (.iload_n 1, 1) := by decide +kernel
theorem d_jdk_29_method_65_10 : decode jdk_29_method_65_code 10 = .ok (.ireturn, 1) := by decide +kernel
theorem d_jdk_29_method_65_5 : decode jdk_29_method_65_code 5 = .ok (.iload_n 0, 1) := by decide +kernel
theorem d_jdk_29_method_65_6 : decode jdk_29_method_65_code 6 = .ok (.goto 4, 3) := by decide +kernel
set_option maxRecDepth 65536 in
set_option maxHeartbeats 40000000 in
theorem rm_max (l : Launch) (Z : State) (a0 : Array Value) (hw : ∀ d ∈ tables_1, d.before a0 Z = true) (p1 p2 : Int32) (h0 : Heap) :
    OwCon l Z (⟨"java/lang/Math", "max", "(II)I"⟩ : MethodName) jdk_29_method_65_code 2 (some .int) [] ({ frames := 0, cells := 0, slots := 0, locals := 0 } : Room) #[(.int p1), (.int p2)] h0 (OwRet (some (.int (own_max p1 p2))) h0) := by
  refine OwCon.of (Jvm.Free.JP.mathPlain rfl (by decide +kernel)) ?_
  intro p e s m below meth cd_ s₁ X0 hx hby hml hret hlk hown hnm hZ e0
  refine GoOn.st (fun t_ k_ => castTop (ef_max m p1 p2) k_) ?_
  show GoOn _ _ _ _ (s₁.setTop (mkF m 0 #[.val (.int p1), .val (.int p2)] []))
  refine GoOn.st (fun t_ k_ => XS.iloadN X0.here hx rfl (hb hby d_jdk_29_method_65_0) rfl k_) ?_
  refine GoOn.st (fun t_ k_ => XS.iloadN X0.here hx rfl (hb hby d_jdk_29_method_65_1) rfl k_) ?_
  by_cases hc1 : p1 < p2
  · skip
    refine GoOn.st (fun t_ k_ => XS.icmpYes X0.here hx rfl (pc0 := 2) (pc' := 9) rfl (hb hby d_jdk_29_method_65_2) rfl (tlt hc1).1 (by decide) (by decide) k_) ?_
    refine GoOn.st (fun t_ k_ => XS.iloadN X0.here hx rfl (hb hby d_jdk_29_method_65_9) rfl k_) ?_
    show GoOn _ _ _ _ (s₁.setTop (mkF m 10 #[.val (.int p1), .val (.int p2)] [(.int p2)]))
    exact GoOn.retI X0 hx hlk hret (hb hby d_jdk_29_method_65_10) (by rw [e0]; exact ⟨by simp [own_min, own_max, hc1], rfl, rfl⟩) (by decide) (by decide)
  · skip
    refine GoOn.st (fun t_ k_ => XS.icmpNo X0.here hx rfl (hb hby d_jdk_29_method_65_2) rfl (flt hc1).1 k_) ?_
    refine GoOn.st (fun t_ k_ => XS.iloadN X0.here hx rfl (hb hby d_jdk_29_method_65_5) rfl k_) ?_
    show GoOn _ _ _ _ (s₁.setTop (mkF m 6 #[.val (.int p1), .val (.int p2)] [(.int p1)]))
    refine GoOn.st (fun t_ k_ => XS.goto X0.here hx rfl (pc0 := 6) (pc' := 10) rfl (hb hby d_jdk_29_method_65_6) (by decide) (by decide) k_) ?_
    show GoOn _ _ _ _ (s₁.setTop (mkF m 10 #[.val (.int p1), .val (.int p2)] [(.int p1)]))
    exact GoOn.retI X0 hx hlk hret (hb hby d_jdk_29_method_65_10) (by rw [e0]; exact ⟨by simp [own_min, own_max, hc1], rfl, rfl⟩) (by decide) (by decide)
theorem ef_low (m : MethodId) (x0 : Int64) : entryFrame m #[(.long x0)] 2 = mkF m 0 #[.val (.long x0), .second] [] := by first | (simp [entryFrame, mkF, argsToLocals, Value.category]; done) | rfl
theorem pn_com_example_tributary_tributary_semantics_RangesValuationsPinLaw : plainName "com/example/tributary/tributary/semantics/RangesValuationsPinLaw" = true := by first | (simp [plainName, overriddenIn]; done) | decide +kernel
theorem d_method_4_0 : decode method_4_code 0 = .ok (.lload_n 0, 1) := by decide +kernel
theorem d_method_4_1 : decode method_4_code 1 = .ok (.bipush 32, 2) := by decide +kernel
theorem d_method_4_3 : decode method_4_code 3 = .ok (.lushr, 1) := by decide +kernel
theorem d_method_4_4 : decode method_4_code 4 = .ok (.l2i, 1) := by decide +kernel
theorem d_method_4_5 : decode method_4_code 5 = .ok (.lload_n 0, 1) := by decide +kernel
theorem d_method_4_6 : decode method_4_code 6 = .ok (.l2i, 1) := by decide +kernel
theorem pd_0 : parseMethodDescriptor "(II)I" = some ⟨[.int, .int], some .int⟩ := by decide +kernel
theorem d_method_4_7 : decode method_4_code 7 = .ok (.invokestatic 57, 3) := by decide +kernel
theorem d_method_4_10 : decode method_4_code 10 = .ok (.ireturn, 1) := by decide +kernel
set_option maxRecDepth 65536 in
set_option maxHeartbeats 40000000 in
theorem rm_low (l : Launch) (Z : State) (a0 : Array Value) (hw : ∀ d ∈ tables_1, d.before a0 Z = true) (q1 : Int64) (h0 : Heap) :
    OwCon l Z (⟨"com/example/tributary/tributary/semantics/RangesValuationsPinLaw", "lowOf", "(J)I"⟩ : MethodName) method_4_code 2 (some .int) [] ({ frames := 1, cells := 0, slots := 0, locals := 13 } : Room) #[(.long q1)] h0 (OwRet (some (.int (own_low q1))) h0) := by
  refine OwCon.of (plainFor_of_name pn_com_example_tributary_tributary_semantics_RangesValuationsPinLaw) ?_
  intro p e s m below meth cd_ s₁ X0 hx hby hml hret hlk hown hnm hZ e0
  refine GoOn.st (fun t_ k_ => castTop (ef_low m q1) k_) ?_
  show GoOn _ _ _ _ (s₁.setTop (mkF m 0 #[.val (.long q1), .second] []))
  refine GoOn.st (fun t_ k_ => XS.lloadN X0.here hx rfl (hb hby d_method_4_0) rfl k_) ?_
  refine GoOn.st (fun t_ k_ => XS.bipush X0.here hx rfl (hb hby d_method_4_1)  k_) ?_
  refine GoOn.st (fun t_ k_ => XS.lushr X0.here hx rfl (hb hby d_method_4_3) rfl k_) ?_
  refine GoOn.st (fun t_ k_ => XS.l2i X0.here hx rfl (hb hby d_method_4_4) rfl k_) ?_
  show GoOn _ _ _ _ (s₁.setTop (mkF m 5 #[.val (.long q1), .second] [(.int (((((q1).toUInt64 >>> ((32 : Int32) &&& 0x3f).toInt64.toUInt64).toInt64)).toInt32))]))
  refine GoOn.st (fun t_ k_ => XS.lloadN X0.here hx rfl (hb hby d_method_4_5) rfl k_) ?_
  refine GoOn.st (fun t_ k_ => XS.l2i X0.here hx rfl (hb hby d_method_4_6) rfl k_) ?_
  show GoOn _ _ _ _ (s₁.setTop (mkF m 7 #[.val (.long q1), .second] [(.int ((q1).toInt32)), (.int (((((q1).toUInt64 >>> ((32 : Int32) &&& 0x3f).toInt64.toUInt64).toInt64)).toInt32))]))
  refine GoOn.callS (W := 0) (argsL := [(.int (((((q1).toUInt64 >>> ((32 : Int32) &&& 0x3f).toInt64.toUInt64).toInt64)).toInt32)), (.int ((q1).toInt32))]) (rest := []) X0 hx hZ hown (hw _ (List.mem_of_getElem? (i := 21) rfl)) (hw _ (List.mem_of_getElem? (i := 22) rfl)) (hw _ (List.mem_of_getElem? (i := 23) rfl)) (hw _ (List.mem_of_getElem? (i := 24) rfl)) (by decide) (rm_min l Z a0 hw (((((q1).toUInt64 >>> ((32 : Int32) &&& 0x3f).toInt64.toUInt64).toInt64)).toInt32) ((q1).toInt32) h0) e0 (by decide) (by decide) (by rw [hml]; rfl) pd_0 rfl rfl (Nat.le_of_eq rfl) (hb hby d_method_4_7) (by decide) (by decide) ?_
  rintro _ T1 L1 X1 ⟨rfl, rfl, e1⟩
  rw [List.append_nil] at X1
  show GoOn _ _ _ _ (T1.setTop (mkF m 10 #[.val (.long q1), .second] [(.int (own_min (((((q1).toUInt64 >>> ((32 : Int32) &&& 0x3f).toInt64.toUInt64).toInt64)).toInt32) ((q1).toInt32)))]))
  exact GoOn.retI X1 hx hlk hret (hb hby d_method_4_10) (by rw [e1]; exact ⟨rfl, rfl, rfl⟩) (by decide) (by decide)
theorem ef_high (m : MethodId) (x0 : Int64) : entryFrame m #[(.long x0)] 2 = mkF m 0 #[.val (.long x0), .second] [] := by first | (simp [entryFrame, mkF, argsToLocals, Value.category]; done) | rfl
theorem d_method_5_0 : decode method_5_code 0 = .ok (.lload_n 0, 1) := by decide +kernel
theorem d_method_5_1 : decode method_5_code 1 = .ok (.bipush 32, 2) := by decide +kernel
theorem d_method_5_3 : decode method_5_code 3 = .ok (.lushr, 1) := by decide +kernel
theorem d_method_5_4 : decode method_5_code 4 = .ok (.l2i, 1) := by decide +kernel
theorem d_method_5_5 : decode method_5_code 5 = .ok (.lload_n 0, 1) := by decide +kernel
theorem d_method_5_6 : decode method_5_code 6 = .ok (.l2i, 1) := by decide +kernel
theorem d_method_5_7 : decode method_5_code 7 = .ok (.invokestatic 63, 3) := by decide +kernel
theorem d_method_5_10 : decode method_5_code 10 = .ok (.ireturn, 1) := by decide +kernel
set_option maxRecDepth 65536 in
set_option maxHeartbeats 40000000 in
theorem rm_high (l : Launch) (Z : State) (a0 : Array Value) (hw : ∀ d ∈ tables_1, d.before a0 Z = true) (q1 : Int64) (h0 : Heap) :
    OwCon l Z (⟨"com/example/tributary/tributary/semantics/RangesValuationsPinLaw", "highOf", "(J)I"⟩ : MethodName) method_5_code 2 (some .int) [] ({ frames := 1, cells := 0, slots := 0, locals := 13 } : Room) #[(.long q1)] h0 (OwRet (some (.int (own_high q1))) h0) := by
  refine OwCon.of (plainFor_of_name pn_com_example_tributary_tributary_semantics_RangesValuationsPinLaw) ?_
  intro p e s m below meth cd_ s₁ X0 hx hby hml hret hlk hown hnm hZ e0
  refine GoOn.st (fun t_ k_ => castTop (ef_high m q1) k_) ?_
  show GoOn _ _ _ _ (s₁.setTop (mkF m 0 #[.val (.long q1), .second] []))
  refine GoOn.st (fun t_ k_ => XS.lloadN X0.here hx rfl (hb hby d_method_5_0) rfl k_) ?_
  refine GoOn.st (fun t_ k_ => XS.bipush X0.here hx rfl (hb hby d_method_5_1)  k_) ?_
  refine GoOn.st (fun t_ k_ => XS.lushr X0.here hx rfl (hb hby d_method_5_3) rfl k_) ?_
  refine GoOn.st (fun t_ k_ => XS.l2i X0.here hx rfl (hb hby d_method_5_4) rfl k_) ?_
  show GoOn _ _ _ _ (s₁.setTop (mkF m 5 #[.val (.long q1), .second] [(.int (((((q1).toUInt64 >>> ((32 : Int32) &&& 0x3f).toInt64.toUInt64).toInt64)).toInt32))]))
  refine GoOn.st (fun t_ k_ => XS.lloadN X0.here hx rfl (hb hby d_method_5_5) rfl k_) ?_
  refine GoOn.st (fun t_ k_ => XS.l2i X0.here hx rfl (hb hby d_method_5_6) rfl k_) ?_
  show GoOn _ _ _ _ (s₁.setTop (mkF m 7 #[.val (.long q1), .second] [(.int ((q1).toInt32)), (.int (((((q1).toUInt64 >>> ((32 : Int32) &&& 0x3f).toInt64.toUInt64).toInt64)).toInt32))]))
  refine GoOn.callS (W := 0) (argsL := [(.int (((((q1).toUInt64 >>> ((32 : Int32) &&& 0x3f).toInt64.toUInt64).toInt64)).toInt32)), (.int ((q1).toInt32))]) (rest := []) X0 hx hZ hown (hw _ (List.mem_of_getElem? (i := 28) rfl)) (hw _ (List.mem_of_getElem? (i := 29) rfl)) (hw _ (List.mem_of_getElem? (i := 23) rfl)) (hw _ (List.mem_of_getElem? (i := 30) rfl)) (by decide) (rm_max l Z a0 hw (((((q1).toUInt64 >>> ((32 : Int32) &&& 0x3f).toInt64.toUInt64).toInt64)).toInt32) ((q1).toInt32) h0) e0 (by decide) (by decide) (by rw [hml]; rfl) pd_0 rfl rfl (Nat.le_of_eq rfl) (hb hby d_method_5_7) (by decide) (by decide) ?_
  rintro _ T1 L1 X1 ⟨rfl, rfl, e1⟩
  rw [List.append_nil] at X1
  show GoOn _ _ _ _ (T1.setTop (mkF m 10 #[.val (.long q1), .second] [(.int (own_max (((((q1).toUInt64 >>> ((32 : Int32) &&& 0x3f).toInt64.toUInt64).toInt64)).toInt32) ((q1).toInt32)))]))
  exact GoOn.retI X1 hx hlk hret (hb hby d_method_5_10) (by rw [e1]; exact ⟨rfl, rfl, rfl⟩) (by decide) (by decide)
theorem ef_record (m : MethodId) (x0 : Addr) : entryFrame m #[(.ref x0)] 1 = mkF m 0 #[.val (.ref x0)] [] := by first | (simp [entryFrame, mkF, argsToLocals, Value.category]; done) | rfl
theorem pn_java_lang_Record : plainName "java/lang/Record" = true := by first | (simp [plainName, overriddenIn]; done) | decide +kernel
theorem d_jdk_30_method_1_0 : decode jdk_30_method_1_code 0 = .ok (.aload_n 0, 1) := by decide +kernel
theorem d_jdk_30_method_1_1 : decode jdk_30_method_1_code 1 = .ok (.invokespecial 1, 3) := by decide +kernel
theorem d_jdk_30_method_1_4 : decode jdk_30_method_1_code 4 = .ok (.return_, 1) := by decide +kernel
set_option maxRecDepth 65536 in
set_option maxHeartbeats 40000000 in
theorem rm_record (l : Launch) (Z : State) (a0 : Array Value) (hw : ∀ d ∈ tables_1, d.before a0 Z = true) (a1 : Addr) (h0 : Heap) :
    OwCon l Z (⟨"java/lang/Record", "<init>", "()V"⟩ : MethodName) jdk_30_method_1_code 1 none [] ({ frames := 1, cells := 0, slots := 0, locals := 12 } : Room) #[(.ref a1)] h0 (OwRet none h0) := by
  refine OwCon.of (plainFor_of_name pn_java_lang_Record) ?_
  intro p e s m below meth cd_ s₁ X0 hx hby hml hret hlk hown hnm hZ e0
  refine GoOn.st (fun t_ k_ => castTop (ef_record m a1) k_) ?_
  show GoOn _ _ _ _ (s₁.setTop (mkF m 0 #[.val (.ref a1)] []))
  refine GoOn.st (fun t_ k_ => XS.aloadN X0.here hx rfl (hb hby d_jdk_30_method_1_0) rfl rfl k_) ?_
  show GoOn _ _ _ _ (s₁.setTop (mkF m 1 #[.val (.ref a1)] [(.ref a1)]))
  obtain ⟨T1, X1, e1, st1⟩ := initO X0 hx hZ hown (hw _ (List.mem_of_getElem? (i := 39) rfl)) (hw _ (List.mem_of_getElem? (i := 40) rfl)) (hw _ (List.mem_of_getElem? (i := 41) rfl)) e0 (g := (mkF m 1 #[.val (.ref a1)] [(.ref a1)])) rfl (by rw [hml]; rfl) rfl (hb hby d_jdk_30_method_1_1) (by decide) (W := 0) (by show 2 * 0 + _ ≤ _; exact Nat.le_of_eq rfl) (by decide)
  refine GoOn.st st1 ?_
  show GoOn _ _ _ _ (T1.setTop (mkF m 4 #[.val (.ref a1)] []))
  exact GoOn.retV X1 hx hlk hret (hb hby d_jdk_30_method_1_4) (by rw [e1]; exact ⟨rfl, rfl, rfl⟩) (by decide) (by decide)
theorem ef_vinit (m : MethodId) (x0 : Addr) (x1 : Addr) (x2 : Addr) (x3 : Int32) (x4 : Int32) (x5 : Int32) : entryFrame m #[(.ref x0), (.ref x1), (.ref x2), (.int x3), (.int x4), (.int x5)] 6 = mkF m 0 #[.val (.ref x0), .val (.ref x1), .val (.ref x2), .val (.int x3), .val (.int x4), .val (.int x5)] [] := by first | (simp [entryFrame, mkF, argsToLocals, Value.category]; done) | rfl
theorem pn_com_example_tributary_tributary_semantics_Variable : plainName "com/example/tributary/tributary/semantics/Variable" = true := by first | (simp [plainName, overriddenIn]; done) | decide +kernel
theorem d_prog_221_method_1_0 : decode prog_221_method_1_code 0 = .ok (.aload_n 0, 1) := by decide +kernel
theorem pd_1 : parseMethodDescriptor "()V" = some ⟨[], none⟩ := by decide +kernel
theorem d_prog_221_method_1_1 : decode prog_221_method_1_code 1 = .ok (.invokespecial 1, 3) := by decide +kernel
theorem d_prog_221_method_1_4 : decode prog_221_method_1_code 4 = .ok (.aload_n 0, 1) := by decide +kernel
theorem d_prog_221_method_1_5 : decode prog_221_method_1_code 5 = .ok (.aload_n 1, 1) := by decide +kernel
theorem d_prog_221_method_1_6 : decode prog_221_method_1_code 6 = .ok (.putfield 7, 3) := by decide +kernel
theorem d_prog_221_method_1_9 : decode prog_221_method_1_code 9 = .ok (.aload_n 0, 1) := by decide +kernel
theorem d_prog_221_method_1_10 : decode prog_221_method_1_code 10 = .ok (.aload_n 2, 1) := by decide +kernel
theorem d_prog_221_method_1_11 : decode prog_221_method_1_code 11 = .ok (.putfield 13, 3) := by decide +kernel
theorem d_prog_221_method_1_14 : decode prog_221_method_1_code 14 = .ok (.aload_n 0, 1) := by decide +kernel
theorem d_prog_221_method_1_15 : decode prog_221_method_1_code 15 = .ok (.iload_n 3, 1) := by decide +kernel
theorem d_prog_221_method_1_16 : decode prog_221_method_1_code 16 = .ok (.putfield 17, 3) := by decide +kernel
theorem d_prog_221_method_1_19 : decode prog_221_method_1_code 19 = .ok (.aload_n 0, 1) := by decide +kernel
theorem d_prog_221_method_1_20 : decode prog_221_method_1_code 20 = .ok (.iload 4, 2) := by decide +kernel
theorem d_prog_221_method_1_22 : decode prog_221_method_1_code 22 = .ok (.putfield 21, 3) := by decide +kernel
theorem d_prog_221_method_1_25 : decode prog_221_method_1_code 25 = .ok (.aload_n 0, 1) := by decide +kernel
theorem d_prog_221_method_1_26 : decode prog_221_method_1_code 26 = .ok (.iload 5, 2) := by decide +kernel
theorem d_prog_221_method_1_28 : decode prog_221_method_1_code 28 = .ok (.putfield 24, 3) := by decide +kernel
theorem d_prog_221_method_1_31 : decode prog_221_method_1_code 31 = .ok (.return_, 1) := by decide +kernel
set_option maxRecDepth 65536 in
set_option maxHeartbeats 40000000 in
theorem rm_vinit (l : Launch) (Z : State) (a0 : Array Value) (hw : ∀ d ∈ tables_1, d.before a0 Z = true) (a1 a2 a3 : Addr) (p1 p2 p3 : Int32) (h0 : Heap) (n0 : Nat) (Ea : Exa Z h0 a1 "com/example/tributary/tributary/semantics/Variable") (Fname : Fld Z h0 a1 "com/example/tributary/tributary/semantics/Variable" "name" "Ljava/lang/String;" .null) (Ftype : Fld Z h0 a1 "com/example/tributary/tributary/semantics/Variable" "type" "Lcom/example/tributary/tributary/language/Type;" .null) (Flow : Fld Z h0 a1 "com/example/tributary/tributary/semantics/Variable" "low" "I" (.int (0 : Int32))) (Fhigh : Fld Z h0 a1 "com/example/tributary/tributary/semantics/Variable" "high" "I" (.int (0 : Int32))) (Fowner : Fld Z h0 a1 "com/example/tributary/tributary/semantics/Variable" "owner" "I" (.int (0 : Int32))) (g_a1 : n0 ≤ a1) :
    OwCon l Z (⟨"com/example/tributary/tributary/semantics/Variable", "<init>", "(Ljava/lang/String;Lcom/example/tributary/tributary/language/Type;III)V"⟩ : MethodName) prog_221_method_1_code 6 none [] ({ frames := 2, cells := 0, slots := 0, locals := 24 } : Room) #[(.ref a1), (.ref a2), (.ref a3), (.int p1), (.int p2), (.int p3)] h0 (fun v h L => v = none ∧ Fr n0 L ∧ Keep h0 h [a1] ∧ Exa Z h a1 "com/example/tributary/tributary/semantics/Variable" ∧ Fld Z h a1 "com/example/tributary/tributary/semantics/Variable" "low" "I" (.int p1) ∧ Fld Z h a1 "com/example/tributary/tributary/semantics/Variable" "high" "I" (.int p2)) := by
  refine OwCon.of (plainFor_of_name pn_com_example_tributary_tributary_semantics_Variable) ?_
  intro p e s m below meth cd_ s₁ X0 hx hby hml hret hlk hown hnm hZ e0
  have N0 := Fr.nil n0
  refine GoOn.st (fun t_ k_ => castTop (ef_vinit m a1 a2 a3 p1 p2 p3) k_) ?_
  show GoOn _ _ _ _ (s₁.setTop (mkF m 0 #[.val (.ref a1), .val (.ref a2), .val (.ref a3), .val (.int p1), .val (.int p2), .val (.int p3)] []))
  refine GoOn.st (fun t_ k_ => XS.aloadN X0.here hx rfl (hb hby d_prog_221_method_1_0) rfl rfl k_) ?_
  show GoOn _ _ _ _ (s₁.setTop (mkF m 1 #[.val (.ref a1), .val (.ref a2), .val (.ref a3), .val (.int p1), .val (.int p2), .val (.int p3)] [(.ref a1)]))
  refine GoOn.callC (W := 0) (argsL := []) (rest := []) (a := a1) X0 hx hZ hown rfl (hw _ (List.mem_of_getElem? (i := 34) rfl)) (hw _ (List.mem_of_getElem? (i := 35) rfl)) (hw _ (List.mem_of_getElem? (i := 37) rfl)) (hw _ (List.mem_of_getElem? (i := 38) rfl)) (by decide) (rm_record l Z a0 hw a1 h0) e0 (by decide) (by decide) (by rw [hml]; rfl) pd_1 rfl rfl (Nat.le_of_eq rfl) (hb hby d_prog_221_method_1_1) (by decide) (by decide) ?_
  rintro _ T1 L1 X1 ⟨rfl, rfl, e1⟩
  rw [List.append_nil] at X1
  refine GoOn.st (fun t_ k_ => XS.aloadN X1.here hx rfl (hb hby d_prog_221_method_1_4) rfl rfl k_) ?_
  refine GoOn.st (fun t_ k_ => XS.aloadN X1.here hx rfl (hb hby d_prog_221_method_1_5) rfl rfl k_) ?_
  obtain ⟨T2, h2, X2, e2, W2, st2⟩ := putF X1 hx hZ hown (host := "") (Or.inl (hw _ (List.mem_of_getElem? (i := 42) rfl))) Via.refl e1 Fname Ea (Or.inr ⟨(hw _ (List.mem_of_getElem? (i := 43) rfl)), rfl, hnm⟩) (hw _ (List.mem_of_getElem? (i := 5) rfl)) (ty := (.object "java/lang/String")) (by decide) rfl rfl (g := (mkF m 6 #[.val (.ref a1), .val (.ref a2), .val (.ref a3), .val (.int p1), .val (.int p2), .val (.int p3)] [(.ref a2), (.ref a1)])) rfl rfl (hb hby d_prog_221_method_1_6)
  have Fw2 := Fld.same W2 Fname
  have N3 := Fr.snoc X2 N0 g_a1
  refine GoOn.st st2 ?_
  show GoOn _ _ _ _ (T2.setTop (mkF m 9 #[.val (.ref a1), .val (.ref a2), .val (.ref a3), .val (.int p1), .val (.int p2), .val (.int p3)] []))
  refine GoOn.st (fun t_ k_ => XS.aloadN X2.here hx rfl (hb hby d_prog_221_method_1_9) rfl rfl k_) ?_
  refine GoOn.st (fun t_ k_ => XS.aloadN X2.here hx rfl (hb hby d_prog_221_method_1_10) rfl rfl k_) ?_
  have F4 := (Exa.wr W2 Ea)
  have F5 := (Fld.other W2 Ftype (Or.inr (slot_ne (Or.inr (hw _ (List.mem_of_getElem? (i := 45) rfl))) (Or.inr (hw _ (List.mem_of_getElem? (i := 43) rfl))) (by decide) (t := (.object "com/example/tributary/tributary/language/Type")) (t' := (.object "java/lang/String")) (by decide) (by decide))))
  obtain ⟨T6, h6, X6, e6, W6, st6⟩ := putF X2 hx hZ hown (host := "") (Or.inl (hw _ (List.mem_of_getElem? (i := 44) rfl))) Via.refl e2 F5 F4 (Or.inr ⟨(hw _ (List.mem_of_getElem? (i := 45) rfl)), rfl, hnm⟩) (hw _ (List.mem_of_getElem? (i := 5) rfl)) (ty := (.object "com/example/tributary/tributary/language/Type")) (by decide) rfl rfl (g := (mkF m 11 #[.val (.ref a1), .val (.ref a2), .val (.ref a3), .val (.int p1), .val (.int p2), .val (.int p3)] [(.ref a3), (.ref a1)])) rfl rfl (hb hby d_prog_221_method_1_11)
  have Fw6 := Fld.same W6 F5
  have N7 := Fr.snoc X6 N3 g_a1
  refine GoOn.st st6 ?_
  refine GoOn.st (fun t_ k_ => XS.aloadN X6.here hx rfl (hb hby d_prog_221_method_1_14) rfl rfl k_) ?_
  show GoOn _ _ _ _ (T6.setTop (mkF m 15 #[.val (.ref a1), .val (.ref a2), .val (.ref a3), .val (.int p1), .val (.int p2), .val (.int p3)] [(.ref a1)]))
  refine GoOn.st (fun t_ k_ => XS.iloadN X6.here hx rfl (hb hby d_prog_221_method_1_15) rfl k_) ?_
  have F8 := (Exa.wr W6 F4)
  have F9 := (Fld.other W6 (Fld.other W2 Flow (Or.inr (slot_ne (Or.inr (hw _ (List.mem_of_getElem? (i := 47) rfl))) (Or.inr (hw _ (List.mem_of_getElem? (i := 43) rfl))) (by decide) (t := .int) (t' := (.object "java/lang/String")) (by decide) (by decide)))) (Or.inr (slot_ne (Or.inr (hw _ (List.mem_of_getElem? (i := 47) rfl))) (Or.inr (hw _ (List.mem_of_getElem? (i := 45) rfl))) (by decide) (t := .int) (t' := (.object "com/example/tributary/tributary/language/Type")) (by decide) (by decide))))
  obtain ⟨T10, h10, X10, e10, W10, st10⟩ := putF X6 hx hZ hown (host := "") (Or.inl (hw _ (List.mem_of_getElem? (i := 46) rfl))) Via.refl e6 F9 F8 (Or.inr ⟨(hw _ (List.mem_of_getElem? (i := 47) rfl)), rfl, hnm⟩) (hw _ (List.mem_of_getElem? (i := 5) rfl)) (ty := .int) (by decide) rfl rfl (g := (mkF m 16 #[.val (.ref a1), .val (.ref a2), .val (.ref a3), .val (.int p1), .val (.int p2), .val (.int p3)] [(.int p1), (.ref a1)])) rfl rfl (hb hby d_prog_221_method_1_16)
  have Fw10 := Fld.same W10 F9
  have N11 := Fr.snoc X10 N7 g_a1
  refine GoOn.st st10 ?_
  refine GoOn.st (fun t_ k_ => XS.aloadN X10.here hx rfl (hb hby d_prog_221_method_1_19) rfl rfl k_) ?_
  refine GoOn.st (fun t_ k_ => XS.iload X10.here hx rfl (hb hby d_prog_221_method_1_20) rfl k_) ?_
  show GoOn _ _ _ _ (T10.setTop (mkF m 22 #[.val (.ref a1), .val (.ref a2), .val (.ref a3), .val (.int p1), .val (.int p2), .val (.int p3)] [(.int p2), (.ref a1)]))
  have F12 := (Exa.wr W10 F8)
  have F13 := (Fld.other W10 (Fld.other W6 (Fld.other W2 Fhigh (Or.inr (slot_ne (Or.inr (hw _ (List.mem_of_getElem? (i := 49) rfl))) (Or.inr (hw _ (List.mem_of_getElem? (i := 43) rfl))) (by decide) (t := .int) (t' := (.object "java/lang/String")) (by decide) (by decide)))) (Or.inr (slot_ne (Or.inr (hw _ (List.mem_of_getElem? (i := 49) rfl))) (Or.inr (hw _ (List.mem_of_getElem? (i := 45) rfl))) (by decide) (t := .int) (t' := (.object "com/example/tributary/tributary/language/Type")) (by decide) (by decide)))) (Or.inr (slot_ne (Or.inr (hw _ (List.mem_of_getElem? (i := 49) rfl))) (Or.inr (hw _ (List.mem_of_getElem? (i := 47) rfl))) (by decide) (t := .int) (t' := .int) (by decide) (by decide))))
  obtain ⟨T14, h14, X14, e14, W14, st14⟩ := putF X10 hx hZ hown (host := "") (Or.inl (hw _ (List.mem_of_getElem? (i := 48) rfl))) Via.refl e10 F13 F12 (Or.inr ⟨(hw _ (List.mem_of_getElem? (i := 49) rfl)), rfl, hnm⟩) (hw _ (List.mem_of_getElem? (i := 5) rfl)) (ty := .int) (by decide) rfl rfl (g := (mkF m 22 #[.val (.ref a1), .val (.ref a2), .val (.ref a3), .val (.int p1), .val (.int p2), .val (.int p3)] [(.int p2), (.ref a1)])) rfl rfl (hb hby d_prog_221_method_1_22)
  have Fw14 := Fld.same W14 F13
  have N15 := Fr.snoc X14 N11 g_a1
  refine GoOn.st st14 ?_
  refine GoOn.st (fun t_ k_ => XS.aloadN X14.here hx rfl (hb hby d_prog_221_method_1_25) rfl rfl k_) ?_
  refine GoOn.st (fun t_ k_ => XS.iload X14.here hx rfl (hb hby d_prog_221_method_1_26) rfl k_) ?_
  have F16 := (Exa.wr W14 F12)
  have F17 := (Fld.other W14 (Fld.other W10 (Fld.other W6 (Fld.other W2 Fowner (Or.inr (slot_ne (Or.inr (hw _ (List.mem_of_getElem? (i := 51) rfl))) (Or.inr (hw _ (List.mem_of_getElem? (i := 43) rfl))) (by decide) (t := .int) (t' := (.object "java/lang/String")) (by decide) (by decide)))) (Or.inr (slot_ne (Or.inr (hw _ (List.mem_of_getElem? (i := 51) rfl))) (Or.inr (hw _ (List.mem_of_getElem? (i := 45) rfl))) (by decide) (t := .int) (t' := (.object "com/example/tributary/tributary/language/Type")) (by decide) (by decide)))) (Or.inr (slot_ne (Or.inr (hw _ (List.mem_of_getElem? (i := 51) rfl))) (Or.inr (hw _ (List.mem_of_getElem? (i := 47) rfl))) (by decide) (t := .int) (t' := .int) (by decide) (by decide)))) (Or.inr (slot_ne (Or.inr (hw _ (List.mem_of_getElem? (i := 51) rfl))) (Or.inr (hw _ (List.mem_of_getElem? (i := 49) rfl))) (by decide) (t := .int) (t' := .int) (by decide) (by decide))))
  obtain ⟨T18, h18, X18, e18, W18, st18⟩ := putF X14 hx hZ hown (host := "") (Or.inl (hw _ (List.mem_of_getElem? (i := 50) rfl))) Via.refl e14 F17 F16 (Or.inr ⟨(hw _ (List.mem_of_getElem? (i := 51) rfl)), rfl, hnm⟩) (hw _ (List.mem_of_getElem? (i := 5) rfl)) (ty := .int) (by decide) rfl rfl (g := (mkF m 28 #[.val (.ref a1), .val (.ref a2), .val (.ref a3), .val (.int p1), .val (.int p2), .val (.int p3)] [(.int p3), (.ref a1)])) rfl rfl (hb hby d_prog_221_method_1_28)
  have Fw18 := Fld.same W18 F17
  have N19 := Fr.snoc X18 N15 g_a1
  refine GoOn.st st18 ?_
  show GoOn _ _ _ _ (T18.setTop (mkF m 31 #[.val (.ref a1), .val (.ref a2), .val (.ref a3), .val (.int p1), .val (.int p2), .val (.int p3)] []))
  exact GoOn.retV X18 hx hlk hret (hb hby d_prog_221_method_1_31) (by rw [e18]; exact ⟨rfl, N19, ((((((Keep.refl h0 [a1]).wr W2 (Or.inl (List.mem_of_getElem? (i := 0) rfl))).wr W6 (Or.inl (List.mem_of_getElem? (i := 0) rfl))).wr W10 (Or.inl (List.mem_of_getElem? (i := 0) rfl))).wr W14 (Or.inl (List.mem_of_getElem? (i := 0) rfl))).wr W18 (Or.inl (List.mem_of_getElem? (i := 0) rfl))), (Exa.wr W18 F16), (Fld.other W18 (Fld.other W14 Fw10 (Or.inr (slot_ne (Or.inr (hw _ (List.mem_of_getElem? (i := 47) rfl))) (Or.inr (hw _ (List.mem_of_getElem? (i := 49) rfl))) (by decide) (t := .int) (t' := .int) (by decide) (by decide)))) (Or.inr (slot_ne (Or.inr (hw _ (List.mem_of_getElem? (i := 47) rfl))) (Or.inr (hw _ (List.mem_of_getElem? (i := 51) rfl))) (by decide) (t := .int) (t' := .int) (by decide) (by decide)))), (Fld.other W18 Fw14 (Or.inr (slot_ne (Or.inr (hw _ (List.mem_of_getElem? (i := 49) rfl))) (Or.inr (hw _ (List.mem_of_getElem? (i := 51) rfl))) (by decide) (t := .int) (t' := .int) (by decide) (by decide))))⟩) (by decide) (by decide)
theorem ef_vari (m : MethodId) (x0 : Int64) : entryFrame m #[(.long x0)] 2 = mkF m 0 #[.val (.long x0), .second] [] := by first | (simp [entryFrame, mkF, argsToLocals, Value.category]; done) | rfl
theorem d_method_3_0 : decode method_3_code 0 = .ok (.new 37, 3) := by decide +kernel
theorem d_method_3_3 : decode method_3_code 3 = .ok (.dup, 1) := by decide +kernel
theorem d_method_3_4 : decode method_3_code 4 = .ok (.ldc 39, 2) := by decide +kernel
theorem d_method_3_6 : decode method_3_code 6 = .ok (.getstatic 41, 3) := by decide +kernel
theorem d_method_3_9 : decode method_3_code 9 = .ok (.lload_n 0, 1) := by decide +kernel
theorem pd_2 : parseMethodDescriptor "(J)I" = some ⟨[.long], some .int⟩ := by decide +kernel
theorem d_method_3_10 : decode method_3_code 10 = .ok (.invokestatic 47, 3) := by decide +kernel
theorem d_method_3_13 : decode method_3_code 13 = .ok (.lload_n 0, 1) := by decide +kernel
theorem d_method_3_14 : decode method_3_code 14 = .ok (.invokestatic 51, 3) := by decide +kernel
theorem d_method_3_17 : decode method_3_code 17 = .ok (.iconst (-1), 1) := by decide +kernel
theorem pd_3 : parseMethodDescriptor "(Ljava/lang/String;Lcom/example/tributary/tributary/language/Type;III)V" = some ⟨[(.object "java/lang/String"), (.object "com/example/tributary/tributary/language/Type"), .int, .int, .int], none⟩ := by decide +kernel
theorem d_method_3_18 : decode method_3_code 18 = .ok (.invokespecial 54, 3) := by decide +kernel
theorem d_method_3_21 : decode method_3_code 21 = .ok (.areturn, 1) := by decide +kernel
set_option maxRecDepth 65536 in
set_option maxHeartbeats 40000000 in
theorem rm_vari (l : Launch) (Z : State) (a0 : Array Value) (hw : ∀ d ∈ tables_1, d.before a0 Z = true) (aI : Addr) (q1 : Int64) (h0 : Heap) (n0 : Nat) (Z0 : n0 ≤ h0.size) (O0 : Old Z n0 h0) (SI : Sta Z Z.heap "com/example/tributary/tributary/language/Type" "INT" "Lcom/example/tributary/tributary/language/Type;" (.ref aI)) :
    OwConW l Z (⟨"com/example/tributary/tributary/semantics/RangesValuationsPinLaw", "variable", "(J)Lcom/example/tributary/tributary/semantics/Variable;"⟩ : MethodName) method_3_code 2 (some (.object "com/example/tributary/tributary/semantics/Variable")) [] ({ frames := 3, cells := 3, slots := 13, locals := 42 } : Room) #[(.long q1)] h0 (fun v h L => ∃ b, v = some (.ref b) ∧ Fr n0 L ∧ Keep h0 h [] ∧ n0 ≤ b ∧ h0.size ≤ b ∧ Exa Z h b "com/example/tributary/tributary/semantics/Variable" ∧ Fld Z h b "com/example/tributary/tributary/semantics/Variable" "low" "I" (.int (own_low q1)) ∧ Fld Z h b "com/example/tributary/tributary/semantics/Variable" "high" "I" (.int (own_high q1))) := by
  refine OwConW.of (plainFor_of_name pn_com_example_tributary_tributary_semantics_RangesValuationsPinLaw) ?_
  intro p e s m below meth cd_ s₁ X0 hx hby hml hret hlk hown hnm hZ e0 hS0
  have N0 := Fr.nil n0
  refine GoOn.st (fun t_ k_ => castTop (ef_vari m q1) k_) ?_
  show GoOn _ _ _ _ (s₁.setTop (mkF m 0 #[.val (.long q1), .second] []))
  obtain ⟨T1, h1, X1, e1, E1, A1, D1, -, st1⟩ := newO X0 hx hZ hown (hw _ (List.mem_of_getElem? (i := 4) rfl)) (hw _ (List.mem_of_getElem? (i := 5) rfl)) (hw _ (List.mem_of_getElem? (i := 6) rfl)) e0 (g := (mkF m 0 #[.val (.long q1), .second] [])) rfl (hb hby d_method_3_0) (by decide) (by decide)
  obtain ⟨b1, g1⟩ : ∃ z, z = h0.size := ⟨_, rfl⟩
  rw [← g1] at A1 D1 st1
  have g_b1 : n0 ≤ b1 := Nat.le_trans Z0 (Nat.le_of_eq g1.symm)
  have sz_b1 : h0.size ≤ b1 := Nat.le_trans (Keep.refl h0 []).1 (Nat.le_of_eq g1.symm)
  have F_name_b1 : Fld Z h1 b1 "com/example/tributary/tributary/semantics/Variable" "name" "Ljava/lang/String;" .null := D1 (Or.inr (hw _ (List.mem_of_getElem? (i := 43) rfl))) (ty := (.object "java/lang/String")) (by decide)
  have F_type_b1 : Fld Z h1 b1 "com/example/tributary/tributary/semantics/Variable" "type" "Lcom/example/tributary/tributary/language/Type;" .null := D1 (Or.inr (hw _ (List.mem_of_getElem? (i := 45) rfl))) (ty := (.object "com/example/tributary/tributary/language/Type")) (by decide)
  have F_low_b1 : Fld Z h1 b1 "com/example/tributary/tributary/semantics/Variable" "low" "I" (.int (0 : Int32)) := D1 (Or.inr (hw _ (List.mem_of_getElem? (i := 47) rfl))) (ty := .int) (by decide)
  have F_high_b1 : Fld Z h1 b1 "com/example/tributary/tributary/semantics/Variable" "high" "I" (.int (0 : Int32)) := D1 (Or.inr (hw _ (List.mem_of_getElem? (i := 49) rfl))) (ty := .int) (by decide)
  have F_owner_b1 : Fld Z h1 b1 "com/example/tributary/tributary/semantics/Variable" "owner" "I" (.int (0 : Int32)) := D1 (Or.inr (hw _ (List.mem_of_getElem? (i := 51) rfl))) (ty := .int) (by decide)
  refine GoOn.st st1 ?_
  refine GoOn.st (fun t_ k_ => XS.dup X1.here hx rfl (hb hby d_method_3_3) rfl rfl k_) ?_
  obtain ⟨a2, T2, h2, k2, X2, e2, E2, hS2, hk2, hZ2, hown2, st2⟩ := ldcS X1 hx hZ hown (hw _ (List.mem_of_getElem? (i := 7) rfl)) (own_strAtoms hw) e1 hS0 (Nat.le_trans (Nat.le_refl _) E1.1) (g := (mkF m 4 #[.val (.long q1), .second] [(.ref b1), (.ref b1)])) rfl (hb hby d_method_3_4) (n := 4) (by decide) (by decide) (by decide) (by decide)
  refine GoOn.st st2 ?_
  have Od3 := ((O0.ext E1).ext E2)
  have F4 := (Sta.ext Od3.2 SI)
  obtain ⟨T5, X5, e5, st5⟩ := getS2 X2 hx hZ2 hown2 (host := "") (Or.inl (hw _ (List.mem_of_getElem? (i := 15) rfl))) Via.refl e2 F4 (g := (mkF m 6 #[.val (.long q1), .second] [(.ref a2), (.ref b1), (.ref b1)])) rfl (hb hby d_method_3_6)
  refine GoOn.st st5 ?_
  show GoOn _ _ _ _ (T5.setTop (mkF m 9 #[.val (.long q1), .second] [(.ref aI), (.ref a2), (.ref b1), (.ref b1)]))
  refine GoOn.st (fun t_ k_ => XS.lloadN X5.here hx rfl (hb hby d_method_3_9) rfl k_) ?_
  show GoOn _ _ _ _ (T5.setTop (mkF m 10 #[.val (.long q1), .second] [(.long q1), (.ref aI), (.ref a2), (.ref b1), (.ref b1)]))
  refine GoOn.callS (W := 4) (argsL := [(.long q1)]) (rest := [(.ref aI), (.ref a2), (.ref b1), (.ref b1)]) X5 hx hZ2 hown2 (hw _ (List.mem_of_getElem? (i := 18) rfl)) (hw _ (List.mem_of_getElem? (i := 19) rfl)) (hw _ (List.mem_of_getElem? (i := 2) rfl)) (hw _ (List.mem_of_getElem? (i := 20) rfl)) (by decide) (rm_low l Z a0 hw q1 h2) e5 (by decide) (by decide) (by rw [hml]; rfl) pd_2 rfl rfl (Nat.le_of_eq rfl) (hb hby d_method_3_10) (by decide) (by decide) ?_
  rintro _ T6 L6 X6 ⟨rfl, rfl, e6⟩
  rw [List.append_nil] at X6
  refine GoOn.st (fun t_ k_ => XS.lloadN X6.here hx rfl (hb hby d_method_3_13) rfl k_) ?_
  show GoOn _ _ _ _ (T6.setTop (mkF m 14 #[.val (.long q1), .second] [(.long q1), (.int (own_low q1)), (.ref aI), (.ref a2), (.ref b1), (.ref b1)]))
  refine GoOn.callS (W := 5) (argsL := [(.long q1)]) (rest := [(.int (own_low q1)), (.ref aI), (.ref a2), (.ref b1), (.ref b1)]) X6 hx hZ2 hown2 (hw _ (List.mem_of_getElem? (i := 25) rfl)) (hw _ (List.mem_of_getElem? (i := 26) rfl)) (hw _ (List.mem_of_getElem? (i := 2) rfl)) (hw _ (List.mem_of_getElem? (i := 27) rfl)) (by decide) (rm_high l Z a0 hw q1 h2) e6 (by decide) (by decide) (by rw [hml]; rfl) pd_2 rfl rfl (Nat.le_of_eq rfl) (hb hby d_method_3_14) (by decide) (by decide) ?_
  rintro _ T7 L7 X7 ⟨rfl, rfl, e7⟩
  rw [List.append_nil] at X7
  refine GoOn.st (fun t_ k_ => XS.iconst X7.here hx rfl (hb hby d_method_3_17)  k_) ?_
  show GoOn _ _ _ _ (T7.setTop (mkF m 18 #[.val (.long q1), .second] [(.int (-1 : Int32)), (.int (own_high q1)), (.int (own_low q1)), (.ref aI), (.ref a2), (.ref b1), (.ref b1)]))
  have F8 := (A1.ext E2)
  have F9 := (F_name_b1.ext E2)
  have F10 := (F_type_b1.ext E2)
  have F11 := (F_low_b1.ext E2)
  have F12 := (F_high_b1.ext E2)
  have F13 := (F_owner_b1.ext E2)
  refine GoOn.callC (W := 1) (argsL := [(.ref a2), (.ref aI), (.int (own_low q1)), (.int (own_high q1)), (.int (-1 : Int32))]) (rest := [(.ref b1)]) (a := b1) X7 hx hZ2 hown2 rfl (hw _ (List.mem_of_getElem? (i := 31) rfl)) (hw _ (List.mem_of_getElem? (i := 32) rfl)) (hw _ (List.mem_of_getElem? (i := 6) rfl)) (hw _ (List.mem_of_getElem? (i := 33) rfl)) (by decide) (rm_vinit l Z a0 hw b1 a2 aI (own_low q1) (own_high q1) (-1 : Int32) h2 n0 F8 F9 F10 F11 F12 F13 g_b1) e7 (by decide) (by decide) (by rw [hml]; rfl) pd_3 rfl rfl (Nat.le_of_eq rfl) (hb hby d_method_3_18) (by decide) (by decide) ?_
  rintro _ T14 L14 X14 ⟨rfl, N14q, K14, f14_0, f14_1, f14_2⟩
  have N14 := Fr.app N0 N14q
  show GoOn _ _ _ _ (T14.setTop (mkF m 21 #[.val (.long q1), .second] [(.ref b1)]))
  exact GoOn.retWA X14 hS2 (Nat.le_trans hk2 K14.1) hx hlk hret rfl rfl rfl (hb hby d_method_3_21) ⟨b1, rfl, N14, ((((Keep.refl h0 []).ext E1).ext E2).trans K14 (allS (Or.inr sz_b1) all0)), g_b1, sz_b1, f14_0, f14_1, f14_2⟩ (by decide) (by decide)
theorem ef_acinit (m : MethodId) (x0 : Addr) : entryFrame m #[(.ref x0)] 1 = mkF m 0 #[.val (.ref x0)] [] := by first | (simp [entryFrame, mkF, argsToLocals, Value.category]; done) | rfl
theorem pn_java_util_AbstractCollection : plainName "java/util/AbstractCollection" = true := by first | (simp [plainName, overriddenIn]; done) | decide +kernel
theorem d_jdk_22_method_1_0 : decode jdk_22_method_1_code 0 = .ok (.aload_n 0, 1) := by decide +kernel
theorem d_jdk_22_method_1_1 : decode jdk_22_method_1_code 1 = .ok (.invokespecial 1, 3) := by decide +kernel
theorem d_jdk_22_method_1_4 : decode jdk_22_method_1_code 4 = .ok (.return_, 1) := by decide +kernel
set_option maxRecDepth 65536 in
set_option maxHeartbeats 40000000 in
theorem rm_acinit (l : Launch) (Z : State) (a0 : Array Value) (hw : ∀ d ∈ tables_1, d.before a0 Z = true) (a1 : Addr) (h0 : Heap) :
    OwCon l Z (⟨"java/util/AbstractCollection", "<init>", "()V"⟩ : MethodName) jdk_22_method_1_code 1 none [] ({ frames := 1, cells := 0, slots := 0, locals := 12 } : Room) #[(.ref a1)] h0 (OwRet none h0) := by
  refine OwCon.of (plainFor_of_name pn_java_util_AbstractCollection) ?_
  intro p e s m below meth cd_ s₁ X0 hx hby hml hret hlk hown hnm hZ e0
  refine GoOn.st (fun t_ k_ => castTop (ef_acinit m a1) k_) ?_
  show GoOn _ _ _ _ (s₁.setTop (mkF m 0 #[.val (.ref a1)] []))
  refine GoOn.st (fun t_ k_ => XS.aloadN X0.here hx rfl (hb hby d_jdk_22_method_1_0) rfl rfl k_) ?_
  show GoOn _ _ _ _ (s₁.setTop (mkF m 1 #[.val (.ref a1)] [(.ref a1)]))
  obtain ⟨T1, X1, e1, st1⟩ := initO X0 hx hZ hown (hw _ (List.mem_of_getElem? (i := 70) rfl)) (hw _ (List.mem_of_getElem? (i := 40) rfl)) (hw _ (List.mem_of_getElem? (i := 41) rfl)) e0 (g := (mkF m 1 #[.val (.ref a1)] [(.ref a1)])) rfl (by rw [hml]; rfl) rfl (hb hby d_jdk_22_method_1_1) (by decide) (W := 0) (by show 2 * 0 + _ ≤ _; exact Nat.le_of_eq rfl) (by decide)
  refine GoOn.st st1 ?_
  show GoOn _ _ _ _ (T1.setTop (mkF m 4 #[.val (.ref a1)] []))
  exact GoOn.retV X1 hx hlk hret (hb hby d_jdk_22_method_1_4) (by rw [e1]; exact ⟨rfl, rfl, rfl⟩) (by decide) (by decide)
theorem ef_ablinit (m : MethodId) (x0 : Addr) : entryFrame m #[(.ref x0)] 1 = mkF m 0 #[.val (.ref x0)] [] := by first | (simp [entryFrame, mkF, argsToLocals, Value.category]; done) | rfl
theorem pn_java_util_AbstractList : plainName "java/util/AbstractList" = true := by first | (simp [plainName, overriddenIn]; done) | decide +kernel
theorem d_jdk_39_method_1_0 : decode jdk_39_method_1_code 0 = .ok (.aload_n 0, 1) := by decide +kernel
theorem d_jdk_39_method_1_1 : decode jdk_39_method_1_code 1 = .ok (.invokespecial 1, 3) := by decide +kernel
theorem d_jdk_39_method_1_4 : decode jdk_39_method_1_code 4 = .ok (.aload_n 0, 1) := by decide +kernel
theorem d_jdk_39_method_1_5 : decode jdk_39_method_1_code 5 = .ok (.iconst 0, 1) := by decide +kernel
theorem d_jdk_39_method_1_6 : decode jdk_39_method_1_code 6 = .ok (.putfield 7, 3) := by decide +kernel
theorem d_jdk_39_method_1_9 : decode jdk_39_method_1_code 9 = .ok (.return_, 1) := by decide +kernel
set_option maxRecDepth 65536 in
set_option maxHeartbeats 40000000 in
theorem rm_ablinit (l : Launch) (Z : State) (a0 : Array Value) (hw : ∀ d ∈ tables_1, d.before a0 Z = true) (a1 : Addr) (h0 : Heap) (n0 : Nat) (Ea : Exa Z h0 a1 "java/util/ArrayList") (Fm : Fld Z h0 a1 "java/util/AbstractList" "modCount" "I" (.int (0 : Int32))) (Fe : Fld Z h0 a1 "java/util/ArrayList" "elementData" "[Ljava/lang/Object;" .null) (Fs : Fld Z h0 a1 "java/util/ArrayList" "size" "I" (.int (0 : Int32))) (g_a1 : n0 ≤ a1) :
    OwCon l Z (⟨"java/util/AbstractList", "<init>", "()V"⟩ : MethodName) jdk_39_method_1_code 1 none [] ({ frames := 2, cells := 0, slots := 0, locals := 24 } : Room) #[(.ref a1)] h0 (fun v h L => v = none ∧ Fr n0 L ∧ Keep h0 h [a1] ∧ Exa Z h a1 "java/util/ArrayList" ∧ Fld Z h a1 "java/util/AbstractList" "modCount" "I" (.int (0 : Int32)) ∧ Fld Z h a1 "java/util/ArrayList" "elementData" "[Ljava/lang/Object;" .null ∧ Fld Z h a1 "java/util/ArrayList" "size" "I" (.int (0 : Int32))) := by
  refine OwCon.of (plainFor_of_name pn_java_util_AbstractList) ?_
  intro p e s m below meth cd_ s₁ X0 hx hby hml hret hlk hown hnm hZ e0
  have N0 := Fr.nil n0
  refine GoOn.st (fun t_ k_ => castTop (ef_ablinit m a1) k_) ?_
  show GoOn _ _ _ _ (s₁.setTop (mkF m 0 #[.val (.ref a1)] []))
  refine GoOn.st (fun t_ k_ => XS.aloadN X0.here hx rfl (hb hby d_jdk_39_method_1_0) rfl rfl k_) ?_
  show GoOn _ _ _ _ (s₁.setTop (mkF m 1 #[.val (.ref a1)] [(.ref a1)]))
  refine GoOn.callC (W := 0) (argsL := []) (rest := []) (a := a1) X0 hx hZ hown rfl (hw _ (List.mem_of_getElem? (i := 64) rfl)) (hw _ (List.mem_of_getElem? (i := 65) rfl)) (hw _ (List.mem_of_getElem? (i := 68) rfl)) (hw _ (List.mem_of_getElem? (i := 69) rfl)) (by decide) (rm_acinit l Z a0 hw a1 h0) e0 (by decide) (by decide) (by rw [hml]; rfl) pd_1 rfl rfl (Nat.le_of_eq rfl) (hb hby d_jdk_39_method_1_1) (by decide) (by decide) ?_
  rintro _ T1 L1 X1 ⟨rfl, rfl, e1⟩
  rw [List.append_nil] at X1
  refine GoOn.st (fun t_ k_ => XS.aloadN X1.here hx rfl (hb hby d_jdk_39_method_1_4) rfl rfl k_) ?_
  refine GoOn.st (fun t_ k_ => XS.iconst X1.here hx rfl (hb hby d_jdk_39_method_1_5)  k_) ?_
  obtain ⟨T2, h2, X2, e2, W2, st2⟩ := putF X1 hx hZ hown (host := "") (Or.inl (hw _ (List.mem_of_getElem? (i := 71) rfl))) Via.refl e1 Fm Ea (Or.inl (hw _ (List.mem_of_getElem? (i := 72) rfl))) (hw _ (List.mem_of_getElem? (i := 53) rfl)) (ty := .int) (by decide) rfl rfl (g := (mkF m 6 #[.val (.ref a1)] [(.int (0 : Int32)), (.ref a1)])) rfl rfl (hb hby d_jdk_39_method_1_6)
  have Fw2 := Fld.same W2 Fm
  have N3 := Fr.snoc X2 N0 g_a1
  refine GoOn.st st2 ?_
  show GoOn _ _ _ _ (T2.setTop (mkF m 9 #[.val (.ref a1)] []))
  exact GoOn.retV X2 hx hlk hret (hb hby d_jdk_39_method_1_9) (by rw [e2]; exact ⟨rfl, N3, ((Keep.refl h0 [a1]).wr W2 (Or.inl (List.mem_of_getElem? (i := 0) rfl))), (Exa.wr W2 Ea), Fw2, (Fld.other W2 Fe (Or.inr (slot_ne (Or.inl (hw _ (List.mem_of_getElem? (i := 75) rfl))) (Or.inl (hw _ (List.mem_of_getElem? (i := 72) rfl))) (by decide) (t := (.array (.object "java/lang/Object"))) (t' := .int) (by decide) (by decide)))), (Fld.other W2 Fs (Or.inr (slot_ne (Or.inl (hw _ (List.mem_of_getElem? (i := 93) rfl))) (Or.inl (hw _ (List.mem_of_getElem? (i := 72) rfl))) (by decide) (t := .int) (t' := .int) (by decide) (by decide))))⟩) (by decide) (by decide)
theorem ef_lsinit (m : MethodId) (x0 : Addr) : entryFrame m #[(.ref x0)] 1 = mkF m 0 #[.val (.ref x0)] [] := by first | (simp [entryFrame, mkF, argsToLocals, Value.category]; done) | rfl
theorem pn_java_util_ArrayList : plainName "java/util/ArrayList" = true := by first | (simp [plainName, overriddenIn]; done) | decide +kernel
theorem d_jdk_38_method_2_0 : decode jdk_38_method_2_code 0 = .ok (.aload_n 0, 1) := by decide +kernel
theorem d_jdk_38_method_2_1 : decode jdk_38_method_2_code 1 = .ok (.invokespecial 1, 3) := by decide +kernel
theorem d_jdk_38_method_2_4 : decode jdk_38_method_2_code 4 = .ok (.aload_n 0, 1) := by decide +kernel
theorem d_jdk_38_method_2_5 : decode jdk_38_method_2_code 5 = .ok (.getstatic 39, 3) := by decide +kernel
theorem d_jdk_38_method_2_8 : decode jdk_38_method_2_code 8 = .ok (.putfield 9, 3) := by decide +kernel
theorem d_jdk_38_method_2_11 : decode jdk_38_method_2_code 11 = .ok (.return_, 1) := by decide +kernel
set_option maxRecDepth 65536 in
set_option maxHeartbeats 40000000 in
theorem rm_lsinit (l : Launch) (Z : State) (a0 : Array Value) (hw : ∀ d ∈ tables_1, d.before a0 Z = true) (a1 aD : Addr) (kD : ClassId) (h0 : Heap) (n0 : Nat) (O0 : Old Z n0 h0) (SD : Sta Z Z.heap "java/util/ArrayList" "DEFAULTCAPACITY_EMPTY_ELEMENTDATA" "[Ljava/lang/Object;" (.ref aD)) (VD : Arv Z Z.heap aD kD (.object "java/lang/Object") 0 [] .null) (Ea : Exa Z h0 a1 "java/util/ArrayList") (Fm : Fld Z h0 a1 "java/util/AbstractList" "modCount" "I" (.int (0 : Int32))) (Fe : Fld Z h0 a1 "java/util/ArrayList" "elementData" "[Ljava/lang/Object;" .null) (Fs : Fld Z h0 a1 "java/util/ArrayList" "size" "I" (.int (0 : Int32))) (g_a1 : n0 ≤ a1) :
    OwCon l Z (⟨"java/util/ArrayList", "<init>", "()V"⟩ : MethodName) jdk_38_method_2_code 1 none [] ({ frames := 3, cells := 0, slots := 0, locals := 36 } : Room) #[(.ref a1)] h0 (fun v h L => v = none ∧ Fr n0 L ∧ Keep h0 h [a1] ∧ Exa Z h a1 "java/util/ArrayList" ∧ Fld Z h a1 "java/util/AbstractList" "modCount" "I" (.int (0 : Int32)) ∧ Fld Z h a1 "java/util/ArrayList" "elementData" "[Ljava/lang/Object;" (.ref aD) ∧ Fld Z h a1 "java/util/ArrayList" "size" "I" (.int (0 : Int32))) := by
  refine OwCon.of (plainFor_of_name pn_java_util_ArrayList) ?_
  intro p e s m below meth cd_ s₁ X0 hx hby hml hret hlk hown hnm hZ e0
  have N0 := Fr.nil n0
  refine GoOn.st (fun t_ k_ => castTop (ef_lsinit m a1) k_) ?_
  show GoOn _ _ _ _ (s₁.setTop (mkF m 0 #[.val (.ref a1)] []))
  refine GoOn.st (fun t_ k_ => XS.aloadN X0.here hx rfl (hb hby d_jdk_38_method_2_0) rfl rfl k_) ?_
  show GoOn _ _ _ _ (s₁.setTop (mkF m 1 #[.val (.ref a1)] [(.ref a1)]))
  refine GoOn.callC (W := 0) (argsL := []) (rest := []) (a := a1) X0 hx hZ hown rfl (hw _ (List.mem_of_getElem? (i := 58) rfl)) (hw _ (List.mem_of_getElem? (i := 59) rfl)) (hw _ (List.mem_of_getElem? (i := 62) rfl)) (hw _ (List.mem_of_getElem? (i := 63) rfl)) (by decide) (rm_ablinit l Z a0 hw a1 h0 n0 Ea Fm Fe Fs g_a1) e0 (by decide) (by decide) (by rw [hml]; rfl) pd_1 rfl rfl (Nat.le_of_eq rfl) (hb hby d_jdk_38_method_2_1) (by decide) (by decide) ?_
  rintro _ T1 L1 X1 ⟨rfl, N1q, K1, f1_0, f1_1, f1_2, f1_3⟩
  have N1 := Fr.app N0 N1q
  refine GoOn.st (fun t_ k_ => XS.aloadN X1.here hx rfl (hb hby d_jdk_38_method_2_4) rfl rfl k_) ?_
  have Od2 := (O0.keep K1 (allS g_a1 all0))
  have F3 := (Sta.ext Od2.2 SD)
  obtain ⟨T4, X4, e4, st4⟩ := getS2 X1 hx hZ hown (host := "") (Or.inl (hw _ (List.mem_of_getElem? (i := 73) rfl))) Via.refl rfl F3 (g := (mkF m 5 #[.val (.ref a1)] [(.ref a1)])) rfl (hb hby d_jdk_38_method_2_5)
  refine GoOn.st st4 ?_
  obtain ⟨T5, h5, X5, e5, W5, st5⟩ := putF X4 hx hZ hown (host := "") (Or.inl (hw _ (List.mem_of_getElem? (i := 74) rfl))) Via.refl e4 f1_2 f1_0 (Or.inl (hw _ (List.mem_of_getElem? (i := 75) rfl))) (hw _ (List.mem_of_getElem? (i := 53) rfl)) (ty := (.array (.object "java/lang/Object"))) (by decide) rfl rfl (g := (mkF m 8 #[.val (.ref a1)] [(.ref aD), (.ref a1)])) rfl rfl (hb hby d_jdk_38_method_2_8)
  have Fw5 := Fld.same W5 f1_2
  have N6 := Fr.snoc X5 N1 g_a1
  refine GoOn.st st5 ?_
  show GoOn _ _ _ _ (T5.setTop (mkF m 11 #[.val (.ref a1)] []))
  exact GoOn.retV X5 hx hlk hret (hb hby d_jdk_38_method_2_11) (by rw [e5]; exact ⟨rfl, N6, (((Keep.refl h0 [a1]).trans K1 (allS (Or.inl (List.mem_of_getElem? (i := 0) rfl)) all0)).wr W5 (Or.inl (List.mem_of_getElem? (i := 0) rfl))), (Exa.wr W5 f1_0), (Fld.other W5 f1_1 (Or.inr (slot_ne (Or.inl (hw _ (List.mem_of_getElem? (i := 72) rfl))) (Or.inl (hw _ (List.mem_of_getElem? (i := 75) rfl))) (by decide) (t := .int) (t' := (.array (.object "java/lang/Object"))) (by decide) (by decide)))), Fw5, (Fld.other W5 f1_3 (Or.inr (slot_ne (Or.inl (hw _ (List.mem_of_getElem? (i := 93) rfl))) (Or.inl (hw _ (List.mem_of_getElem? (i := 75) rfl))) (by decide) (t := .int) (t' := (.array (.object "java/lang/Object"))) (by decide) (by decide))))⟩) (by decide) (by decide)
theorem ef_growI (m : MethodId) (x0 : Addr) (x1 : Int32) : entryFrame m #[(.ref x0), (.int x1)] 4 = mkF m 0 #[.val (.ref x0), .val (.int x1), .unset, .unset] [] := by first | (simp [entryFrame, mkF, argsToLocals, Value.category]; done) | rfl
theorem d_jdk_38_method_6_0 : decode jdk_38_method_6_code 0 = .ok (.aload_n 0, 1) := by decide +kernel
theorem d_jdk_38_method_6_1 : decode jdk_38_method_6_code 1 = .ok (.getfield 9, 3) := by decide +kernel
theorem d_jdk_38_method_6_4 : decode jdk_38_method_6_code 4 = .ok (.arraylength, 1) := by decide +kernel
theorem d_jdk_38_method_6_5 : decode jdk_38_method_6_code 5 = .ok (.istore_n 2, 1) := by decide +kernel
theorem d_jdk_38_method_6_6 : decode jdk_38_method_6_code 6 = .ok (.iload_n 2, 1) := by decide +kernel
theorem d_jdk_38_method_6_7 : decode jdk_38_method_6_code 7 = .ok (.ifCond .gt 13, 3) := by decide +kernel
theorem d_jdk_38_method_6_10 : decode jdk_38_method_6_code 10 = .ok (.aload_n 0, 1) := by decide +kernel
theorem d_jdk_38_method_6_11 : decode jdk_38_method_6_code 11 = .ok (.getfield 9, 3) := by decide +kernel
theorem d_jdk_38_method_6_14 : decode jdk_38_method_6_code 14 = .ok (.getstatic 39, 3) := by decide +kernel
theorem d_jdk_38_method_6_17 : decode jdk_38_method_6_code 17 = .ok (.if_acmp .eq 28, 3) := by decide +kernel
theorem d_jdk_38_method_6_45 : decode jdk_38_method_6_code 45 = .ok (.aload_n 0, 1) := by decide +kernel
theorem d_jdk_38_method_6_46 : decode jdk_38_method_6_code 46 = .ok (.bipush 10, 2) := by decide +kernel
theorem d_jdk_38_method_6_48 : decode jdk_38_method_6_code 48 = .ok (.iload_n 1, 1) := by decide +kernel
theorem d_jdk_38_method_6_49 : decode jdk_38_method_6_code 49 = .ok (.invokestatic 79, 3) := by decide +kernel
theorem d_jdk_38_method_6_52 : decode jdk_38_method_6_code 52 = .ok (.anewarray 7, 3) := by decide +kernel
theorem d_jdk_38_method_6_55 : decode jdk_38_method_6_code 55 = .ok (.dup_x1, 1) := by decide +kernel
theorem d_jdk_38_method_6_56 : decode jdk_38_method_6_code 56 = .ok (.putfield 9, 3) := by decide +kernel
theorem d_jdk_38_method_6_59 : decode jdk_38_method_6_code 59 = .ok (.areturn, 1) := by decide +kernel
set_option maxRecDepth 65536 in
set_option maxHeartbeats 40000000 in
theorem rm_growI (l : Launch) (Z : State) (a0 : Array Value) (hw : ∀ d ∈ tables_1, d.before a0 Z = true) (a1 aD : Addr) (kD : ClassId) (mc : Int32) (h0 : Heap) (n0 : Nat) (Z0 : n0 ≤ h0.size) (O0 : Old Z n0 h0) (SD : Sta Z Z.heap "java/util/ArrayList" "DEFAULTCAPACITY_EMPTY_ELEMENTDATA" "[Ljava/lang/Object;" (.ref aD)) (VD : Arv Z Z.heap aD kD (.object "java/lang/Object") 0 [] .null) (Ea : Exa Z h0 a1 "java/util/ArrayList") (Fm : Fld Z h0 a1 "java/util/AbstractList" "modCount" "I" (.int mc)) (Fe : Fld Z h0 a1 "java/util/ArrayList" "elementData" "[Ljava/lang/Object;" (.ref aD)) (Fs : Fld Z h0 a1 "java/util/ArrayList" "size" "I" (.int (0 : Int32))) (g_a1 : n0 ≤ a1) :
    OwCon l Z (⟨"java/util/ArrayList", "grow", "(I)[Ljava/lang/Object;"⟩ : MethodName) jdk_38_method_6_code 4 (some (.array (.object "java/lang/Object"))) [] ({ frames := 1, cells := 1, slots := 10, locals := 14 } : Room) #[(.ref a1), (.int (1 : Int32))] h0 (fun v h L => ∃ b kb, v = some (.ref b) ∧ Fr n0 L ∧ Keep h0 h [a1] ∧ n0 ≤ b ∧ h0.size ≤ b ∧ Ovr Z kb "java/lang/Object" ∧ Arv Z h b kb (.object "java/lang/Object") (10 : Int32) [.null, .null, .null, .null, .null, .null, .null, .null, .null, .null] .null ∧ Exa Z h a1 "java/util/ArrayList" ∧ Fld Z h a1 "java/util/AbstractList" "modCount" "I" (.int mc) ∧ Fld Z h a1 "java/util/ArrayList" "elementData" "[Ljava/lang/Object;" (.ref b) ∧ Fld Z h a1 "java/util/ArrayList" "size" "I" (.int (0 : Int32))) := by
  refine OwCon.of (plainFor_of_name pn_java_util_ArrayList) ?_
  intro p e s m below meth cd_ s₁ X0 hx hby hml hret hlk hown hnm hZ e0
  have N0 := Fr.nil n0
  refine GoOn.st (fun t_ k_ => castTop (ef_growI m a1 (1 : Int32)) k_) ?_
  show GoOn _ _ _ _ (s₁.setTop (mkF m 0 #[.val (.ref a1), .val (.int (1 : Int32)), .unset, .unset] []))
  refine GoOn.st (fun t_ k_ => XS.aloadN X0.here hx rfl (hb hby d_jdk_38_method_6_0) rfl rfl k_) ?_
  obtain ⟨T1, X1, e1, st1⟩ := getF X0 hx hZ hown (host := "") (Or.inl (hw _ (List.mem_of_getElem? (i := 74) rfl))) Via.refl e0 Fe (g := (mkF m 1 #[.val (.ref a1), .val (.int (1 : Int32)), .unset, .unset] [(.ref a1)])) rfl rfl (hb hby d_jdk_38_method_6_1)
  refine GoOn.st st1 ?_
  have F2 := (VD.ext O0.2)
  refine GoOn.st (fun t_ k_ => own_arrlen X1 hx hZ e1 F2 (hb hby d_jdk_38_method_6_4) _ k_) ?_
  refine GoOn.st (fun t_ k_ => XS.istoreN X1.here hx rfl (hb hby d_jdk_38_method_6_5) rfl (l' := #[.val (.ref a1), .val (.int (1 : Int32)), .val (.int (0 : Int32)), .unset]) rfl k_) ?_
  show GoOn _ _ _ _ (T1.setTop (mkF m 6 #[.val (.ref a1), .val (.int (1 : Int32)), .val (.int (0 : Int32)), .unset] []))
  refine GoOn.st (fun t_ k_ => XS.iloadN X1.here hx rfl (hb hby d_jdk_38_method_6_6) rfl k_) ?_
  refine GoOn.st (fun t_ k_ => XS.ifNo X1.here hx rfl (hb hby d_jdk_38_method_6_7) rfl ((if0 _ _).trans (flt (by decide : ¬ ((0 : Int32) < (0 : Int32)))).2.2.1) k_) ?_
  refine GoOn.st (fun t_ k_ => XS.aloadN X1.here hx rfl (hb hby d_jdk_38_method_6_10) rfl rfl k_) ?_
  obtain ⟨T3, X3, e3, st3⟩ := getF X1 hx hZ hown (host := "") (Or.inl (hw _ (List.mem_of_getElem? (i := 74) rfl))) Via.refl e1 Fe (g := (mkF m 11 #[.val (.ref a1), .val (.int (1 : Int32)), .val (.int (0 : Int32)), .unset] [(.ref a1)])) rfl rfl (hb hby d_jdk_38_method_6_11)
  refine GoOn.st st3 ?_
  show GoOn _ _ _ _ (T3.setTop (mkF m 14 #[.val (.ref a1), .val (.int (1 : Int32)), .val (.int (0 : Int32)), .unset] [(.ref aD)]))
  have F4 := (Sta.ext O0.2 SD)
  obtain ⟨T5, X5, e5, st5⟩ := getS2 X3 hx hZ hown (host := "") (Or.inl (hw _ (List.mem_of_getElem? (i := 73) rfl))) Via.refl e3 F4 (g := (mkF m 14 #[.val (.ref a1), .val (.int (1 : Int32)), .val (.int (0 : Int32)), .unset] [(.ref aD)])) rfl (hb hby d_jdk_38_method_6_14)
  refine GoOn.st st5 ?_
  refine GoOn.st (fun t_ k_ => Jvm.RoadKit.acmp (g := (mkF m 17 #[.val (.ref a1), .val (.int (1 : Int32)), .val (.int (0 : Int32)), .unset] [(.ref aD), (.ref aD)])) X5 hx rfl rfl rfl (pc0 := 17) (pc' := 45) (same := true) rfl (hb hby d_jdk_38_method_6_17) rfl (decide_eq_true rfl) (by decide) (by decide) k_) ?_
  refine GoOn.st (fun t_ k_ => XS.aloadN X5.here hx rfl (hb hby d_jdk_38_method_6_45) rfl rfl k_) ?_
  refine GoOn.st (fun t_ k_ => XS.bipush X5.here hx rfl (hb hby d_jdk_38_method_6_46)  k_) ?_
  show GoOn _ _ _ _ (T5.setTop (mkF m 48 #[.val (.ref a1), .val (.int (1 : Int32)), .val (.int (0 : Int32)), .unset] [(.int (10 : Int32)), (.ref a1)]))
  refine GoOn.st (fun t_ k_ => XS.iloadN X5.here hx rfl (hb hby d_jdk_38_method_6_48) rfl k_) ?_
  show GoOn _ _ _ _ (T5.setTop (mkF m 49 #[.val (.ref a1), .val (.int (1 : Int32)), .val (.int (0 : Int32)), .unset] [(.int (1 : Int32)), (.int (10 : Int32)), (.ref a1)]))
  refine GoOn.callS (W := 1) (argsL := [(.int (10 : Int32)), (.int (1 : Int32))]) (rest := [(.ref a1)]) X5 hx hZ hown (hw _ (List.mem_of_getElem? (i := 133) rfl)) (hw _ (List.mem_of_getElem? (i := 29) rfl)) (hw _ (List.mem_of_getElem? (i := 23) rfl)) (hw _ (List.mem_of_getElem? (i := 30) rfl)) (by decide) ((rm_max l Z a0 hw (10 : Int32) (1 : Int32) h0).mono (fun _ _ _ q => (by rw [show own_max (10 : Int32) (1 : Int32) = (10 : Int32) from by decide] at q; exact q : OwRet (some (.int (10 : Int32))) h0 _ _ _))) e5 (by decide) (by decide) (by rw [hml]; rfl) pd_0 rfl rfl (Nat.le_of_eq rfl) (hb hby d_jdk_38_method_6_49) (by decide) (by decide) ?_
  rintro _ T6 L6 X6 ⟨rfl, rfl, e6⟩
  rw [List.append_nil] at X6
  obtain ⟨T7, h7, k7, X7, e7, E7, A7, O7, st7⟩ := newR X6 hx hZ hown (hw _ (List.mem_of_getElem? (i := 134) rfl)) (hw _ (List.mem_of_getElem? (i := 135) rfl)) e6 (g := (mkF m 52 #[.val (.ref a1), .val (.int (1 : Int32)), .val (.int (0 : Int32)), .unset] [(.int (10 : Int32)), (.ref a1)])) rfl (hb hby d_jdk_38_method_6_52) rfl (by decide) (cap := 10) (by decide) (by decide) (by decide) (by decide)
  obtain ⟨b7, g7⟩ : ∃ z, z = h0.size := ⟨_, rfl⟩
  rw [← g7] at A7 st7
  have ne_a1_b7 : a1 ≠ b7 := Nat.ne_of_lt (Nat.lt_of_lt_of_le Ea.lt (Nat.le_of_eq g7.symm))
  have g_b7 : n0 ≤ b7 := Nat.le_trans Z0 (Nat.le_of_eq g7.symm)
  have sz_b7 : h0.size ≤ b7 := Nat.le_trans (Keep.refl h0 [a1]).1 (Nat.le_of_eq g7.symm)
  have V7 : Arv Z h7 b7 k7 (.object "java/lang/Object") (10 : Int32) [.null, .null, .null, .null, .null, .null, .null, .null, .null, .null] .null := (Arv.new A7 (by decide)).pad (pad_rep [] _ 10)
  refine GoOn.st st7 ?_
  refine GoOn.st (fun t_ k_ => XS.dupX1 X7.here hx rfl (hb hby d_jdk_38_method_6_55) rfl rfl rfl k_) ?_
  have F8 := (Ea.ext E7)
  have F9 := (Fe.ext E7)
  obtain ⟨T10, h10, X10, e10, W10, st10⟩ := putF X7 hx hZ hown (host := "") (Or.inl (hw _ (List.mem_of_getElem? (i := 74) rfl))) Via.refl e7 F9 F8 (Or.inl (hw _ (List.mem_of_getElem? (i := 75) rfl))) (hw _ (List.mem_of_getElem? (i := 53) rfl)) (ty := (.array (.object "java/lang/Object"))) (by decide) rfl rfl (g := (mkF m 56 #[.val (.ref a1), .val (.int (1 : Int32)), .val (.int (0 : Int32)), .unset] [(.ref b7), (.ref a1), (.ref b7)])) rfl rfl (hb hby d_jdk_38_method_6_56)
  have Fw10 := Fld.same W10 F9
  have N11 := Fr.snoc X10 N0 g_a1
  refine GoOn.st st10 ?_
  show GoOn _ _ _ _ (T10.setTop (mkF m 59 #[.val (.ref a1), .val (.int (1 : Int32)), .val (.int (0 : Int32)), .unset] [(.ref b7)]))
  exact GoOn.retA X10 hx hlk hret rfl rfl rfl (hb hby d_jdk_38_method_6_59) (by rw [e10]; exact ⟨b7, k7, rfl, N11, (((Keep.refl h0 [a1]).ext E7).wr W10 (Or.inl (List.mem_of_getElem? (i := 0) rfl))), g_b7, sz_b7, O7, (Arv.other V7 W10 (Ne.symm ne_a1_b7)), (Exa.wr W10 F8), (Fld.other W10 (Fm.ext E7) (Or.inr (slot_ne (Or.inl (hw _ (List.mem_of_getElem? (i := 72) rfl))) (Or.inl (hw _ (List.mem_of_getElem? (i := 75) rfl))) (by decide) (t := .int) (t' := (.array (.object "java/lang/Object"))) (by decide) (by decide)))), Fw10, (Fld.other W10 (Fs.ext E7) (Or.inr (slot_ne (Or.inl (hw _ (List.mem_of_getElem? (i := 93) rfl))) (Or.inl (hw _ (List.mem_of_getElem? (i := 75) rfl))) (by decide) (t := .int) (t' := (.array (.object "java/lang/Object"))) (by decide) (by decide))))⟩) (by decide) (by decide)
theorem ef_grow0 (m : MethodId) (x0 : Addr) : entryFrame m #[(.ref x0)] 1 = mkF m 0 #[.val (.ref x0)] [] := by first | (simp [entryFrame, mkF, argsToLocals, Value.category]; done) | rfl
theorem d_jdk_38_method_7_0 : decode jdk_38_method_7_code 0 = .ok (.aload_n 0, 1) := by decide +kernel
theorem d_jdk_38_method_7_1 : decode jdk_38_method_7_code 1 = .ok (.aload_n 0, 1) := by decide +kernel
theorem d_jdk_38_method_7_2 : decode jdk_38_method_7_code 2 = .ok (.getfield 48, 3) := by decide +kernel
theorem d_jdk_38_method_7_5 : decode jdk_38_method_7_code 5 = .ok (.iconst 1, 1) := by decide +kernel
theorem d_jdk_38_method_7_6 : decode jdk_38_method_7_code 6 = .ok (.iadd, 1) := by decide +kernel
theorem pd_4 : parseMethodDescriptor "(I)[Ljava/lang/Object;" = some ⟨[.int], some (.array (.object "java/lang/Object"))⟩ := by decide +kernel
theorem d_jdk_38_method_7_7 : decode jdk_38_method_7_code 7 = .ok (.invokevirtual 69, 3) := by decide +kernel
theorem d_jdk_38_method_7_10 : decode jdk_38_method_7_code 10 = .ok (.areturn, 1) := by decide +kernel
set_option maxRecDepth 65536 in
set_option maxHeartbeats 40000000 in
theorem rm_grow0 (l : Launch) (Z : State) (a0 : Array Value) (hw : ∀ d ∈ tables_1, d.before a0 Z = true) (a1 aD : Addr) (kD : ClassId) (mc : Int32) (h0 : Heap) (n0 : Nat) (Z0 : n0 ≤ h0.size) (O0 : Old Z n0 h0) (SD : Sta Z Z.heap "java/util/ArrayList" "DEFAULTCAPACITY_EMPTY_ELEMENTDATA" "[Ljava/lang/Object;" (.ref aD)) (VD : Arv Z Z.heap aD kD (.object "java/lang/Object") 0 [] .null) (Ea : Exa Z h0 a1 "java/util/ArrayList") (Fm : Fld Z h0 a1 "java/util/AbstractList" "modCount" "I" (.int mc)) (Fe : Fld Z h0 a1 "java/util/ArrayList" "elementData" "[Ljava/lang/Object;" (.ref aD)) (Fs : Fld Z h0 a1 "java/util/ArrayList" "size" "I" (.int (0 : Int32))) (g_a1 : n0 ≤ a1) :
    OwCon l Z (⟨"java/util/ArrayList", "grow", "()[Ljava/lang/Object;"⟩ : MethodName) jdk_38_method_7_code 1 (some (.array (.object "java/lang/Object"))) [] ({ frames := 2, cells := 1, slots := 10, locals := 29 } : Room) #[(.ref a1)] h0 (fun v h L => ∃ b kb, v = some (.ref b) ∧ Fr n0 L ∧ Keep h0 h [a1] ∧ n0 ≤ b ∧ h0.size ≤ b ∧ Ovr Z kb "java/lang/Object" ∧ Arv Z h b kb (.object "java/lang/Object") (10 : Int32) [.null, .null, .null, .null, .null, .null, .null, .null, .null, .null] .null ∧ Exa Z h a1 "java/util/ArrayList" ∧ Fld Z h a1 "java/util/AbstractList" "modCount" "I" (.int mc) ∧ Fld Z h a1 "java/util/ArrayList" "elementData" "[Ljava/lang/Object;" (.ref b) ∧ Fld Z h a1 "java/util/ArrayList" "size" "I" (.int (0 : Int32))) := by
  refine OwCon.of (plainFor_of_name pn_java_util_ArrayList) ?_
  intro p e s m below meth cd_ s₁ X0 hx hby hml hret hlk hown hnm hZ e0
  have N0 := Fr.nil n0
  refine GoOn.st (fun t_ k_ => castTop (ef_grow0 m a1) k_) ?_
  show GoOn _ _ _ _ (s₁.setTop (mkF m 0 #[.val (.ref a1)] []))
  refine GoOn.st (fun t_ k_ => XS.aloadN X0.here hx rfl (hb hby d_jdk_38_method_7_0) rfl rfl k_) ?_
  refine GoOn.st (fun t_ k_ => XS.aloadN X0.here hx rfl (hb hby d_jdk_38_method_7_1) rfl rfl k_) ?_
  obtain ⟨T1, X1, e1, st1⟩ := getF X0 hx hZ hown (host := "") (Or.inl (hw _ (List.mem_of_getElem? (i := 92) rfl))) Via.refl e0 Fs (g := (mkF m 2 #[.val (.ref a1)] [(.ref a1), (.ref a1)])) rfl rfl (hb hby d_jdk_38_method_7_2)
  refine GoOn.st st1 ?_
  refine GoOn.st (fun t_ k_ => XS.iconst X1.here hx rfl (hb hby d_jdk_38_method_7_5)  k_) ?_
  show GoOn _ _ _ _ (T1.setTop (mkF m 6 #[.val (.ref a1)] [(.int (1 : Int32)), (.int (0 : Int32)), (.ref a1)]))
  refine GoOn.st (fun t_ k_ => XS.iadd X1.here hx rfl (hb hby d_jdk_38_method_7_6) rfl k_) ?_
  show GoOn _ _ _ _ (T1.setTop (mkF m 7 #[.val (.ref a1)] [(.int (1 : Int32)), (.ref a1)]))
  refine GoOn.callP (W := 0) (argsL := [(.int (1 : Int32))]) (rest := []) (a := a1) X1 hx hZ hown (hw _ (List.mem_of_getElem? (i := 128) rfl)) (hw _ (List.mem_of_getElem? (i := 129) rfl)) (hw _ (List.mem_of_getElem? (i := 131) rfl)) (hw _ (List.mem_of_getElem? (i := 130) rfl)) (hw _ (List.mem_of_getElem? (i := 54) rfl)) (hw _ (List.mem_of_getElem? (i := 132) rfl)) (by decide) (rm_growI l Z a0 hw a1 aD kD mc h0 n0 Z0 O0 SD VD Ea Fm Fe Fs g_a1) e1 Ea.cell (by decide) (by decide) (by rw [hml]; rfl) pd_4 rfl rfl (Nat.le_of_eq rfl) (hb hby d_jdk_38_method_7_7) (by decide) (by decide) ?_
  rintro _ T2 L2 X2 ⟨bb2, kb2, rfl, N2q, K2, gb2, sb2, O2, V2, f2_0, f2_1, f2_2, f2_3⟩
  have N2 := Fr.app N0 N2q
  have ne_a1_bb2 : a1 ≠ bb2 := Nat.ne_of_lt (Nat.lt_of_lt_of_le Ea.lt sb2)
  have g_bb2 := gb2
  have sz_bb2 : h0.size ≤ bb2 := Nat.le_trans (Keep.refl h0 [a1]).1 sb2
  show GoOn _ _ _ _ (T2.setTop (mkF m 10 #[.val (.ref a1)] [(.ref bb2)]))
  exact GoOn.retA X2 hx hlk hret rfl rfl rfl (hb hby d_jdk_38_method_7_10) ⟨bb2, kb2, rfl, N2, ((Keep.refl h0 [a1]).trans K2 (allS (Or.inl (List.mem_of_getElem? (i := 0) rfl)) all0)), g_bb2, sz_bb2, O2, V2, f2_0, f2_1, f2_2, f2_3⟩ (by decide) (by decide)
theorem ef_add30 (m : MethodId) (x0 : Addr) (x1 : Addr) (x2 : Addr) (x3 : Int32) : entryFrame m #[(.ref x0), (.ref x1), (.ref x2), (.int x3)] 4 = mkF m 0 #[.val (.ref x0), .val (.ref x1), .val (.ref x2), .val (.int x3)] [] := by first | (simp [entryFrame, mkF, argsToLocals, Value.category]; done) | rfl
theorem d_jdk_38_method_24_0 : decode jdk_38_method_24_code 0 = .ok (.iload_n 3, 1) := by decide +kernel
theorem d_jdk_38_method_24_1 : decode jdk_38_method_24_code 1 = .ok (.aload_n 2, 1) := by decide +kernel
theorem d_jdk_38_method_24_2 : decode jdk_38_method_24_code 2 = .ok (.arraylength, 1) := by decide +kernel
theorem d_jdk_38_method_24_3 : decode jdk_38_method_24_code 3 = .ok (.if_icmp .ne 8, 3) := by decide +kernel
theorem d_jdk_38_method_24_6 : decode jdk_38_method_24_code 6 = .ok (.aload_n 0, 1) := by decide +kernel
theorem pd_5 : parseMethodDescriptor "()[Ljava/lang/Object;" = some ⟨[], some (.array (.object "java/lang/Object"))⟩ := by decide +kernel
theorem d_jdk_38_method_24_7 : decode jdk_38_method_24_code 7 = .ok (.invokevirtual 129, 3) := by decide +kernel
theorem d_jdk_38_method_24_10 : decode jdk_38_method_24_code 10 = .ok (.astore_n 2, 1) := by decide +kernel
theorem d_jdk_38_method_24_11 : decode jdk_38_method_24_code 11 = .ok (.aload_n 2, 1) := by decide +kernel
theorem d_jdk_38_method_24_12 : decode jdk_38_method_24_code 12 = .ok (.iload_n 3, 1) := by decide +kernel
theorem d_jdk_38_method_24_13 : decode jdk_38_method_24_code 13 = .ok (.aload_n 1, 1) := by decide +kernel
theorem d_jdk_38_method_24_14 : decode jdk_38_method_24_code 14 = .ok (.aastore, 1) := by decide +kernel
theorem d_jdk_38_method_24_15 : decode jdk_38_method_24_code 15 = .ok (.aload_n 0, 1) := by decide +kernel
theorem d_jdk_38_method_24_16 : decode jdk_38_method_24_code 16 = .ok (.iload_n 3, 1) := by decide +kernel
theorem d_jdk_38_method_24_17 : decode jdk_38_method_24_code 17 = .ok (.iconst 1, 1) := by decide +kernel
theorem d_jdk_38_method_24_18 : decode jdk_38_method_24_code 18 = .ok (.iadd, 1) := by decide +kernel
theorem d_jdk_38_method_24_19 : decode jdk_38_method_24_code 19 = .ok (.putfield 48, 3) := by decide +kernel
theorem d_jdk_38_method_24_22 : decode jdk_38_method_24_code 22 = .ok (.return_, 1) := by decide +kernel
set_option maxRecDepth 65536 in
set_option maxHeartbeats 40000000 in
theorem rm_add30 (l : Launch) (Z : State) (a0 : Array Value) (hw : ∀ d ∈ tables_1, d.before a0 Z = true) (a1 ax aD : Addr) (kD : ClassId) (mc : Int32) (h0 : Heap) (n0 : Nat) (Z0 : n0 ≤ h0.size) (O0 : Old Z n0 h0) (SD : Sta Z Z.heap "java/util/ArrayList" "DEFAULTCAPACITY_EMPTY_ELEMENTDATA" "[Ljava/lang/Object;" (.ref aD)) (VD : Arv Z Z.heap aD kD (.object "java/lang/Object") 0 [] .null) (Ea : Exa Z h0 a1 "java/util/ArrayList") (Fm : Fld Z h0 a1 "java/util/AbstractList" "modCount" "I" (.int mc)) (Fe : Fld Z h0 a1 "java/util/ArrayList" "elementData" "[Ljava/lang/Object;" (.ref aD)) (Fs : Fld Z h0 a1 "java/util/ArrayList" "size" "I" (.int (0 : Int32))) (g_a1 : n0 ≤ a1) (Ex : Exa Z h0 ax "com/example/tributary/tributary/semantics/Variable") (hne : ax ≠ a1) :
    OwCon l Z (⟨"java/util/ArrayList", "add", "(Ljava/lang/Object;[Ljava/lang/Object;I)V"⟩ : MethodName) jdk_38_method_24_code 4 none [] ({ frames := 3, cells := 1, slots := 10, locals := 41 } : Room) #[(.ref a1), (.ref ax), (.ref aD), (.int (0 : Int32))] h0 (fun v h L => ∃ b kb, v = none ∧ Fr n0 L ∧ Keep h0 h [a1] ∧ n0 ≤ b ∧ h0.size ≤ b ∧ Ovr Z kb "java/lang/Object" ∧ Arv Z h b kb (.object "java/lang/Object") (10 : Int32) [(.ref ax), .null, .null, .null, .null, .null, .null, .null, .null, .null] .null ∧ Exa Z h a1 "java/util/ArrayList" ∧ Fld Z h a1 "java/util/AbstractList" "modCount" "I" (.int mc) ∧ Fld Z h a1 "java/util/ArrayList" "elementData" "[Ljava/lang/Object;" (.ref b) ∧ Fld Z h a1 "java/util/ArrayList" "size" "I" (.int (1 : Int32))) := by
  refine OwCon.of (plainFor_of_name pn_java_util_ArrayList) ?_
  intro p e s m below meth cd_ s₁ X0 hx hby hml hret hlk hown hnm hZ e0
  have N0 := Fr.nil n0
  refine GoOn.st (fun t_ k_ => castTop (ef_add30 m a1 ax aD (0 : Int32)) k_) ?_
  show GoOn _ _ _ _ (s₁.setTop (mkF m 0 #[.val (.ref a1), .val (.ref ax), .val (.ref aD), .val (.int (0 : Int32))] []))
  refine GoOn.st (fun t_ k_ => XS.iloadN X0.here hx rfl (hb hby d_jdk_38_method_24_0) rfl k_) ?_
  refine GoOn.st (fun t_ k_ => XS.aloadN X0.here hx rfl (hb hby d_jdk_38_method_24_1) rfl rfl k_) ?_
  have F1 := (VD.ext O0.2)
  refine GoOn.st (fun t_ k_ => own_arrlen X0 hx hZ e0 F1 (hb hby d_jdk_38_method_24_2) _ k_) ?_
  refine GoOn.st (fun t_ k_ => XS.icmpNo X0.here hx rfl (hb hby d_jdk_38_method_24_3) rfl (teq (by decide : (0 : Int32) = (0 : Int32))).2 k_) ?_
  show GoOn _ _ _ _ (s₁.setTop (mkF m 6 #[.val (.ref a1), .val (.ref ax), .val (.ref aD), .val (.int (0 : Int32))] []))
  refine GoOn.st (fun t_ k_ => XS.aloadN X0.here hx rfl (hb hby d_jdk_38_method_24_6) rfl rfl k_) ?_
  show GoOn _ _ _ _ (s₁.setTop (mkF m 7 #[.val (.ref a1), .val (.ref ax), .val (.ref aD), .val (.int (0 : Int32))] [(.ref a1)]))
  refine GoOn.callP (W := 0) (argsL := []) (rest := []) (a := a1) X0 hx hZ hown (hw _ (List.mem_of_getElem? (i := 123) rfl)) (hw _ (List.mem_of_getElem? (i := 124) rfl)) (hw _ (List.mem_of_getElem? (i := 126) rfl)) (hw _ (List.mem_of_getElem? (i := 125) rfl)) (hw _ (List.mem_of_getElem? (i := 54) rfl)) (hw _ (List.mem_of_getElem? (i := 127) rfl)) (by decide) (rm_grow0 l Z a0 hw a1 aD kD mc h0 n0 Z0 O0 SD VD Ea Fm Fe Fs g_a1) e0 Ea.cell (by decide) (by decide) (by rw [hml]; rfl) pd_5 rfl rfl (Nat.le_of_eq rfl) (hb hby d_jdk_38_method_24_7) (by decide) (by decide) ?_
  rintro _ T2 L2 X2 ⟨bb2, kb2, rfl, N2q, K2, gb2, sb2, O2, V2, f2_0, f2_1, f2_2, f2_3⟩
  have N2 := Fr.app N0 N2q
  have ne_a1_bb2 : a1 ≠ bb2 := Nat.ne_of_lt (Nat.lt_of_lt_of_le Ea.lt sb2)
  have ne_ax_bb2 : ax ≠ bb2 := Nat.ne_of_lt (Nat.lt_of_lt_of_le Ex.lt sb2)
  have g_bb2 := gb2
  have sz_bb2 : h0.size ≤ bb2 := Nat.le_trans (Keep.refl h0 [a1]).1 sb2
  refine GoOn.st (fun t_ k_ => XS.astoreN X2.here hx rfl (hb hby d_jdk_38_method_24_10) rfl rfl (l' := #[.val (.ref a1), .val (.ref ax), .val (.ref bb2), .val (.int (0 : Int32))]) rfl k_) ?_
  refine GoOn.st (fun t_ k_ => XS.aloadN X2.here hx rfl (hb hby d_jdk_38_method_24_11) rfl rfl k_) ?_
  refine GoOn.st (fun t_ k_ => XS.iloadN X2.here hx rfl (hb hby d_jdk_38_method_24_12) rfl k_) ?_
  show GoOn _ _ _ _ (T2.setTop (mkF m 13 #[.val (.ref a1), .val (.ref ax), .val (.ref bb2), .val (.int (0 : Int32))] [(.int (0 : Int32)), (.ref bb2)]))
  refine GoOn.st (fun t_ k_ => XS.aloadN X2.here hx rfl (hb hby d_jdk_38_method_24_13) rfl rfl k_) ?_
  have F3 := (Ex.keep K2)
  obtain ⟨T4, h4, X4, e4, W4, V4, st4⟩ := own_aastore X2 hx hZ rfl V2 rfl rfl O2 (Ins.of_exa F3 (hw _ (List.mem_of_getElem? (i := 136) rfl))) (j := (0 : Int32)) (by decide) 0 (by decide) (show 0 < _ from (by decide : 0 < 10)) (Ls := #[.val (.ref a1), .val (.ref ax), .val (.ref bb2), .val (.int (0 : Int32))]) (rest := []) (hb hby d_jdk_38_method_24_14)
  replace V4 : Arv Z h4 bb2 kb2 (.object "java/lang/Object") (10 : Int32) [(.ref ax), .null, .null, .null, .null, .null, .null, .null, .null, .null] .null := V4
  have N5 := Fr.snoc X4 N2 g_bb2
  refine GoOn.st st4 ?_
  refine GoOn.st (fun t_ k_ => XS.aloadN X4.here hx rfl (hb hby d_jdk_38_method_24_15) rfl rfl k_) ?_
  refine GoOn.st (fun t_ k_ => XS.iloadN X4.here hx rfl (hb hby d_jdk_38_method_24_16) rfl k_) ?_
  show GoOn _ _ _ _ (T4.setTop (mkF m 17 #[.val (.ref a1), .val (.ref ax), .val (.ref bb2), .val (.int (0 : Int32))] [(.int (0 : Int32)), (.ref a1)]))
  refine GoOn.st (fun t_ k_ => XS.iconst X4.here hx rfl (hb hby d_jdk_38_method_24_17)  k_) ?_
  refine GoOn.st (fun t_ k_ => XS.iadd X4.here hx rfl (hb hby d_jdk_38_method_24_18) rfl k_) ?_
  have F6 := (Exa.wr W4 f2_0)
  have F7 := (Fld.other W4 f2_3 (Or.inl ne_a1_bb2))
  obtain ⟨T8, h8, X8, e8, W8, st8⟩ := putF X4 hx hZ hown (host := "") (Or.inl (hw _ (List.mem_of_getElem? (i := 92) rfl))) Via.refl e4 F7 F6 (Or.inl (hw _ (List.mem_of_getElem? (i := 93) rfl))) (hw _ (List.mem_of_getElem? (i := 53) rfl)) (ty := .int) (by decide) rfl rfl (g := (mkF m 19 #[.val (.ref a1), .val (.ref ax), .val (.ref bb2), .val (.int (0 : Int32))] [(.int (1 : Int32)), (.ref a1)])) rfl rfl (hb hby d_jdk_38_method_24_19)
  have Fw8 := Fld.same W8 F7
  have N9 := Fr.snoc X8 N5 g_a1
  refine GoOn.st st8 ?_
  show GoOn _ _ _ _ (T8.setTop (mkF m 22 #[.val (.ref a1), .val (.ref ax), .val (.ref bb2), .val (.int (0 : Int32))] []))
  exact GoOn.retV X8 hx hlk hret (hb hby d_jdk_38_method_24_22) (by rw [e8]; exact ⟨bb2, kb2, rfl, N9, ((((Keep.refl h0 [a1]).trans K2 (allS (Or.inl (List.mem_of_getElem? (i := 0) rfl)) all0)).wr W4 (Or.inr sz_bb2)).wr W8 (Or.inl (List.mem_of_getElem? (i := 0) rfl))), g_bb2, sz_bb2, O2, (Arv.other V4 W8 (Ne.symm ne_a1_bb2)), (Exa.wr W8 F6), (Fld.other W8 (Fld.other W4 f2_1 (Or.inl ne_a1_bb2)) (Or.inr (slot_ne (Or.inl (hw _ (List.mem_of_getElem? (i := 72) rfl))) (Or.inl (hw _ (List.mem_of_getElem? (i := 93) rfl))) (by decide) (t := .int) (t' := .int) (by decide) (by decide)))), (Fld.other W8 (Fld.other W4 f2_2 (Or.inl ne_a1_bb2)) (Or.inr (slot_ne (Or.inl (hw _ (List.mem_of_getElem? (i := 75) rfl))) (Or.inl (hw _ (List.mem_of_getElem? (i := 93) rfl))) (by decide) (t := (.array (.object "java/lang/Object"))) (t' := .int) (by decide) (by decide)))), Fw8⟩) (by decide) (by decide)
theorem ef_add10 (m : MethodId) (x0 : Addr) (x1 : Addr) : entryFrame m #[(.ref x0), (.ref x1)] 2 = mkF m 0 #[.val (.ref x0), .val (.ref x1)] [] := by first | (simp [entryFrame, mkF, argsToLocals, Value.category]; done) | rfl
theorem d_jdk_38_method_25_0 : decode jdk_38_method_25_code 0 = .ok (.aload_n 0, 1) := by decide +kernel
theorem d_jdk_38_method_25_1 : decode jdk_38_method_25_code 1 = .ok (.dup, 1) := by decide +kernel
theorem d_jdk_38_method_25_2 : decode jdk_38_method_25_code 2 = .ok (.getfield 63, 3) := by decide +kernel
theorem d_jdk_38_method_25_5 : decode jdk_38_method_25_code 5 = .ok (.iconst 1, 1) := by decide +kernel
theorem d_jdk_38_method_25_6 : decode jdk_38_method_25_code 6 = .ok (.iadd, 1) := by decide +kernel
theorem d_jdk_38_method_25_7 : decode jdk_38_method_25_code 7 = .ok (.putfield 63, 3) := by decide +kernel
theorem d_jdk_38_method_25_10 : decode jdk_38_method_25_code 10 = .ok (.aload_n 0, 1) := by decide +kernel
theorem d_jdk_38_method_25_11 : decode jdk_38_method_25_code 11 = .ok (.aload_n 1, 1) := by decide +kernel
theorem d_jdk_38_method_25_12 : decode jdk_38_method_25_code 12 = .ok (.aload_n 0, 1) := by decide +kernel
theorem d_jdk_38_method_25_13 : decode jdk_38_method_25_code 13 = .ok (.getfield 9, 3) := by decide +kernel
theorem d_jdk_38_method_25_16 : decode jdk_38_method_25_code 16 = .ok (.aload_n 0, 1) := by decide +kernel
theorem d_jdk_38_method_25_17 : decode jdk_38_method_25_code 17 = .ok (.getfield 48, 3) := by decide +kernel
theorem pd_6 : parseMethodDescriptor "(Ljava/lang/Object;[Ljava/lang/Object;I)V" = some ⟨[(.object "java/lang/Object"), (.array (.object "java/lang/Object")), .int], none⟩ := by decide +kernel
theorem d_jdk_38_method_25_20 : decode jdk_38_method_25_code 20 = .ok (.invokevirtual 131, 3) := by decide +kernel
theorem d_jdk_38_method_25_23 : decode jdk_38_method_25_code 23 = .ok (.iconst 1, 1) := by decide +kernel
theorem d_jdk_38_method_25_24 : decode jdk_38_method_25_code 24 = .ok (.ireturn, 1) := by decide +kernel
set_option maxRecDepth 65536 in
set_option maxHeartbeats 40000000 in
theorem rm_add10 (l : Launch) (Z : State) (a0 : Array Value) (hw : ∀ d ∈ tables_1, d.before a0 Z = true) (a1 ax aD : Addr) (kD : ClassId) (h0 : Heap) (n0 : Nat) (Z0 : n0 ≤ h0.size) (O0 : Old Z n0 h0) (SD : Sta Z Z.heap "java/util/ArrayList" "DEFAULTCAPACITY_EMPTY_ELEMENTDATA" "[Ljava/lang/Object;" (.ref aD)) (VD : Arv Z Z.heap aD kD (.object "java/lang/Object") 0 [] .null) (Ea : Exa Z h0 a1 "java/util/ArrayList") (Fm : Fld Z h0 a1 "java/util/AbstractList" "modCount" "I" (.int (0 : Int32))) (Fe : Fld Z h0 a1 "java/util/ArrayList" "elementData" "[Ljava/lang/Object;" (.ref aD)) (Fs : Fld Z h0 a1 "java/util/ArrayList" "size" "I" (.int (0 : Int32))) (g_a1 : n0 ≤ a1) (Ex : Exa Z h0 ax "com/example/tributary/tributary/semantics/Variable") (hne : ax ≠ a1) :
    OwCon l Z (⟨"java/util/ArrayList", "add", "(Ljava/lang/Object;)Z"⟩ : MethodName) jdk_38_method_25_code 2 (some .boolean) [] ({ frames := 4, cells := 1, slots := 10, locals := 56 } : Room) #[(.ref a1), (.ref ax)] h0 (fun v h L => ∃ b kb, v = some (.int 1) ∧ Fr n0 L ∧ Keep h0 h [a1] ∧ n0 ≤ b ∧ h0.size ≤ b ∧ Ovr Z kb "java/lang/Object" ∧ Arv Z h b kb (.object "java/lang/Object") (10 : Int32) [(.ref ax), .null, .null, .null, .null, .null, .null, .null, .null, .null] .null ∧ Exa Z h a1 "java/util/ArrayList" ∧ Fld Z h a1 "java/util/AbstractList" "modCount" "I" (.int (1 : Int32)) ∧ Fld Z h a1 "java/util/ArrayList" "elementData" "[Ljava/lang/Object;" (.ref b) ∧ Fld Z h a1 "java/util/ArrayList" "size" "I" (.int (1 : Int32))) := by
  refine OwCon.of (plainFor_of_name pn_java_util_ArrayList) ?_
  intro p e s m below meth cd_ s₁ X0 hx hby hml hret hlk hown hnm hZ e0
  have N0 := Fr.nil n0
  refine GoOn.st (fun t_ k_ => castTop (ef_add10 m a1 ax) k_) ?_
  show GoOn _ _ _ _ (s₁.setTop (mkF m 0 #[.val (.ref a1), .val (.ref ax)] []))
  refine GoOn.st (fun t_ k_ => XS.aloadN X0.here hx rfl (hb hby d_jdk_38_method_25_0) rfl rfl k_) ?_
  refine GoOn.st (fun t_ k_ => XS.dup X0.here hx rfl (hb hby d_jdk_38_method_25_1) rfl rfl k_) ?_
  obtain ⟨T1, X1, e1, st1⟩ := getF X0 hx hZ hown (host := "") (Or.inl (hw _ (List.mem_of_getElem? (i := 116) rfl))) (Via.of (hw _ (List.mem_of_getElem? (i := 117) rfl))) e0 Fm (g := (mkF m 2 #[.val (.ref a1), .val (.ref ax)] [(.ref a1), (.ref a1)])) rfl rfl (hb hby d_jdk_38_method_25_2)
  refine GoOn.st st1 ?_
  refine GoOn.st (fun t_ k_ => XS.iconst X1.here hx rfl (hb hby d_jdk_38_method_25_5)  k_) ?_
  show GoOn _ _ _ _ (T1.setTop (mkF m 6 #[.val (.ref a1), .val (.ref ax)] [(.int (1 : Int32)), (.int (0 : Int32)), (.ref a1)]))
  refine GoOn.st (fun t_ k_ => XS.iadd X1.here hx rfl (hb hby d_jdk_38_method_25_6) rfl k_) ?_
  obtain ⟨T2, h2, X2, e2, W2, st2⟩ := putF X1 hx hZ hown (host := "") (Or.inl (hw _ (List.mem_of_getElem? (i := 116) rfl))) (Via.of (hw _ (List.mem_of_getElem? (i := 117) rfl))) e1 Fm Ea (Or.inl (hw _ (List.mem_of_getElem? (i := 72) rfl))) (hw _ (List.mem_of_getElem? (i := 53) rfl)) (ty := .int) (by decide) rfl rfl (g := (mkF m 7 #[.val (.ref a1), .val (.ref ax)] [(.int (1 : Int32)), (.ref a1)])) rfl rfl (hb hby d_jdk_38_method_25_7)
  have Fw2 := Fld.same W2 Fm
  have N3 := Fr.snoc X2 N0 g_a1
  refine GoOn.st st2 ?_
  refine GoOn.st (fun t_ k_ => XS.aloadN X2.here hx rfl (hb hby d_jdk_38_method_25_10) rfl rfl k_) ?_
  refine GoOn.st (fun t_ k_ => XS.aloadN X2.here hx rfl (hb hby d_jdk_38_method_25_11) rfl rfl k_) ?_
  show GoOn _ _ _ _ (T2.setTop (mkF m 12 #[.val (.ref a1), .val (.ref ax)] [(.ref ax), (.ref a1)]))
  refine GoOn.st (fun t_ k_ => XS.aloadN X2.here hx rfl (hb hby d_jdk_38_method_25_12) rfl rfl k_) ?_
  have F4 := (Fld.other W2 Fe (Or.inr (slot_ne (Or.inl (hw _ (List.mem_of_getElem? (i := 75) rfl))) (Or.inl (hw _ (List.mem_of_getElem? (i := 72) rfl))) (by decide) (t := (.array (.object "java/lang/Object"))) (t' := .int) (by decide) (by decide))))
  obtain ⟨T5, X5, e5, st5⟩ := getF X2 hx hZ hown (host := "") (Or.inl (hw _ (List.mem_of_getElem? (i := 74) rfl))) Via.refl e2 F4 (g := (mkF m 13 #[.val (.ref a1), .val (.ref ax)] [(.ref a1), (.ref ax), (.ref a1)])) rfl rfl (hb hby d_jdk_38_method_25_13)
  refine GoOn.st st5 ?_
  refine GoOn.st (fun t_ k_ => XS.aloadN X5.here hx rfl (hb hby d_jdk_38_method_25_16) rfl rfl k_) ?_
  have F6 := (Fld.other W2 Fs (Or.inr (slot_ne (Or.inl (hw _ (List.mem_of_getElem? (i := 93) rfl))) (Or.inl (hw _ (List.mem_of_getElem? (i := 72) rfl))) (by decide) (t := .int) (t' := .int) (by decide) (by decide))))
  obtain ⟨T7, X7, e7, st7⟩ := getF X5 hx hZ hown (host := "") (Or.inl (hw _ (List.mem_of_getElem? (i := 92) rfl))) Via.refl e5 F6 (g := (mkF m 17 #[.val (.ref a1), .val (.ref ax)] [(.ref a1), (.ref aD), (.ref ax), (.ref a1)])) rfl rfl (hb hby d_jdk_38_method_25_17)
  refine GoOn.st st7 ?_
  show GoOn _ _ _ _ (T7.setTop (mkF m 20 #[.val (.ref a1), .val (.ref ax)] [(.int (0 : Int32)), (.ref aD), (.ref ax), (.ref a1)]))
  have F8 := (Exa.wr W2 Ea)
  have F9 := (Exa.wr W2 Ex)
  have Od10 := (O0.wr W2 g_a1)
  refine GoOn.callP (W := 0) (argsL := [(.ref ax), (.ref aD), (.int (0 : Int32))]) (rest := []) (a := a1) X7 hx hZ hown (hw _ (List.mem_of_getElem? (i := 118) rfl)) (hw _ (List.mem_of_getElem? (i := 119) rfl)) (hw _ (List.mem_of_getElem? (i := 121) rfl)) (hw _ (List.mem_of_getElem? (i := 120) rfl)) (hw _ (List.mem_of_getElem? (i := 54) rfl)) (hw _ (List.mem_of_getElem? (i := 122) rfl)) (by decide) (rm_add30 l Z a0 hw a1 ax aD kD (1 : Int32) h2 n0 (Nat.le_trans Z0 (Keep.of_wr W2).1) Od10 SD VD F8 Fw2 F4 F6 g_a1 F9 hne) e7 F8.cell (by decide) (by decide) (by rw [hml]; rfl) pd_6 rfl rfl (Nat.le_of_eq rfl) (hb hby d_jdk_38_method_25_20) (by decide) (by decide) ?_
  rintro _ T11 L11 X11 ⟨bb11, kb11, rfl, N11q, K11, gb11, sb11, O11, V11, f11_0, f11_1, f11_2, f11_3⟩
  have N11 := Fr.app N3 N11q
  have ne_a1_bb11 : a1 ≠ bb11 := Nat.ne_of_lt (Nat.lt_of_lt_of_le F8.lt sb11)
  have ne_ax_bb11 : ax ≠ bb11 := Nat.ne_of_lt (Nat.lt_of_lt_of_le F9.lt sb11)
  have g_bb11 := gb11
  have sz_bb11 : h0.size ≤ bb11 := Nat.le_trans ((Keep.refl h0 [a1]).wr W2 (Or.inl (List.mem_of_getElem? (i := 0) rfl))).1 sb11
  refine GoOn.st (fun t_ k_ => XS.iconst X11.here hx rfl (hb hby d_jdk_38_method_25_23)  k_) ?_
  show GoOn _ _ _ _ (T11.setTop (mkF m 24 #[.val (.ref a1), .val (.ref ax)] [(.int (1 : Int32))]))
  exact GoOn.retZ X11 hx hlk hret (by simp) rfl (hb hby d_jdk_38_method_25_24) ⟨bb11, kb11, rfl, N11, (((Keep.refl h0 [a1]).wr W2 (Or.inl (List.mem_of_getElem? (i := 0) rfl))).trans K11 (allS (Or.inl (List.mem_of_getElem? (i := 0) rfl)) all0)), g_bb11, sz_bb11, O11, V11, f11_0, f11_1, f11_2, f11_3⟩ (by decide) (by decide)
theorem ef_add31 (m : MethodId) (x0 : Addr) (x1 : Addr) (x2 : Addr) (x3 : Int32) : entryFrame m #[(.ref x0), (.ref x1), (.ref x2), (.int x3)] 4 = mkF m 0 #[.val (.ref x0), .val (.ref x1), .val (.ref x2), .val (.int x3)] [] := by first | (simp [entryFrame, mkF, argsToLocals, Value.category]; done) | rfl
set_option maxRecDepth 65536 in
set_option maxHeartbeats 40000000 in
theorem rm_add31 (l : Launch) (Z : State) (a0 : Array Value) (hw : ∀ d ∈ tables_1, d.before a0 Z = true) (a1 ax b1 x0 : Addr) (kb : ClassId) (mc : Int32) (h0 : Heap) (n0 : Nat) (Ea : Exa Z h0 a1 "java/util/ArrayList") (Fm : Fld Z h0 a1 "java/util/AbstractList" "modCount" "I" (.int mc)) (Fe : Fld Z h0 a1 "java/util/ArrayList" "elementData" "[Ljava/lang/Object;" (.ref b1)) (Fs : Fld Z h0 a1 "java/util/ArrayList" "size" "I" (.int (1 : Int32))) (Vb : Arv Z h0 b1 kb (.object "java/lang/Object") (10 : Int32) [(.ref x0), .null, .null, .null, .null, .null, .null, .null, .null, .null] .null) (O1 : Ovr Z kb "java/lang/Object") (g_a1 : n0 ≤ a1) (g_b1 : n0 ≤ b1) (hab : a1 ≠ b1) (Ex : Exa Z h0 ax "com/example/tributary/tributary/semantics/Variable") (hxa : ax ≠ a1) (hxb : ax ≠ b1) :
    OwCon l Z (⟨"java/util/ArrayList", "add", "(Ljava/lang/Object;[Ljava/lang/Object;I)V"⟩ : MethodName) jdk_38_method_24_code 4 none [] ({ frames := 0, cells := 0, slots := 0, locals := 0 } : Room) #[(.ref a1), (.ref ax), (.ref b1), (.int (1 : Int32))] h0 (fun v h L => v = none ∧ Fr n0 L ∧ Keep h0 h [a1, b1] ∧ Arv Z h b1 kb (.object "java/lang/Object") (10 : Int32) [(.ref x0), (.ref ax), .null, .null, .null, .null, .null, .null, .null, .null] .null ∧ Exa Z h a1 "java/util/ArrayList" ∧ Fld Z h a1 "java/util/AbstractList" "modCount" "I" (.int mc) ∧ Fld Z h a1 "java/util/ArrayList" "elementData" "[Ljava/lang/Object;" (.ref b1) ∧ Fld Z h a1 "java/util/ArrayList" "size" "I" (.int (2 : Int32))) := by
  refine OwCon.of (plainFor_of_name pn_java_util_ArrayList) ?_
  intro p e s m below meth cd_ s₁ X0 hx hby hml hret hlk hown hnm hZ e0
  have N0 := Fr.nil n0
  refine GoOn.st (fun t_ k_ => castTop (ef_add31 m a1 ax b1 (1 : Int32)) k_) ?_
  show GoOn _ _ _ _ (s₁.setTop (mkF m 0 #[.val (.ref a1), .val (.ref ax), .val (.ref b1), .val (.int (1 : Int32))] []))
  refine GoOn.st (fun t_ k_ => XS.iloadN X0.here hx rfl (hb hby d_jdk_38_method_24_0) rfl k_) ?_
  refine GoOn.st (fun t_ k_ => XS.aloadN X0.here hx rfl (hb hby d_jdk_38_method_24_1) rfl rfl k_) ?_
  refine GoOn.st (fun t_ k_ => own_arrlen X0 hx hZ e0 Vb (hb hby d_jdk_38_method_24_2) _ k_) ?_
  refine GoOn.st (fun t_ k_ => XS.icmpYes X0.here hx rfl (pc0 := 3) (pc' := 11) rfl (hb hby d_jdk_38_method_24_3) rfl (feq (by decide : ¬ ((1 : Int32) = (10 : Int32)))).2 (by decide) (by decide) k_) ?_
  show GoOn _ _ _ _ (s₁.setTop (mkF m 11 #[.val (.ref a1), .val (.ref ax), .val (.ref b1), .val (.int (1 : Int32))] []))
  refine GoOn.st (fun t_ k_ => XS.aloadN X0.here hx rfl (hb hby d_jdk_38_method_24_11) rfl rfl k_) ?_
  refine GoOn.st (fun t_ k_ => XS.iloadN X0.here hx rfl (hb hby d_jdk_38_method_24_12) rfl k_) ?_
  refine GoOn.st (fun t_ k_ => XS.aloadN X0.here hx rfl (hb hby d_jdk_38_method_24_13) rfl rfl k_) ?_
  obtain ⟨T1, h1, X1, e1, W1, V1, st1⟩ := own_aastore X0 hx hZ e0 Vb rfl rfl O1 (Ins.of_exa Ex (hw _ (List.mem_of_getElem? (i := 136) rfl))) (j := (1 : Int32)) (by decide) 1 (by decide) (show 1 < _ from (by decide : 1 < 10)) (Ls := #[.val (.ref a1), .val (.ref ax), .val (.ref b1), .val (.int (1 : Int32))]) (rest := []) (hb hby d_jdk_38_method_24_14)
  replace V1 : Arv Z h1 b1 kb (.object "java/lang/Object") (10 : Int32) [(.ref x0), (.ref ax), .null, .null, .null, .null, .null, .null, .null, .null] .null := V1
  have N2 := Fr.snoc X1 N0 g_b1
  refine GoOn.st st1 ?_
  show GoOn _ _ _ _ (T1.setTop (mkF m 15 #[.val (.ref a1), .val (.ref ax), .val (.ref b1), .val (.int (1 : Int32))] []))
  refine GoOn.st (fun t_ k_ => XS.aloadN X1.here hx rfl (hb hby d_jdk_38_method_24_15) rfl rfl k_) ?_
  refine GoOn.st (fun t_ k_ => XS.iloadN X1.here hx rfl (hb hby d_jdk_38_method_24_16) rfl k_) ?_
  refine GoOn.st (fun t_ k_ => XS.iconst X1.here hx rfl (hb hby d_jdk_38_method_24_17)  k_) ?_
  refine GoOn.st (fun t_ k_ => XS.iadd X1.here hx rfl (hb hby d_jdk_38_method_24_18) rfl k_) ?_
  show GoOn _ _ _ _ (T1.setTop (mkF m 19 #[.val (.ref a1), .val (.ref ax), .val (.ref b1), .val (.int (1 : Int32))] [(.int (2 : Int32)), (.ref a1)]))
  have F3 := (Exa.wr W1 Ea)
  have F4 := (Fld.other W1 Fs (Or.inl hab))
  obtain ⟨T5, h5, X5, e5, W5, st5⟩ := putF X1 hx hZ hown (host := "") (Or.inl (hw _ (List.mem_of_getElem? (i := 92) rfl))) Via.refl e1 F4 F3 (Or.inl (hw _ (List.mem_of_getElem? (i := 93) rfl))) (hw _ (List.mem_of_getElem? (i := 53) rfl)) (ty := .int) (by decide) rfl rfl (g := (mkF m 19 #[.val (.ref a1), .val (.ref ax), .val (.ref b1), .val (.int (1 : Int32))] [(.int (2 : Int32)), (.ref a1)])) rfl rfl (hb hby d_jdk_38_method_24_19)
  have Fw5 := Fld.same W5 F4
  have N6 := Fr.snoc X5 N2 g_a1
  refine GoOn.st st5 ?_
  show GoOn _ _ _ _ (T5.setTop (mkF m 22 #[.val (.ref a1), .val (.ref ax), .val (.ref b1), .val (.int (1 : Int32))] []))
  exact GoOn.retV X5 hx hlk hret (hb hby d_jdk_38_method_24_22) (by rw [e5]; exact ⟨rfl, N6, (((Keep.refl h0 [a1, b1]).wr W1 (Or.inl (List.mem_of_getElem? (i := 1) rfl))).wr W5 (Or.inl (List.mem_of_getElem? (i := 0) rfl))), (Arv.other V1 W5 (Ne.symm hab)), (Exa.wr W5 F3), (Fld.other W5 (Fld.other W1 Fm (Or.inl hab)) (Or.inr (slot_ne (Or.inl (hw _ (List.mem_of_getElem? (i := 72) rfl))) (Or.inl (hw _ (List.mem_of_getElem? (i := 93) rfl))) (by decide) (t := .int) (t' := .int) (by decide) (by decide)))), (Fld.other W5 (Fld.other W1 Fe (Or.inl hab)) (Or.inr (slot_ne (Or.inl (hw _ (List.mem_of_getElem? (i := 75) rfl))) (Or.inl (hw _ (List.mem_of_getElem? (i := 93) rfl))) (by decide) (t := (.array (.object "java/lang/Object"))) (t' := .int) (by decide) (by decide)))), Fw5⟩) (by decide) (by decide)
theorem ef_add11 (m : MethodId) (x0 : Addr) (x1 : Addr) : entryFrame m #[(.ref x0), (.ref x1)] 2 = mkF m 0 #[.val (.ref x0), .val (.ref x1)] [] := by first | (simp [entryFrame, mkF, argsToLocals, Value.category]; done) | rfl
set_option maxRecDepth 65536 in
set_option maxHeartbeats 40000000 in
theorem rm_add11 (l : Launch) (Z : State) (a0 : Array Value) (hw : ∀ d ∈ tables_1, d.before a0 Z = true) (a1 ax b1 x0 : Addr) (kb : ClassId) (h0 : Heap) (n0 : Nat) (Ea : Exa Z h0 a1 "java/util/ArrayList") (Fm : Fld Z h0 a1 "java/util/AbstractList" "modCount" "I" (.int (1 : Int32))) (Fe : Fld Z h0 a1 "java/util/ArrayList" "elementData" "[Ljava/lang/Object;" (.ref b1)) (Fs : Fld Z h0 a1 "java/util/ArrayList" "size" "I" (.int (1 : Int32))) (Vb : Arv Z h0 b1 kb (.object "java/lang/Object") (10 : Int32) [(.ref x0), .null, .null, .null, .null, .null, .null, .null, .null, .null] .null) (O1 : Ovr Z kb "java/lang/Object") (g_a1 : n0 ≤ a1) (g_b1 : n0 ≤ b1) (hab : a1 ≠ b1) (Ex : Exa Z h0 ax "com/example/tributary/tributary/semantics/Variable") (hxa : ax ≠ a1) (hxb : ax ≠ b1) :
    OwCon l Z (⟨"java/util/ArrayList", "add", "(Ljava/lang/Object;)Z"⟩ : MethodName) jdk_38_method_25_code 2 (some .boolean) [] ({ frames := 1, cells := 0, slots := 0, locals := 15 } : Room) #[(.ref a1), (.ref ax)] h0 (fun v h L => v = some (.int 1) ∧ Fr n0 L ∧ Keep h0 h [a1, b1] ∧ Arv Z h b1 kb (.object "java/lang/Object") (10 : Int32) [(.ref x0), (.ref ax), .null, .null, .null, .null, .null, .null, .null, .null] .null ∧ Exa Z h a1 "java/util/ArrayList" ∧ Fld Z h a1 "java/util/AbstractList" "modCount" "I" (.int (2 : Int32)) ∧ Fld Z h a1 "java/util/ArrayList" "elementData" "[Ljava/lang/Object;" (.ref b1) ∧ Fld Z h a1 "java/util/ArrayList" "size" "I" (.int (2 : Int32))) := by
  refine OwCon.of (plainFor_of_name pn_java_util_ArrayList) ?_
  intro p e s m below meth cd_ s₁ X0 hx hby hml hret hlk hown hnm hZ e0
  have N0 := Fr.nil n0
  refine GoOn.st (fun t_ k_ => castTop (ef_add11 m a1 ax) k_) ?_
  show GoOn _ _ _ _ (s₁.setTop (mkF m 0 #[.val (.ref a1), .val (.ref ax)] []))
  refine GoOn.st (fun t_ k_ => XS.aloadN X0.here hx rfl (hb hby d_jdk_38_method_25_0) rfl rfl k_) ?_
  refine GoOn.st (fun t_ k_ => XS.dup X0.here hx rfl (hb hby d_jdk_38_method_25_1) rfl rfl k_) ?_
  obtain ⟨T1, X1, e1, st1⟩ := getF X0 hx hZ hown (host := "") (Or.inl (hw _ (List.mem_of_getElem? (i := 116) rfl))) (Via.of (hw _ (List.mem_of_getElem? (i := 117) rfl))) e0 Fm (g := (mkF m 2 #[.val (.ref a1), .val (.ref ax)] [(.ref a1), (.ref a1)])) rfl rfl (hb hby d_jdk_38_method_25_2)
  refine GoOn.st st1 ?_
  refine GoOn.st (fun t_ k_ => XS.iconst X1.here hx rfl (hb hby d_jdk_38_method_25_5)  k_) ?_
  show GoOn _ _ _ _ (T1.setTop (mkF m 6 #[.val (.ref a1), .val (.ref ax)] [(.int (1 : Int32)), (.int (1 : Int32)), (.ref a1)]))
  refine GoOn.st (fun t_ k_ => XS.iadd X1.here hx rfl (hb hby d_jdk_38_method_25_6) rfl k_) ?_
  obtain ⟨T2, h2, X2, e2, W2, st2⟩ := putF X1 hx hZ hown (host := "") (Or.inl (hw _ (List.mem_of_getElem? (i := 116) rfl))) (Via.of (hw _ (List.mem_of_getElem? (i := 117) rfl))) e1 Fm Ea (Or.inl (hw _ (List.mem_of_getElem? (i := 72) rfl))) (hw _ (List.mem_of_getElem? (i := 53) rfl)) (ty := .int) (by decide) rfl rfl (g := (mkF m 7 #[.val (.ref a1), .val (.ref ax)] [(.int (2 : Int32)), (.ref a1)])) rfl rfl (hb hby d_jdk_38_method_25_7)
  have Fw2 := Fld.same W2 Fm
  have N3 := Fr.snoc X2 N0 g_a1
  refine GoOn.st st2 ?_
  refine GoOn.st (fun t_ k_ => XS.aloadN X2.here hx rfl (hb hby d_jdk_38_method_25_10) rfl rfl k_) ?_
  refine GoOn.st (fun t_ k_ => XS.aloadN X2.here hx rfl (hb hby d_jdk_38_method_25_11) rfl rfl k_) ?_
  show GoOn _ _ _ _ (T2.setTop (mkF m 12 #[.val (.ref a1), .val (.ref ax)] [(.ref ax), (.ref a1)]))
  refine GoOn.st (fun t_ k_ => XS.aloadN X2.here hx rfl (hb hby d_jdk_38_method_25_12) rfl rfl k_) ?_
  have F4 := (Fld.other W2 Fe (Or.inr (slot_ne (Or.inl (hw _ (List.mem_of_getElem? (i := 75) rfl))) (Or.inl (hw _ (List.mem_of_getElem? (i := 72) rfl))) (by decide) (t := (.array (.object "java/lang/Object"))) (t' := .int) (by decide) (by decide))))
  obtain ⟨T5, X5, e5, st5⟩ := getF X2 hx hZ hown (host := "") (Or.inl (hw _ (List.mem_of_getElem? (i := 74) rfl))) Via.refl e2 F4 (g := (mkF m 13 #[.val (.ref a1), .val (.ref ax)] [(.ref a1), (.ref ax), (.ref a1)])) rfl rfl (hb hby d_jdk_38_method_25_13)
  refine GoOn.st st5 ?_
  refine GoOn.st (fun t_ k_ => XS.aloadN X5.here hx rfl (hb hby d_jdk_38_method_25_16) rfl rfl k_) ?_
  have F6 := (Fld.other W2 Fs (Or.inr (slot_ne (Or.inl (hw _ (List.mem_of_getElem? (i := 93) rfl))) (Or.inl (hw _ (List.mem_of_getElem? (i := 72) rfl))) (by decide) (t := .int) (t' := .int) (by decide) (by decide))))
  obtain ⟨T7, X7, e7, st7⟩ := getF X5 hx hZ hown (host := "") (Or.inl (hw _ (List.mem_of_getElem? (i := 92) rfl))) Via.refl e5 F6 (g := (mkF m 17 #[.val (.ref a1), .val (.ref ax)] [(.ref a1), (.ref b1), (.ref ax), (.ref a1)])) rfl rfl (hb hby d_jdk_38_method_25_17)
  refine GoOn.st st7 ?_
  show GoOn _ _ _ _ (T7.setTop (mkF m 20 #[.val (.ref a1), .val (.ref ax)] [(.int (1 : Int32)), (.ref b1), (.ref ax), (.ref a1)]))
  have F8 := (Exa.wr W2 Ea)
  have F9 := (Arv.other Vb W2 (Ne.symm hab))
  have F10 := (Exa.wr W2 Ex)
  refine GoOn.callP (W := 0) (argsL := [(.ref ax), (.ref b1), (.int (1 : Int32))]) (rest := []) (a := a1) X7 hx hZ hown (hw _ (List.mem_of_getElem? (i := 118) rfl)) (hw _ (List.mem_of_getElem? (i := 119) rfl)) (hw _ (List.mem_of_getElem? (i := 121) rfl)) (hw _ (List.mem_of_getElem? (i := 120) rfl)) (hw _ (List.mem_of_getElem? (i := 54) rfl)) (hw _ (List.mem_of_getElem? (i := 122) rfl)) (by decide) (rm_add31 l Z a0 hw a1 ax b1 x0 kb (2 : Int32) h2 n0 F8 Fw2 F4 F6 F9 O1 g_a1 g_b1 hab F10 hxa hxb) e7 F8.cell (by decide) (by decide) (by rw [hml]; rfl) pd_6 rfl rfl (Nat.le_of_eq rfl) (hb hby d_jdk_38_method_25_20) (by decide) (by decide) ?_
  rintro _ T11 L11 X11 ⟨rfl, N11q, K11, f11_0, f11_1, f11_2, f11_3, f11_4⟩
  have N11 := Fr.app N3 N11q
  refine GoOn.st (fun t_ k_ => XS.iconst X11.here hx rfl (hb hby d_jdk_38_method_25_23)  k_) ?_
  show GoOn _ _ _ _ (T11.setTop (mkF m 24 #[.val (.ref a1), .val (.ref ax)] [(.int (1 : Int32))]))
  exact GoOn.retZ X11 hx hlk hret (by simp) rfl (hb hby d_jdk_38_method_25_24) ⟨rfl, N11, (((Keep.refl h0 [a1, b1]).wr W2 (Or.inl (List.mem_of_getElem? (i := 0) rfl))).trans K11 (allS (Or.inl (List.mem_of_getElem? (i := 0) rfl)) (allS (Or.inl (List.mem_of_getElem? (i := 1) rfl)) all0))), f11_0, f11_1, f11_2, f11_3, f11_4⟩ (by decide) (by decide)
theorem ef_add32 (m : MethodId) (x0 : Addr) (x1 : Addr) (x2 : Addr) (x3 : Int32) : entryFrame m #[(.ref x0), (.ref x1), (.ref x2), (.int x3)] 4 = mkF m 0 #[.val (.ref x0), .val (.ref x1), .val (.ref x2), .val (.int x3)] [] := by first | (simp [entryFrame, mkF, argsToLocals, Value.category]; done) | rfl
set_option maxRecDepth 65536 in
set_option maxHeartbeats 40000000 in
theorem rm_add32 (l : Launch) (Z : State) (a0 : Array Value) (hw : ∀ d ∈ tables_1, d.before a0 Z = true) (a1 ax b1 x0 x1 : Addr) (kb : ClassId) (mc : Int32) (h0 : Heap) (n0 : Nat) (Ea : Exa Z h0 a1 "java/util/ArrayList") (Fm : Fld Z h0 a1 "java/util/AbstractList" "modCount" "I" (.int mc)) (Fe : Fld Z h0 a1 "java/util/ArrayList" "elementData" "[Ljava/lang/Object;" (.ref b1)) (Fs : Fld Z h0 a1 "java/util/ArrayList" "size" "I" (.int (2 : Int32))) (Vb : Arv Z h0 b1 kb (.object "java/lang/Object") (10 : Int32) [(.ref x0), (.ref x1), .null, .null, .null, .null, .null, .null, .null, .null] .null) (O1 : Ovr Z kb "java/lang/Object") (g_a1 : n0 ≤ a1) (g_b1 : n0 ≤ b1) (hab : a1 ≠ b1) (Ex : Exa Z h0 ax "com/example/tributary/tributary/semantics/Variable") (hxa : ax ≠ a1) (hxb : ax ≠ b1) :
    OwCon l Z (⟨"java/util/ArrayList", "add", "(Ljava/lang/Object;[Ljava/lang/Object;I)V"⟩ : MethodName) jdk_38_method_24_code 4 none [] ({ frames := 0, cells := 0, slots := 0, locals := 0 } : Room) #[(.ref a1), (.ref ax), (.ref b1), (.int (2 : Int32))] h0 (fun v h L => v = none ∧ Fr n0 L ∧ Keep h0 h [a1, b1] ∧ Arv Z h b1 kb (.object "java/lang/Object") (10 : Int32) [(.ref x0), (.ref x1), (.ref ax), .null, .null, .null, .null, .null, .null, .null] .null ∧ Exa Z h a1 "java/util/ArrayList" ∧ Fld Z h a1 "java/util/AbstractList" "modCount" "I" (.int mc) ∧ Fld Z h a1 "java/util/ArrayList" "elementData" "[Ljava/lang/Object;" (.ref b1) ∧ Fld Z h a1 "java/util/ArrayList" "size" "I" (.int (3 : Int32))) := by
  refine OwCon.of (plainFor_of_name pn_java_util_ArrayList) ?_
  intro p e s m below meth cd_ s₁ X0 hx hby hml hret hlk hown hnm hZ e0
  have N0 := Fr.nil n0
  refine GoOn.st (fun t_ k_ => castTop (ef_add32 m a1 ax b1 (2 : Int32)) k_) ?_
  show GoOn _ _ _ _ (s₁.setTop (mkF m 0 #[.val (.ref a1), .val (.ref ax), .val (.ref b1), .val (.int (2 : Int32))] []))
  refine GoOn.st (fun t_ k_ => XS.iloadN X0.here hx rfl (hb hby d_jdk_38_method_24_0) rfl k_) ?_
  refine GoOn.st (fun t_ k_ => XS.aloadN X0.here hx rfl (hb hby d_jdk_38_method_24_1) rfl rfl k_) ?_
  refine GoOn.st (fun t_ k_ => own_arrlen X0 hx hZ e0 Vb (hb hby d_jdk_38_method_24_2) _ k_) ?_
  refine GoOn.st (fun t_ k_ => XS.icmpYes X0.here hx rfl (pc0 := 3) (pc' := 11) rfl (hb hby d_jdk_38_method_24_3) rfl (feq (by decide : ¬ ((2 : Int32) = (10 : Int32)))).2 (by decide) (by decide) k_) ?_
  show GoOn _ _ _ _ (s₁.setTop (mkF m 11 #[.val (.ref a1), .val (.ref ax), .val (.ref b1), .val (.int (2 : Int32))] []))
  refine GoOn.st (fun t_ k_ => XS.aloadN X0.here hx rfl (hb hby d_jdk_38_method_24_11) rfl rfl k_) ?_
  refine GoOn.st (fun t_ k_ => XS.iloadN X0.here hx rfl (hb hby d_jdk_38_method_24_12) rfl k_) ?_
  refine GoOn.st (fun t_ k_ => XS.aloadN X0.here hx rfl (hb hby d_jdk_38_method_24_13) rfl rfl k_) ?_
  obtain ⟨T1, h1, X1, e1, W1, V1, st1⟩ := own_aastore X0 hx hZ e0 Vb rfl rfl O1 (Ins.of_exa Ex (hw _ (List.mem_of_getElem? (i := 136) rfl))) (j := (2 : Int32)) (by decide) 2 (by decide) (show 2 < _ from (by decide : 2 < 10)) (Ls := #[.val (.ref a1), .val (.ref ax), .val (.ref b1), .val (.int (2 : Int32))]) (rest := []) (hb hby d_jdk_38_method_24_14)
  replace V1 : Arv Z h1 b1 kb (.object "java/lang/Object") (10 : Int32) [(.ref x0), (.ref x1), (.ref ax), .null, .null, .null, .null, .null, .null, .null] .null := V1
  have N2 := Fr.snoc X1 N0 g_b1
  refine GoOn.st st1 ?_
  show GoOn _ _ _ _ (T1.setTop (mkF m 15 #[.val (.ref a1), .val (.ref ax), .val (.ref b1), .val (.int (2 : Int32))] []))
  refine GoOn.st (fun t_ k_ => XS.aloadN X1.here hx rfl (hb hby d_jdk_38_method_24_15) rfl rfl k_) ?_
  refine GoOn.st (fun t_ k_ => XS.iloadN X1.here hx rfl (hb hby d_jdk_38_method_24_16) rfl k_) ?_
  refine GoOn.st (fun t_ k_ => XS.iconst X1.here hx rfl (hb hby d_jdk_38_method_24_17)  k_) ?_
  refine GoOn.st (fun t_ k_ => XS.iadd X1.here hx rfl (hb hby d_jdk_38_method_24_18) rfl k_) ?_
  show GoOn _ _ _ _ (T1.setTop (mkF m 19 #[.val (.ref a1), .val (.ref ax), .val (.ref b1), .val (.int (2 : Int32))] [(.int (3 : Int32)), (.ref a1)]))
  have F3 := (Exa.wr W1 Ea)
  have F4 := (Fld.other W1 Fs (Or.inl hab))
  obtain ⟨T5, h5, X5, e5, W5, st5⟩ := putF X1 hx hZ hown (host := "") (Or.inl (hw _ (List.mem_of_getElem? (i := 92) rfl))) Via.refl e1 F4 F3 (Or.inl (hw _ (List.mem_of_getElem? (i := 93) rfl))) (hw _ (List.mem_of_getElem? (i := 53) rfl)) (ty := .int) (by decide) rfl rfl (g := (mkF m 19 #[.val (.ref a1), .val (.ref ax), .val (.ref b1), .val (.int (2 : Int32))] [(.int (3 : Int32)), (.ref a1)])) rfl rfl (hb hby d_jdk_38_method_24_19)
  have Fw5 := Fld.same W5 F4
  have N6 := Fr.snoc X5 N2 g_a1
  refine GoOn.st st5 ?_
  show GoOn _ _ _ _ (T5.setTop (mkF m 22 #[.val (.ref a1), .val (.ref ax), .val (.ref b1), .val (.int (2 : Int32))] []))
  exact GoOn.retV X5 hx hlk hret (hb hby d_jdk_38_method_24_22) (by rw [e5]; exact ⟨rfl, N6, (((Keep.refl h0 [a1, b1]).wr W1 (Or.inl (List.mem_of_getElem? (i := 1) rfl))).wr W5 (Or.inl (List.mem_of_getElem? (i := 0) rfl))), (Arv.other V1 W5 (Ne.symm hab)), (Exa.wr W5 F3), (Fld.other W5 (Fld.other W1 Fm (Or.inl hab)) (Or.inr (slot_ne (Or.inl (hw _ (List.mem_of_getElem? (i := 72) rfl))) (Or.inl (hw _ (List.mem_of_getElem? (i := 93) rfl))) (by decide) (t := .int) (t' := .int) (by decide) (by decide)))), (Fld.other W5 (Fld.other W1 Fe (Or.inl hab)) (Or.inr (slot_ne (Or.inl (hw _ (List.mem_of_getElem? (i := 75) rfl))) (Or.inl (hw _ (List.mem_of_getElem? (i := 93) rfl))) (by decide) (t := (.array (.object "java/lang/Object"))) (t' := .int) (by decide) (by decide)))), Fw5⟩) (by decide) (by decide)
theorem ef_add12 (m : MethodId) (x0 : Addr) (x1 : Addr) : entryFrame m #[(.ref x0), (.ref x1)] 2 = mkF m 0 #[.val (.ref x0), .val (.ref x1)] [] := by first | (simp [entryFrame, mkF, argsToLocals, Value.category]; done) | rfl
set_option maxRecDepth 65536 in
set_option maxHeartbeats 40000000 in
theorem rm_add12 (l : Launch) (Z : State) (a0 : Array Value) (hw : ∀ d ∈ tables_1, d.before a0 Z = true) (a1 ax b1 x0 x1 : Addr) (kb : ClassId) (h0 : Heap) (n0 : Nat) (Ea : Exa Z h0 a1 "java/util/ArrayList") (Fm : Fld Z h0 a1 "java/util/AbstractList" "modCount" "I" (.int (2 : Int32))) (Fe : Fld Z h0 a1 "java/util/ArrayList" "elementData" "[Ljava/lang/Object;" (.ref b1)) (Fs : Fld Z h0 a1 "java/util/ArrayList" "size" "I" (.int (2 : Int32))) (Vb : Arv Z h0 b1 kb (.object "java/lang/Object") (10 : Int32) [(.ref x0), (.ref x1), .null, .null, .null, .null, .null, .null, .null, .null] .null) (O1 : Ovr Z kb "java/lang/Object") (g_a1 : n0 ≤ a1) (g_b1 : n0 ≤ b1) (hab : a1 ≠ b1) (Ex : Exa Z h0 ax "com/example/tributary/tributary/semantics/Variable") (hxa : ax ≠ a1) (hxb : ax ≠ b1) :
    OwCon l Z (⟨"java/util/ArrayList", "add", "(Ljava/lang/Object;)Z"⟩ : MethodName) jdk_38_method_25_code 2 (some .boolean) [] ({ frames := 1, cells := 0, slots := 0, locals := 15 } : Room) #[(.ref a1), (.ref ax)] h0 (fun v h L => v = some (.int 1) ∧ Fr n0 L ∧ Keep h0 h [a1, b1] ∧ Arv Z h b1 kb (.object "java/lang/Object") (10 : Int32) [(.ref x0), (.ref x1), (.ref ax), .null, .null, .null, .null, .null, .null, .null] .null ∧ Exa Z h a1 "java/util/ArrayList" ∧ Fld Z h a1 "java/util/AbstractList" "modCount" "I" (.int (3 : Int32)) ∧ Fld Z h a1 "java/util/ArrayList" "elementData" "[Ljava/lang/Object;" (.ref b1) ∧ Fld Z h a1 "java/util/ArrayList" "size" "I" (.int (3 : Int32))) := by
  refine OwCon.of (plainFor_of_name pn_java_util_ArrayList) ?_
  intro p e s m below meth cd_ s₁ X0 hx hby hml hret hlk hown hnm hZ e0
  have N0 := Fr.nil n0
  refine GoOn.st (fun t_ k_ => castTop (ef_add12 m a1 ax) k_) ?_
  show GoOn _ _ _ _ (s₁.setTop (mkF m 0 #[.val (.ref a1), .val (.ref ax)] []))
  refine GoOn.st (fun t_ k_ => XS.aloadN X0.here hx rfl (hb hby d_jdk_38_method_25_0) rfl rfl k_) ?_
  refine GoOn.st (fun t_ k_ => XS.dup X0.here hx rfl (hb hby d_jdk_38_method_25_1) rfl rfl k_) ?_
  obtain ⟨T1, X1, e1, st1⟩ := getF X0 hx hZ hown (host := "") (Or.inl (hw _ (List.mem_of_getElem? (i := 116) rfl))) (Via.of (hw _ (List.mem_of_getElem? (i := 117) rfl))) e0 Fm (g := (mkF m 2 #[.val (.ref a1), .val (.ref ax)] [(.ref a1), (.ref a1)])) rfl rfl (hb hby d_jdk_38_method_25_2)
  refine GoOn.st st1 ?_
  refine GoOn.st (fun t_ k_ => XS.iconst X1.here hx rfl (hb hby d_jdk_38_method_25_5)  k_) ?_
  show GoOn _ _ _ _ (T1.setTop (mkF m 6 #[.val (.ref a1), .val (.ref ax)] [(.int (1 : Int32)), (.int (2 : Int32)), (.ref a1)]))
  refine GoOn.st (fun t_ k_ => XS.iadd X1.here hx rfl (hb hby d_jdk_38_method_25_6) rfl k_) ?_
  obtain ⟨T2, h2, X2, e2, W2, st2⟩ := putF X1 hx hZ hown (host := "") (Or.inl (hw _ (List.mem_of_getElem? (i := 116) rfl))) (Via.of (hw _ (List.mem_of_getElem? (i := 117) rfl))) e1 Fm Ea (Or.inl (hw _ (List.mem_of_getElem? (i := 72) rfl))) (hw _ (List.mem_of_getElem? (i := 53) rfl)) (ty := .int) (by decide) rfl rfl (g := (mkF m 7 #[.val (.ref a1), .val (.ref ax)] [(.int (3 : Int32)), (.ref a1)])) rfl rfl (hb hby d_jdk_38_method_25_7)
  have Fw2 := Fld.same W2 Fm
  have N3 := Fr.snoc X2 N0 g_a1
  refine GoOn.st st2 ?_
  refine GoOn.st (fun t_ k_ => XS.aloadN X2.here hx rfl (hb hby d_jdk_38_method_25_10) rfl rfl k_) ?_
  refine GoOn.st (fun t_ k_ => XS.aloadN X2.here hx rfl (hb hby d_jdk_38_method_25_11) rfl rfl k_) ?_
  show GoOn _ _ _ _ (T2.setTop (mkF m 12 #[.val (.ref a1), .val (.ref ax)] [(.ref ax), (.ref a1)]))
  refine GoOn.st (fun t_ k_ => XS.aloadN X2.here hx rfl (hb hby d_jdk_38_method_25_12) rfl rfl k_) ?_
  have F4 := (Fld.other W2 Fe (Or.inr (slot_ne (Or.inl (hw _ (List.mem_of_getElem? (i := 75) rfl))) (Or.inl (hw _ (List.mem_of_getElem? (i := 72) rfl))) (by decide) (t := (.array (.object "java/lang/Object"))) (t' := .int) (by decide) (by decide))))
  obtain ⟨T5, X5, e5, st5⟩ := getF X2 hx hZ hown (host := "") (Or.inl (hw _ (List.mem_of_getElem? (i := 74) rfl))) Via.refl e2 F4 (g := (mkF m 13 #[.val (.ref a1), .val (.ref ax)] [(.ref a1), (.ref ax), (.ref a1)])) rfl rfl (hb hby d_jdk_38_method_25_13)
  refine GoOn.st st5 ?_
  refine GoOn.st (fun t_ k_ => XS.aloadN X5.here hx rfl (hb hby d_jdk_38_method_25_16) rfl rfl k_) ?_
  have F6 := (Fld.other W2 Fs (Or.inr (slot_ne (Or.inl (hw _ (List.mem_of_getElem? (i := 93) rfl))) (Or.inl (hw _ (List.mem_of_getElem? (i := 72) rfl))) (by decide) (t := .int) (t' := .int) (by decide) (by decide))))
  obtain ⟨T7, X7, e7, st7⟩ := getF X5 hx hZ hown (host := "") (Or.inl (hw _ (List.mem_of_getElem? (i := 92) rfl))) Via.refl e5 F6 (g := (mkF m 17 #[.val (.ref a1), .val (.ref ax)] [(.ref a1), (.ref b1), (.ref ax), (.ref a1)])) rfl rfl (hb hby d_jdk_38_method_25_17)
  refine GoOn.st st7 ?_
  show GoOn _ _ _ _ (T7.setTop (mkF m 20 #[.val (.ref a1), .val (.ref ax)] [(.int (2 : Int32)), (.ref b1), (.ref ax), (.ref a1)]))
  have F8 := (Exa.wr W2 Ea)
  have F9 := (Arv.other Vb W2 (Ne.symm hab))
  have F10 := (Exa.wr W2 Ex)
  refine GoOn.callP (W := 0) (argsL := [(.ref ax), (.ref b1), (.int (2 : Int32))]) (rest := []) (a := a1) X7 hx hZ hown (hw _ (List.mem_of_getElem? (i := 118) rfl)) (hw _ (List.mem_of_getElem? (i := 119) rfl)) (hw _ (List.mem_of_getElem? (i := 121) rfl)) (hw _ (List.mem_of_getElem? (i := 120) rfl)) (hw _ (List.mem_of_getElem? (i := 54) rfl)) (hw _ (List.mem_of_getElem? (i := 122) rfl)) (by decide) (rm_add32 l Z a0 hw a1 ax b1 x0 x1 kb (3 : Int32) h2 n0 F8 Fw2 F4 F6 F9 O1 g_a1 g_b1 hab F10 hxa hxb) e7 F8.cell (by decide) (by decide) (by rw [hml]; rfl) pd_6 rfl rfl (Nat.le_of_eq rfl) (hb hby d_jdk_38_method_25_20) (by decide) (by decide) ?_
  rintro _ T11 L11 X11 ⟨rfl, N11q, K11, f11_0, f11_1, f11_2, f11_3, f11_4⟩
  have N11 := Fr.app N3 N11q
  refine GoOn.st (fun t_ k_ => XS.iconst X11.here hx rfl (hb hby d_jdk_38_method_25_23)  k_) ?_
  show GoOn _ _ _ _ (T11.setTop (mkF m 24 #[.val (.ref a1), .val (.ref ax)] [(.int (1 : Int32))]))
  exact GoOn.retZ X11 hx hlk hret (by simp) rfl (hb hby d_jdk_38_method_25_24) ⟨rfl, N11, (((Keep.refl h0 [a1, b1]).wr W2 (Or.inl (List.mem_of_getElem? (i := 0) rfl))).trans K11 (allS (Or.inl (List.mem_of_getElem? (i := 0) rfl)) (allS (Or.inl (List.mem_of_getElem? (i := 1) rfl)) all0))), f11_0, f11_1, f11_2, f11_3, f11_4⟩ (by decide) (by decide)
theorem ef_size (m : MethodId) (x0 : Addr) : entryFrame m #[(.ref x0)] 1 = mkF m 0 #[.val (.ref x0)] [] := by first | (simp [entryFrame, mkF, argsToLocals, Value.category]; done) | rfl
theorem d_jdk_38_method_8_0 : decode jdk_38_method_8_code 0 = .ok (.aload_n 0, 1) := by decide +kernel
theorem d_jdk_38_method_8_1 : decode jdk_38_method_8_code 1 = .ok (.getfield 48, 3) := by decide +kernel
theorem d_jdk_38_method_8_4 : decode jdk_38_method_8_code 4 = .ok (.ireturn, 1) := by decide +kernel
set_option maxRecDepth 65536 in
set_option maxHeartbeats 40000000 in
theorem rm_size (l : Launch) (Z : State) (a0 : Array Value) (hw : ∀ d ∈ tables_1, d.before a0 Z = true) (a1 : Addr) (p1 : Int32) (h0 : Heap) (Fs : Fld Z h0 a1 "java/util/ArrayList" "size" "I" (.int p1)) :
    OwCon l Z (⟨"java/util/ArrayList", "size", "()I"⟩ : MethodName) jdk_38_method_8_code 1 (some .int) [] ({ frames := 0, cells := 0, slots := 0, locals := 0 } : Room) #[(.ref a1)] h0 (OwRet (some (.int p1)) h0) := by
  refine OwCon.of (plainFor_of_name pn_java_util_ArrayList) ?_
  intro p e s m below meth cd_ s₁ X0 hx hby hml hret hlk hown hnm hZ e0
  refine GoOn.st (fun t_ k_ => castTop (ef_size m a1) k_) ?_
  show GoOn _ _ _ _ (s₁.setTop (mkF m 0 #[.val (.ref a1)] []))
  refine GoOn.st (fun t_ k_ => XS.aloadN X0.here hx rfl (hb hby d_jdk_38_method_8_0) rfl rfl k_) ?_
  obtain ⟨T1, X1, e1, st1⟩ := getF X0 hx hZ hown (host := "") (Or.inl (hw _ (List.mem_of_getElem? (i := 92) rfl))) Via.refl e0 Fs (g := (mkF m 1 #[.val (.ref a1)] [(.ref a1)])) rfl rfl (hb hby d_jdk_38_method_8_1)
  refine GoOn.st st1 ?_
  show GoOn _ _ _ _ (T1.setTop (mkF m 4 #[.val (.ref a1)] [(.int p1)]))
  exact GoOn.retI X1 hx hlk hret (hb hby d_jdk_38_method_8_4) (by rw [e1]; exact ⟨rfl, rfl, rfl⟩) (by decide) (by decide)
theorem ef_pchk (m : MethodId) (x0 : Int32) (x1 : Int32) : entryFrame m #[(.int x0), (.int x1), .null] 3 = mkF m 0 #[.val (.int x0), .val (.int x1), .val .null] [] := by first | (simp [entryFrame, mkF, argsToLocals, Value.category]; done) | rfl
theorem pn_jdk_internal_util_Preconditions : plainName "jdk/internal/util/Preconditions" = true := by first | (simp [plainName, overriddenIn]; done) | decide +kernel
theorem d_jdk_41_method_11_0 : decode jdk_41_method_11_code 0 = .ok (.iload_n 0, 1) := by decide +kernel
theorem d_jdk_41_method_11_1 : decode jdk_41_method_11_code 1 = .ok (.ifCond .lt 8, 3) := by decide +kernel
theorem d_jdk_41_method_11_4 : decode jdk_41_method_11_code 4 = .ok (.iload_n 0, 1) := by decide +kernel
theorem d_jdk_41_method_11_5 : decode jdk_41_method_11_code 5 = .ok (.iload_n 1, 1) := by decide +kernel
theorem d_jdk_41_method_11_6 : decode jdk_41_method_11_code 6 = .ok (.if_icmp .lt 10, 3) := by decide +kernel
theorem d_jdk_41_method_11_16 : decode jdk_41_method_11_code 16 = .ok (.iload_n 0, 1) := by decide +kernel
theorem d_jdk_41_method_11_17 : decode jdk_41_method_11_code 17 = .ok (.ireturn, 1) := by decide +kernel
set_option maxRecDepth 65536 in
set_option maxHeartbeats 40000000 in
theorem rm_pchk (l : Launch) (Z : State) (a0 : Array Value) (hw : ∀ d ∈ tables_1, d.before a0 Z = true) (p1 p2 : Int32) (h0 : Heap) (h1 : ¬ p1 < 0) (h2 : p1 < p2) :
    OwCon l Z (⟨"jdk/internal/util/Preconditions", "checkIndex", "(IILjava/util/function/BiFunction;)I"⟩ : MethodName) jdk_41_method_11_code 3 (some .int) [] ({ frames := 0, cells := 0, slots := 0, locals := 0 } : Room) #[(.int p1), (.int p2), .null] h0 (OwRet (some (.int p1)) h0) := by
  refine OwCon.of (plainFor_of_name pn_jdk_internal_util_Preconditions) ?_
  intro p e s m below meth cd_ s₁ X0 hx hby hml hret hlk hown hnm hZ e0
  refine GoOn.st (fun t_ k_ => castTop (ef_pchk m p1 p2) k_) ?_
  show GoOn _ _ _ _ (s₁.setTop (mkF m 0 #[.val (.int p1), .val (.int p2), .val .null] []))
  refine GoOn.st (fun t_ k_ => XS.iloadN X0.here hx rfl (hb hby d_jdk_41_method_11_0) rfl k_) ?_
  refine GoOn.st (fun t_ k_ => XS.ifNo X0.here hx rfl (hb hby d_jdk_41_method_11_1) rfl ((if0 _ _).trans (flt h1).1) k_) ?_
  refine GoOn.st (fun t_ k_ => XS.iloadN X0.here hx rfl (hb hby d_jdk_41_method_11_4) rfl k_) ?_
  refine GoOn.st (fun t_ k_ => XS.iloadN X0.here hx rfl (hb hby d_jdk_41_method_11_5) rfl k_) ?_
  show GoOn _ _ _ _ (s₁.setTop (mkF m 6 #[.val (.int p1), .val (.int p2), .val .null] [(.int p2), (.int p1)]))
  refine GoOn.st (fun t_ k_ => XS.icmpYes X0.here hx rfl (pc0 := 6) (pc' := 16) rfl (hb hby d_jdk_41_method_11_6) rfl (tlt h2).1 (by decide) (by decide) k_) ?_
  refine GoOn.st (fun t_ k_ => XS.iloadN X0.here hx rfl (hb hby d_jdk_41_method_11_16) rfl k_) ?_
  show GoOn _ _ _ _ (s₁.setTop (mkF m 17 #[.val (.int p1), .val (.int p2), .val .null] [(.int p1)]))
  exact GoOn.retI X0 hx hlk hret (hb hby d_jdk_41_method_11_17) (by rw [e0]; exact ⟨rfl, rfl, rfl⟩) (by decide) (by decide)
theorem ef_ochk (m : MethodId) (x0 : Int32) (x1 : Int32) : entryFrame m #[(.int x0), (.int x1)] 2 = mkF m 0 #[.val (.int x0), .val (.int x1)] [] := by first | (simp [entryFrame, mkF, argsToLocals, Value.category]; done) | rfl
theorem pn_java_util_Objects : plainName "java/util/Objects" = true := by first | (simp [plainName, overriddenIn]; done) | decide +kernel
theorem d_jdk_31_method_17_0 : decode jdk_31_method_17_code 0 = .ok (.iload_n 0, 1) := by decide +kernel
theorem d_jdk_31_method_17_1 : decode jdk_31_method_17_code 1 = .ok (.iload_n 1, 1) := by decide +kernel
theorem d_jdk_31_method_17_2 : decode jdk_31_method_17_code 2 = .ok (.aconst_null, 1) := by decide +kernel
theorem pd_7 : parseMethodDescriptor "(IILjava/util/function/BiFunction;)I" = some ⟨[.int, .int, (.object "java/util/function/BiFunction")], some .int⟩ := by decide +kernel
theorem d_jdk_31_method_17_3 : decode jdk_31_method_17_code 3 = .ok (.invokestatic 105, 3) := by decide +kernel
theorem d_jdk_31_method_17_6 : decode jdk_31_method_17_code 6 = .ok (.ireturn, 1) := by decide +kernel
set_option maxRecDepth 65536 in
set_option maxHeartbeats 40000000 in
theorem rm_ochk (l : Launch) (Z : State) (a0 : Array Value) (hw : ∀ d ∈ tables_1, d.before a0 Z = true) (p1 p2 : Int32) (h0 : Heap) (h1 : ¬ p1 < 0) (h2 : p1 < p2) :
    OwCon l Z (⟨"java/util/Objects", "checkIndex", "(II)I"⟩ : MethodName) jdk_31_method_17_code 2 (some .int) [] ({ frames := 1, cells := 0, slots := 0, locals := 14 } : Room) #[(.int p1), (.int p2)] h0 (OwRet (some (.int p1)) h0) := by
  refine OwCon.of (plainFor_of_name pn_java_util_Objects) ?_
  intro p e s m below meth cd_ s₁ X0 hx hby hml hret hlk hown hnm hZ e0
  refine GoOn.st (fun t_ k_ => castTop (ef_ochk m p1 p2) k_) ?_
  show GoOn _ _ _ _ (s₁.setTop (mkF m 0 #[.val (.int p1), .val (.int p2)] []))
  refine GoOn.st (fun t_ k_ => XS.iloadN X0.here hx rfl (hb hby d_jdk_31_method_17_0) rfl k_) ?_
  refine GoOn.st (fun t_ k_ => XS.iloadN X0.here hx rfl (hb hby d_jdk_31_method_17_1) rfl k_) ?_
  refine GoOn.st (fun t_ k_ => XS.aconstNull X0.here hx rfl (hb hby d_jdk_31_method_17_2)  k_) ?_
  show GoOn _ _ _ _ (s₁.setTop (mkF m 3 #[.val (.int p1), .val (.int p2)] [.null, (.int p2), (.int p1)]))
  refine GoOn.callS (W := 0) (argsL := [(.int p1), (.int p2), .null]) (rest := []) X0 hx hZ hown (hw _ (List.mem_of_getElem? (i := 149) rfl)) (hw _ (List.mem_of_getElem? (i := 150) rfl)) (hw _ (List.mem_of_getElem? (i := 151) rfl)) (hw _ (List.mem_of_getElem? (i := 152) rfl)) (by decide) (rm_pchk l Z a0 hw p1 p2 h0 h1 h2) e0 (by decide) (by decide) (by rw [hml]; rfl) pd_7 rfl rfl (Nat.le_of_eq rfl) (hb hby d_jdk_31_method_17_3) (by decide) (by decide) ?_
  rintro _ T1 L1 X1 ⟨rfl, rfl, e1⟩
  rw [List.append_nil] at X1
  show GoOn _ _ _ _ (T1.setTop (mkF m 6 #[.val (.int p1), .val (.int p2)] [(.int p1)]))
  exact GoOn.retI X1 hx hlk hret (hb hby d_jdk_31_method_17_6) (by rw [e1]; exact ⟨rfl, rfl, rfl⟩) (by decide) (by decide)
theorem ef_eld (m : MethodId) (x0 : Addr) (x1 : Int32) : entryFrame m #[(.ref x0), (.int x1)] 2 = mkF m 0 #[.val (.ref x0), .val (.int x1)] [] := by first | (simp [entryFrame, mkF, argsToLocals, Value.category]; done) | rfl
theorem d_jdk_38_method_18_0 : decode jdk_38_method_18_code 0 = .ok (.aload_n 0, 1) := by decide +kernel
theorem d_jdk_38_method_18_1 : decode jdk_38_method_18_code 1 = .ok (.getfield 9, 3) := by decide +kernel
theorem d_jdk_38_method_18_4 : decode jdk_38_method_18_code 4 = .ok (.iload_n 1, 1) := by decide +kernel
theorem d_jdk_38_method_18_5 : decode jdk_38_method_18_code 5 = .ok (.aaload, 1) := by decide +kernel
theorem d_jdk_38_method_18_6 : decode jdk_38_method_18_code 6 = .ok (.areturn, 1) := by decide +kernel
set_option maxRecDepth 65536 in
set_option maxHeartbeats 40000000 in
theorem rm_eld (l : Launch) (Z : State) (a0 : Array Value) (hw : ∀ d ∈ tables_1, d.before a0 Z = true) (a1 b1 ax : Addr) (kb : ClassId) (vs : List Value) (p1 : Int32) (h0 : Heap) (Fe : Fld Z h0 a1 "java/util/ArrayList" "elementData" "[Ljava/lang/Object;" (.ref b1)) (Vb : Arv Z h0 b1 kb (.object "java/lang/Object") (10 : Int32) vs .null) (h3 : p1 < (10 : Int32)) (hv : vs.getD p1.toNatClampNeg .null = .ref ax) (h1 : ¬ p1 < 0) :
    OwCon l Z (⟨"java/util/ArrayList", "elementData", "(I)Ljava/lang/Object;"⟩ : MethodName) jdk_38_method_18_code 2 (some (.object "java/lang/Object")) [] ({ frames := 0, cells := 0, slots := 0, locals := 0 } : Room) #[(.ref a1), (.int p1)] h0 (OwRet (some (.ref ax)) h0) := by
  refine OwCon.of (plainFor_of_name pn_java_util_ArrayList) ?_
  intro p e s m below meth cd_ s₁ X0 hx hby hml hret hlk hown hnm hZ e0
  refine GoOn.st (fun t_ k_ => castTop (ef_eld m a1 p1) k_) ?_
  show GoOn _ _ _ _ (s₁.setTop (mkF m 0 #[.val (.ref a1), .val (.int p1)] []))
  refine GoOn.st (fun t_ k_ => XS.aloadN X0.here hx rfl (hb hby d_jdk_38_method_18_0) rfl rfl k_) ?_
  obtain ⟨T1, X1, e1, st1⟩ := getF X0 hx hZ hown (host := "") (Or.inl (hw _ (List.mem_of_getElem? (i := 74) rfl))) Via.refl e0 Fe (g := (mkF m 1 #[.val (.ref a1), .val (.int p1)] [(.ref a1)])) rfl rfl (hb hby d_jdk_38_method_18_1)
  refine GoOn.st st1 ?_
  refine GoOn.st (fun t_ k_ => XS.iloadN X1.here hx rfl (hb hby d_jdk_38_method_18_4) rfl k_) ?_
  refine GoOn.st (fun t_ k_ => own_aaload X1 hx hZ e1 Vb rfl (j := p1) ⟨h1, h3⟩ (v := (.ref ax)) hv (hb hby d_jdk_38_method_18_5) _ k_) ?_
  show GoOn _ _ _ _ (T1.setTop (mkF m 6 #[.val (.ref a1), .val (.int p1)] [(.ref ax)]))
  exact GoOn.retA X1 hx hlk hret rfl rfl rfl (hb hby d_jdk_38_method_18_6) (by rw [e1]; exact ⟨rfl, rfl, rfl⟩) (by decide) (by decide)
theorem ef_get (m : MethodId) (x0 : Addr) (x1 : Int32) : entryFrame m #[(.ref x0), (.int x1)] 2 = mkF m 0 #[.val (.ref x0), .val (.int x1)] [] := by first | (simp [entryFrame, mkF, argsToLocals, Value.category]; done) | rfl
theorem d_jdk_38_method_20_0 : decode jdk_38_method_20_code 0 = .ok (.iload_n 1, 1) := by decide +kernel
theorem d_jdk_38_method_20_1 : decode jdk_38_method_20_code 1 = .ok (.aload_n 0, 1) := by decide +kernel
theorem d_jdk_38_method_20_2 : decode jdk_38_method_20_code 2 = .ok (.getfield 48, 3) := by decide +kernel
theorem d_jdk_38_method_20_5 : decode jdk_38_method_20_code 5 = .ok (.invokestatic 118, 3) := by decide +kernel
theorem d_jdk_38_method_20_8 : decode jdk_38_method_20_code 8 = .ok (.pop, 1) := by decide +kernel
theorem d_jdk_38_method_20_9 : decode jdk_38_method_20_code 9 = .ok (.aload_n 0, 1) := by decide +kernel
theorem d_jdk_38_method_20_10 : decode jdk_38_method_20_code 10 = .ok (.iload_n 1, 1) := by decide +kernel
theorem pd_8 : parseMethodDescriptor "(I)Ljava/lang/Object;" = some ⟨[.int], some (.object "java/lang/Object")⟩ := by decide +kernel
theorem d_jdk_38_method_20_11 : decode jdk_38_method_20_code 11 = .ok (.invokevirtual 123, 3) := by decide +kernel
theorem d_jdk_38_method_20_14 : decode jdk_38_method_20_code 14 = .ok (.areturn, 1) := by decide +kernel
set_option maxRecDepth 65536 in
set_option maxHeartbeats 40000000 in
theorem rm_get (l : Launch) (Z : State) (a0 : Array Value) (hw : ∀ d ∈ tables_1, d.before a0 Z = true) (a1 b1 ax : Addr) (kb : ClassId) (vs : List Value) (p1 p2 : Int32) (h0 : Heap) (Ea : Exa Z h0 a1 "java/util/ArrayList") (Fe : Fld Z h0 a1 "java/util/ArrayList" "elementData" "[Ljava/lang/Object;" (.ref b1)) (Fs : Fld Z h0 a1 "java/util/ArrayList" "size" "I" (.int p2)) (Vb : Arv Z h0 b1 kb (.object "java/lang/Object") (10 : Int32) vs .null) (h3 : p1 < (10 : Int32)) (hv : vs.getD p1.toNatClampNeg .null = .ref ax) (h1 : ¬ p1 < 0) (h2 : p1 < p2) :
    OwCon l Z (⟨"java/util/ArrayList", "get", "(I)Ljava/lang/Object;"⟩ : MethodName) jdk_38_method_20_code 2 (some (.object "java/lang/Object")) [] ({ frames := 2, cells := 0, slots := 0, locals := 27 } : Room) #[(.ref a1), (.int p1)] h0 (OwRet (some (.ref ax)) h0) := by
  refine OwCon.of (plainFor_of_name pn_java_util_ArrayList) ?_
  intro p e s m below meth cd_ s₁ X0 hx hby hml hret hlk hown hnm hZ e0
  refine GoOn.st (fun t_ k_ => castTop (ef_get m a1 p1) k_) ?_
  show GoOn _ _ _ _ (s₁.setTop (mkF m 0 #[.val (.ref a1), .val (.int p1)] []))
  refine GoOn.st (fun t_ k_ => XS.iloadN X0.here hx rfl (hb hby d_jdk_38_method_20_0) rfl k_) ?_
  refine GoOn.st (fun t_ k_ => XS.aloadN X0.here hx rfl (hb hby d_jdk_38_method_20_1) rfl rfl k_) ?_
  obtain ⟨T1, X1, e1, st1⟩ := getF X0 hx hZ hown (host := "") (Or.inl (hw _ (List.mem_of_getElem? (i := 92) rfl))) Via.refl e0 Fs (g := (mkF m 2 #[.val (.ref a1), .val (.int p1)] [(.ref a1), (.int p1)])) rfl rfl (hb hby d_jdk_38_method_20_2)
  refine GoOn.st st1 ?_
  show GoOn _ _ _ _ (T1.setTop (mkF m 5 #[.val (.ref a1), .val (.int p1)] [(.int p2), (.int p1)]))
  refine GoOn.callS (W := 0) (argsL := [(.int p1), (.int p2)]) (rest := []) X1 hx hZ hown (hw _ (List.mem_of_getElem? (i := 145) rfl)) (hw _ (List.mem_of_getElem? (i := 146) rfl)) (hw _ (List.mem_of_getElem? (i := 147) rfl)) (hw _ (List.mem_of_getElem? (i := 148) rfl)) (by decide) (rm_ochk l Z a0 hw p1 p2 h0 h1 h2) e1 (by decide) (by decide) (by rw [hml]; rfl) pd_0 rfl rfl (Nat.le_of_eq rfl) (hb hby d_jdk_38_method_20_5) (by decide) (by decide) ?_
  rintro _ T2 L2 X2 ⟨rfl, rfl, e2⟩
  rw [List.append_nil] at X2
  refine GoOn.st (fun t_ k_ => XS.pop X2.here hx rfl (hb hby d_jdk_38_method_20_8) rfl rfl k_) ?_
  refine GoOn.st (fun t_ k_ => XS.aloadN X2.here hx rfl (hb hby d_jdk_38_method_20_9) rfl rfl k_) ?_
  refine GoOn.st (fun t_ k_ => XS.iloadN X2.here hx rfl (hb hby d_jdk_38_method_20_10) rfl k_) ?_
  show GoOn _ _ _ _ (T2.setTop (mkF m 11 #[.val (.ref a1), .val (.int p1)] [(.int p1), (.ref a1)]))
  refine GoOn.callV (W := 0) (argsL := [(.int p1)]) (rest := []) (a := a1) X2 hx hZ hown (hw _ (List.mem_of_getElem? (i := 153) rfl)) (hw _ (List.mem_of_getElem? (i := 154) rfl)) (notFace_of_selects (args := #[]) (mvT hZ (hw _ (List.mem_of_getElem? (i := 156) rfl)))) (hw _ (List.mem_of_getElem? (i := 156) rfl)) (hw _ (List.mem_of_getElem? (i := 155) rfl)) (hw _ (List.mem_of_getElem? (i := 54) rfl)) (hw _ (List.mem_of_getElem? (i := 157) rfl)) (by decide) (rm_eld l Z a0 hw a1 b1 ax kb vs p1 h0 Fe Vb h3 hv h1) e2 Ea (by decide) (by decide) (by rw [hml]; rfl) pd_8 rfl rfl (Nat.le_of_eq rfl) (hb hby d_jdk_38_method_20_11) (by decide) (by decide) ?_
  rintro _ T3 L3 X3 ⟨rfl, rfl, e3⟩
  rw [List.append_nil] at X3
  show GoOn _ _ _ _ (T3.setTop (mkF m 14 #[.val (.ref a1), .val (.int p1)] [(.ref ax)]))
  exact GoOn.retA X3 hx hlk hret rfl rfl rfl (hb hby d_jdk_38_method_20_14) (by rw [e3]; exact ⟨rfl, rfl, rfl⟩) (by decide) (by decide)
theorem ef_vlow (m : MethodId) (x0 : Addr) : entryFrame m #[(.ref x0)] 1 = mkF m 0 #[.val (.ref x0)] [] := by first | (simp [entryFrame, mkF, argsToLocals, Value.category]; done) | rfl
theorem d_prog_221_method_10_0 : decode prog_221_method_10_code 0 = .ok (.aload_n 0, 1) := by decide +kernel
theorem d_prog_221_method_10_1 : decode prog_221_method_10_code 1 = .ok (.getfield 17, 3) := by decide +kernel
theorem d_prog_221_method_10_4 : decode prog_221_method_10_code 4 = .ok (.ireturn, 1) := by decide +kernel
set_option maxRecDepth 65536 in
set_option maxHeartbeats 40000000 in
theorem rm_vlow (l : Launch) (Z : State) (a0 : Array Value) (hw : ∀ d ∈ tables_1, d.before a0 Z = true) (a1 : Addr) (p1 : Int32) (h0 : Heap) (Fl : Fld Z h0 a1 "com/example/tributary/tributary/semantics/Variable" "low" "I" (.int p1)) :
    OwCon l Z (⟨"com/example/tributary/tributary/semantics/Variable", "low", "()I"⟩ : MethodName) prog_221_method_10_code 1 (some .int) [] ({ frames := 0, cells := 0, slots := 0, locals := 0 } : Room) #[(.ref a1)] h0 (OwRet (some (.int p1)) h0) := by
  refine OwCon.of (plainFor_of_name pn_com_example_tributary_tributary_semantics_Variable) ?_
  intro p e s m below meth cd_ s₁ X0 hx hby hml hret hlk hown hnm hZ e0
  refine GoOn.st (fun t_ k_ => castTop (ef_vlow m a1) k_) ?_
  show GoOn _ _ _ _ (s₁.setTop (mkF m 0 #[.val (.ref a1)] []))
  refine GoOn.st (fun t_ k_ => XS.aloadN X0.here hx rfl (hb hby d_prog_221_method_10_0) rfl rfl k_) ?_
  obtain ⟨T1, X1, e1, st1⟩ := getF X0 hx hZ hown (host := "") (Or.inl (hw _ (List.mem_of_getElem? (i := 46) rfl))) Via.refl e0 Fl (g := (mkF m 1 #[.val (.ref a1)] [(.ref a1)])) rfl rfl (hb hby d_prog_221_method_10_1)
  refine GoOn.st st1 ?_
  show GoOn _ _ _ _ (T1.setTop (mkF m 4 #[.val (.ref a1)] [(.int p1)]))
  exact GoOn.retI X1 hx hlk hret (hb hby d_prog_221_method_10_4) (by rw [e1]; exact ⟨rfl, rfl, rfl⟩) (by decide) (by decide)
theorem ef_vhigh (m : MethodId) (x0 : Addr) : entryFrame m #[(.ref x0)] 1 = mkF m 0 #[.val (.ref x0)] [] := by first | (simp [entryFrame, mkF, argsToLocals, Value.category]; done) | rfl
theorem d_prog_221_method_11_0 : decode prog_221_method_11_code 0 = .ok (.aload_n 0, 1) := by decide +kernel
theorem d_prog_221_method_11_1 : decode prog_221_method_11_code 1 = .ok (.getfield 21, 3) := by decide +kernel
theorem d_prog_221_method_11_4 : decode prog_221_method_11_code 4 = .ok (.ireturn, 1) := by decide +kernel
set_option maxRecDepth 65536 in
set_option maxHeartbeats 40000000 in
theorem rm_vhigh (l : Launch) (Z : State) (a0 : Array Value) (hw : ∀ d ∈ tables_1, d.before a0 Z = true) (a1 : Addr) (p1 : Int32) (h0 : Heap) (Fl : Fld Z h0 a1 "com/example/tributary/tributary/semantics/Variable" "high" "I" (.int p1)) :
    OwCon l Z (⟨"com/example/tributary/tributary/semantics/Variable", "high", "()I"⟩ : MethodName) prog_221_method_11_code 1 (some .int) [] ({ frames := 0, cells := 0, slots := 0, locals := 0 } : Room) #[(.ref a1)] h0 (OwRet (some (.int p1)) h0) := by
  refine OwCon.of (plainFor_of_name pn_com_example_tributary_tributary_semantics_Variable) ?_
  intro p e s m below meth cd_ s₁ X0 hx hby hml hret hlk hown hnm hZ e0
  refine GoOn.st (fun t_ k_ => castTop (ef_vhigh m a1) k_) ?_
  show GoOn _ _ _ _ (s₁.setTop (mkF m 0 #[.val (.ref a1)] []))
  refine GoOn.st (fun t_ k_ => XS.aloadN X0.here hx rfl (hb hby d_prog_221_method_11_0) rfl rfl k_) ?_
  obtain ⟨T1, X1, e1, st1⟩ := getF X0 hx hZ hown (host := "") (Or.inl (hw _ (List.mem_of_getElem? (i := 48) rfl))) Via.refl e0 Fl (g := (mkF m 1 #[.val (.ref a1)] [(.ref a1)])) rfl rfl (hb hby d_prog_221_method_11_1)
  refine GoOn.st st1 ?_
  show GoOn _ _ _ _ (T1.setTop (mkF m 4 #[.val (.ref a1)] [(.int p1)]))
  exact GoOn.retI X1 hx hlk hret (hb hby d_prog_221_method_11_4) (by rw [e1]; exact ⟨rfl, rfl, rfl⟩) (by decide) (by decide)
theorem ef_rinit0 (m : MethodId) (x0 : Addr) (x1 : Addr) : entryFrame m #[(.ref x0), (.ref x1)] 3 = mkF m 0 #[.val (.ref x0), .val (.ref x1), .unset] [] := by first | (simp [entryFrame, mkF, argsToLocals, Value.category]; done) | rfl
theorem pn_com_example_tributary_tributary_semantics_Ranges : plainName "com/example/tributary/tributary/semantics/Ranges" = true := by first | (simp [plainName, overriddenIn]; done) | decide +kernel
theorem d_prog_175_method_1_0 : decode prog_175_method_1_code 0 = .ok (.aload_n 0, 1) := by decide +kernel
theorem d_prog_175_method_1_1 : decode prog_175_method_1_code 1 = .ok (.invokespecial 1, 3) := by decide +kernel
theorem d_prog_175_method_1_4 : decode prog_175_method_1_code 4 = .ok (.aload_n 0, 1) := by decide +kernel
theorem d_prog_175_method_1_5 : decode prog_175_method_1_code 5 = .ok (.aload_n 1, 1) := by decide +kernel
theorem pd_9 : parseMethodDescriptor "()I" = some ⟨[], some .int⟩ := by decide +kernel
theorem d_prog_175_method_1_6 : decode prog_175_method_1_code 6 = .ok (.invokeinterface 7 1, 5) := by decide +kernel
theorem d_prog_175_method_1_11 : decode prog_175_method_1_code 11 = .ok (.newarray .int, 2) := by decide +kernel
theorem d_prog_175_method_1_13 : decode prog_175_method_1_code 13 = .ok (.putfield 13, 3) := by decide +kernel
theorem d_prog_175_method_1_16 : decode prog_175_method_1_code 16 = .ok (.aload_n 0, 1) := by decide +kernel
theorem d_prog_175_method_1_17 : decode prog_175_method_1_code 17 = .ok (.aload_n 1, 1) := by decide +kernel
theorem d_prog_175_method_1_18 : decode prog_175_method_1_code 18 = .ok (.invokeinterface 7 1, 5) := by decide +kernel
theorem d_prog_175_method_1_23 : decode prog_175_method_1_code 23 = .ok (.newarray .int, 2) := by decide +kernel
theorem d_prog_175_method_1_25 : decode prog_175_method_1_code 25 = .ok (.putfield 19, 3) := by decide +kernel
theorem d_prog_175_method_1_28 : decode prog_175_method_1_code 28 = .ok (.iconst 0, 1) := by decide +kernel
theorem d_prog_175_method_1_29 : decode prog_175_method_1_code 29 = .ok (.istore_n 2, 1) := by decide +kernel
theorem d_prog_175_method_1_30 : decode prog_175_method_1_code 30 = .ok (.iload_n 2, 1) := by decide +kernel
theorem d_prog_175_method_1_31 : decode prog_175_method_1_code 31 = .ok (.aload_n 0, 1) := by decide +kernel
theorem d_prog_175_method_1_32 : decode prog_175_method_1_code 32 = .ok (.getfield 13, 3) := by decide +kernel
theorem d_prog_175_method_1_35 : decode prog_175_method_1_code 35 = .ok (.arraylength, 1) := by decide +kernel
theorem d_prog_175_method_1_36 : decode prog_175_method_1_code 36 = .ok (.if_icmp .ge 47, 3) := by decide +kernel
theorem d_prog_175_method_1_83 : decode prog_175_method_1_code 83 = .ok (.return_, 1) := by decide +kernel
set_option maxRecDepth 65536 in
set_option maxHeartbeats 40000000 in
theorem rm_rinit0 (l : Launch) (Z : State) (a0 : Array Value) (hw : ∀ d ∈ tables_1, d.before a0 Z = true) (a1 a2 : Addr) (h0 : Heap) (n0 : Nat) (Z0 : n0 ≤ h0.size) (Er : Exa Z h0 a1 "com/example/tributary/tributary/semantics/Ranges") (Frl : Fld Z h0 a1 "com/example/tributary/tributary/semantics/Ranges" "low" "[I" .null) (Frh : Fld Z h0 a1 "com/example/tributary/tributary/semantics/Ranges" "high" "[I" .null) (Ea : Exa Z h0 a2 "java/util/ArrayList") (Fs : Fld Z h0 a2 "java/util/ArrayList" "size" "I" (.int (0 : Int32))) (h21 : a2 ≠ a1) (g_a1 : n0 ≤ a1) :
    OwCon l Z (⟨"com/example/tributary/tributary/semantics/Ranges", "<init>", "(Ljava/util/List;)V"⟩ : MethodName) prog_175_method_1_code 3 none [] ({ frames := 1, cells := 2, slots := 0, locals := 13 } : Room) #[(.ref a1), (.ref a2)] h0 (fun v h L => ∃ bl bh kl kh, v = none ∧ Fr n0 L ∧ Keep h0 h [a1] ∧ Exa Z h a1 "com/example/tributary/tributary/semantics/Ranges" ∧ Fld Z h a1 "com/example/tributary/tributary/semantics/Ranges" "low" "[I" (.ref bl) ∧ Fld Z h a1 "com/example/tributary/tributary/semantics/Ranges" "high" "[I" (.ref bh) ∧ Arv Z h bl kl .int (0 : Int32) [] (.int (0 : Int32)) ∧ Arv Z h bh kh .int (0 : Int32) [] (.int (0 : Int32))) := by
  refine OwCon.of (plainFor_of_name pn_com_example_tributary_tributary_semantics_Ranges) ?_
  intro p e s m below meth cd_ s₁ X0 hx hby hml hret hlk hown hnm hZ e0
  have N0 := Fr.nil n0
  refine GoOn.st (fun t_ k_ => castTop (ef_rinit0 m a1 a2) k_) ?_
  show GoOn _ _ _ _ (s₁.setTop (mkF m 0 #[.val (.ref a1), .val (.ref a2), .unset] []))
  refine GoOn.st (fun t_ k_ => XS.aloadN X0.here hx rfl (hb hby d_prog_175_method_1_0) rfl rfl k_) ?_
  show GoOn _ _ _ _ (s₁.setTop (mkF m 1 #[.val (.ref a1), .val (.ref a2), .unset] [(.ref a1)]))
  obtain ⟨T1, X1, e1, st1⟩ := initO X0 hx hZ hown (hw _ (List.mem_of_getElem? (i := 82) rfl)) (hw _ (List.mem_of_getElem? (i := 40) rfl)) (hw _ (List.mem_of_getElem? (i := 41) rfl)) e0 (g := (mkF m 1 #[.val (.ref a1), .val (.ref a2), .unset] [(.ref a1)])) rfl (by rw [hml]; rfl) rfl (hb hby d_prog_175_method_1_1) (by decide) (W := 0) (by show 2 * 0 + _ ≤ _; exact Nat.le_of_eq rfl) (by decide)
  refine GoOn.st st1 ?_
  refine GoOn.st (fun t_ k_ => XS.aloadN X1.here hx rfl (hb hby d_prog_175_method_1_4) rfl rfl k_) ?_
  refine GoOn.st (fun t_ k_ => XS.aloadN X1.here hx rfl (hb hby d_prog_175_method_1_5) rfl rfl k_) ?_
  show GoOn _ _ _ _ (T1.setTop (mkF m 6 #[.val (.ref a1), .val (.ref a2), .unset] [(.ref a2), (.ref a1)]))
  refine GoOn.callI (W := 1) (argsL := []) (rest := [(.ref a1)]) (a := a2) (K := "java/util/ArrayList") X1 hx hZ hown (hw _ (List.mem_of_getElem? (i := 83) rfl)) (hw _ (List.mem_of_getElem? (i := 84) rfl)) (hw _ (List.mem_of_getElem? (i := 85) rfl)) (hw _ (List.mem_of_getElem? (i := 86) rfl)) (hw _ (List.mem_of_getElem? (i := 87) rfl)) (hw _ (List.mem_of_getElem? (i := 88) rfl)) (hw _ (List.mem_of_getElem? (i := 89) rfl)) (hw _ (List.mem_of_getElem? (i := 90) rfl)) (by first | rfl | decide +kernel) (hw _ (List.mem_of_getElem? (i := 54) rfl)) (hw _ (List.mem_of_getElem? (i := 91) rfl)) (by decide) (rm_size l Z a0 hw a2 (0 : Int32) h0 Fs) e1 Ea (by decide) (by decide) (by rw [hml]; rfl) pd_9 rfl rfl (Nat.le_of_eq rfl) (hb hby d_prog_175_method_1_6) (by decide) (by decide) ?_
  rintro _ T2 L2 X2 ⟨rfl, rfl, e2⟩
  rw [List.append_nil] at X2
  obtain ⟨T3, h3, k3, X3, e3, E3, A3, st3⟩ := newP X2 hx hZ (hw _ (List.mem_of_getElem? (i := 94) rfl)) e2 (g := (mkF m 11 #[.val (.ref a1), .val (.ref a2), .unset] [(.int (0 : Int32)), (.ref a1)])) rfl (hb hby d_prog_175_method_1_11) rfl (by decide) (cap := 0) (by decide) (by decide) (by decide) (by decide)
  obtain ⟨b3, g3⟩ : ∃ z, z = h0.size := ⟨_, rfl⟩
  rw [← g3] at A3 st3
  have ne_a1_b3 : a1 ≠ b3 := Nat.ne_of_lt (Nat.lt_of_lt_of_le Er.lt (Nat.le_of_eq g3.symm))
  have ne_a2_b3 : a2 ≠ b3 := Nat.ne_of_lt (Nat.lt_of_lt_of_le Ea.lt (Nat.le_of_eq g3.symm))
  have g_b3 : n0 ≤ b3 := Nat.le_trans Z0 (Nat.le_of_eq g3.symm)
  have sz_b3 : h0.size ≤ b3 := Nat.le_trans (Keep.refl h0 [a1]).1 (Nat.le_of_eq g3.symm)
  have V3 : Arv Z h3 b3 k3 .int (0 : Int32) [] (.int (0 : Int32)) := (Arv.new A3 (by decide)).pad (pad_rep [] _ 0)
  refine GoOn.st st3 ?_
  have F4 := (Er.ext E3)
  have F5 := (Frl.ext E3)
  obtain ⟨T6, h6, X6, e6, W6, st6⟩ := putF X3 hx hZ hown (host := "") (Or.inl (hw _ (List.mem_of_getElem? (i := 95) rfl))) Via.refl e3 F5 F4 (Or.inr ⟨(hw _ (List.mem_of_getElem? (i := 96) rfl)), rfl, hnm⟩) (hw _ (List.mem_of_getElem? (i := 77) rfl)) (ty := (.array .int)) (by decide) rfl rfl (g := (mkF m 13 #[.val (.ref a1), .val (.ref a2), .unset] [(.ref b3), (.ref a1)])) rfl rfl (hb hby d_prog_175_method_1_13)
  have Fw6 := Fld.same W6 F5
  have N7 := Fr.snoc X6 N0 g_a1
  refine GoOn.st st6 ?_
  refine GoOn.st (fun t_ k_ => XS.aloadN X6.here hx rfl (hb hby d_prog_175_method_1_16) rfl rfl k_) ?_
  show GoOn _ _ _ _ (T6.setTop (mkF m 17 #[.val (.ref a1), .val (.ref a2), .unset] [(.ref a1)]))
  refine GoOn.st (fun t_ k_ => XS.aloadN X6.here hx rfl (hb hby d_prog_175_method_1_17) rfl rfl k_) ?_
  show GoOn _ _ _ _ (T6.setTop (mkF m 18 #[.val (.ref a1), .val (.ref a2), .unset] [(.ref a2), (.ref a1)]))
  have F8 := (Fld.other W6 (Fs.ext E3) (Or.inl h21))
  have F10 := (Exa.wr W6 (Ea.ext E3))
  refine GoOn.callI (W := 1) (argsL := []) (rest := [(.ref a1)]) (a := a2) (K := "java/util/ArrayList") X6 hx hZ hown (hw _ (List.mem_of_getElem? (i := 83) rfl)) (hw _ (List.mem_of_getElem? (i := 84) rfl)) (hw _ (List.mem_of_getElem? (i := 85) rfl)) (hw _ (List.mem_of_getElem? (i := 86) rfl)) (hw _ (List.mem_of_getElem? (i := 87) rfl)) (hw _ (List.mem_of_getElem? (i := 88) rfl)) (hw _ (List.mem_of_getElem? (i := 89) rfl)) (hw _ (List.mem_of_getElem? (i := 90) rfl)) (by first | rfl | decide +kernel) (hw _ (List.mem_of_getElem? (i := 54) rfl)) (hw _ (List.mem_of_getElem? (i := 91) rfl)) (by decide) (rm_size l Z a0 hw a2 (0 : Int32) h6 F8) e6 F10 (by decide) (by decide) (by rw [hml]; rfl) pd_9 rfl rfl (Nat.le_of_eq rfl) (hb hby d_prog_175_method_1_18) (by decide) (by decide) ?_
  rintro _ T9 L9 X9 ⟨rfl, rfl, e9⟩
  rw [List.append_nil] at X9
  obtain ⟨T11, h11, k11, X11, e11, E11, A11, st11⟩ := newP X9 hx hZ (hw _ (List.mem_of_getElem? (i := 94) rfl)) e9 (g := (mkF m 23 #[.val (.ref a1), .val (.ref a2), .unset] [(.int (0 : Int32)), (.ref a1)])) rfl (hb hby d_prog_175_method_1_23) rfl (by decide) (cap := 0) (by decide) (by decide) (by decide) (by decide)
  obtain ⟨b11, g11⟩ : ∃ z, z = h6.size := ⟨_, rfl⟩
  rw [← g11] at A11 st11
  have ne_a1_b11 : a1 ≠ b11 := Nat.ne_of_lt (Nat.lt_of_lt_of_le (Exa.wr W6 F4).lt (Nat.le_of_eq g11.symm))
  have ne_a2_b11 : a2 ≠ b11 := Nat.ne_of_lt (Nat.lt_of_lt_of_le F10.lt (Nat.le_of_eq g11.symm))
  have ne_b3_b11 : b3 ≠ b11 := Nat.ne_of_lt (Nat.lt_of_lt_of_le (Arv.other V3 W6 (Ne.symm ne_a1_b3)).lt (Nat.le_of_eq g11.symm))
  have g_b11 : n0 ≤ b11 := Nat.le_trans (Nat.le_trans (Nat.le_trans Z0 E3.1) (Keep.of_wr W6).1) (Nat.le_of_eq g11.symm)
  have sz_b11 : h0.size ≤ b11 := Nat.le_trans (((Keep.refl h0 [a1]).ext E3).wr W6 (Or.inl (List.mem_of_getElem? (i := 0) rfl))).1 (Nat.le_of_eq g11.symm)
  have V11 : Arv Z h11 b11 k11 .int (0 : Int32) [] (.int (0 : Int32)) := (Arv.new A11 (by decide)).pad (pad_rep [] _ 0)
  refine GoOn.st st11 ?_
  have F12 := ((Exa.wr W6 F4).ext E11)
  have F13 := ((Fld.other W6 (Frh.ext E3) (Or.inr (slot_ne (Or.inr (hw _ (List.mem_of_getElem? (i := 98) rfl))) (Or.inr (hw _ (List.mem_of_getElem? (i := 96) rfl))) (by decide) (t := (.array .int)) (t' := (.array .int)) (by decide) (by decide)))).ext E11)
  obtain ⟨T14, h14, X14, e14, W14, st14⟩ := putF X11 hx hZ hown (host := "") (Or.inl (hw _ (List.mem_of_getElem? (i := 97) rfl))) Via.refl e11 F13 F12 (Or.inr ⟨(hw _ (List.mem_of_getElem? (i := 98) rfl)), rfl, hnm⟩) (hw _ (List.mem_of_getElem? (i := 77) rfl)) (ty := (.array .int)) (by decide) rfl rfl (g := (mkF m 25 #[.val (.ref a1), .val (.ref a2), .unset] [(.ref b11), (.ref a1)])) rfl rfl (hb hby d_prog_175_method_1_25)
  have Fw14 := Fld.same W14 F13
  have N15 := Fr.snoc X14 N7 g_a1
  refine GoOn.st st14 ?_
  refine GoOn.st (fun t_ k_ => XS.iconst X14.here hx rfl (hb hby d_prog_175_method_1_28)  k_) ?_
  show GoOn _ _ _ _ (T14.setTop (mkF m 29 #[.val (.ref a1), .val (.ref a2), .unset] [(.int (0 : Int32))]))
  refine GoOn.st (fun t_ k_ => XS.istoreN X14.here hx rfl (hb hby d_prog_175_method_1_29) rfl (l' := #[.val (.ref a1), .val (.ref a2), .val (.int (0 : Int32))]) rfl k_) ?_
  refine GoOn.st (fun t_ k_ => XS.iloadN X14.here hx rfl (hb hby d_prog_175_method_1_30) rfl k_) ?_
  refine GoOn.st (fun t_ k_ => XS.aloadN X14.here hx rfl (hb hby d_prog_175_method_1_31) rfl rfl k_) ?_
  have F16 := (Fld.other W14 (Fw6.ext E11) (Or.inr (slot_ne (Or.inr (hw _ (List.mem_of_getElem? (i := 96) rfl))) (Or.inr (hw _ (List.mem_of_getElem? (i := 98) rfl))) (by decide) (t := (.array .int)) (t' := (.array .int)) (by decide) (by decide))))
  obtain ⟨T17, X17, e17, st17⟩ := getF X14 hx hZ hown (host := "") (Or.inl (hw _ (List.mem_of_getElem? (i := 95) rfl))) Via.refl e14 F16 (g := (mkF m 32 #[.val (.ref a1), .val (.ref a2), .val (.int (0 : Int32))] [(.ref a1), (.int (0 : Int32))])) rfl rfl (hb hby d_prog_175_method_1_32)
  refine GoOn.st st17 ?_
  show GoOn _ _ _ _ (T17.setTop (mkF m 35 #[.val (.ref a1), .val (.ref a2), .val (.int (0 : Int32))] [(.ref b3), (.int (0 : Int32))]))
  have F18 := (Arv.other ((Arv.other V3 W6 (Ne.symm ne_a1_b3)).ext E11) W14 (Ne.symm ne_a1_b3))
  refine GoOn.st (fun t_ k_ => own_arrlen X17 hx hZ e17 F18 (hb hby d_prog_175_method_1_35) _ k_) ?_
  refine GoOn.st (fun t_ k_ => XS.icmpYes X17.here hx rfl (pc0 := 36) (pc' := 83) rfl (hb hby d_prog_175_method_1_36) rfl (flt (by decide : ¬ ((0 : Int32) < (0 : Int32)))).2.1 (by decide) (by decide) k_) ?_
  show GoOn _ _ _ _ (T17.setTop (mkF m 83 #[.val (.ref a1), .val (.ref a2), .val (.int (0 : Int32))] []))
  exact GoOn.retV X17 hx hlk hret (hb hby d_prog_175_method_1_83) (by rw [e17]; exact ⟨b3, b11, k3, k11, rfl, N15, (((((Keep.refl h0 [a1]).ext E3).wr W6 (Or.inl (List.mem_of_getElem? (i := 0) rfl))).ext E11).wr W14 (Or.inl (List.mem_of_getElem? (i := 0) rfl))), (Exa.wr W14 F12), F16, Fw14, F18, (Arv.other V11 W14 (Ne.symm ne_a1_b11))⟩) (by decide) (by decide)
theorem ef_val00 (m : MethodId) (x0 : Addr) (x1 : Int32) : entryFrame m #[(.ref x0), (.int x1)] 7 = mkF m 0 #[.val (.ref x0), .val (.int x1), .unset, .unset, .unset, .unset, .unset] [] := by first | (simp [entryFrame, mkF, argsToLocals, Value.category]; done) | rfl
theorem d_prog_175_method_7_0 : decode prog_175_method_7_code 0 = .ok (.lconst 1, 1) := by decide +kernel
theorem d_prog_175_method_7_1 : decode prog_175_method_7_code 1 = .ok (.lstore_n 2, 1) := by decide +kernel
theorem d_prog_175_method_7_2 : decode prog_175_method_7_code 2 = .ok (.iload_n 1, 1) := by decide +kernel
theorem d_prog_175_method_7_3 : decode prog_175_method_7_code 3 = .ok (.istore 4, 2) := by decide +kernel
theorem d_prog_175_method_7_5 : decode prog_175_method_7_code 5 = .ok (.iload 4, 2) := by decide +kernel
theorem d_prog_175_method_7_7 : decode prog_175_method_7_code 7 = .ok (.aload_n 0, 1) := by decide +kernel
theorem d_prog_175_method_7_8 : decode prog_175_method_7_code 8 = .ok (.getfield 13, 3) := by decide +kernel
theorem d_prog_175_method_7_11 : decode prog_175_method_7_code 11 = .ok (.arraylength, 1) := by decide +kernel
theorem d_prog_175_method_7_12 : decode prog_175_method_7_code 12 = .ok (.if_icmp .ge 52, 3) := by decide +kernel
theorem d_prog_175_method_7_64 : decode prog_175_method_7_code 64 = .ok (.lload_n 2, 1) := by decide +kernel
theorem d_prog_175_method_7_65 : decode prog_175_method_7_code 65 = .ok (.lreturn, 1) := by decide +kernel
set_option maxRecDepth 65536 in
set_option maxHeartbeats 40000000 in
theorem rm_val00 (l : Launch) (Z : State) (a0 : Array Value) (hw : ∀ d ∈ tables_1, d.before a0 Z = true) (a1 bl bh : Addr) (kl kh : ClassId) (h0 : Heap) (Frl : Fld Z h0 a1 "com/example/tributary/tributary/semantics/Ranges" "low" "[I" (.ref bl)) (Frh : Fld Z h0 a1 "com/example/tributary/tributary/semantics/Ranges" "high" "[I" (.ref bh)) (Vl : Arv Z h0 bl kl .int (0 : Int32) [] (.int (0 : Int32))) (Vh : Arv Z h0 bh kh .int (0 : Int32) [] (.int (0 : Int32))) :
    OwCon l Z (⟨"com/example/tributary/tributary/semantics/Ranges", "valuations", "(I)J"⟩ : MethodName) prog_175_method_7_code 7 (some .long) [] ({ frames := 0, cells := 0, slots := 0, locals := 0 } : Room) #[(.ref a1), (.int (0 : Int32))] h0 (OwRet (some (.long (1 : Int64))) h0) := by
  refine OwCon.of (plainFor_of_name pn_com_example_tributary_tributary_semantics_Ranges) ?_
  intro p e s m below meth cd_ s₁ X0 hx hby hml hret hlk hown hnm hZ e0
  refine GoOn.st (fun t_ k_ => castTop (ef_val00 m a1 (0 : Int32)) k_) ?_
  show GoOn _ _ _ _ (s₁.setTop (mkF m 0 #[.val (.ref a1), .val (.int (0 : Int32)), .unset, .unset, .unset, .unset, .unset] []))
  refine GoOn.st (fun t_ k_ => XS.lconst X0.here hx rfl (hb hby d_prog_175_method_7_0)  k_) ?_
  refine GoOn.st (fun t_ k_ => XS.lstoreN X0.here hx rfl (hb hby d_prog_175_method_7_1) rfl (l' := #[.val (.ref a1), .val (.int (0 : Int32)), .val (.long (1 : Int64)), .second, .unset, .unset, .unset]) rfl k_) ?_
  refine GoOn.st (fun t_ k_ => XS.iloadN X0.here hx rfl (hb hby d_prog_175_method_7_2) rfl k_) ?_
  refine GoOn.st (fun t_ k_ => XS.istore X0.here hx rfl (hb hby d_prog_175_method_7_3) rfl (l' := #[.val (.ref a1), .val (.int (0 : Int32)), .val (.long (1 : Int64)), .second, .val (.int (0 : Int32)), .unset, .unset]) rfl k_) ?_
  show GoOn _ _ _ _ (s₁.setTop (mkF m 5 #[.val (.ref a1), .val (.int (0 : Int32)), .val (.long (1 : Int64)), .second, .val (.int (0 : Int32)), .unset, .unset] []))
  refine GoOn.st (fun t_ k_ => XS.iload X0.here hx rfl (hb hby d_prog_175_method_7_5) rfl k_) ?_
  refine GoOn.st (fun t_ k_ => XS.aloadN X0.here hx rfl (hb hby d_prog_175_method_7_7) rfl rfl k_) ?_
  obtain ⟨T1, X1, e1, st1⟩ := getF X0 hx hZ hown (host := "") (Or.inl (hw _ (List.mem_of_getElem? (i := 95) rfl))) Via.refl e0 Frl (g := (mkF m 8 #[.val (.ref a1), .val (.int (0 : Int32)), .val (.long (1 : Int64)), .second, .val (.int (0 : Int32)), .unset, .unset] [(.ref a1), (.int (0 : Int32))])) rfl rfl (hb hby d_prog_175_method_7_8)
  refine GoOn.st st1 ?_
  refine GoOn.st (fun t_ k_ => own_arrlen X1 hx hZ e1 Vl (hb hby d_prog_175_method_7_11) _ k_) ?_
  show GoOn _ _ _ _ (T1.setTop (mkF m 12 #[.val (.ref a1), .val (.int (0 : Int32)), .val (.long (1 : Int64)), .second, .val (.int (0 : Int32)), .unset, .unset] [(.int (0 : Int32)), (.int (0 : Int32))]))
  refine GoOn.st (fun t_ k_ => XS.icmpYes X1.here hx rfl (pc0 := 12) (pc' := 64) rfl (hb hby d_prog_175_method_7_12) rfl (flt (by decide : ¬ ((0 : Int32) < (0 : Int32)))).2.1 (by decide) (by decide) k_) ?_
  refine GoOn.st (fun t_ k_ => XS.lloadN X1.here hx rfl (hb hby d_prog_175_method_7_64) rfl k_) ?_
  show GoOn _ _ _ _ (T1.setTop (mkF m 65 #[.val (.ref a1), .val (.int (0 : Int32)), .val (.long (1 : Int64)), .second, .val (.int (0 : Int32)), .unset, .unset] [(.long (1 : Int64))]))
  exact GoOn.retJ X1 hx hlk hret (hb hby d_prog_175_method_7_65) (by rw [e1]; exact ⟨rfl, rfl, rfl⟩) (by decide) (by decide)
theorem ef_val01 (m : MethodId) (x0 : Addr) (x1 : Int32) : entryFrame m #[(.ref x0), (.int x1)] 7 = mkF m 0 #[.val (.ref x0), .val (.int x1), .unset, .unset, .unset, .unset, .unset] [] := by first | (simp [entryFrame, mkF, argsToLocals, Value.category]; done) | rfl
set_option maxRecDepth 65536 in
set_option maxHeartbeats 40000000 in
theorem rm_val01 (l : Launch) (Z : State) (a0 : Array Value) (hw : ∀ d ∈ tables_1, d.before a0 Z = true) (a1 bl bh : Addr) (kl kh : ClassId) (h0 : Heap) (Frl : Fld Z h0 a1 "com/example/tributary/tributary/semantics/Ranges" "low" "[I" (.ref bl)) (Frh : Fld Z h0 a1 "com/example/tributary/tributary/semantics/Ranges" "high" "[I" (.ref bh)) (Vl : Arv Z h0 bl kl .int (0 : Int32) [] (.int (0 : Int32))) (Vh : Arv Z h0 bh kh .int (0 : Int32) [] (.int (0 : Int32))) :
    OwCon l Z (⟨"com/example/tributary/tributary/semantics/Ranges", "valuations", "(I)J"⟩ : MethodName) prog_175_method_7_code 7 (some .long) [] ({ frames := 0, cells := 0, slots := 0, locals := 0 } : Room) #[(.ref a1), (.int (1 : Int32))] h0 (OwRet (some (.long (1 : Int64))) h0) := by
  refine OwCon.of (plainFor_of_name pn_com_example_tributary_tributary_semantics_Ranges) ?_
  intro p e s m below meth cd_ s₁ X0 hx hby hml hret hlk hown hnm hZ e0
  refine GoOn.st (fun t_ k_ => castTop (ef_val01 m a1 (1 : Int32)) k_) ?_
  show GoOn _ _ _ _ (s₁.setTop (mkF m 0 #[.val (.ref a1), .val (.int (1 : Int32)), .unset, .unset, .unset, .unset, .unset] []))
  refine GoOn.st (fun t_ k_ => XS.lconst X0.here hx rfl (hb hby d_prog_175_method_7_0)  k_) ?_
  refine GoOn.st (fun t_ k_ => XS.lstoreN X0.here hx rfl (hb hby d_prog_175_method_7_1) rfl (l' := #[.val (.ref a1), .val (.int (1 : Int32)), .val (.long (1 : Int64)), .second, .unset, .unset, .unset]) rfl k_) ?_
  refine GoOn.st (fun t_ k_ => XS.iloadN X0.here hx rfl (hb hby d_prog_175_method_7_2) rfl k_) ?_
  refine GoOn.st (fun t_ k_ => XS.istore X0.here hx rfl (hb hby d_prog_175_method_7_3) rfl (l' := #[.val (.ref a1), .val (.int (1 : Int32)), .val (.long (1 : Int64)), .second, .val (.int (1 : Int32)), .unset, .unset]) rfl k_) ?_
  show GoOn _ _ _ _ (s₁.setTop (mkF m 5 #[.val (.ref a1), .val (.int (1 : Int32)), .val (.long (1 : Int64)), .second, .val (.int (1 : Int32)), .unset, .unset] []))
  refine GoOn.st (fun t_ k_ => XS.iload X0.here hx rfl (hb hby d_prog_175_method_7_5) rfl k_) ?_
  refine GoOn.st (fun t_ k_ => XS.aloadN X0.here hx rfl (hb hby d_prog_175_method_7_7) rfl rfl k_) ?_
  obtain ⟨T1, X1, e1, st1⟩ := getF X0 hx hZ hown (host := "") (Or.inl (hw _ (List.mem_of_getElem? (i := 95) rfl))) Via.refl e0 Frl (g := (mkF m 8 #[.val (.ref a1), .val (.int (1 : Int32)), .val (.long (1 : Int64)), .second, .val (.int (1 : Int32)), .unset, .unset] [(.ref a1), (.int (1 : Int32))])) rfl rfl (hb hby d_prog_175_method_7_8)
  refine GoOn.st st1 ?_
  refine GoOn.st (fun t_ k_ => own_arrlen X1 hx hZ e1 Vl (hb hby d_prog_175_method_7_11) _ k_) ?_
  show GoOn _ _ _ _ (T1.setTop (mkF m 12 #[.val (.ref a1), .val (.int (1 : Int32)), .val (.long (1 : Int64)), .second, .val (.int (1 : Int32)), .unset, .unset] [(.int (0 : Int32)), (.int (1 : Int32))]))
  refine GoOn.st (fun t_ k_ => XS.icmpYes X1.here hx rfl (pc0 := 12) (pc' := 64) rfl (hb hby d_prog_175_method_7_12) rfl (flt (by decide : ¬ ((1 : Int32) < (0 : Int32)))).2.1 (by decide) (by decide) k_) ?_
  refine GoOn.st (fun t_ k_ => XS.lloadN X1.here hx rfl (hb hby d_prog_175_method_7_64) rfl k_) ?_
  show GoOn _ _ _ _ (T1.setTop (mkF m 65 #[.val (.ref a1), .val (.int (1 : Int32)), .val (.long (1 : Int64)), .second, .val (.int (1 : Int32)), .unset, .unset] [(.long (1 : Int64))]))
  exact GoOn.retJ X1 hx hlk hret (hb hby d_prog_175_method_7_65) (by rw [e1]; exact ⟨rfl, rfl, rfl⟩) (by decide) (by decide)
theorem ef_val02 (m : MethodId) (x0 : Addr) (x1 : Int32) : entryFrame m #[(.ref x0), (.int x1)] 7 = mkF m 0 #[.val (.ref x0), .val (.int x1), .unset, .unset, .unset, .unset, .unset] [] := by first | (simp [entryFrame, mkF, argsToLocals, Value.category]; done) | rfl
set_option maxRecDepth 65536 in
set_option maxHeartbeats 40000000 in
theorem rm_val02 (l : Launch) (Z : State) (a0 : Array Value) (hw : ∀ d ∈ tables_1, d.before a0 Z = true) (a1 bl bh : Addr) (kl kh : ClassId) (h0 : Heap) (Frl : Fld Z h0 a1 "com/example/tributary/tributary/semantics/Ranges" "low" "[I" (.ref bl)) (Frh : Fld Z h0 a1 "com/example/tributary/tributary/semantics/Ranges" "high" "[I" (.ref bh)) (Vl : Arv Z h0 bl kl .int (0 : Int32) [] (.int (0 : Int32))) (Vh : Arv Z h0 bh kh .int (0 : Int32) [] (.int (0 : Int32))) :
    OwCon l Z (⟨"com/example/tributary/tributary/semantics/Ranges", "valuations", "(I)J"⟩ : MethodName) prog_175_method_7_code 7 (some .long) [] ({ frames := 0, cells := 0, slots := 0, locals := 0 } : Room) #[(.ref a1), (.int (2 : Int32))] h0 (OwRet (some (.long (1 : Int64))) h0) := by
  refine OwCon.of (plainFor_of_name pn_com_example_tributary_tributary_semantics_Ranges) ?_
  intro p e s m below meth cd_ s₁ X0 hx hby hml hret hlk hown hnm hZ e0
  refine GoOn.st (fun t_ k_ => castTop (ef_val02 m a1 (2 : Int32)) k_) ?_
  show GoOn _ _ _ _ (s₁.setTop (mkF m 0 #[.val (.ref a1), .val (.int (2 : Int32)), .unset, .unset, .unset, .unset, .unset] []))
  refine GoOn.st (fun t_ k_ => XS.lconst X0.here hx rfl (hb hby d_prog_175_method_7_0)  k_) ?_
  refine GoOn.st (fun t_ k_ => XS.lstoreN X0.here hx rfl (hb hby d_prog_175_method_7_1) rfl (l' := #[.val (.ref a1), .val (.int (2 : Int32)), .val (.long (1 : Int64)), .second, .unset, .unset, .unset]) rfl k_) ?_
  refine GoOn.st (fun t_ k_ => XS.iloadN X0.here hx rfl (hb hby d_prog_175_method_7_2) rfl k_) ?_
  refine GoOn.st (fun t_ k_ => XS.istore X0.here hx rfl (hb hby d_prog_175_method_7_3) rfl (l' := #[.val (.ref a1), .val (.int (2 : Int32)), .val (.long (1 : Int64)), .second, .val (.int (2 : Int32)), .unset, .unset]) rfl k_) ?_
  show GoOn _ _ _ _ (s₁.setTop (mkF m 5 #[.val (.ref a1), .val (.int (2 : Int32)), .val (.long (1 : Int64)), .second, .val (.int (2 : Int32)), .unset, .unset] []))
  refine GoOn.st (fun t_ k_ => XS.iload X0.here hx rfl (hb hby d_prog_175_method_7_5) rfl k_) ?_
  refine GoOn.st (fun t_ k_ => XS.aloadN X0.here hx rfl (hb hby d_prog_175_method_7_7) rfl rfl k_) ?_
  obtain ⟨T1, X1, e1, st1⟩ := getF X0 hx hZ hown (host := "") (Or.inl (hw _ (List.mem_of_getElem? (i := 95) rfl))) Via.refl e0 Frl (g := (mkF m 8 #[.val (.ref a1), .val (.int (2 : Int32)), .val (.long (1 : Int64)), .second, .val (.int (2 : Int32)), .unset, .unset] [(.ref a1), (.int (2 : Int32))])) rfl rfl (hb hby d_prog_175_method_7_8)
  refine GoOn.st st1 ?_
  refine GoOn.st (fun t_ k_ => own_arrlen X1 hx hZ e1 Vl (hb hby d_prog_175_method_7_11) _ k_) ?_
  show GoOn _ _ _ _ (T1.setTop (mkF m 12 #[.val (.ref a1), .val (.int (2 : Int32)), .val (.long (1 : Int64)), .second, .val (.int (2 : Int32)), .unset, .unset] [(.int (0 : Int32)), (.int (2 : Int32))]))
  refine GoOn.st (fun t_ k_ => XS.icmpYes X1.here hx rfl (pc0 := 12) (pc' := 64) rfl (hb hby d_prog_175_method_7_12) rfl (flt (by decide : ¬ ((2 : Int32) < (0 : Int32)))).2.1 (by decide) (by decide) k_) ?_
  refine GoOn.st (fun t_ k_ => XS.lloadN X1.here hx rfl (hb hby d_prog_175_method_7_64) rfl k_) ?_
  show GoOn _ _ _ _ (T1.setTop (mkF m 65 #[.val (.ref a1), .val (.int (2 : Int32)), .val (.long (1 : Int64)), .second, .val (.int (2 : Int32)), .unset, .unset] [(.long (1 : Int64))]))
  exact GoOn.retJ X1 hx hlk hret (hb hby d_prog_175_method_7_65) (by rw [e1]; exact ⟨rfl, rfl, rfl⟩) (by decide) (by decide)
theorem ef_val03 (m : MethodId) (x0 : Addr) (x1 : Int32) : entryFrame m #[(.ref x0), (.int x1)] 7 = mkF m 0 #[.val (.ref x0), .val (.int x1), .unset, .unset, .unset, .unset, .unset] [] := by first | (simp [entryFrame, mkF, argsToLocals, Value.category]; done) | rfl
set_option maxRecDepth 65536 in
set_option maxHeartbeats 40000000 in
theorem rm_val03 (l : Launch) (Z : State) (a0 : Array Value) (hw : ∀ d ∈ tables_1, d.before a0 Z = true) (a1 bl bh : Addr) (kl kh : ClassId) (h0 : Heap) (Frl : Fld Z h0 a1 "com/example/tributary/tributary/semantics/Ranges" "low" "[I" (.ref bl)) (Frh : Fld Z h0 a1 "com/example/tributary/tributary/semantics/Ranges" "high" "[I" (.ref bh)) (Vl : Arv Z h0 bl kl .int (0 : Int32) [] (.int (0 : Int32))) (Vh : Arv Z h0 bh kh .int (0 : Int32) [] (.int (0 : Int32))) :
    OwCon l Z (⟨"com/example/tributary/tributary/semantics/Ranges", "valuations", "(I)J"⟩ : MethodName) prog_175_method_7_code 7 (some .long) [] ({ frames := 0, cells := 0, slots := 0, locals := 0 } : Room) #[(.ref a1), (.int (3 : Int32))] h0 (OwRet (some (.long (1 : Int64))) h0) := by
  refine OwCon.of (plainFor_of_name pn_com_example_tributary_tributary_semantics_Ranges) ?_
  intro p e s m below meth cd_ s₁ X0 hx hby hml hret hlk hown hnm hZ e0
  refine GoOn.st (fun t_ k_ => castTop (ef_val03 m a1 (3 : Int32)) k_) ?_
  show GoOn _ _ _ _ (s₁.setTop (mkF m 0 #[.val (.ref a1), .val (.int (3 : Int32)), .unset, .unset, .unset, .unset, .unset] []))
  refine GoOn.st (fun t_ k_ => XS.lconst X0.here hx rfl (hb hby d_prog_175_method_7_0)  k_) ?_
  refine GoOn.st (fun t_ k_ => XS.lstoreN X0.here hx rfl (hb hby d_prog_175_method_7_1) rfl (l' := #[.val (.ref a1), .val (.int (3 : Int32)), .val (.long (1 : Int64)), .second, .unset, .unset, .unset]) rfl k_) ?_
  refine GoOn.st (fun t_ k_ => XS.iloadN X0.here hx rfl (hb hby d_prog_175_method_7_2) rfl k_) ?_
  refine GoOn.st (fun t_ k_ => XS.istore X0.here hx rfl (hb hby d_prog_175_method_7_3) rfl (l' := #[.val (.ref a1), .val (.int (3 : Int32)), .val (.long (1 : Int64)), .second, .val (.int (3 : Int32)), .unset, .unset]) rfl k_) ?_
  show GoOn _ _ _ _ (s₁.setTop (mkF m 5 #[.val (.ref a1), .val (.int (3 : Int32)), .val (.long (1 : Int64)), .second, .val (.int (3 : Int32)), .unset, .unset] []))
  refine GoOn.st (fun t_ k_ => XS.iload X0.here hx rfl (hb hby d_prog_175_method_7_5) rfl k_) ?_
  refine GoOn.st (fun t_ k_ => XS.aloadN X0.here hx rfl (hb hby d_prog_175_method_7_7) rfl rfl k_) ?_
  obtain ⟨T1, X1, e1, st1⟩ := getF X0 hx hZ hown (host := "") (Or.inl (hw _ (List.mem_of_getElem? (i := 95) rfl))) Via.refl e0 Frl (g := (mkF m 8 #[.val (.ref a1), .val (.int (3 : Int32)), .val (.long (1 : Int64)), .second, .val (.int (3 : Int32)), .unset, .unset] [(.ref a1), (.int (3 : Int32))])) rfl rfl (hb hby d_prog_175_method_7_8)
  refine GoOn.st st1 ?_
  refine GoOn.st (fun t_ k_ => own_arrlen X1 hx hZ e1 Vl (hb hby d_prog_175_method_7_11) _ k_) ?_
  show GoOn _ _ _ _ (T1.setTop (mkF m 12 #[.val (.ref a1), .val (.int (3 : Int32)), .val (.long (1 : Int64)), .second, .val (.int (3 : Int32)), .unset, .unset] [(.int (0 : Int32)), (.int (3 : Int32))]))
  refine GoOn.st (fun t_ k_ => XS.icmpYes X1.here hx rfl (pc0 := 12) (pc' := 64) rfl (hb hby d_prog_175_method_7_12) rfl (flt (by decide : ¬ ((3 : Int32) < (0 : Int32)))).2.1 (by decide) (by decide) k_) ?_
  refine GoOn.st (fun t_ k_ => XS.lloadN X1.here hx rfl (hb hby d_prog_175_method_7_64) rfl k_) ?_
  show GoOn _ _ _ _ (T1.setTop (mkF m 65 #[.val (.ref a1), .val (.int (3 : Int32)), .val (.long (1 : Int64)), .second, .val (.int (3 : Int32)), .unset, .unset] [(.long (1 : Int64))]))
  exact GoOn.retJ X1 hx hlk hret (hb hby d_prog_175_method_7_65) (by rw [e1]; exact ⟨rfl, rfl, rfl⟩) (by decide) (by decide)
theorem ef_rinit1 (m : MethodId) (x0 : Addr) (x1 : Addr) : entryFrame m #[(.ref x0), (.ref x1)] 3 = mkF m 0 #[.val (.ref x0), .val (.ref x1), .unset] [] := by first | (simp [entryFrame, mkF, argsToLocals, Value.category]; done) | rfl
theorem d_prog_175_method_1_39 : decode prog_175_method_1_code 39 = .ok (.aload_n 0, 1) := by decide +kernel
theorem d_prog_175_method_1_40 : decode prog_175_method_1_code 40 = .ok (.getfield 13, 3) := by decide +kernel
theorem d_prog_175_method_1_43 : decode prog_175_method_1_code 43 = .ok (.iload_n 2, 1) := by decide +kernel
theorem d_prog_175_method_1_44 : decode prog_175_method_1_code 44 = .ok (.aload_n 1, 1) := by decide +kernel
theorem d_prog_175_method_1_45 : decode prog_175_method_1_code 45 = .ok (.iload_n 2, 1) := by decide +kernel
theorem d_prog_175_method_1_46 : decode prog_175_method_1_code 46 = .ok (.invokeinterface 22 2, 5) := by decide +kernel
theorem d_prog_175_method_1_51 : decode prog_175_method_1_code 51 = .ok (.checkcast 26, 3) := by decide +kernel
theorem d_prog_175_method_1_54 : decode prog_175_method_1_code 54 = .ok (.invokevirtual 28, 3) := by decide +kernel
theorem d_prog_175_method_1_57 : decode prog_175_method_1_code 57 = .ok (.iastore, 1) := by decide +kernel
theorem d_prog_175_method_1_58 : decode prog_175_method_1_code 58 = .ok (.aload_n 0, 1) := by decide +kernel
theorem d_prog_175_method_1_59 : decode prog_175_method_1_code 59 = .ok (.getfield 19, 3) := by decide +kernel
theorem d_prog_175_method_1_62 : decode prog_175_method_1_code 62 = .ok (.iload_n 2, 1) := by decide +kernel
theorem d_prog_175_method_1_63 : decode prog_175_method_1_code 63 = .ok (.aload_n 1, 1) := by decide +kernel
theorem d_prog_175_method_1_64 : decode prog_175_method_1_code 64 = .ok (.iload_n 2, 1) := by decide +kernel
theorem d_prog_175_method_1_65 : decode prog_175_method_1_code 65 = .ok (.invokeinterface 22 2, 5) := by decide +kernel
theorem d_prog_175_method_1_70 : decode prog_175_method_1_code 70 = .ok (.checkcast 26, 3) := by decide +kernel
theorem d_prog_175_method_1_73 : decode prog_175_method_1_code 73 = .ok (.invokevirtual 30, 3) := by decide +kernel
theorem d_prog_175_method_1_76 : decode prog_175_method_1_code 76 = .ok (.iastore, 1) := by decide +kernel
theorem d_prog_175_method_1_77 : decode prog_175_method_1_code 77 = .ok (.iinc 2 1, 3) := by decide +kernel
theorem d_prog_175_method_1_80 : decode prog_175_method_1_code 80 = .ok (.goto (-50), 3) := by decide +kernel
set_option maxRecDepth 65536 in
set_option maxHeartbeats 40000000 in
theorem rm_rinit1 (l : Launch) (Z : State) (a0 : Array Value) (hw : ∀ d ∈ tables_1, d.before a0 Z = true) (a1 a2 b2 x0 : Addr) (kb : ClassId) (q0 : Int64) (h0 : Heap) (n0 : Nat) (Z0 : n0 ≤ h0.size) (Er : Exa Z h0 a1 "com/example/tributary/tributary/semantics/Ranges") (Frl : Fld Z h0 a1 "com/example/tributary/tributary/semantics/Ranges" "low" "[I" .null) (Frh : Fld Z h0 a1 "com/example/tributary/tributary/semantics/Ranges" "high" "[I" .null) (Ea : Exa Z h0 a2 "java/util/ArrayList") (Fs : Fld Z h0 a2 "java/util/ArrayList" "size" "I" (.int (1 : Int32))) (h21 : a2 ≠ a1) (g_a1 : n0 ≤ a1) (Fe : Fld Z h0 a2 "java/util/ArrayList" "elementData" "[Ljava/lang/Object;" (.ref b2)) (Vb : Arv Z h0 b2 kb (.object "java/lang/Object") (10 : Int32) [(.ref x0), .null, .null, .null, .null, .null, .null, .null, .null, .null] .null) (hb1 : b2 ≠ a1) (Ex0 : Exa Z h0 x0 "com/example/tributary/tributary/semantics/Variable") (Lx0 : Fld Z h0 x0 "com/example/tributary/tributary/semantics/Variable" "low" "I" (.int (own_low q0))) (Hx0 : Fld Z h0 x0 "com/example/tributary/tributary/semantics/Variable" "high" "I" (.int (own_high q0))) (hx0 : x0 ≠ a1) :
    OwCon l Z (⟨"com/example/tributary/tributary/semantics/Ranges", "<init>", "(Ljava/util/List;)V"⟩ : MethodName) prog_175_method_1_code 3 none [] ({ frames := 3, cells := 2, slots := 2, locals := 42 } : Room) #[(.ref a1), (.ref a2)] h0 (fun v h L => ∃ bl bh kl kh, v = none ∧ Fr n0 L ∧ Keep h0 h [a1] ∧ Exa Z h a1 "com/example/tributary/tributary/semantics/Ranges" ∧ Fld Z h a1 "com/example/tributary/tributary/semantics/Ranges" "low" "[I" (.ref bl) ∧ Fld Z h a1 "com/example/tributary/tributary/semantics/Ranges" "high" "[I" (.ref bh) ∧ Arv Z h bl kl .int (1 : Int32) [(.int (own_low q0))] (.int (0 : Int32)) ∧ Arv Z h bh kh .int (1 : Int32) [(.int (own_high q0))] (.int (0 : Int32))) := by
  refine OwCon.of (plainFor_of_name pn_com_example_tributary_tributary_semantics_Ranges) ?_
  intro p e s m below meth cd_ s₁ X0 hx hby hml hret hlk hown hnm hZ e0
  have N0 := Fr.nil n0
  refine GoOn.st (fun t_ k_ => castTop (ef_rinit1 m a1 a2) k_) ?_
  show GoOn _ _ _ _ (s₁.setTop (mkF m 0 #[.val (.ref a1), .val (.ref a2), .unset] []))
  refine GoOn.st (fun t_ k_ => XS.aloadN X0.here hx rfl (hb hby d_prog_175_method_1_0) rfl rfl k_) ?_
  show GoOn _ _ _ _ (s₁.setTop (mkF m 1 #[.val (.ref a1), .val (.ref a2), .unset] [(.ref a1)]))
  obtain ⟨T1, X1, e1, st1⟩ := initO X0 hx hZ hown (hw _ (List.mem_of_getElem? (i := 82) rfl)) (hw _ (List.mem_of_getElem? (i := 40) rfl)) (hw _ (List.mem_of_getElem? (i := 41) rfl)) e0 (g := (mkF m 1 #[.val (.ref a1), .val (.ref a2), .unset] [(.ref a1)])) rfl (by rw [hml]; rfl) rfl (hb hby d_prog_175_method_1_1) (by decide) (W := 0) (by show 2 * 0 + _ ≤ _; exact Nat.le_of_eq rfl) (by decide)
  refine GoOn.st st1 ?_
  refine GoOn.st (fun t_ k_ => XS.aloadN X1.here hx rfl (hb hby d_prog_175_method_1_4) rfl rfl k_) ?_
  refine GoOn.st (fun t_ k_ => XS.aloadN X1.here hx rfl (hb hby d_prog_175_method_1_5) rfl rfl k_) ?_
  show GoOn _ _ _ _ (T1.setTop (mkF m 6 #[.val (.ref a1), .val (.ref a2), .unset] [(.ref a2), (.ref a1)]))
  refine GoOn.callI (W := 1) (argsL := []) (rest := [(.ref a1)]) (a := a2) (K := "java/util/ArrayList") X1 hx hZ hown (hw _ (List.mem_of_getElem? (i := 83) rfl)) (hw _ (List.mem_of_getElem? (i := 84) rfl)) (hw _ (List.mem_of_getElem? (i := 85) rfl)) (hw _ (List.mem_of_getElem? (i := 86) rfl)) (hw _ (List.mem_of_getElem? (i := 87) rfl)) (hw _ (List.mem_of_getElem? (i := 88) rfl)) (hw _ (List.mem_of_getElem? (i := 89) rfl)) (hw _ (List.mem_of_getElem? (i := 90) rfl)) (by first | rfl | decide +kernel) (hw _ (List.mem_of_getElem? (i := 54) rfl)) (hw _ (List.mem_of_getElem? (i := 91) rfl)) (by decide) (rm_size l Z a0 hw a2 (1 : Int32) h0 Fs) e1 Ea (by decide) (by decide) (by rw [hml]; rfl) pd_9 rfl rfl (Nat.le_of_eq rfl) (hb hby d_prog_175_method_1_6) (by decide) (by decide) ?_
  rintro _ T2 L2 X2 ⟨rfl, rfl, e2⟩
  rw [List.append_nil] at X2
  obtain ⟨T3, h3, k3, X3, e3, E3, A3, st3⟩ := newP X2 hx hZ (hw _ (List.mem_of_getElem? (i := 94) rfl)) e2 (g := (mkF m 11 #[.val (.ref a1), .val (.ref a2), .unset] [(.int (1 : Int32)), (.ref a1)])) rfl (hb hby d_prog_175_method_1_11) rfl (by decide) (cap := 1) (by decide) (by decide) (by decide) (by decide)
  obtain ⟨b3, g3⟩ : ∃ z, z = h0.size := ⟨_, rfl⟩
  rw [← g3] at A3 st3
  have ne_a1_b3 : a1 ≠ b3 := Nat.ne_of_lt (Nat.lt_of_lt_of_le Er.lt (Nat.le_of_eq g3.symm))
  have ne_a2_b3 : a2 ≠ b3 := Nat.ne_of_lt (Nat.lt_of_lt_of_le Ea.lt (Nat.le_of_eq g3.symm))
  have ne_b2_b3 : b2 ≠ b3 := Nat.ne_of_lt (Nat.lt_of_lt_of_le Vb.lt (Nat.le_of_eq g3.symm))
  have ne_x0_b3 : x0 ≠ b3 := Nat.ne_of_lt (Nat.lt_of_lt_of_le Ex0.lt (Nat.le_of_eq g3.symm))
  have g_b3 : n0 ≤ b3 := Nat.le_trans Z0 (Nat.le_of_eq g3.symm)
  have sz_b3 : h0.size ≤ b3 := Nat.le_trans (Keep.refl h0 [a1]).1 (Nat.le_of_eq g3.symm)
  have V3 : Arv Z h3 b3 k3 .int (1 : Int32) [(.int (0 : Int32))] (.int (0 : Int32)) := (Arv.new A3 (by decide)).pad (pad_rep [] _ 1)
  refine GoOn.st st3 ?_
  have F4 := (Er.ext E3)
  have F5 := (Frl.ext E3)
  obtain ⟨T6, h6, X6, e6, W6, st6⟩ := putF X3 hx hZ hown (host := "") (Or.inl (hw _ (List.mem_of_getElem? (i := 95) rfl))) Via.refl e3 F5 F4 (Or.inr ⟨(hw _ (List.mem_of_getElem? (i := 96) rfl)), rfl, hnm⟩) (hw _ (List.mem_of_getElem? (i := 77) rfl)) (ty := (.array .int)) (by decide) rfl rfl (g := (mkF m 13 #[.val (.ref a1), .val (.ref a2), .unset] [(.ref b3), (.ref a1)])) rfl rfl (hb hby d_prog_175_method_1_13)
  have Fw6 := Fld.same W6 F5
  have N7 := Fr.snoc X6 N0 g_a1
  refine GoOn.st st6 ?_
  refine GoOn.st (fun t_ k_ => XS.aloadN X6.here hx rfl (hb hby d_prog_175_method_1_16) rfl rfl k_) ?_
  show GoOn _ _ _ _ (T6.setTop (mkF m 17 #[.val (.ref a1), .val (.ref a2), .unset] [(.ref a1)]))
  refine GoOn.st (fun t_ k_ => XS.aloadN X6.here hx rfl (hb hby d_prog_175_method_1_17) rfl rfl k_) ?_
  show GoOn _ _ _ _ (T6.setTop (mkF m 18 #[.val (.ref a1), .val (.ref a2), .unset] [(.ref a2), (.ref a1)]))
  have F8 := (Fld.other W6 (Fs.ext E3) (Or.inl h21))
  have F10 := (Exa.wr W6 (Ea.ext E3))
  refine GoOn.callI (W := 1) (argsL := []) (rest := [(.ref a1)]) (a := a2) (K := "java/util/ArrayList") X6 hx hZ hown (hw _ (List.mem_of_getElem? (i := 83) rfl)) (hw _ (List.mem_of_getElem? (i := 84) rfl)) (hw _ (List.mem_of_getElem? (i := 85) rfl)) (hw _ (List.mem_of_getElem? (i := 86) rfl)) (hw _ (List.mem_of_getElem? (i := 87) rfl)) (hw _ (List.mem_of_getElem? (i := 88) rfl)) (hw _ (List.mem_of_getElem? (i := 89) rfl)) (hw _ (List.mem_of_getElem? (i := 90) rfl)) (by first | rfl | decide +kernel) (hw _ (List.mem_of_getElem? (i := 54) rfl)) (hw _ (List.mem_of_getElem? (i := 91) rfl)) (by decide) (rm_size l Z a0 hw a2 (1 : Int32) h6 F8) e6 F10 (by decide) (by decide) (by rw [hml]; rfl) pd_9 rfl rfl (Nat.le_of_eq rfl) (hb hby d_prog_175_method_1_18) (by decide) (by decide) ?_
  rintro _ T9 L9 X9 ⟨rfl, rfl, e9⟩
  rw [List.append_nil] at X9
  obtain ⟨T11, h11, k11, X11, e11, E11, A11, st11⟩ := newP X9 hx hZ (hw _ (List.mem_of_getElem? (i := 94) rfl)) e9 (g := (mkF m 23 #[.val (.ref a1), .val (.ref a2), .unset] [(.int (1 : Int32)), (.ref a1)])) rfl (hb hby d_prog_175_method_1_23) rfl (by decide) (cap := 1) (by decide) (by decide) (by decide) (by decide)
  obtain ⟨b11, g11⟩ : ∃ z, z = h6.size := ⟨_, rfl⟩
  rw [← g11] at A11 st11
  have ne_a1_b11 : a1 ≠ b11 := Nat.ne_of_lt (Nat.lt_of_lt_of_le (Exa.wr W6 F4).lt (Nat.le_of_eq g11.symm))
  have ne_a2_b11 : a2 ≠ b11 := Nat.ne_of_lt (Nat.lt_of_lt_of_le F10.lt (Nat.le_of_eq g11.symm))
  have ne_b2_b11 : b2 ≠ b11 := Nat.ne_of_lt (Nat.lt_of_lt_of_le (Arv.other (Vb.ext E3) W6 hb1).lt (Nat.le_of_eq g11.symm))
  have ne_x0_b11 : x0 ≠ b11 := Nat.ne_of_lt (Nat.lt_of_lt_of_le (Exa.wr W6 (Ex0.ext E3)).lt (Nat.le_of_eq g11.symm))
  have ne_b3_b11 : b3 ≠ b11 := Nat.ne_of_lt (Nat.lt_of_lt_of_le (Arv.other V3 W6 (Ne.symm ne_a1_b3)).lt (Nat.le_of_eq g11.symm))
  have g_b11 : n0 ≤ b11 := Nat.le_trans (Nat.le_trans (Nat.le_trans Z0 E3.1) (Keep.of_wr W6).1) (Nat.le_of_eq g11.symm)
  have sz_b11 : h0.size ≤ b11 := Nat.le_trans (((Keep.refl h0 [a1]).ext E3).wr W6 (Or.inl (List.mem_of_getElem? (i := 0) rfl))).1 (Nat.le_of_eq g11.symm)
  have V11 : Arv Z h11 b11 k11 .int (1 : Int32) [(.int (0 : Int32))] (.int (0 : Int32)) := (Arv.new A11 (by decide)).pad (pad_rep [] _ 1)
  refine GoOn.st st11 ?_
  have F12 := ((Exa.wr W6 F4).ext E11)
  have F13 := ((Fld.other W6 (Frh.ext E3) (Or.inr (slot_ne (Or.inr (hw _ (List.mem_of_getElem? (i := 98) rfl))) (Or.inr (hw _ (List.mem_of_getElem? (i := 96) rfl))) (by decide) (t := (.array .int)) (t' := (.array .int)) (by decide) (by decide)))).ext E11)
  obtain ⟨T14, h14, X14, e14, W14, st14⟩ := putF X11 hx hZ hown (host := "") (Or.inl (hw _ (List.mem_of_getElem? (i := 97) rfl))) Via.refl e11 F13 F12 (Or.inr ⟨(hw _ (List.mem_of_getElem? (i := 98) rfl)), rfl, hnm⟩) (hw _ (List.mem_of_getElem? (i := 77) rfl)) (ty := (.array .int)) (by decide) rfl rfl (g := (mkF m 25 #[.val (.ref a1), .val (.ref a2), .unset] [(.ref b11), (.ref a1)])) rfl rfl (hb hby d_prog_175_method_1_25)
  have Fw14 := Fld.same W14 F13
  have N15 := Fr.snoc X14 N7 g_a1
  refine GoOn.st st14 ?_
  refine GoOn.st (fun t_ k_ => XS.iconst X14.here hx rfl (hb hby d_prog_175_method_1_28)  k_) ?_
  show GoOn _ _ _ _ (T14.setTop (mkF m 29 #[.val (.ref a1), .val (.ref a2), .unset] [(.int (0 : Int32))]))
  refine GoOn.st (fun t_ k_ => XS.istoreN X14.here hx rfl (hb hby d_prog_175_method_1_29) rfl (l' := #[.val (.ref a1), .val (.ref a2), .val (.int (0 : Int32))]) rfl k_) ?_
  refine GoOn.st (fun t_ k_ => XS.iloadN X14.here hx rfl (hb hby d_prog_175_method_1_30) rfl k_) ?_
  refine GoOn.st (fun t_ k_ => XS.aloadN X14.here hx rfl (hb hby d_prog_175_method_1_31) rfl rfl k_) ?_
  have F16 := (Fld.other W14 (Fw6.ext E11) (Or.inr (slot_ne (Or.inr (hw _ (List.mem_of_getElem? (i := 96) rfl))) (Or.inr (hw _ (List.mem_of_getElem? (i := 98) rfl))) (by decide) (t := (.array .int)) (t' := (.array .int)) (by decide) (by decide))))
  obtain ⟨T17, X17, e17, st17⟩ := getF X14 hx hZ hown (host := "") (Or.inl (hw _ (List.mem_of_getElem? (i := 95) rfl))) Via.refl e14 F16 (g := (mkF m 32 #[.val (.ref a1), .val (.ref a2), .val (.int (0 : Int32))] [(.ref a1), (.int (0 : Int32))])) rfl rfl (hb hby d_prog_175_method_1_32)
  refine GoOn.st st17 ?_
  show GoOn _ _ _ _ (T17.setTop (mkF m 35 #[.val (.ref a1), .val (.ref a2), .val (.int (0 : Int32))] [(.ref b3), (.int (0 : Int32))]))
  have F18 := (Arv.other ((Arv.other V3 W6 (Ne.symm ne_a1_b3)).ext E11) W14 (Ne.symm ne_a1_b3))
  refine GoOn.st (fun t_ k_ => own_arrlen X17 hx hZ e17 F18 (hb hby d_prog_175_method_1_35) _ k_) ?_
  refine GoOn.st (fun t_ k_ => XS.icmpNo X17.here hx rfl (hb hby d_prog_175_method_1_36) rfl (tlt (by decide : (0 : Int32) < (1 : Int32))).2.1 k_) ?_
  refine GoOn.st (fun t_ k_ => XS.aloadN X17.here hx rfl (hb hby d_prog_175_method_1_39) rfl rfl k_) ?_
  obtain ⟨T19, X19, e19, st19⟩ := getF X17 hx hZ hown (host := "") (Or.inl (hw _ (List.mem_of_getElem? (i := 95) rfl))) Via.refl e17 F16 (g := (mkF m 40 #[.val (.ref a1), .val (.ref a2), .val (.int (0 : Int32))] [(.ref a1)])) rfl rfl (hb hby d_prog_175_method_1_40)
  refine GoOn.st st19 ?_
  show GoOn _ _ _ _ (T19.setTop (mkF m 43 #[.val (.ref a1), .val (.ref a2), .val (.int (0 : Int32))] [(.ref b3)]))
  refine GoOn.st (fun t_ k_ => XS.iloadN X19.here hx rfl (hb hby d_prog_175_method_1_43) rfl k_) ?_
  refine GoOn.st (fun t_ k_ => XS.aloadN X19.here hx rfl (hb hby d_prog_175_method_1_44) rfl rfl k_) ?_
  refine GoOn.st (fun t_ k_ => XS.iloadN X19.here hx rfl (hb hby d_prog_175_method_1_45) rfl k_) ?_
  show GoOn _ _ _ _ (T19.setTop (mkF m 46 #[.val (.ref a1), .val (.ref a2), .val (.int (0 : Int32))] [(.int (0 : Int32)), (.ref a2), (.int (0 : Int32)), (.ref b3)]))
  have F20 := (Exa.wr W14 (F10.ext E11))
  have F21 := (Fld.other W14 ((Fld.other W6 (Fe.ext E3) (Or.inl h21)).ext E11) (Or.inl h21))
  have F22 := (Fld.other W14 (F8.ext E11) (Or.inl h21))
  have F23 := (Arv.other ((Arv.other (Vb.ext E3) W6 hb1).ext E11) W14 hb1)
  refine GoOn.callI (W := 2) (argsL := [(.int (0 : Int32))]) (rest := [(.int (0 : Int32)), (.ref b3)]) (a := a2) (K := "java/util/ArrayList") X19 hx hZ hown (hw _ (List.mem_of_getElem? (i := 137) rfl)) (hw _ (List.mem_of_getElem? (i := 138) rfl)) (hw _ (List.mem_of_getElem? (i := 139) rfl)) (hw _ (List.mem_of_getElem? (i := 140) rfl)) (hw _ (List.mem_of_getElem? (i := 141) rfl)) (hw _ (List.mem_of_getElem? (i := 142) rfl)) (hw _ (List.mem_of_getElem? (i := 143) rfl)) (hw _ (List.mem_of_getElem? (i := 90) rfl)) (by first | rfl | decide +kernel) (hw _ (List.mem_of_getElem? (i := 54) rfl)) (hw _ (List.mem_of_getElem? (i := 144) rfl)) (by decide) (rm_get l Z a0 hw a2 b2 x0 kb [(.ref x0), .null, .null, .null, .null, .null, .null, .null, .null, .null] (0 : Int32) (1 : Int32) h14 F20 F21 F22 F23 (by decide) rfl (by decide) (by decide)) e19 F20 (by decide) (by decide) (by rw [hml]; rfl) pd_8 rfl rfl (Nat.le_of_eq rfl) (hb hby d_prog_175_method_1_46) (by decide) (by decide) ?_
  rintro _ T24 L24 X24 ⟨rfl, rfl, e24⟩
  rw [List.append_nil] at X24
  have F26 := (Exa.wr W14 ((Exa.wr W6 (Ex0.ext E3)).ext E11))
  obtain ⟨T25, X25, e25, st25⟩ := castY X24 hx hZ hown (hw _ (List.mem_of_getElem? (i := 158) rfl)) e24 (Ins.self F26) (g := (mkF m 51 #[.val (.ref a1), .val (.ref a2), .val (.int (0 : Int32))] [(.ref x0), (.int (0 : Int32)), (.ref b3)])) rfl rfl (hb hby d_prog_175_method_1_51)
  refine GoOn.st st25 ?_
  show GoOn _ _ _ _ (T25.setTop (mkF m 54 #[.val (.ref a1), .val (.ref a2), .val (.int (0 : Int32))] [(.ref x0), (.int (0 : Int32)), (.ref b3)]))
  have F27 := (Fld.other W14 ((Fld.other W6 (Lx0.ext E3) (Or.inl hx0)).ext E11) (Or.inl hx0))
  refine GoOn.callV (W := 2) (argsL := []) (rest := [(.int (0 : Int32)), (.ref b3)]) (a := x0) X25 hx hZ hown (hw _ (List.mem_of_getElem? (i := 160) rfl)) (hw _ (List.mem_of_getElem? (i := 161) rfl)) (notFace_of_selects (args := #[]) (mvT hZ (hw _ (List.mem_of_getElem? (i := 163) rfl)))) (hw _ (List.mem_of_getElem? (i := 163) rfl)) (hw _ (List.mem_of_getElem? (i := 162) rfl)) (hw _ (List.mem_of_getElem? (i := 6) rfl)) (hw _ (List.mem_of_getElem? (i := 164) rfl)) (by decide) (rm_vlow l Z a0 hw x0 (own_low q0) h14 F27) e25 F26 (by decide) (by decide) (by rw [hml]; rfl) pd_9 rfl rfl (Nat.le_of_eq rfl) (hb hby d_prog_175_method_1_54) (by decide) (by decide) ?_
  rintro _ T28 L28 X28 ⟨rfl, rfl, e28⟩
  rw [List.append_nil] at X28
  obtain ⟨T29, h29, X29, e29, W29, V29, st29⟩ := own_iastore X28 hx hZ e28 F18 (j := (0 : Int32)) (by decide) 0 (by decide) (show 0 < _ from (by decide : 0 < 1)) (x := (own_low q0)) (Ls := #[.val (.ref a1), .val (.ref a2), .val (.int (0 : Int32))]) (rest := []) (hb hby d_prog_175_method_1_57)
  replace V29 : Arv Z h29 b3 k3 .int (1 : Int32) [(.int (own_low q0))] (.int (0 : Int32)) := V29
  have N30 := Fr.snoc X29 N15 g_b3
  refine GoOn.st st29 ?_
  refine GoOn.st (fun t_ k_ => XS.aloadN X29.here hx rfl (hb hby d_prog_175_method_1_58) rfl rfl k_) ?_
  have F31 := (Fld.other W29 Fw14 (Or.inl ne_a1_b3))
  obtain ⟨T32, X32, e32, st32⟩ := getF X29 hx hZ hown (host := "") (Or.inl (hw _ (List.mem_of_getElem? (i := 97) rfl))) Via.refl e29 F31 (g := (mkF m 59 #[.val (.ref a1), .val (.ref a2), .val (.int (0 : Int32))] [(.ref a1)])) rfl rfl (hb hby d_prog_175_method_1_59)
  refine GoOn.st st32 ?_
  show GoOn _ _ _ _ (T32.setTop (mkF m 62 #[.val (.ref a1), .val (.ref a2), .val (.int (0 : Int32))] [(.ref b11)]))
  refine GoOn.st (fun t_ k_ => XS.iloadN X32.here hx rfl (hb hby d_prog_175_method_1_62) rfl k_) ?_
  refine GoOn.st (fun t_ k_ => XS.aloadN X32.here hx rfl (hb hby d_prog_175_method_1_63) rfl rfl k_) ?_
  refine GoOn.st (fun t_ k_ => XS.iloadN X32.here hx rfl (hb hby d_prog_175_method_1_64) rfl k_) ?_
  show GoOn _ _ _ _ (T32.setTop (mkF m 65 #[.val (.ref a1), .val (.ref a2), .val (.int (0 : Int32))] [(.int (0 : Int32)), (.ref a2), (.int (0 : Int32)), (.ref b11)]))
  have F33 := (Exa.wr W29 F20)
  have F34 := (Fld.other W29 F21 (Or.inl ne_a2_b3))
  have F35 := (Fld.other W29 F22 (Or.inl ne_a2_b3))
  have F36 := (Arv.other F23 W29 ne_b2_b3)
  refine GoOn.callI (W := 2) (argsL := [(.int (0 : Int32))]) (rest := [(.int (0 : Int32)), (.ref b11)]) (a := a2) (K := "java/util/ArrayList") X32 hx hZ hown (hw _ (List.mem_of_getElem? (i := 137) rfl)) (hw _ (List.mem_of_getElem? (i := 138) rfl)) (hw _ (List.mem_of_getElem? (i := 139) rfl)) (hw _ (List.mem_of_getElem? (i := 140) rfl)) (hw _ (List.mem_of_getElem? (i := 141) rfl)) (hw _ (List.mem_of_getElem? (i := 142) rfl)) (hw _ (List.mem_of_getElem? (i := 143) rfl)) (hw _ (List.mem_of_getElem? (i := 90) rfl)) (by first | rfl | decide +kernel) (hw _ (List.mem_of_getElem? (i := 54) rfl)) (hw _ (List.mem_of_getElem? (i := 144) rfl)) (by decide) (rm_get l Z a0 hw a2 b2 x0 kb [(.ref x0), .null, .null, .null, .null, .null, .null, .null, .null, .null] (0 : Int32) (1 : Int32) h29 F33 F34 F35 F36 (by decide) rfl (by decide) (by decide)) e32 F33 (by decide) (by decide) (by rw [hml]; rfl) pd_8 rfl rfl (Nat.le_of_eq rfl) (hb hby d_prog_175_method_1_65) (by decide) (by decide) ?_
  rintro _ T37 L37 X37 ⟨rfl, rfl, e37⟩
  rw [List.append_nil] at X37
  have F39 := (Exa.wr W29 F26)
  obtain ⟨T38, X38, e38, st38⟩ := castY X37 hx hZ hown (hw _ (List.mem_of_getElem? (i := 158) rfl)) e37 (Ins.self F39) (g := (mkF m 70 #[.val (.ref a1), .val (.ref a2), .val (.int (0 : Int32))] [(.ref x0), (.int (0 : Int32)), (.ref b11)])) rfl rfl (hb hby d_prog_175_method_1_70)
  refine GoOn.st st38 ?_
  show GoOn _ _ _ _ (T38.setTop (mkF m 73 #[.val (.ref a1), .val (.ref a2), .val (.int (0 : Int32))] [(.ref x0), (.int (0 : Int32)), (.ref b11)]))
  have F40 := (Fld.other W29 (Fld.other W14 ((Fld.other W6 (Hx0.ext E3) (Or.inl hx0)).ext E11) (Or.inl hx0)) (Or.inl ne_x0_b3))
  refine GoOn.callV (W := 2) (argsL := []) (rest := [(.int (0 : Int32)), (.ref b11)]) (a := x0) X38 hx hZ hown (hw _ (List.mem_of_getElem? (i := 165) rfl)) (hw _ (List.mem_of_getElem? (i := 166) rfl)) (notFace_of_selects (args := #[]) (mvT hZ (hw _ (List.mem_of_getElem? (i := 168) rfl)))) (hw _ (List.mem_of_getElem? (i := 168) rfl)) (hw _ (List.mem_of_getElem? (i := 167) rfl)) (hw _ (List.mem_of_getElem? (i := 6) rfl)) (hw _ (List.mem_of_getElem? (i := 169) rfl)) (by decide) (rm_vhigh l Z a0 hw x0 (own_high q0) h29 F40) e38 F39 (by decide) (by decide) (by rw [hml]; rfl) pd_9 rfl rfl (Nat.le_of_eq rfl) (hb hby d_prog_175_method_1_73) (by decide) (by decide) ?_
  rintro _ T41 L41 X41 ⟨rfl, rfl, e41⟩
  rw [List.append_nil] at X41
  have F42 := (Arv.other (Arv.other V11 W14 (Ne.symm ne_a1_b11)) W29 (Ne.symm ne_b3_b11))
  obtain ⟨T43, h43, X43, e43, W43, V43, st43⟩ := own_iastore X41 hx hZ e41 F42 (j := (0 : Int32)) (by decide) 0 (by decide) (show 0 < _ from (by decide : 0 < 1)) (x := (own_high q0)) (Ls := #[.val (.ref a1), .val (.ref a2), .val (.int (0 : Int32))]) (rest := []) (hb hby d_prog_175_method_1_76)
  replace V43 : Arv Z h43 b11 k11 .int (1 : Int32) [(.int (own_high q0))] (.int (0 : Int32)) := V43
  have N44 := Fr.snoc X43 N30 g_b11
  refine GoOn.st st43 ?_
  refine GoOn.st (fun t_ k_ => XS.iinc X43.here hx rfl (hb hby d_prog_175_method_1_77) rfl (l' := #[.val (.ref a1), .val (.ref a2), .val (.int (1 : Int32))]) rfl k_) ?_
  refine GoOn.st (fun t_ k_ => XS.goto X43.here hx rfl (pc0 := 80) (pc' := 30) rfl (hb hby d_prog_175_method_1_80) (by decide) (by decide) k_) ?_
  show GoOn _ _ _ _ (T43.setTop (mkF m 30 #[.val (.ref a1), .val (.ref a2), .val (.int (1 : Int32))] []))
  refine GoOn.st (fun t_ k_ => XS.iloadN X43.here hx rfl (hb hby d_prog_175_method_1_30) rfl k_) ?_
  refine GoOn.st (fun t_ k_ => XS.aloadN X43.here hx rfl (hb hby d_prog_175_method_1_31) rfl rfl k_) ?_
  have F45 := (Fld.other W43 (Fld.other W29 F16 (Or.inl ne_a1_b3)) (Or.inl ne_a1_b11))
  obtain ⟨T46, X46, e46, st46⟩ := getF X43 hx hZ hown (host := "") (Or.inl (hw _ (List.mem_of_getElem? (i := 95) rfl))) Via.refl e43 F45 (g := (mkF m 32 #[.val (.ref a1), .val (.ref a2), .val (.int (1 : Int32))] [(.ref a1), (.int (1 : Int32))])) rfl rfl (hb hby d_prog_175_method_1_32)
  refine GoOn.st st46 ?_
  have F47 := (Arv.other V29 W43 ne_b3_b11)
  refine GoOn.st (fun t_ k_ => own_arrlen X46 hx hZ e46 F47 (hb hby d_prog_175_method_1_35) _ k_) ?_
  show GoOn _ _ _ _ (T46.setTop (mkF m 36 #[.val (.ref a1), .val (.ref a2), .val (.int (1 : Int32))] [(.int (1 : Int32)), (.int (1 : Int32))]))
  refine GoOn.st (fun t_ k_ => XS.icmpYes X46.here hx rfl (pc0 := 36) (pc' := 83) rfl (hb hby d_prog_175_method_1_36) rfl (flt (by decide : ¬ ((1 : Int32) < (1 : Int32)))).2.1 (by decide) (by decide) k_) ?_
  show GoOn _ _ _ _ (T46.setTop (mkF m 83 #[.val (.ref a1), .val (.ref a2), .val (.int (1 : Int32))] []))
  exact GoOn.retV X46 hx hlk hret (hb hby d_prog_175_method_1_83) (by rw [e46]; exact ⟨b3, b11, k3, k11, rfl, N44, (((((((Keep.refl h0 [a1]).ext E3).wr W6 (Or.inl (List.mem_of_getElem? (i := 0) rfl))).ext E11).wr W14 (Or.inl (List.mem_of_getElem? (i := 0) rfl))).wr W29 (Or.inr sz_b3)).wr W43 (Or.inr sz_b11)), (Exa.wr W43 (Exa.wr W29 (Exa.wr W14 F12))), F45, (Fld.other W43 F31 (Or.inl ne_a1_b11)), F47, V43⟩) (by decide) (by decide)
theorem ef_val10 (m : MethodId) (x0 : Addr) (x1 : Int32) : entryFrame m #[(.ref x0), (.int x1)] 7 = mkF m 0 #[.val (.ref x0), .val (.int x1), .unset, .unset, .unset, .unset, .unset] [] := by first | (simp [entryFrame, mkF, argsToLocals, Value.category]; done) | rfl
theorem d_prog_175_method_7_15 : decode prog_175_method_7_code 15 = .ok (.aload_n 0, 1) := by decide +kernel
theorem d_prog_175_method_7_16 : decode prog_175_method_7_code 16 = .ok (.getfield 19, 3) := by decide +kernel
theorem d_prog_175_method_7_19 : decode prog_175_method_7_code 19 = .ok (.iload 4, 2) := by decide +kernel
theorem d_prog_175_method_7_21 : decode prog_175_method_7_code 21 = .ok (.iaload, 1) := by decide +kernel
theorem d_prog_175_method_7_22 : decode prog_175_method_7_code 22 = .ok (.i2l, 1) := by decide +kernel
theorem d_prog_175_method_7_23 : decode prog_175_method_7_code 23 = .ok (.aload_n 0, 1) := by decide +kernel
theorem d_prog_175_method_7_24 : decode prog_175_method_7_code 24 = .ok (.getfield 13, 3) := by decide +kernel
theorem d_prog_175_method_7_27 : decode prog_175_method_7_code 27 = .ok (.iload 4, 2) := by decide +kernel
theorem d_prog_175_method_7_29 : decode prog_175_method_7_code 29 = .ok (.iaload, 1) := by decide +kernel
theorem d_prog_175_method_7_30 : decode prog_175_method_7_code 30 = .ok (.i2l, 1) := by decide +kernel
theorem d_prog_175_method_7_31 : decode prog_175_method_7_code 31 = .ok (.lsub, 1) := by decide +kernel
theorem d_prog_175_method_7_32 : decode prog_175_method_7_code 32 = .ok (.lconst 1, 1) := by decide +kernel
theorem d_prog_175_method_7_33 : decode prog_175_method_7_code 33 = .ok (.ladd, 1) := by decide +kernel
theorem d_prog_175_method_7_34 : decode prog_175_method_7_code 34 = .ok (.lstore 5, 2) := by decide +kernel
theorem d_prog_175_method_7_36 : decode prog_175_method_7_code 36 = .ok (.lload_n 2, 1) := by decide +kernel
theorem d_prog_175_method_7_37 : decode prog_175_method_7_code 37 = .ok (.ldc2_w 42, 3) := by decide +kernel
theorem d_prog_175_method_7_40 : decode prog_175_method_7_code 40 = .ok (.lload 5, 2) := by decide +kernel
theorem d_prog_175_method_7_42 : decode prog_175_method_7_code 42 = .ok (.ldiv, 1) := by decide +kernel
theorem d_prog_175_method_7_43 : decode prog_175_method_7_code 43 = .ok (.lcmp, 1) := by decide +kernel
theorem d_prog_175_method_7_44 : decode prog_175_method_7_code 44 = .ok (.ifCond .le 9, 3) := by decide +kernel
theorem d_prog_175_method_7_47 : decode prog_175_method_7_code 47 = .ok (.ldc2_w 42, 3) := by decide +kernel
theorem d_prog_175_method_7_50 : decode prog_175_method_7_code 50 = .ok (.goto 7, 3) := by decide +kernel
theorem d_prog_175_method_7_53 : decode prog_175_method_7_code 53 = .ok (.lload_n 2, 1) := by decide +kernel
theorem d_prog_175_method_7_54 : decode prog_175_method_7_code 54 = .ok (.lload 5, 2) := by decide +kernel
theorem d_prog_175_method_7_56 : decode prog_175_method_7_code 56 = .ok (.lmul, 1) := by decide +kernel
theorem d_prog_175_method_7_57 : decode prog_175_method_7_code 57 = .ok (.lstore_n 2, 1) := by decide +kernel
theorem d_prog_175_method_7_58 : decode prog_175_method_7_code 58 = .ok (.iinc 4 1, 3) := by decide +kernel
theorem d_prog_175_method_7_61 : decode prog_175_method_7_code 61 = .ok (.goto (-56), 3) := by decide +kernel
set_option maxRecDepth 65536 in
set_option maxHeartbeats 40000000 in
theorem rm_val10 (l : Launch) (Z : State) (a0 : Array Value) (hw : ∀ d ∈ tables_1, d.before a0 Z = true) (a1 bl bh : Addr) (kl kh : ClassId) (q0 : Int64) (h0 : Heap) (Frl : Fld Z h0 a1 "com/example/tributary/tributary/semantics/Ranges" "low" "[I" (.ref bl)) (Frh : Fld Z h0 a1 "com/example/tributary/tributary/semantics/Ranges" "high" "[I" (.ref bh)) (Vl : Arv Z h0 bl kl .int (1 : Int32) [(.int (own_low q0))] (.int (0 : Int32))) (Vh : Arv Z h0 bh kh .int (1 : Int32) [(.int (own_high q0))] (.int (0 : Int32))) :
    OwCon l Z (⟨"com/example/tributary/tributary/semantics/Ranges", "valuations", "(I)J"⟩ : MethodName) prog_175_method_7_code 7 (some .long) [] ({ frames := 0, cells := 0, slots := 0, locals := 0 } : Room) #[(.ref a1), (.int (0 : Int32))] h0 (OwRet (some (.long (own_step (1 : Int64) (own_vals q0)))) h0) := by
  refine OwCon.of (plainFor_of_name pn_com_example_tributary_tributary_semantics_Ranges) ?_
  intro p e s m below meth cd_ s₁ X0 hx hby hml hret hlk hown hnm hZ e0
  refine GoOn.st (fun t_ k_ => castTop (ef_val10 m a1 (0 : Int32)) k_) ?_
  show GoOn _ _ _ _ (s₁.setTop (mkF m 0 #[.val (.ref a1), .val (.int (0 : Int32)), .unset, .unset, .unset, .unset, .unset] []))
  refine GoOn.st (fun t_ k_ => XS.lconst X0.here hx rfl (hb hby d_prog_175_method_7_0)  k_) ?_
  refine GoOn.st (fun t_ k_ => XS.lstoreN X0.here hx rfl (hb hby d_prog_175_method_7_1) rfl (l' := #[.val (.ref a1), .val (.int (0 : Int32)), .val (.long (1 : Int64)), .second, .unset, .unset, .unset]) rfl k_) ?_
  refine GoOn.st (fun t_ k_ => XS.iloadN X0.here hx rfl (hb hby d_prog_175_method_7_2) rfl k_) ?_
  refine GoOn.st (fun t_ k_ => XS.istore X0.here hx rfl (hb hby d_prog_175_method_7_3) rfl (l' := #[.val (.ref a1), .val (.int (0 : Int32)), .val (.long (1 : Int64)), .second, .val (.int (0 : Int32)), .unset, .unset]) rfl k_) ?_
  show GoOn _ _ _ _ (s₁.setTop (mkF m 5 #[.val (.ref a1), .val (.int (0 : Int32)), .val (.long (1 : Int64)), .second, .val (.int (0 : Int32)), .unset, .unset] []))
  refine GoOn.st (fun t_ k_ => XS.iload X0.here hx rfl (hb hby d_prog_175_method_7_5) rfl k_) ?_
  refine GoOn.st (fun t_ k_ => XS.aloadN X0.here hx rfl (hb hby d_prog_175_method_7_7) rfl rfl k_) ?_
  obtain ⟨T1, X1, e1, st1⟩ := getF X0 hx hZ hown (host := "") (Or.inl (hw _ (List.mem_of_getElem? (i := 95) rfl))) Via.refl e0 Frl (g := (mkF m 8 #[.val (.ref a1), .val (.int (0 : Int32)), .val (.long (1 : Int64)), .second, .val (.int (0 : Int32)), .unset, .unset] [(.ref a1), (.int (0 : Int32))])) rfl rfl (hb hby d_prog_175_method_7_8)
  refine GoOn.st st1 ?_
  refine GoOn.st (fun t_ k_ => own_arrlen X1 hx hZ e1 Vl (hb hby d_prog_175_method_7_11) _ k_) ?_
  show GoOn _ _ _ _ (T1.setTop (mkF m 12 #[.val (.ref a1), .val (.int (0 : Int32)), .val (.long (1 : Int64)), .second, .val (.int (0 : Int32)), .unset, .unset] [(.int (1 : Int32)), (.int (0 : Int32))]))
  refine GoOn.st (fun t_ k_ => XS.icmpNo X1.here hx rfl (hb hby d_prog_175_method_7_12) rfl (tlt (by decide : (0 : Int32) < (1 : Int32))).2.1 k_) ?_
  refine GoOn.st (fun t_ k_ => XS.aloadN X1.here hx rfl (hb hby d_prog_175_method_7_15) rfl rfl k_) ?_
  obtain ⟨T2, X2, e2, st2⟩ := getF X1 hx hZ hown (host := "") (Or.inl (hw _ (List.mem_of_getElem? (i := 97) rfl))) Via.refl e1 Frh (g := (mkF m 16 #[.val (.ref a1), .val (.int (0 : Int32)), .val (.long (1 : Int64)), .second, .val (.int (0 : Int32)), .unset, .unset] [(.ref a1)])) rfl rfl (hb hby d_prog_175_method_7_16)
  refine GoOn.st st2 ?_
  refine GoOn.st (fun t_ k_ => XS.iload X2.here hx rfl (hb hby d_prog_175_method_7_19) rfl k_) ?_
  show GoOn _ _ _ _ (T2.setTop (mkF m 21 #[.val (.ref a1), .val (.int (0 : Int32)), .val (.long (1 : Int64)), .second, .val (.int (0 : Int32)), .unset, .unset] [(.int (0 : Int32)), (.ref bh)]))
  refine GoOn.st (fun t_ k_ => own_iaload X2 hx hZ e2 Vh (j := (0 : Int32)) (by decide) (v := (.int (own_high q0))) rfl (hb hby d_prog_175_method_7_21) _ k_) ?_
  refine GoOn.st (fun t_ k_ => XS.i2l X2.here hx rfl (hb hby d_prog_175_method_7_22) rfl k_) ?_
  refine GoOn.st (fun t_ k_ => XS.aloadN X2.here hx rfl (hb hby d_prog_175_method_7_23) rfl rfl k_) ?_
  obtain ⟨T3, X3, e3, st3⟩ := getF X2 hx hZ hown (host := "") (Or.inl (hw _ (List.mem_of_getElem? (i := 95) rfl))) Via.refl e2 Frl (g := (mkF m 24 #[.val (.ref a1), .val (.int (0 : Int32)), .val (.long (1 : Int64)), .second, .val (.int (0 : Int32)), .unset, .unset] [(.ref a1), (.long (((own_high q0)).toInt64))])) rfl rfl (hb hby d_prog_175_method_7_24)
  refine GoOn.st st3 ?_
  show GoOn _ _ _ _ (T3.setTop (mkF m 27 #[.val (.ref a1), .val (.int (0 : Int32)), .val (.long (1 : Int64)), .second, .val (.int (0 : Int32)), .unset, .unset] [(.ref bl), (.long (((own_high q0)).toInt64))]))
  refine GoOn.st (fun t_ k_ => XS.iload X3.here hx rfl (hb hby d_prog_175_method_7_27) rfl k_) ?_
  refine GoOn.st (fun t_ k_ => own_iaload X3 hx hZ e3 Vl (j := (0 : Int32)) (by decide) (v := (.int (own_low q0))) rfl (hb hby d_prog_175_method_7_29) _ k_) ?_
  refine GoOn.st (fun t_ k_ => XS.i2l X3.here hx rfl (hb hby d_prog_175_method_7_30) rfl k_) ?_
  refine GoOn.st (fun t_ k_ => XS.lsub X3.here hx rfl (hb hby d_prog_175_method_7_31) rfl k_) ?_
  show GoOn _ _ _ _ (T3.setTop (mkF m 32 #[.val (.ref a1), .val (.int (0 : Int32)), .val (.long (1 : Int64)), .second, .val (.int (0 : Int32)), .unset, .unset] [(.long ((((own_high q0)).toInt64) - (((own_low q0)).toInt64)))]))
  refine GoOn.st (fun t_ k_ => XS.lconst X3.here hx rfl (hb hby d_prog_175_method_7_32)  k_) ?_
  refine GoOn.st (fun t_ k_ => XS.ladd X3.here hx rfl (hb hby d_prog_175_method_7_33) rfl k_) ?_
  refine GoOn.st (fun t_ k_ => XS.lstore X3.here hx rfl (hb hby d_prog_175_method_7_34) rfl (l' := #[.val (.ref a1), .val (.int (0 : Int32)), .val (.long (1 : Int64)), .second, .val (.int (0 : Int32)), .val (.long (((((own_high q0)).toInt64) - (((own_low q0)).toInt64)) + (1 : Int64))), .second]) rfl k_) ?_
  show GoOn _ _ _ _ (T3.setTop (mkF m 36 #[.val (.ref a1), .val (.int (0 : Int32)), .val (.long (1 : Int64)), .second, .val (.int (0 : Int32)), .val (.long (own_vals q0)), .second] []))
  refine GoOn.st (fun t_ k_ => XS.lloadN X3.here hx rfl (hb hby d_prog_175_method_7_36) rfl k_) ?_
  refine GoOn.st (fun t_ k_ => X3.ldc2Long hx hown (mvT hZ (hw _ (List.mem_of_getElem? (i := 170) rfl))) (g := (mkF m 37 #[.val (.ref a1), .val (.int (0 : Int32)), .val (.long (1 : Int64)), .second, .val (.int (0 : Int32)), .val (.long (own_vals q0)), .second] [(.long (1 : Int64))])) rfl (hb hby d_prog_175_method_7_37) _ k_) ?_
  refine GoOn.st (fun t_ k_ => XS.lload X3.here hx rfl (hb hby d_prog_175_method_7_40) rfl k_) ?_
  refine GoOn.st (fun t_ k_ => XS.ldiv X3.here hx rfl (hb hby d_prog_175_method_7_42) rfl (own_in_nz (own_in_vals q0)) k_) ?_
  show GoOn _ _ _ _ (T3.setTop (mkF m 43 #[.val (.ref a1), .val (.int (0 : Int32)), .val (.long (1 : Int64)), .second, .val (.int (0 : Int32)), .val (.long (own_vals q0)), .second] [(.long ((9223372036854775807 : Int64) / (own_vals q0))), (.long (1 : Int64))]))
  refine GoOn.st (fun t_ k_ => XS.lcmp X3.here hx rfl (hb hby d_prog_175_method_7_43) rfl k_) ?_
  have dm4 : ∀ zz0 : Int64, zz0 = (if ((9223372036854775807 : Int64) / (own_vals q0)) < (1 : Int64) then (9223372036854775807 : Int64) else ((1 : Int64) * (own_vals q0))) → ∀ t_, Steps p.tables e below (T3.setTop (mkF m 57 #[.val (.ref a1), .val (.int (0 : Int32)), .val (.long (1 : Int64)), .second, .val (.int (0 : Int32)), .val (.long (own_vals q0)), .second] [(.long zz0)])) t_ → Steps p.tables e below (T3.setTop (mkF m 44 #[.val (.ref a1), .val (.int (0 : Int32)), .val (.long (1 : Int64)), .second, .val (.int (0 : Int32)), .val (.long (own_vals q0)), .second] [(.int (lcmpW (1 : Int64) ((9223372036854775807 : Int64) / (own_vals q0))))])) t_ := by
    intro zz0 hzz0 t_ k_; by_cases hc : ((9223372036854775807 : Int64) / (own_vals q0)) < (1 : Int64)
    · rw [hzz0.trans (if_pos hc)] at k_
      refine XS.ifNo X3.here hx rfl (hb hby d_prog_175_method_7_44) rfl ((if0 _ _).trans (tlt ((lw_gt (1 : Int64) ((9223372036854775807 : Int64) / (own_vals q0))).mpr hc)).2.2.2) ?_
      refine X3.ldc2Long hx hown (mvT hZ (hw _ (List.mem_of_getElem? (i := 170) rfl))) (g := (mkF m 47 #[.val (.ref a1), .val (.int (0 : Int32)), .val (.long (1 : Int64)), .second, .val (.int (0 : Int32)), .val (.long (own_vals q0)), .second] [])) rfl (hb hby d_prog_175_method_7_47) _ ?_
      refine XS.goto X3.here hx rfl (pc0 := 50) (pc' := 57) rfl (hb hby d_prog_175_method_7_50) (by decide) (by decide) ?_
      exact k_
    · rw [hzz0.trans (if_neg hc)] at k_
      refine XS.ifYes X3.here hx rfl (pc0 := 44) (pc' := 53) rfl (hb hby d_prog_175_method_7_44) rfl ((if0 _ _).trans (flt (fun q => hc ((lw_gt (1 : Int64) ((9223372036854775807 : Int64) / (own_vals q0))).mp q))).2.2.2) (by decide) (by decide) ?_
      refine XS.lloadN X3.here hx rfl (hb hby d_prog_175_method_7_53) rfl ?_
      refine XS.lload X3.here hx rfl (hb hby d_prog_175_method_7_54) rfl ?_
      show Steps _ _ _ (T3.setTop (mkF m 56 #[.val (.ref a1), .val (.int (0 : Int32)), .val (.long (1 : Int64)), .second, .val (.int (0 : Int32)), .val (.long (own_vals q0)), .second] [(.long (own_vals q0)), (.long (1 : Int64))])) _
      refine XS.lmul X3.here hx rfl (hb hby d_prog_175_method_7_56) rfl ?_
      exact k_
  refine GoOn.st (dm4 _ rfl) ?_
  show GoOn _ _ _ _ (T3.setTop (mkF m 57 #[.val (.ref a1), .val (.int (0 : Int32)), .val (.long (1 : Int64)), .second, .val (.int (0 : Int32)), .val (.long (own_vals q0)), .second] [(.long (own_step (1 : Int64) (own_vals q0)))]))
  refine GoOn.st (fun t_ k_ => XS.lstoreN X3.here hx rfl (hb hby d_prog_175_method_7_57) rfl (l' := #[.val (.ref a1), .val (.int (0 : Int32)), .val (.long (own_step (1 : Int64) (own_vals q0))), .second, .val (.int (0 : Int32)), .val (.long (own_vals q0)), .second]) rfl k_) ?_
  refine GoOn.st (fun t_ k_ => XS.iinc X3.here hx rfl (hb hby d_prog_175_method_7_58) rfl (l' := #[.val (.ref a1), .val (.int (0 : Int32)), .val (.long (own_step (1 : Int64) (own_vals q0))), .second, .val (.int (1 : Int32)), .val (.long (own_vals q0)), .second]) rfl k_) ?_
  refine GoOn.st (fun t_ k_ => XS.goto X3.here hx rfl (pc0 := 61) (pc' := 5) rfl (hb hby d_prog_175_method_7_61) (by decide) (by decide) k_) ?_
  refine GoOn.st (fun t_ k_ => XS.iload X3.here hx rfl (hb hby d_prog_175_method_7_5) rfl k_) ?_
  show GoOn _ _ _ _ (T3.setTop (mkF m 7 #[.val (.ref a1), .val (.int (0 : Int32)), .val (.long (own_step (1 : Int64) (own_vals q0))), .second, .val (.int (1 : Int32)), .val (.long (own_vals q0)), .second] [(.int (1 : Int32))]))
  refine GoOn.st (fun t_ k_ => XS.aloadN X3.here hx rfl (hb hby d_prog_175_method_7_7) rfl rfl k_) ?_
  obtain ⟨T5, X5, e5, st5⟩ := getF X3 hx hZ hown (host := "") (Or.inl (hw _ (List.mem_of_getElem? (i := 95) rfl))) Via.refl e3 Frl (g := (mkF m 8 #[.val (.ref a1), .val (.int (0 : Int32)), .val (.long (own_step (1 : Int64) (own_vals q0))), .second, .val (.int (1 : Int32)), .val (.long (own_vals q0)), .second] [(.ref a1), (.int (1 : Int32))])) rfl rfl (hb hby d_prog_175_method_7_8)
  refine GoOn.st st5 ?_
  refine GoOn.st (fun t_ k_ => own_arrlen X5 hx hZ e5 Vl (hb hby d_prog_175_method_7_11) _ k_) ?_
  refine GoOn.st (fun t_ k_ => XS.icmpYes X5.here hx rfl (pc0 := 12) (pc' := 64) rfl (hb hby d_prog_175_method_7_12) rfl (flt (by decide : ¬ ((1 : Int32) < (1 : Int32)))).2.1 (by decide) (by decide) k_) ?_
  show GoOn _ _ _ _ (T5.setTop (mkF m 64 #[.val (.ref a1), .val (.int (0 : Int32)), .val (.long (own_step (1 : Int64) (own_vals q0))), .second, .val (.int (1 : Int32)), .val (.long (own_vals q0)), .second] []))
  refine GoOn.st (fun t_ k_ => XS.lloadN X5.here hx rfl (hb hby d_prog_175_method_7_64) rfl k_) ?_
  show GoOn _ _ _ _ (T5.setTop (mkF m 65 #[.val (.ref a1), .val (.int (0 : Int32)), .val (.long (own_step (1 : Int64) (own_vals q0))), .second, .val (.int (1 : Int32)), .val (.long (own_vals q0)), .second] [(.long (own_step (1 : Int64) (own_vals q0)))]))
  exact GoOn.retJ X5 hx hlk hret (hb hby d_prog_175_method_7_65) (by rw [e5]; exact ⟨rfl, rfl, rfl⟩) (by decide) (by decide)
theorem ef_val11 (m : MethodId) (x0 : Addr) (x1 : Int32) : entryFrame m #[(.ref x0), (.int x1)] 7 = mkF m 0 #[.val (.ref x0), .val (.int x1), .unset, .unset, .unset, .unset, .unset] [] := by first | (simp [entryFrame, mkF, argsToLocals, Value.category]; done) | rfl
set_option maxRecDepth 65536 in
set_option maxHeartbeats 40000000 in
theorem rm_val11 (l : Launch) (Z : State) (a0 : Array Value) (hw : ∀ d ∈ tables_1, d.before a0 Z = true) (a1 bl bh : Addr) (kl kh : ClassId) (q0 : Int64) (h0 : Heap) (Frl : Fld Z h0 a1 "com/example/tributary/tributary/semantics/Ranges" "low" "[I" (.ref bl)) (Frh : Fld Z h0 a1 "com/example/tributary/tributary/semantics/Ranges" "high" "[I" (.ref bh)) (Vl : Arv Z h0 bl kl .int (1 : Int32) [(.int (own_low q0))] (.int (0 : Int32))) (Vh : Arv Z h0 bh kh .int (1 : Int32) [(.int (own_high q0))] (.int (0 : Int32))) :
    OwCon l Z (⟨"com/example/tributary/tributary/semantics/Ranges", "valuations", "(I)J"⟩ : MethodName) prog_175_method_7_code 7 (some .long) [] ({ frames := 0, cells := 0, slots := 0, locals := 0 } : Room) #[(.ref a1), (.int (1 : Int32))] h0 (OwRet (some (.long (1 : Int64))) h0) := by
  refine OwCon.of (plainFor_of_name pn_com_example_tributary_tributary_semantics_Ranges) ?_
  intro p e s m below meth cd_ s₁ X0 hx hby hml hret hlk hown hnm hZ e0
  refine GoOn.st (fun t_ k_ => castTop (ef_val11 m a1 (1 : Int32)) k_) ?_
  show GoOn _ _ _ _ (s₁.setTop (mkF m 0 #[.val (.ref a1), .val (.int (1 : Int32)), .unset, .unset, .unset, .unset, .unset] []))
  refine GoOn.st (fun t_ k_ => XS.lconst X0.here hx rfl (hb hby d_prog_175_method_7_0)  k_) ?_
  refine GoOn.st (fun t_ k_ => XS.lstoreN X0.here hx rfl (hb hby d_prog_175_method_7_1) rfl (l' := #[.val (.ref a1), .val (.int (1 : Int32)), .val (.long (1 : Int64)), .second, .unset, .unset, .unset]) rfl k_) ?_
  refine GoOn.st (fun t_ k_ => XS.iloadN X0.here hx rfl (hb hby d_prog_175_method_7_2) rfl k_) ?_
  refine GoOn.st (fun t_ k_ => XS.istore X0.here hx rfl (hb hby d_prog_175_method_7_3) rfl (l' := #[.val (.ref a1), .val (.int (1 : Int32)), .val (.long (1 : Int64)), .second, .val (.int (1 : Int32)), .unset, .unset]) rfl k_) ?_
  show GoOn _ _ _ _ (s₁.setTop (mkF m 5 #[.val (.ref a1), .val (.int (1 : Int32)), .val (.long (1 : Int64)), .second, .val (.int (1 : Int32)), .unset, .unset] []))
  refine GoOn.st (fun t_ k_ => XS.iload X0.here hx rfl (hb hby d_prog_175_method_7_5) rfl k_) ?_
  refine GoOn.st (fun t_ k_ => XS.aloadN X0.here hx rfl (hb hby d_prog_175_method_7_7) rfl rfl k_) ?_
  obtain ⟨T1, X1, e1, st1⟩ := getF X0 hx hZ hown (host := "") (Or.inl (hw _ (List.mem_of_getElem? (i := 95) rfl))) Via.refl e0 Frl (g := (mkF m 8 #[.val (.ref a1), .val (.int (1 : Int32)), .val (.long (1 : Int64)), .second, .val (.int (1 : Int32)), .unset, .unset] [(.ref a1), (.int (1 : Int32))])) rfl rfl (hb hby d_prog_175_method_7_8)
  refine GoOn.st st1 ?_
  refine GoOn.st (fun t_ k_ => own_arrlen X1 hx hZ e1 Vl (hb hby d_prog_175_method_7_11) _ k_) ?_
  show GoOn _ _ _ _ (T1.setTop (mkF m 12 #[.val (.ref a1), .val (.int (1 : Int32)), .val (.long (1 : Int64)), .second, .val (.int (1 : Int32)), .unset, .unset] [(.int (1 : Int32)), (.int (1 : Int32))]))
  refine GoOn.st (fun t_ k_ => XS.icmpYes X1.here hx rfl (pc0 := 12) (pc' := 64) rfl (hb hby d_prog_175_method_7_12) rfl (flt (by decide : ¬ ((1 : Int32) < (1 : Int32)))).2.1 (by decide) (by decide) k_) ?_
  refine GoOn.st (fun t_ k_ => XS.lloadN X1.here hx rfl (hb hby d_prog_175_method_7_64) rfl k_) ?_
  show GoOn _ _ _ _ (T1.setTop (mkF m 65 #[.val (.ref a1), .val (.int (1 : Int32)), .val (.long (1 : Int64)), .second, .val (.int (1 : Int32)), .unset, .unset] [(.long (1 : Int64))]))
  exact GoOn.retJ X1 hx hlk hret (hb hby d_prog_175_method_7_65) (by rw [e1]; exact ⟨rfl, rfl, rfl⟩) (by decide) (by decide)
theorem ef_val12 (m : MethodId) (x0 : Addr) (x1 : Int32) : entryFrame m #[(.ref x0), (.int x1)] 7 = mkF m 0 #[.val (.ref x0), .val (.int x1), .unset, .unset, .unset, .unset, .unset] [] := by first | (simp [entryFrame, mkF, argsToLocals, Value.category]; done) | rfl
set_option maxRecDepth 65536 in
set_option maxHeartbeats 40000000 in
theorem rm_val12 (l : Launch) (Z : State) (a0 : Array Value) (hw : ∀ d ∈ tables_1, d.before a0 Z = true) (a1 bl bh : Addr) (kl kh : ClassId) (q0 : Int64) (h0 : Heap) (Frl : Fld Z h0 a1 "com/example/tributary/tributary/semantics/Ranges" "low" "[I" (.ref bl)) (Frh : Fld Z h0 a1 "com/example/tributary/tributary/semantics/Ranges" "high" "[I" (.ref bh)) (Vl : Arv Z h0 bl kl .int (1 : Int32) [(.int (own_low q0))] (.int (0 : Int32))) (Vh : Arv Z h0 bh kh .int (1 : Int32) [(.int (own_high q0))] (.int (0 : Int32))) :
    OwCon l Z (⟨"com/example/tributary/tributary/semantics/Ranges", "valuations", "(I)J"⟩ : MethodName) prog_175_method_7_code 7 (some .long) [] ({ frames := 0, cells := 0, slots := 0, locals := 0 } : Room) #[(.ref a1), (.int (2 : Int32))] h0 (OwRet (some (.long (1 : Int64))) h0) := by
  refine OwCon.of (plainFor_of_name pn_com_example_tributary_tributary_semantics_Ranges) ?_
  intro p e s m below meth cd_ s₁ X0 hx hby hml hret hlk hown hnm hZ e0
  refine GoOn.st (fun t_ k_ => castTop (ef_val12 m a1 (2 : Int32)) k_) ?_
  show GoOn _ _ _ _ (s₁.setTop (mkF m 0 #[.val (.ref a1), .val (.int (2 : Int32)), .unset, .unset, .unset, .unset, .unset] []))
  refine GoOn.st (fun t_ k_ => XS.lconst X0.here hx rfl (hb hby d_prog_175_method_7_0)  k_) ?_
  refine GoOn.st (fun t_ k_ => XS.lstoreN X0.here hx rfl (hb hby d_prog_175_method_7_1) rfl (l' := #[.val (.ref a1), .val (.int (2 : Int32)), .val (.long (1 : Int64)), .second, .unset, .unset, .unset]) rfl k_) ?_
  refine GoOn.st (fun t_ k_ => XS.iloadN X0.here hx rfl (hb hby d_prog_175_method_7_2) rfl k_) ?_
  refine GoOn.st (fun t_ k_ => XS.istore X0.here hx rfl (hb hby d_prog_175_method_7_3) rfl (l' := #[.val (.ref a1), .val (.int (2 : Int32)), .val (.long (1 : Int64)), .second, .val (.int (2 : Int32)), .unset, .unset]) rfl k_) ?_
  show GoOn _ _ _ _ (s₁.setTop (mkF m 5 #[.val (.ref a1), .val (.int (2 : Int32)), .val (.long (1 : Int64)), .second, .val (.int (2 : Int32)), .unset, .unset] []))
  refine GoOn.st (fun t_ k_ => XS.iload X0.here hx rfl (hb hby d_prog_175_method_7_5) rfl k_) ?_
  refine GoOn.st (fun t_ k_ => XS.aloadN X0.here hx rfl (hb hby d_prog_175_method_7_7) rfl rfl k_) ?_
  obtain ⟨T1, X1, e1, st1⟩ := getF X0 hx hZ hown (host := "") (Or.inl (hw _ (List.mem_of_getElem? (i := 95) rfl))) Via.refl e0 Frl (g := (mkF m 8 #[.val (.ref a1), .val (.int (2 : Int32)), .val (.long (1 : Int64)), .second, .val (.int (2 : Int32)), .unset, .unset] [(.ref a1), (.int (2 : Int32))])) rfl rfl (hb hby d_prog_175_method_7_8)
  refine GoOn.st st1 ?_
  refine GoOn.st (fun t_ k_ => own_arrlen X1 hx hZ e1 Vl (hb hby d_prog_175_method_7_11) _ k_) ?_
  show GoOn _ _ _ _ (T1.setTop (mkF m 12 #[.val (.ref a1), .val (.int (2 : Int32)), .val (.long (1 : Int64)), .second, .val (.int (2 : Int32)), .unset, .unset] [(.int (1 : Int32)), (.int (2 : Int32))]))
  refine GoOn.st (fun t_ k_ => XS.icmpYes X1.here hx rfl (pc0 := 12) (pc' := 64) rfl (hb hby d_prog_175_method_7_12) rfl (flt (by decide : ¬ ((2 : Int32) < (1 : Int32)))).2.1 (by decide) (by decide) k_) ?_
  refine GoOn.st (fun t_ k_ => XS.lloadN X1.here hx rfl (hb hby d_prog_175_method_7_64) rfl k_) ?_
  show GoOn _ _ _ _ (T1.setTop (mkF m 65 #[.val (.ref a1), .val (.int (2 : Int32)), .val (.long (1 : Int64)), .second, .val (.int (2 : Int32)), .unset, .unset] [(.long (1 : Int64))]))
  exact GoOn.retJ X1 hx hlk hret (hb hby d_prog_175_method_7_65) (by rw [e1]; exact ⟨rfl, rfl, rfl⟩) (by decide) (by decide)
theorem ef_val13 (m : MethodId) (x0 : Addr) (x1 : Int32) : entryFrame m #[(.ref x0), (.int x1)] 7 = mkF m 0 #[.val (.ref x0), .val (.int x1), .unset, .unset, .unset, .unset, .unset] [] := by first | (simp [entryFrame, mkF, argsToLocals, Value.category]; done) | rfl
set_option maxRecDepth 65536 in
set_option maxHeartbeats 40000000 in
theorem rm_val13 (l : Launch) (Z : State) (a0 : Array Value) (hw : ∀ d ∈ tables_1, d.before a0 Z = true) (a1 bl bh : Addr) (kl kh : ClassId) (q0 : Int64) (h0 : Heap) (Frl : Fld Z h0 a1 "com/example/tributary/tributary/semantics/Ranges" "low" "[I" (.ref bl)) (Frh : Fld Z h0 a1 "com/example/tributary/tributary/semantics/Ranges" "high" "[I" (.ref bh)) (Vl : Arv Z h0 bl kl .int (1 : Int32) [(.int (own_low q0))] (.int (0 : Int32))) (Vh : Arv Z h0 bh kh .int (1 : Int32) [(.int (own_high q0))] (.int (0 : Int32))) :
    OwCon l Z (⟨"com/example/tributary/tributary/semantics/Ranges", "valuations", "(I)J"⟩ : MethodName) prog_175_method_7_code 7 (some .long) [] ({ frames := 0, cells := 0, slots := 0, locals := 0 } : Room) #[(.ref a1), (.int (3 : Int32))] h0 (OwRet (some (.long (1 : Int64))) h0) := by
  refine OwCon.of (plainFor_of_name pn_com_example_tributary_tributary_semantics_Ranges) ?_
  intro p e s m below meth cd_ s₁ X0 hx hby hml hret hlk hown hnm hZ e0
  refine GoOn.st (fun t_ k_ => castTop (ef_val13 m a1 (3 : Int32)) k_) ?_
  show GoOn _ _ _ _ (s₁.setTop (mkF m 0 #[.val (.ref a1), .val (.int (3 : Int32)), .unset, .unset, .unset, .unset, .unset] []))
  refine GoOn.st (fun t_ k_ => XS.lconst X0.here hx rfl (hb hby d_prog_175_method_7_0)  k_) ?_
  refine GoOn.st (fun t_ k_ => XS.lstoreN X0.here hx rfl (hb hby d_prog_175_method_7_1) rfl (l' := #[.val (.ref a1), .val (.int (3 : Int32)), .val (.long (1 : Int64)), .second, .unset, .unset, .unset]) rfl k_) ?_
  refine GoOn.st (fun t_ k_ => XS.iloadN X0.here hx rfl (hb hby d_prog_175_method_7_2) rfl k_) ?_
  refine GoOn.st (fun t_ k_ => XS.istore X0.here hx rfl (hb hby d_prog_175_method_7_3) rfl (l' := #[.val (.ref a1), .val (.int (3 : Int32)), .val (.long (1 : Int64)), .second, .val (.int (3 : Int32)), .unset, .unset]) rfl k_) ?_
  show GoOn _ _ _ _ (s₁.setTop (mkF m 5 #[.val (.ref a1), .val (.int (3 : Int32)), .val (.long (1 : Int64)), .second, .val (.int (3 : Int32)), .unset, .unset] []))
  refine GoOn.st (fun t_ k_ => XS.iload X0.here hx rfl (hb hby d_prog_175_method_7_5) rfl k_) ?_
  refine GoOn.st (fun t_ k_ => XS.aloadN X0.here hx rfl (hb hby d_prog_175_method_7_7) rfl rfl k_) ?_
  obtain ⟨T1, X1, e1, st1⟩ := getF X0 hx hZ hown (host := "") (Or.inl (hw _ (List.mem_of_getElem? (i := 95) rfl))) Via.refl e0 Frl (g := (mkF m 8 #[.val (.ref a1), .val (.int (3 : Int32)), .val (.long (1 : Int64)), .second, .val (.int (3 : Int32)), .unset, .unset] [(.ref a1), (.int (3 : Int32))])) rfl rfl (hb hby d_prog_175_method_7_8)
  refine GoOn.st st1 ?_
  refine GoOn.st (fun t_ k_ => own_arrlen X1 hx hZ e1 Vl (hb hby d_prog_175_method_7_11) _ k_) ?_
  show GoOn _ _ _ _ (T1.setTop (mkF m 12 #[.val (.ref a1), .val (.int (3 : Int32)), .val (.long (1 : Int64)), .second, .val (.int (3 : Int32)), .unset, .unset] [(.int (1 : Int32)), (.int (3 : Int32))]))
  refine GoOn.st (fun t_ k_ => XS.icmpYes X1.here hx rfl (pc0 := 12) (pc' := 64) rfl (hb hby d_prog_175_method_7_12) rfl (flt (by decide : ¬ ((3 : Int32) < (1 : Int32)))).2.1 (by decide) (by decide) k_) ?_
  refine GoOn.st (fun t_ k_ => XS.lloadN X1.here hx rfl (hb hby d_prog_175_method_7_64) rfl k_) ?_
  show GoOn _ _ _ _ (T1.setTop (mkF m 65 #[.val (.ref a1), .val (.int (3 : Int32)), .val (.long (1 : Int64)), .second, .val (.int (3 : Int32)), .unset, .unset] [(.long (1 : Int64))]))
  exact GoOn.retJ X1 hx hlk hret (hb hby d_prog_175_method_7_65) (by rw [e1]; exact ⟨rfl, rfl, rfl⟩) (by decide) (by decide)
theorem ef_rinit2 (m : MethodId) (x0 : Addr) (x1 : Addr) : entryFrame m #[(.ref x0), (.ref x1)] 3 = mkF m 0 #[.val (.ref x0), .val (.ref x1), .unset] [] := by first | (simp [entryFrame, mkF, argsToLocals, Value.category]; done) | rfl
set_option maxRecDepth 65536 in
set_option maxHeartbeats 40000000 in
theorem rm_rinit2 (l : Launch) (Z : State) (a0 : Array Value) (hw : ∀ d ∈ tables_1, d.before a0 Z = true) (a1 a2 b2 x0 x1 : Addr) (kb : ClassId) (q0 q1 : Int64) (h0 : Heap) (n0 : Nat) (Z0 : n0 ≤ h0.size) (Er : Exa Z h0 a1 "com/example/tributary/tributary/semantics/Ranges") (Frl : Fld Z h0 a1 "com/example/tributary/tributary/semantics/Ranges" "low" "[I" .null) (Frh : Fld Z h0 a1 "com/example/tributary/tributary/semantics/Ranges" "high" "[I" .null) (Ea : Exa Z h0 a2 "java/util/ArrayList") (Fs : Fld Z h0 a2 "java/util/ArrayList" "size" "I" (.int (2 : Int32))) (h21 : a2 ≠ a1) (g_a1 : n0 ≤ a1) (Fe : Fld Z h0 a2 "java/util/ArrayList" "elementData" "[Ljava/lang/Object;" (.ref b2)) (Vb : Arv Z h0 b2 kb (.object "java/lang/Object") (10 : Int32) [(.ref x0), (.ref x1), .null, .null, .null, .null, .null, .null, .null, .null] .null) (hb1 : b2 ≠ a1) (Ex0 : Exa Z h0 x0 "com/example/tributary/tributary/semantics/Variable") (Lx0 : Fld Z h0 x0 "com/example/tributary/tributary/semantics/Variable" "low" "I" (.int (own_low q0))) (Hx0 : Fld Z h0 x0 "com/example/tributary/tributary/semantics/Variable" "high" "I" (.int (own_high q0))) (hx0 : x0 ≠ a1) (Ex1 : Exa Z h0 x1 "com/example/tributary/tributary/semantics/Variable") (Lx1 : Fld Z h0 x1 "com/example/tributary/tributary/semantics/Variable" "low" "I" (.int (own_low q1))) (Hx1 : Fld Z h0 x1 "com/example/tributary/tributary/semantics/Variable" "high" "I" (.int (own_high q1))) (hx1 : x1 ≠ a1) :
    OwCon l Z (⟨"com/example/tributary/tributary/semantics/Ranges", "<init>", "(Ljava/util/List;)V"⟩ : MethodName) prog_175_method_1_code 3 none [] ({ frames := 3, cells := 2, slots := 4, locals := 42 } : Room) #[(.ref a1), (.ref a2)] h0 (fun v h L => ∃ bl bh kl kh, v = none ∧ Fr n0 L ∧ Keep h0 h [a1] ∧ Exa Z h a1 "com/example/tributary/tributary/semantics/Ranges" ∧ Fld Z h a1 "com/example/tributary/tributary/semantics/Ranges" "low" "[I" (.ref bl) ∧ Fld Z h a1 "com/example/tributary/tributary/semantics/Ranges" "high" "[I" (.ref bh) ∧ Arv Z h bl kl .int (2 : Int32) [(.int (own_low q0)), (.int (own_low q1))] (.int (0 : Int32)) ∧ Arv Z h bh kh .int (2 : Int32) [(.int (own_high q0)), (.int (own_high q1))] (.int (0 : Int32))) := by
  refine OwCon.of (plainFor_of_name pn_com_example_tributary_tributary_semantics_Ranges) ?_
  intro p e s m below meth cd_ s₁ X0 hx hby hml hret hlk hown hnm hZ e0
  have N0 := Fr.nil n0
  refine GoOn.st (fun t_ k_ => castTop (ef_rinit2 m a1 a2) k_) ?_
  show GoOn _ _ _ _ (s₁.setTop (mkF m 0 #[.val (.ref a1), .val (.ref a2), .unset] []))
  refine GoOn.st (fun t_ k_ => XS.aloadN X0.here hx rfl (hb hby d_prog_175_method_1_0) rfl rfl k_) ?_
  show GoOn _ _ _ _ (s₁.setTop (mkF m 1 #[.val (.ref a1), .val (.ref a2), .unset] [(.ref a1)]))
  obtain ⟨T1, X1, e1, st1⟩ := initO X0 hx hZ hown (hw _ (List.mem_of_getElem? (i := 82) rfl)) (hw _ (List.mem_of_getElem? (i := 40) rfl)) (hw _ (List.mem_of_getElem? (i := 41) rfl)) e0 (g := (mkF m 1 #[.val (.ref a1), .val (.ref a2), .unset] [(.ref a1)])) rfl (by rw [hml]; rfl) rfl (hb hby d_prog_175_method_1_1) (by decide) (W := 0) (by show 2 * 0 + _ ≤ _; exact Nat.le_of_eq rfl) (by decide)
  refine GoOn.st st1 ?_
  refine GoOn.st (fun t_ k_ => XS.aloadN X1.here hx rfl (hb hby d_prog_175_method_1_4) rfl rfl k_) ?_
  refine GoOn.st (fun t_ k_ => XS.aloadN X1.here hx rfl (hb hby d_prog_175_method_1_5) rfl rfl k_) ?_
  show GoOn _ _ _ _ (T1.setTop (mkF m 6 #[.val (.ref a1), .val (.ref a2), .unset] [(.ref a2), (.ref a1)]))
  refine GoOn.callI (W := 1) (argsL := []) (rest := [(.ref a1)]) (a := a2) (K := "java/util/ArrayList") X1 hx hZ hown (hw _ (List.mem_of_getElem? (i := 83) rfl)) (hw _ (List.mem_of_getElem? (i := 84) rfl)) (hw _ (List.mem_of_getElem? (i := 85) rfl)) (hw _ (List.mem_of_getElem? (i := 86) rfl)) (hw _ (List.mem_of_getElem? (i := 87) rfl)) (hw _ (List.mem_of_getElem? (i := 88) rfl)) (hw _ (List.mem_of_getElem? (i := 89) rfl)) (hw _ (List.mem_of_getElem? (i := 90) rfl)) (by first | rfl | decide +kernel) (hw _ (List.mem_of_getElem? (i := 54) rfl)) (hw _ (List.mem_of_getElem? (i := 91) rfl)) (by decide) (rm_size l Z a0 hw a2 (2 : Int32) h0 Fs) e1 Ea (by decide) (by decide) (by rw [hml]; rfl) pd_9 rfl rfl (Nat.le_of_eq rfl) (hb hby d_prog_175_method_1_6) (by decide) (by decide) ?_
  rintro _ T2 L2 X2 ⟨rfl, rfl, e2⟩
  rw [List.append_nil] at X2
  obtain ⟨T3, h3, k3, X3, e3, E3, A3, st3⟩ := newP X2 hx hZ (hw _ (List.mem_of_getElem? (i := 94) rfl)) e2 (g := (mkF m 11 #[.val (.ref a1), .val (.ref a2), .unset] [(.int (2 : Int32)), (.ref a1)])) rfl (hb hby d_prog_175_method_1_11) rfl (by decide) (cap := 2) (by decide) (by decide) (by decide) (by decide)
  obtain ⟨b3, g3⟩ : ∃ z, z = h0.size := ⟨_, rfl⟩
  rw [← g3] at A3 st3
  have ne_a1_b3 : a1 ≠ b3 := Nat.ne_of_lt (Nat.lt_of_lt_of_le Er.lt (Nat.le_of_eq g3.symm))
  have ne_a2_b3 : a2 ≠ b3 := Nat.ne_of_lt (Nat.lt_of_lt_of_le Ea.lt (Nat.le_of_eq g3.symm))
  have ne_b2_b3 : b2 ≠ b3 := Nat.ne_of_lt (Nat.lt_of_lt_of_le Vb.lt (Nat.le_of_eq g3.symm))
  have ne_x0_b3 : x0 ≠ b3 := Nat.ne_of_lt (Nat.lt_of_lt_of_le Ex0.lt (Nat.le_of_eq g3.symm))
  have ne_x1_b3 : x1 ≠ b3 := Nat.ne_of_lt (Nat.lt_of_lt_of_le Ex1.lt (Nat.le_of_eq g3.symm))
  have g_b3 : n0 ≤ b3 := Nat.le_trans Z0 (Nat.le_of_eq g3.symm)
  have sz_b3 : h0.size ≤ b3 := Nat.le_trans (Keep.refl h0 [a1]).1 (Nat.le_of_eq g3.symm)
  have V3 : Arv Z h3 b3 k3 .int (2 : Int32) [(.int (0 : Int32)), (.int (0 : Int32))] (.int (0 : Int32)) := (Arv.new A3 (by decide)).pad (pad_rep [] _ 2)
  refine GoOn.st st3 ?_
  have F4 := (Er.ext E3)
  have F5 := (Frl.ext E3)
  obtain ⟨T6, h6, X6, e6, W6, st6⟩ := putF X3 hx hZ hown (host := "") (Or.inl (hw _ (List.mem_of_getElem? (i := 95) rfl))) Via.refl e3 F5 F4 (Or.inr ⟨(hw _ (List.mem_of_getElem? (i := 96) rfl)), rfl, hnm⟩) (hw _ (List.mem_of_getElem? (i := 77) rfl)) (ty := (.array .int)) (by decide) rfl rfl (g := (mkF m 13 #[.val (.ref a1), .val (.ref a2), .unset] [(.ref b3), (.ref a1)])) rfl rfl (hb hby d_prog_175_method_1_13)
  have Fw6 := Fld.same W6 F5
  have N7 := Fr.snoc X6 N0 g_a1
  refine GoOn.st st6 ?_
  refine GoOn.st (fun t_ k_ => XS.aloadN X6.here hx rfl (hb hby d_prog_175_method_1_16) rfl rfl k_) ?_
  show GoOn _ _ _ _ (T6.setTop (mkF m 17 #[.val (.ref a1), .val (.ref a2), .unset] [(.ref a1)]))
  refine GoOn.st (fun t_ k_ => XS.aloadN X6.here hx rfl (hb hby d_prog_175_method_1_17) rfl rfl k_) ?_
  show GoOn _ _ _ _ (T6.setTop (mkF m 18 #[.val (.ref a1), .val (.ref a2), .unset] [(.ref a2), (.ref a1)]))
  have F8 := (Fld.other W6 (Fs.ext E3) (Or.inl h21))
  have F10 := (Exa.wr W6 (Ea.ext E3))
  refine GoOn.callI (W := 1) (argsL := []) (rest := [(.ref a1)]) (a := a2) (K := "java/util/ArrayList") X6 hx hZ hown (hw _ (List.mem_of_getElem? (i := 83) rfl)) (hw _ (List.mem_of_getElem? (i := 84) rfl)) (hw _ (List.mem_of_getElem? (i := 85) rfl)) (hw _ (List.mem_of_getElem? (i := 86) rfl)) (hw _ (List.mem_of_getElem? (i := 87) rfl)) (hw _ (List.mem_of_getElem? (i := 88) rfl)) (hw _ (List.mem_of_getElem? (i := 89) rfl)) (hw _ (List.mem_of_getElem? (i := 90) rfl)) (by first | rfl | decide +kernel) (hw _ (List.mem_of_getElem? (i := 54) rfl)) (hw _ (List.mem_of_getElem? (i := 91) rfl)) (by decide) (rm_size l Z a0 hw a2 (2 : Int32) h6 F8) e6 F10 (by decide) (by decide) (by rw [hml]; rfl) pd_9 rfl rfl (Nat.le_of_eq rfl) (hb hby d_prog_175_method_1_18) (by decide) (by decide) ?_
  rintro _ T9 L9 X9 ⟨rfl, rfl, e9⟩
  rw [List.append_nil] at X9
  obtain ⟨T11, h11, k11, X11, e11, E11, A11, st11⟩ := newP X9 hx hZ (hw _ (List.mem_of_getElem? (i := 94) rfl)) e9 (g := (mkF m 23 #[.val (.ref a1), .val (.ref a2), .unset] [(.int (2 : Int32)), (.ref a1)])) rfl (hb hby d_prog_175_method_1_23) rfl (by decide) (cap := 2) (by decide) (by decide) (by decide) (by decide)
  obtain ⟨b11, g11⟩ : ∃ z, z = h6.size := ⟨_, rfl⟩
  rw [← g11] at A11 st11
  have ne_a1_b11 : a1 ≠ b11 := Nat.ne_of_lt (Nat.lt_of_lt_of_le (Exa.wr W6 F4).lt (Nat.le_of_eq g11.symm))
  have ne_a2_b11 : a2 ≠ b11 := Nat.ne_of_lt (Nat.lt_of_lt_of_le F10.lt (Nat.le_of_eq g11.symm))
  have ne_b2_b11 : b2 ≠ b11 := Nat.ne_of_lt (Nat.lt_of_lt_of_le (Arv.other (Vb.ext E3) W6 hb1).lt (Nat.le_of_eq g11.symm))
  have ne_x0_b11 : x0 ≠ b11 := Nat.ne_of_lt (Nat.lt_of_lt_of_le (Exa.wr W6 (Ex0.ext E3)).lt (Nat.le_of_eq g11.symm))
  have ne_x1_b11 : x1 ≠ b11 := Nat.ne_of_lt (Nat.lt_of_lt_of_le (Exa.wr W6 (Ex1.ext E3)).lt (Nat.le_of_eq g11.symm))
  have ne_b3_b11 : b3 ≠ b11 := Nat.ne_of_lt (Nat.lt_of_lt_of_le (Arv.other V3 W6 (Ne.symm ne_a1_b3)).lt (Nat.le_of_eq g11.symm))
  have g_b11 : n0 ≤ b11 := Nat.le_trans (Nat.le_trans (Nat.le_trans Z0 E3.1) (Keep.of_wr W6).1) (Nat.le_of_eq g11.symm)
  have sz_b11 : h0.size ≤ b11 := Nat.le_trans (((Keep.refl h0 [a1]).ext E3).wr W6 (Or.inl (List.mem_of_getElem? (i := 0) rfl))).1 (Nat.le_of_eq g11.symm)
  have V11 : Arv Z h11 b11 k11 .int (2 : Int32) [(.int (0 : Int32)), (.int (0 : Int32))] (.int (0 : Int32)) := (Arv.new A11 (by decide)).pad (pad_rep [] _ 2)
  refine GoOn.st st11 ?_
  have F12 := ((Exa.wr W6 F4).ext E11)
  have F13 := ((Fld.other W6 (Frh.ext E3) (Or.inr (slot_ne (Or.inr (hw _ (List.mem_of_getElem? (i := 98) rfl))) (Or.inr (hw _ (List.mem_of_getElem? (i := 96) rfl))) (by decide) (t := (.array .int)) (t' := (.array .int)) (by decide) (by decide)))).ext E11)
  obtain ⟨T14, h14, X14, e14, W14, st14⟩ := putF X11 hx hZ hown (host := "") (Or.inl (hw _ (List.mem_of_getElem? (i := 97) rfl))) Via.refl e11 F13 F12 (Or.inr ⟨(hw _ (List.mem_of_getElem? (i := 98) rfl)), rfl, hnm⟩) (hw _ (List.mem_of_getElem? (i := 77) rfl)) (ty := (.array .int)) (by decide) rfl rfl (g := (mkF m 25 #[.val (.ref a1), .val (.ref a2), .unset] [(.ref b11), (.ref a1)])) rfl rfl (hb hby d_prog_175_method_1_25)
  have Fw14 := Fld.same W14 F13
  have N15 := Fr.snoc X14 N7 g_a1
  refine GoOn.st st14 ?_
  refine GoOn.st (fun t_ k_ => XS.iconst X14.here hx rfl (hb hby d_prog_175_method_1_28)  k_) ?_
  show GoOn _ _ _ _ (T14.setTop (mkF m 29 #[.val (.ref a1), .val (.ref a2), .unset] [(.int (0 : Int32))]))
  refine GoOn.st (fun t_ k_ => XS.istoreN X14.here hx rfl (hb hby d_prog_175_method_1_29) rfl (l' := #[.val (.ref a1), .val (.ref a2), .val (.int (0 : Int32))]) rfl k_) ?_
  refine GoOn.st (fun t_ k_ => XS.iloadN X14.here hx rfl (hb hby d_prog_175_method_1_30) rfl k_) ?_
  refine GoOn.st (fun t_ k_ => XS.aloadN X14.here hx rfl (hb hby d_prog_175_method_1_31) rfl rfl k_) ?_
  have F16 := (Fld.other W14 (Fw6.ext E11) (Or.inr (slot_ne (Or.inr (hw _ (List.mem_of_getElem? (i := 96) rfl))) (Or.inr (hw _ (List.mem_of_getElem? (i := 98) rfl))) (by decide) (t := (.array .int)) (t' := (.array .int)) (by decide) (by decide))))
  obtain ⟨T17, X17, e17, st17⟩ := getF X14 hx hZ hown (host := "") (Or.inl (hw _ (List.mem_of_getElem? (i := 95) rfl))) Via.refl e14 F16 (g := (mkF m 32 #[.val (.ref a1), .val (.ref a2), .val (.int (0 : Int32))] [(.ref a1), (.int (0 : Int32))])) rfl rfl (hb hby d_prog_175_method_1_32)
  refine GoOn.st st17 ?_
  show GoOn _ _ _ _ (T17.setTop (mkF m 35 #[.val (.ref a1), .val (.ref a2), .val (.int (0 : Int32))] [(.ref b3), (.int (0 : Int32))]))
  have F18 := (Arv.other ((Arv.other V3 W6 (Ne.symm ne_a1_b3)).ext E11) W14 (Ne.symm ne_a1_b3))
  refine GoOn.st (fun t_ k_ => own_arrlen X17 hx hZ e17 F18 (hb hby d_prog_175_method_1_35) _ k_) ?_
  refine GoOn.st (fun t_ k_ => XS.icmpNo X17.here hx rfl (hb hby d_prog_175_method_1_36) rfl (tlt (by decide : (0 : Int32) < (2 : Int32))).2.1 k_) ?_
  refine GoOn.st (fun t_ k_ => XS.aloadN X17.here hx rfl (hb hby d_prog_175_method_1_39) rfl rfl k_) ?_
  obtain ⟨T19, X19, e19, st19⟩ := getF X17 hx hZ hown (host := "") (Or.inl (hw _ (List.mem_of_getElem? (i := 95) rfl))) Via.refl e17 F16 (g := (mkF m 40 #[.val (.ref a1), .val (.ref a2), .val (.int (0 : Int32))] [(.ref a1)])) rfl rfl (hb hby d_prog_175_method_1_40)
  refine GoOn.st st19 ?_
  show GoOn _ _ _ _ (T19.setTop (mkF m 43 #[.val (.ref a1), .val (.ref a2), .val (.int (0 : Int32))] [(.ref b3)]))
  refine GoOn.st (fun t_ k_ => XS.iloadN X19.here hx rfl (hb hby d_prog_175_method_1_43) rfl k_) ?_
  refine GoOn.st (fun t_ k_ => XS.aloadN X19.here hx rfl (hb hby d_prog_175_method_1_44) rfl rfl k_) ?_
  refine GoOn.st (fun t_ k_ => XS.iloadN X19.here hx rfl (hb hby d_prog_175_method_1_45) rfl k_) ?_
  show GoOn _ _ _ _ (T19.setTop (mkF m 46 #[.val (.ref a1), .val (.ref a2), .val (.int (0 : Int32))] [(.int (0 : Int32)), (.ref a2), (.int (0 : Int32)), (.ref b3)]))
  have F20 := (Exa.wr W14 (F10.ext E11))
  have F21 := (Fld.other W14 ((Fld.other W6 (Fe.ext E3) (Or.inl h21)).ext E11) (Or.inl h21))
  have F22 := (Fld.other W14 (F8.ext E11) (Or.inl h21))
  have F23 := (Arv.other ((Arv.other (Vb.ext E3) W6 hb1).ext E11) W14 hb1)
  refine GoOn.callI (W := 2) (argsL := [(.int (0 : Int32))]) (rest := [(.int (0 : Int32)), (.ref b3)]) (a := a2) (K := "java/util/ArrayList") X19 hx hZ hown (hw _ (List.mem_of_getElem? (i := 137) rfl)) (hw _ (List.mem_of_getElem? (i := 138) rfl)) (hw _ (List.mem_of_getElem? (i := 139) rfl)) (hw _ (List.mem_of_getElem? (i := 140) rfl)) (hw _ (List.mem_of_getElem? (i := 141) rfl)) (hw _ (List.mem_of_getElem? (i := 142) rfl)) (hw _ (List.mem_of_getElem? (i := 143) rfl)) (hw _ (List.mem_of_getElem? (i := 90) rfl)) (by first | rfl | decide +kernel) (hw _ (List.mem_of_getElem? (i := 54) rfl)) (hw _ (List.mem_of_getElem? (i := 144) rfl)) (by decide) (rm_get l Z a0 hw a2 b2 x0 kb [(.ref x0), (.ref x1), .null, .null, .null, .null, .null, .null, .null, .null] (0 : Int32) (2 : Int32) h14 F20 F21 F22 F23 (by decide) rfl (by decide) (by decide)) e19 F20 (by decide) (by decide) (by rw [hml]; rfl) pd_8 rfl rfl (Nat.le_of_eq rfl) (hb hby d_prog_175_method_1_46) (by decide) (by decide) ?_
  rintro _ T24 L24 X24 ⟨rfl, rfl, e24⟩
  rw [List.append_nil] at X24
  have F26 := (Exa.wr W14 ((Exa.wr W6 (Ex0.ext E3)).ext E11))
  obtain ⟨T25, X25, e25, st25⟩ := castY X24 hx hZ hown (hw _ (List.mem_of_getElem? (i := 158) rfl)) e24 (Ins.self F26) (g := (mkF m 51 #[.val (.ref a1), .val (.ref a2), .val (.int (0 : Int32))] [(.ref x0), (.int (0 : Int32)), (.ref b3)])) rfl rfl (hb hby d_prog_175_method_1_51)
  refine GoOn.st st25 ?_
  show GoOn _ _ _ _ (T25.setTop (mkF m 54 #[.val (.ref a1), .val (.ref a2), .val (.int (0 : Int32))] [(.ref x0), (.int (0 : Int32)), (.ref b3)]))
  have F27 := (Fld.other W14 ((Fld.other W6 (Lx0.ext E3) (Or.inl hx0)).ext E11) (Or.inl hx0))
  refine GoOn.callV (W := 2) (argsL := []) (rest := [(.int (0 : Int32)), (.ref b3)]) (a := x0) X25 hx hZ hown (hw _ (List.mem_of_getElem? (i := 160) rfl)) (hw _ (List.mem_of_getElem? (i := 161) rfl)) (notFace_of_selects (args := #[]) (mvT hZ (hw _ (List.mem_of_getElem? (i := 163) rfl)))) (hw _ (List.mem_of_getElem? (i := 163) rfl)) (hw _ (List.mem_of_getElem? (i := 162) rfl)) (hw _ (List.mem_of_getElem? (i := 6) rfl)) (hw _ (List.mem_of_getElem? (i := 164) rfl)) (by decide) (rm_vlow l Z a0 hw x0 (own_low q0) h14 F27) e25 F26 (by decide) (by decide) (by rw [hml]; rfl) pd_9 rfl rfl (Nat.le_of_eq rfl) (hb hby d_prog_175_method_1_54) (by decide) (by decide) ?_
  rintro _ T28 L28 X28 ⟨rfl, rfl, e28⟩
  rw [List.append_nil] at X28
  obtain ⟨T29, h29, X29, e29, W29, V29, st29⟩ := own_iastore X28 hx hZ e28 F18 (j := (0 : Int32)) (by decide) 0 (by decide) (show 0 < _ from (by decide : 0 < 2)) (x := (own_low q0)) (Ls := #[.val (.ref a1), .val (.ref a2), .val (.int (0 : Int32))]) (rest := []) (hb hby d_prog_175_method_1_57)
  replace V29 : Arv Z h29 b3 k3 .int (2 : Int32) [(.int (own_low q0)), (.int (0 : Int32))] (.int (0 : Int32)) := V29
  have N30 := Fr.snoc X29 N15 g_b3
  refine GoOn.st st29 ?_
  refine GoOn.st (fun t_ k_ => XS.aloadN X29.here hx rfl (hb hby d_prog_175_method_1_58) rfl rfl k_) ?_
  have F31 := (Fld.other W29 Fw14 (Or.inl ne_a1_b3))
  obtain ⟨T32, X32, e32, st32⟩ := getF X29 hx hZ hown (host := "") (Or.inl (hw _ (List.mem_of_getElem? (i := 97) rfl))) Via.refl e29 F31 (g := (mkF m 59 #[.val (.ref a1), .val (.ref a2), .val (.int (0 : Int32))] [(.ref a1)])) rfl rfl (hb hby d_prog_175_method_1_59)
  refine GoOn.st st32 ?_
  show GoOn _ _ _ _ (T32.setTop (mkF m 62 #[.val (.ref a1), .val (.ref a2), .val (.int (0 : Int32))] [(.ref b11)]))
  refine GoOn.st (fun t_ k_ => XS.iloadN X32.here hx rfl (hb hby d_prog_175_method_1_62) rfl k_) ?_
  refine GoOn.st (fun t_ k_ => XS.aloadN X32.here hx rfl (hb hby d_prog_175_method_1_63) rfl rfl k_) ?_
  refine GoOn.st (fun t_ k_ => XS.iloadN X32.here hx rfl (hb hby d_prog_175_method_1_64) rfl k_) ?_
  show GoOn _ _ _ _ (T32.setTop (mkF m 65 #[.val (.ref a1), .val (.ref a2), .val (.int (0 : Int32))] [(.int (0 : Int32)), (.ref a2), (.int (0 : Int32)), (.ref b11)]))
  have F33 := (Exa.wr W29 F20)
  have F34 := (Fld.other W29 F21 (Or.inl ne_a2_b3))
  have F35 := (Fld.other W29 F22 (Or.inl ne_a2_b3))
  have F36 := (Arv.other F23 W29 ne_b2_b3)
  refine GoOn.callI (W := 2) (argsL := [(.int (0 : Int32))]) (rest := [(.int (0 : Int32)), (.ref b11)]) (a := a2) (K := "java/util/ArrayList") X32 hx hZ hown (hw _ (List.mem_of_getElem? (i := 137) rfl)) (hw _ (List.mem_of_getElem? (i := 138) rfl)) (hw _ (List.mem_of_getElem? (i := 139) rfl)) (hw _ (List.mem_of_getElem? (i := 140) rfl)) (hw _ (List.mem_of_getElem? (i := 141) rfl)) (hw _ (List.mem_of_getElem? (i := 142) rfl)) (hw _ (List.mem_of_getElem? (i := 143) rfl)) (hw _ (List.mem_of_getElem? (i := 90) rfl)) (by first | rfl | decide +kernel) (hw _ (List.mem_of_getElem? (i := 54) rfl)) (hw _ (List.mem_of_getElem? (i := 144) rfl)) (by decide) (rm_get l Z a0 hw a2 b2 x0 kb [(.ref x0), (.ref x1), .null, .null, .null, .null, .null, .null, .null, .null] (0 : Int32) (2 : Int32) h29 F33 F34 F35 F36 (by decide) rfl (by decide) (by decide)) e32 F33 (by decide) (by decide) (by rw [hml]; rfl) pd_8 rfl rfl (Nat.le_of_eq rfl) (hb hby d_prog_175_method_1_65) (by decide) (by decide) ?_
  rintro _ T37 L37 X37 ⟨rfl, rfl, e37⟩
  rw [List.append_nil] at X37
  have F39 := (Exa.wr W29 F26)
  obtain ⟨T38, X38, e38, st38⟩ := castY X37 hx hZ hown (hw _ (List.mem_of_getElem? (i := 158) rfl)) e37 (Ins.self F39) (g := (mkF m 70 #[.val (.ref a1), .val (.ref a2), .val (.int (0 : Int32))] [(.ref x0), (.int (0 : Int32)), (.ref b11)])) rfl rfl (hb hby d_prog_175_method_1_70)
  refine GoOn.st st38 ?_
  show GoOn _ _ _ _ (T38.setTop (mkF m 73 #[.val (.ref a1), .val (.ref a2), .val (.int (0 : Int32))] [(.ref x0), (.int (0 : Int32)), (.ref b11)]))
  have F40 := (Fld.other W29 (Fld.other W14 ((Fld.other W6 (Hx0.ext E3) (Or.inl hx0)).ext E11) (Or.inl hx0)) (Or.inl ne_x0_b3))
  refine GoOn.callV (W := 2) (argsL := []) (rest := [(.int (0 : Int32)), (.ref b11)]) (a := x0) X38 hx hZ hown (hw _ (List.mem_of_getElem? (i := 165) rfl)) (hw _ (List.mem_of_getElem? (i := 166) rfl)) (notFace_of_selects (args := #[]) (mvT hZ (hw _ (List.mem_of_getElem? (i := 168) rfl)))) (hw _ (List.mem_of_getElem? (i := 168) rfl)) (hw _ (List.mem_of_getElem? (i := 167) rfl)) (hw _ (List.mem_of_getElem? (i := 6) rfl)) (hw _ (List.mem_of_getElem? (i := 169) rfl)) (by decide) (rm_vhigh l Z a0 hw x0 (own_high q0) h29 F40) e38 F39 (by decide) (by decide) (by rw [hml]; rfl) pd_9 rfl rfl (Nat.le_of_eq rfl) (hb hby d_prog_175_method_1_73) (by decide) (by decide) ?_
  rintro _ T41 L41 X41 ⟨rfl, rfl, e41⟩
  rw [List.append_nil] at X41
  have F42 := (Arv.other (Arv.other V11 W14 (Ne.symm ne_a1_b11)) W29 (Ne.symm ne_b3_b11))
  obtain ⟨T43, h43, X43, e43, W43, V43, st43⟩ := own_iastore X41 hx hZ e41 F42 (j := (0 : Int32)) (by decide) 0 (by decide) (show 0 < _ from (by decide : 0 < 2)) (x := (own_high q0)) (Ls := #[.val (.ref a1), .val (.ref a2), .val (.int (0 : Int32))]) (rest := []) (hb hby d_prog_175_method_1_76)
  replace V43 : Arv Z h43 b11 k11 .int (2 : Int32) [(.int (own_high q0)), (.int (0 : Int32))] (.int (0 : Int32)) := V43
  have N44 := Fr.snoc X43 N30 g_b11
  refine GoOn.st st43 ?_
  refine GoOn.st (fun t_ k_ => XS.iinc X43.here hx rfl (hb hby d_prog_175_method_1_77) rfl (l' := #[.val (.ref a1), .val (.ref a2), .val (.int (1 : Int32))]) rfl k_) ?_
  refine GoOn.st (fun t_ k_ => XS.goto X43.here hx rfl (pc0 := 80) (pc' := 30) rfl (hb hby d_prog_175_method_1_80) (by decide) (by decide) k_) ?_
  show GoOn _ _ _ _ (T43.setTop (mkF m 30 #[.val (.ref a1), .val (.ref a2), .val (.int (1 : Int32))] []))
  refine GoOn.st (fun t_ k_ => XS.iloadN X43.here hx rfl (hb hby d_prog_175_method_1_30) rfl k_) ?_
  refine GoOn.st (fun t_ k_ => XS.aloadN X43.here hx rfl (hb hby d_prog_175_method_1_31) rfl rfl k_) ?_
  have F45 := (Fld.other W43 (Fld.other W29 F16 (Or.inl ne_a1_b3)) (Or.inl ne_a1_b11))
  obtain ⟨T46, X46, e46, st46⟩ := getF X43 hx hZ hown (host := "") (Or.inl (hw _ (List.mem_of_getElem? (i := 95) rfl))) Via.refl e43 F45 (g := (mkF m 32 #[.val (.ref a1), .val (.ref a2), .val (.int (1 : Int32))] [(.ref a1), (.int (1 : Int32))])) rfl rfl (hb hby d_prog_175_method_1_32)
  refine GoOn.st st46 ?_
  have F47 := (Arv.other V29 W43 ne_b3_b11)
  refine GoOn.st (fun t_ k_ => own_arrlen X46 hx hZ e46 F47 (hb hby d_prog_175_method_1_35) _ k_) ?_
  show GoOn _ _ _ _ (T46.setTop (mkF m 36 #[.val (.ref a1), .val (.ref a2), .val (.int (1 : Int32))] [(.int (2 : Int32)), (.int (1 : Int32))]))
  refine GoOn.st (fun t_ k_ => XS.icmpNo X46.here hx rfl (hb hby d_prog_175_method_1_36) rfl (tlt (by decide : (1 : Int32) < (2 : Int32))).2.1 k_) ?_
  refine GoOn.st (fun t_ k_ => XS.aloadN X46.here hx rfl (hb hby d_prog_175_method_1_39) rfl rfl k_) ?_
  obtain ⟨T48, X48, e48, st48⟩ := getF X46 hx hZ hown (host := "") (Or.inl (hw _ (List.mem_of_getElem? (i := 95) rfl))) Via.refl e46 F45 (g := (mkF m 40 #[.val (.ref a1), .val (.ref a2), .val (.int (1 : Int32))] [(.ref a1)])) rfl rfl (hb hby d_prog_175_method_1_40)
  refine GoOn.st st48 ?_
  refine GoOn.st (fun t_ k_ => XS.iloadN X48.here hx rfl (hb hby d_prog_175_method_1_43) rfl k_) ?_
  show GoOn _ _ _ _ (T48.setTop (mkF m 44 #[.val (.ref a1), .val (.ref a2), .val (.int (1 : Int32))] [(.int (1 : Int32)), (.ref b3)]))
  refine GoOn.st (fun t_ k_ => XS.aloadN X48.here hx rfl (hb hby d_prog_175_method_1_44) rfl rfl k_) ?_
  refine GoOn.st (fun t_ k_ => XS.iloadN X48.here hx rfl (hb hby d_prog_175_method_1_45) rfl k_) ?_
  show GoOn _ _ _ _ (T48.setTop (mkF m 46 #[.val (.ref a1), .val (.ref a2), .val (.int (1 : Int32))] [(.int (1 : Int32)), (.ref a2), (.int (1 : Int32)), (.ref b3)]))
  have F49 := (Exa.wr W43 F33)
  have F50 := (Fld.other W43 F34 (Or.inl ne_a2_b11))
  have F51 := (Fld.other W43 F35 (Or.inl ne_a2_b11))
  have F52 := (Arv.other F36 W43 ne_b2_b11)
  refine GoOn.callI (W := 2) (argsL := [(.int (1 : Int32))]) (rest := [(.int (1 : Int32)), (.ref b3)]) (a := a2) (K := "java/util/ArrayList") X48 hx hZ hown (hw _ (List.mem_of_getElem? (i := 137) rfl)) (hw _ (List.mem_of_getElem? (i := 138) rfl)) (hw _ (List.mem_of_getElem? (i := 139) rfl)) (hw _ (List.mem_of_getElem? (i := 140) rfl)) (hw _ (List.mem_of_getElem? (i := 141) rfl)) (hw _ (List.mem_of_getElem? (i := 142) rfl)) (hw _ (List.mem_of_getElem? (i := 143) rfl)) (hw _ (List.mem_of_getElem? (i := 90) rfl)) (by first | rfl | decide +kernel) (hw _ (List.mem_of_getElem? (i := 54) rfl)) (hw _ (List.mem_of_getElem? (i := 144) rfl)) (by decide) (rm_get l Z a0 hw a2 b2 x1 kb [(.ref x0), (.ref x1), .null, .null, .null, .null, .null, .null, .null, .null] (1 : Int32) (2 : Int32) h43 F49 F50 F51 F52 (by decide) rfl (by decide) (by decide)) e48 F49 (by decide) (by decide) (by rw [hml]; rfl) pd_8 rfl rfl (Nat.le_of_eq rfl) (hb hby d_prog_175_method_1_46) (by decide) (by decide) ?_
  rintro _ T53 L53 X53 ⟨rfl, rfl, e53⟩
  rw [List.append_nil] at X53
  have F55 := (Exa.wr W43 (Exa.wr W29 (Exa.wr W14 ((Exa.wr W6 (Ex1.ext E3)).ext E11))))
  obtain ⟨T54, X54, e54, st54⟩ := castY X53 hx hZ hown (hw _ (List.mem_of_getElem? (i := 158) rfl)) e53 (Ins.self F55) (g := (mkF m 51 #[.val (.ref a1), .val (.ref a2), .val (.int (1 : Int32))] [(.ref x1), (.int (1 : Int32)), (.ref b3)])) rfl rfl (hb hby d_prog_175_method_1_51)
  refine GoOn.st st54 ?_
  show GoOn _ _ _ _ (T54.setTop (mkF m 54 #[.val (.ref a1), .val (.ref a2), .val (.int (1 : Int32))] [(.ref x1), (.int (1 : Int32)), (.ref b3)]))
  have F56 := (Fld.other W43 (Fld.other W29 (Fld.other W14 ((Fld.other W6 (Lx1.ext E3) (Or.inl hx1)).ext E11) (Or.inl hx1)) (Or.inl ne_x1_b3)) (Or.inl ne_x1_b11))
  refine GoOn.callV (W := 2) (argsL := []) (rest := [(.int (1 : Int32)), (.ref b3)]) (a := x1) X54 hx hZ hown (hw _ (List.mem_of_getElem? (i := 160) rfl)) (hw _ (List.mem_of_getElem? (i := 161) rfl)) (notFace_of_selects (args := #[]) (mvT hZ (hw _ (List.mem_of_getElem? (i := 163) rfl)))) (hw _ (List.mem_of_getElem? (i := 163) rfl)) (hw _ (List.mem_of_getElem? (i := 162) rfl)) (hw _ (List.mem_of_getElem? (i := 6) rfl)) (hw _ (List.mem_of_getElem? (i := 164) rfl)) (by decide) (rm_vlow l Z a0 hw x1 (own_low q1) h43 F56) e54 F55 (by decide) (by decide) (by rw [hml]; rfl) pd_9 rfl rfl (Nat.le_of_eq rfl) (hb hby d_prog_175_method_1_54) (by decide) (by decide) ?_
  rintro _ T57 L57 X57 ⟨rfl, rfl, e57⟩
  rw [List.append_nil] at X57
  obtain ⟨T58, h58, X58, e58, W58, V58, st58⟩ := own_iastore X57 hx hZ e57 F47 (j := (1 : Int32)) (by decide) 1 (by decide) (show 1 < _ from (by decide : 1 < 2)) (x := (own_low q1)) (Ls := #[.val (.ref a1), .val (.ref a2), .val (.int (1 : Int32))]) (rest := []) (hb hby d_prog_175_method_1_57)
  replace V58 : Arv Z h58 b3 k3 .int (2 : Int32) [(.int (own_low q0)), (.int (own_low q1))] (.int (0 : Int32)) := V58
  have N59 := Fr.snoc X58 N44 g_b3
  refine GoOn.st st58 ?_
  refine GoOn.st (fun t_ k_ => XS.aloadN X58.here hx rfl (hb hby d_prog_175_method_1_58) rfl rfl k_) ?_
  have F60 := (Fld.other W58 (Fld.other W43 F31 (Or.inl ne_a1_b11)) (Or.inl ne_a1_b3))
  obtain ⟨T61, X61, e61, st61⟩ := getF X58 hx hZ hown (host := "") (Or.inl (hw _ (List.mem_of_getElem? (i := 97) rfl))) Via.refl e58 F60 (g := (mkF m 59 #[.val (.ref a1), .val (.ref a2), .val (.int (1 : Int32))] [(.ref a1)])) rfl rfl (hb hby d_prog_175_method_1_59)
  refine GoOn.st st61 ?_
  show GoOn _ _ _ _ (T61.setTop (mkF m 62 #[.val (.ref a1), .val (.ref a2), .val (.int (1 : Int32))] [(.ref b11)]))
  refine GoOn.st (fun t_ k_ => XS.iloadN X61.here hx rfl (hb hby d_prog_175_method_1_62) rfl k_) ?_
  refine GoOn.st (fun t_ k_ => XS.aloadN X61.here hx rfl (hb hby d_prog_175_method_1_63) rfl rfl k_) ?_
  refine GoOn.st (fun t_ k_ => XS.iloadN X61.here hx rfl (hb hby d_prog_175_method_1_64) rfl k_) ?_
  show GoOn _ _ _ _ (T61.setTop (mkF m 65 #[.val (.ref a1), .val (.ref a2), .val (.int (1 : Int32))] [(.int (1 : Int32)), (.ref a2), (.int (1 : Int32)), (.ref b11)]))
  have F62 := (Exa.wr W58 F49)
  have F63 := (Fld.other W58 F50 (Or.inl ne_a2_b3))
  have F64 := (Fld.other W58 F51 (Or.inl ne_a2_b3))
  have F65 := (Arv.other F52 W58 ne_b2_b3)
  refine GoOn.callI (W := 2) (argsL := [(.int (1 : Int32))]) (rest := [(.int (1 : Int32)), (.ref b11)]) (a := a2) (K := "java/util/ArrayList") X61 hx hZ hown (hw _ (List.mem_of_getElem? (i := 137) rfl)) (hw _ (List.mem_of_getElem? (i := 138) rfl)) (hw _ (List.mem_of_getElem? (i := 139) rfl)) (hw _ (List.mem_of_getElem? (i := 140) rfl)) (hw _ (List.mem_of_getElem? (i := 141) rfl)) (hw _ (List.mem_of_getElem? (i := 142) rfl)) (hw _ (List.mem_of_getElem? (i := 143) rfl)) (hw _ (List.mem_of_getElem? (i := 90) rfl)) (by first | rfl | decide +kernel) (hw _ (List.mem_of_getElem? (i := 54) rfl)) (hw _ (List.mem_of_getElem? (i := 144) rfl)) (by decide) (rm_get l Z a0 hw a2 b2 x1 kb [(.ref x0), (.ref x1), .null, .null, .null, .null, .null, .null, .null, .null] (1 : Int32) (2 : Int32) h58 F62 F63 F64 F65 (by decide) rfl (by decide) (by decide)) e61 F62 (by decide) (by decide) (by rw [hml]; rfl) pd_8 rfl rfl (Nat.le_of_eq rfl) (hb hby d_prog_175_method_1_65) (by decide) (by decide) ?_
  rintro _ T66 L66 X66 ⟨rfl, rfl, e66⟩
  rw [List.append_nil] at X66
  have F68 := (Exa.wr W58 F55)
  obtain ⟨T67, X67, e67, st67⟩ := castY X66 hx hZ hown (hw _ (List.mem_of_getElem? (i := 158) rfl)) e66 (Ins.self F68) (g := (mkF m 70 #[.val (.ref a1), .val (.ref a2), .val (.int (1 : Int32))] [(.ref x1), (.int (1 : Int32)), (.ref b11)])) rfl rfl (hb hby d_prog_175_method_1_70)
  refine GoOn.st st67 ?_
  show GoOn _ _ _ _ (T67.setTop (mkF m 73 #[.val (.ref a1), .val (.ref a2), .val (.int (1 : Int32))] [(.ref x1), (.int (1 : Int32)), (.ref b11)]))
  have F69 := (Fld.other W58 (Fld.other W43 (Fld.other W29 (Fld.other W14 ((Fld.other W6 (Hx1.ext E3) (Or.inl hx1)).ext E11) (Or.inl hx1)) (Or.inl ne_x1_b3)) (Or.inl ne_x1_b11)) (Or.inl ne_x1_b3))
  refine GoOn.callV (W := 2) (argsL := []) (rest := [(.int (1 : Int32)), (.ref b11)]) (a := x1) X67 hx hZ hown (hw _ (List.mem_of_getElem? (i := 165) rfl)) (hw _ (List.mem_of_getElem? (i := 166) rfl)) (notFace_of_selects (args := #[]) (mvT hZ (hw _ (List.mem_of_getElem? (i := 168) rfl)))) (hw _ (List.mem_of_getElem? (i := 168) rfl)) (hw _ (List.mem_of_getElem? (i := 167) rfl)) (hw _ (List.mem_of_getElem? (i := 6) rfl)) (hw _ (List.mem_of_getElem? (i := 169) rfl)) (by decide) (rm_vhigh l Z a0 hw x1 (own_high q1) h58 F69) e67 F68 (by decide) (by decide) (by rw [hml]; rfl) pd_9 rfl rfl (Nat.le_of_eq rfl) (hb hby d_prog_175_method_1_73) (by decide) (by decide) ?_
  rintro _ T70 L70 X70 ⟨rfl, rfl, e70⟩
  rw [List.append_nil] at X70
  have F71 := (Arv.other V43 W58 (Ne.symm ne_b3_b11))
  obtain ⟨T72, h72, X72, e72, W72, V72, st72⟩ := own_iastore X70 hx hZ e70 F71 (j := (1 : Int32)) (by decide) 1 (by decide) (show 1 < _ from (by decide : 1 < 2)) (x := (own_high q1)) (Ls := #[.val (.ref a1), .val (.ref a2), .val (.int (1 : Int32))]) (rest := []) (hb hby d_prog_175_method_1_76)
  replace V72 : Arv Z h72 b11 k11 .int (2 : Int32) [(.int (own_high q0)), (.int (own_high q1))] (.int (0 : Int32)) := V72
  have N73 := Fr.snoc X72 N59 g_b11
  refine GoOn.st st72 ?_
  refine GoOn.st (fun t_ k_ => XS.iinc X72.here hx rfl (hb hby d_prog_175_method_1_77) rfl (l' := #[.val (.ref a1), .val (.ref a2), .val (.int (2 : Int32))]) rfl k_) ?_
  refine GoOn.st (fun t_ k_ => XS.goto X72.here hx rfl (pc0 := 80) (pc' := 30) rfl (hb hby d_prog_175_method_1_80) (by decide) (by decide) k_) ?_
  show GoOn _ _ _ _ (T72.setTop (mkF m 30 #[.val (.ref a1), .val (.ref a2), .val (.int (2 : Int32))] []))
  refine GoOn.st (fun t_ k_ => XS.iloadN X72.here hx rfl (hb hby d_prog_175_method_1_30) rfl k_) ?_
  refine GoOn.st (fun t_ k_ => XS.aloadN X72.here hx rfl (hb hby d_prog_175_method_1_31) rfl rfl k_) ?_
  have F74 := (Fld.other W72 (Fld.other W58 F45 (Or.inl ne_a1_b3)) (Or.inl ne_a1_b11))
  obtain ⟨T75, X75, e75, st75⟩ := getF X72 hx hZ hown (host := "") (Or.inl (hw _ (List.mem_of_getElem? (i := 95) rfl))) Via.refl e72 F74 (g := (mkF m 32 #[.val (.ref a1), .val (.ref a2), .val (.int (2 : Int32))] [(.ref a1), (.int (2 : Int32))])) rfl rfl (hb hby d_prog_175_method_1_32)
  refine GoOn.st st75 ?_
  have F76 := (Arv.other V58 W72 ne_b3_b11)
  refine GoOn.st (fun t_ k_ => own_arrlen X75 hx hZ e75 F76 (hb hby d_prog_175_method_1_35) _ k_) ?_
  show GoOn _ _ _ _ (T75.setTop (mkF m 36 #[.val (.ref a1), .val (.ref a2), .val (.int (2 : Int32))] [(.int (2 : Int32)), (.int (2 : Int32))]))
  refine GoOn.st (fun t_ k_ => XS.icmpYes X75.here hx rfl (pc0 := 36) (pc' := 83) rfl (hb hby d_prog_175_method_1_36) rfl (flt (by decide : ¬ ((2 : Int32) < (2 : Int32)))).2.1 (by decide) (by decide) k_) ?_
  show GoOn _ _ _ _ (T75.setTop (mkF m 83 #[.val (.ref a1), .val (.ref a2), .val (.int (2 : Int32))] []))
  exact GoOn.retV X75 hx hlk hret (hb hby d_prog_175_method_1_83) (by rw [e75]; exact ⟨b3, b11, k3, k11, rfl, N73, (((((((((Keep.refl h0 [a1]).ext E3).wr W6 (Or.inl (List.mem_of_getElem? (i := 0) rfl))).ext E11).wr W14 (Or.inl (List.mem_of_getElem? (i := 0) rfl))).wr W29 (Or.inr sz_b3)).wr W43 (Or.inr sz_b11)).wr W58 (Or.inr sz_b3)).wr W72 (Or.inr sz_b11)), (Exa.wr W72 (Exa.wr W58 (Exa.wr W43 (Exa.wr W29 (Exa.wr W14 F12))))), F74, (Fld.other W72 F60 (Or.inl ne_a1_b11)), F76, V72⟩) (by decide) (by decide)
theorem ef_val20 (m : MethodId) (x0 : Addr) (x1 : Int32) : entryFrame m #[(.ref x0), (.int x1)] 7 = mkF m 0 #[.val (.ref x0), .val (.int x1), .unset, .unset, .unset, .unset, .unset] [] := by first | (simp [entryFrame, mkF, argsToLocals, Value.category]; done) | rfl
set_option maxRecDepth 65536 in
set_option maxHeartbeats 40000000 in
theorem rm_val20 (l : Launch) (Z : State) (a0 : Array Value) (hw : ∀ d ∈ tables_1, d.before a0 Z = true) (a1 bl bh : Addr) (kl kh : ClassId) (q0 q1 : Int64) (h0 : Heap) (Frl : Fld Z h0 a1 "com/example/tributary/tributary/semantics/Ranges" "low" "[I" (.ref bl)) (Frh : Fld Z h0 a1 "com/example/tributary/tributary/semantics/Ranges" "high" "[I" (.ref bh)) (Vl : Arv Z h0 bl kl .int (2 : Int32) [(.int (own_low q0)), (.int (own_low q1))] (.int (0 : Int32))) (Vh : Arv Z h0 bh kh .int (2 : Int32) [(.int (own_high q0)), (.int (own_high q1))] (.int (0 : Int32))) :
    OwCon l Z (⟨"com/example/tributary/tributary/semantics/Ranges", "valuations", "(I)J"⟩ : MethodName) prog_175_method_7_code 7 (some .long) [] ({ frames := 0, cells := 0, slots := 0, locals := 0 } : Room) #[(.ref a1), (.int (0 : Int32))] h0 (OwRet (some (.long (own_step (own_step (1 : Int64) (own_vals q0)) (own_vals q1)))) h0) := by
  refine OwCon.of (plainFor_of_name pn_com_example_tributary_tributary_semantics_Ranges) ?_
  intro p e s m below meth cd_ s₁ X0 hx hby hml hret hlk hown hnm hZ e0
  refine GoOn.st (fun t_ k_ => castTop (ef_val20 m a1 (0 : Int32)) k_) ?_
  show GoOn _ _ _ _ (s₁.setTop (mkF m 0 #[.val (.ref a1), .val (.int (0 : Int32)), .unset, .unset, .unset, .unset, .unset] []))
  refine GoOn.st (fun t_ k_ => XS.lconst X0.here hx rfl (hb hby d_prog_175_method_7_0)  k_) ?_
  refine GoOn.st (fun t_ k_ => XS.lstoreN X0.here hx rfl (hb hby d_prog_175_method_7_1) rfl (l' := #[.val (.ref a1), .val (.int (0 : Int32)), .val (.long (1 : Int64)), .second, .unset, .unset, .unset]) rfl k_) ?_
  refine GoOn.st (fun t_ k_ => XS.iloadN X0.here hx rfl (hb hby d_prog_175_method_7_2) rfl k_) ?_
  refine GoOn.st (fun t_ k_ => XS.istore X0.here hx rfl (hb hby d_prog_175_method_7_3) rfl (l' := #[.val (.ref a1), .val (.int (0 : Int32)), .val (.long (1 : Int64)), .second, .val (.int (0 : Int32)), .unset, .unset]) rfl k_) ?_
  show GoOn _ _ _ _ (s₁.setTop (mkF m 5 #[.val (.ref a1), .val (.int (0 : Int32)), .val (.long (1 : Int64)), .second, .val (.int (0 : Int32)), .unset, .unset] []))
  refine GoOn.st (fun t_ k_ => XS.iload X0.here hx rfl (hb hby d_prog_175_method_7_5) rfl k_) ?_
  refine GoOn.st (fun t_ k_ => XS.aloadN X0.here hx rfl (hb hby d_prog_175_method_7_7) rfl rfl k_) ?_
  obtain ⟨T1, X1, e1, st1⟩ := getF X0 hx hZ hown (host := "") (Or.inl (hw _ (List.mem_of_getElem? (i := 95) rfl))) Via.refl e0 Frl (g := (mkF m 8 #[.val (.ref a1), .val (.int (0 : Int32)), .val (.long (1 : Int64)), .second, .val (.int (0 : Int32)), .unset, .unset] [(.ref a1), (.int (0 : Int32))])) rfl rfl (hb hby d_prog_175_method_7_8)
  refine GoOn.st st1 ?_
  refine GoOn.st (fun t_ k_ => own_arrlen X1 hx hZ e1 Vl (hb hby d_prog_175_method_7_11) _ k_) ?_
  show GoOn _ _ _ _ (T1.setTop (mkF m 12 #[.val (.ref a1), .val (.int (0 : Int32)), .val (.long (1 : Int64)), .second, .val (.int (0 : Int32)), .unset, .unset] [(.int (2 : Int32)), (.int (0 : Int32))]))
  refine GoOn.st (fun t_ k_ => XS.icmpNo X1.here hx rfl (hb hby d_prog_175_method_7_12) rfl (tlt (by decide : (0 : Int32) < (2 : Int32))).2.1 k_) ?_
  refine GoOn.st (fun t_ k_ => XS.aloadN X1.here hx rfl (hb hby d_prog_175_method_7_15) rfl rfl k_) ?_
  obtain ⟨T2, X2, e2, st2⟩ := getF X1 hx hZ hown (host := "") (Or.inl (hw _ (List.mem_of_getElem? (i := 97) rfl))) Via.refl e1 Frh (g := (mkF m 16 #[.val (.ref a1), .val (.int (0 : Int32)), .val (.long (1 : Int64)), .second, .val (.int (0 : Int32)), .unset, .unset] [(.ref a1)])) rfl rfl (hb hby d_prog_175_method_7_16)
  refine GoOn.st st2 ?_
  refine GoOn.st (fun t_ k_ => XS.iload X2.here hx rfl (hb hby d_prog_175_method_7_19) rfl k_) ?_
  show GoOn _ _ _ _ (T2.setTop (mkF m 21 #[.val (.ref a1), .val (.int (0 : Int32)), .val (.long (1 : Int64)), .second, .val (.int (0 : Int32)), .unset, .unset] [(.int (0 : Int32)), (.ref bh)]))
  refine GoOn.st (fun t_ k_ => own_iaload X2 hx hZ e2 Vh (j := (0 : Int32)) (by decide) (v := (.int (own_high q0))) rfl (hb hby d_prog_175_method_7_21) _ k_) ?_
  refine GoOn.st (fun t_ k_ => XS.i2l X2.here hx rfl (hb hby d_prog_175_method_7_22) rfl k_) ?_
  refine GoOn.st (fun t_ k_ => XS.aloadN X2.here hx rfl (hb hby d_prog_175_method_7_23) rfl rfl k_) ?_
  obtain ⟨T3, X3, e3, st3⟩ := getF X2 hx hZ hown (host := "") (Or.inl (hw _ (List.mem_of_getElem? (i := 95) rfl))) Via.refl e2 Frl (g := (mkF m 24 #[.val (.ref a1), .val (.int (0 : Int32)), .val (.long (1 : Int64)), .second, .val (.int (0 : Int32)), .unset, .unset] [(.ref a1), (.long (((own_high q0)).toInt64))])) rfl rfl (hb hby d_prog_175_method_7_24)
  refine GoOn.st st3 ?_
  show GoOn _ _ _ _ (T3.setTop (mkF m 27 #[.val (.ref a1), .val (.int (0 : Int32)), .val (.long (1 : Int64)), .second, .val (.int (0 : Int32)), .unset, .unset] [(.ref bl), (.long (((own_high q0)).toInt64))]))
  refine GoOn.st (fun t_ k_ => XS.iload X3.here hx rfl (hb hby d_prog_175_method_7_27) rfl k_) ?_
  refine GoOn.st (fun t_ k_ => own_iaload X3 hx hZ e3 Vl (j := (0 : Int32)) (by decide) (v := (.int (own_low q0))) rfl (hb hby d_prog_175_method_7_29) _ k_) ?_
  refine GoOn.st (fun t_ k_ => XS.i2l X3.here hx rfl (hb hby d_prog_175_method_7_30) rfl k_) ?_
  refine GoOn.st (fun t_ k_ => XS.lsub X3.here hx rfl (hb hby d_prog_175_method_7_31) rfl k_) ?_
  show GoOn _ _ _ _ (T3.setTop (mkF m 32 #[.val (.ref a1), .val (.int (0 : Int32)), .val (.long (1 : Int64)), .second, .val (.int (0 : Int32)), .unset, .unset] [(.long ((((own_high q0)).toInt64) - (((own_low q0)).toInt64)))]))
  refine GoOn.st (fun t_ k_ => XS.lconst X3.here hx rfl (hb hby d_prog_175_method_7_32)  k_) ?_
  refine GoOn.st (fun t_ k_ => XS.ladd X3.here hx rfl (hb hby d_prog_175_method_7_33) rfl k_) ?_
  refine GoOn.st (fun t_ k_ => XS.lstore X3.here hx rfl (hb hby d_prog_175_method_7_34) rfl (l' := #[.val (.ref a1), .val (.int (0 : Int32)), .val (.long (1 : Int64)), .second, .val (.int (0 : Int32)), .val (.long (((((own_high q0)).toInt64) - (((own_low q0)).toInt64)) + (1 : Int64))), .second]) rfl k_) ?_
  show GoOn _ _ _ _ (T3.setTop (mkF m 36 #[.val (.ref a1), .val (.int (0 : Int32)), .val (.long (1 : Int64)), .second, .val (.int (0 : Int32)), .val (.long (own_vals q0)), .second] []))
  refine GoOn.st (fun t_ k_ => XS.lloadN X3.here hx rfl (hb hby d_prog_175_method_7_36) rfl k_) ?_
  refine GoOn.st (fun t_ k_ => X3.ldc2Long hx hown (mvT hZ (hw _ (List.mem_of_getElem? (i := 170) rfl))) (g := (mkF m 37 #[.val (.ref a1), .val (.int (0 : Int32)), .val (.long (1 : Int64)), .second, .val (.int (0 : Int32)), .val (.long (own_vals q0)), .second] [(.long (1 : Int64))])) rfl (hb hby d_prog_175_method_7_37) _ k_) ?_
  refine GoOn.st (fun t_ k_ => XS.lload X3.here hx rfl (hb hby d_prog_175_method_7_40) rfl k_) ?_
  refine GoOn.st (fun t_ k_ => XS.ldiv X3.here hx rfl (hb hby d_prog_175_method_7_42) rfl (own_in_nz (own_in_vals q0)) k_) ?_
  show GoOn _ _ _ _ (T3.setTop (mkF m 43 #[.val (.ref a1), .val (.int (0 : Int32)), .val (.long (1 : Int64)), .second, .val (.int (0 : Int32)), .val (.long (own_vals q0)), .second] [(.long ((9223372036854775807 : Int64) / (own_vals q0))), (.long (1 : Int64))]))
  refine GoOn.st (fun t_ k_ => XS.lcmp X3.here hx rfl (hb hby d_prog_175_method_7_43) rfl k_) ?_
  have dm4 : ∀ zz0 : Int64, zz0 = (if ((9223372036854775807 : Int64) / (own_vals q0)) < (1 : Int64) then (9223372036854775807 : Int64) else ((1 : Int64) * (own_vals q0))) → ∀ t_, Steps p.tables e below (T3.setTop (mkF m 57 #[.val (.ref a1), .val (.int (0 : Int32)), .val (.long (1 : Int64)), .second, .val (.int (0 : Int32)), .val (.long (own_vals q0)), .second] [(.long zz0)])) t_ → Steps p.tables e below (T3.setTop (mkF m 44 #[.val (.ref a1), .val (.int (0 : Int32)), .val (.long (1 : Int64)), .second, .val (.int (0 : Int32)), .val (.long (own_vals q0)), .second] [(.int (lcmpW (1 : Int64) ((9223372036854775807 : Int64) / (own_vals q0))))])) t_ := by
    intro zz0 hzz0 t_ k_; by_cases hc : ((9223372036854775807 : Int64) / (own_vals q0)) < (1 : Int64)
    · rw [hzz0.trans (if_pos hc)] at k_
      refine XS.ifNo X3.here hx rfl (hb hby d_prog_175_method_7_44) rfl ((if0 _ _).trans (tlt ((lw_gt (1 : Int64) ((9223372036854775807 : Int64) / (own_vals q0))).mpr hc)).2.2.2) ?_
      refine X3.ldc2Long hx hown (mvT hZ (hw _ (List.mem_of_getElem? (i := 170) rfl))) (g := (mkF m 47 #[.val (.ref a1), .val (.int (0 : Int32)), .val (.long (1 : Int64)), .second, .val (.int (0 : Int32)), .val (.long (own_vals q0)), .second] [])) rfl (hb hby d_prog_175_method_7_47) _ ?_
      refine XS.goto X3.here hx rfl (pc0 := 50) (pc' := 57) rfl (hb hby d_prog_175_method_7_50) (by decide) (by decide) ?_
      exact k_
    · rw [hzz0.trans (if_neg hc)] at k_
      refine XS.ifYes X3.here hx rfl (pc0 := 44) (pc' := 53) rfl (hb hby d_prog_175_method_7_44) rfl ((if0 _ _).trans (flt (fun q => hc ((lw_gt (1 : Int64) ((9223372036854775807 : Int64) / (own_vals q0))).mp q))).2.2.2) (by decide) (by decide) ?_
      refine XS.lloadN X3.here hx rfl (hb hby d_prog_175_method_7_53) rfl ?_
      refine XS.lload X3.here hx rfl (hb hby d_prog_175_method_7_54) rfl ?_
      show Steps _ _ _ (T3.setTop (mkF m 56 #[.val (.ref a1), .val (.int (0 : Int32)), .val (.long (1 : Int64)), .second, .val (.int (0 : Int32)), .val (.long (own_vals q0)), .second] [(.long (own_vals q0)), (.long (1 : Int64))])) _
      refine XS.lmul X3.here hx rfl (hb hby d_prog_175_method_7_56) rfl ?_
      exact k_
  refine GoOn.st (dm4 _ rfl) ?_
  show GoOn _ _ _ _ (T3.setTop (mkF m 57 #[.val (.ref a1), .val (.int (0 : Int32)), .val (.long (1 : Int64)), .second, .val (.int (0 : Int32)), .val (.long (own_vals q0)), .second] [(.long (own_step (1 : Int64) (own_vals q0)))]))
  refine GoOn.st (fun t_ k_ => XS.lstoreN X3.here hx rfl (hb hby d_prog_175_method_7_57) rfl (l' := #[.val (.ref a1), .val (.int (0 : Int32)), .val (.long (own_step (1 : Int64) (own_vals q0))), .second, .val (.int (0 : Int32)), .val (.long (own_vals q0)), .second]) rfl k_) ?_
  refine GoOn.st (fun t_ k_ => XS.iinc X3.here hx rfl (hb hby d_prog_175_method_7_58) rfl (l' := #[.val (.ref a1), .val (.int (0 : Int32)), .val (.long (own_step (1 : Int64) (own_vals q0))), .second, .val (.int (1 : Int32)), .val (.long (own_vals q0)), .second]) rfl k_) ?_
  refine GoOn.st (fun t_ k_ => XS.goto X3.here hx rfl (pc0 := 61) (pc' := 5) rfl (hb hby d_prog_175_method_7_61) (by decide) (by decide) k_) ?_
  refine GoOn.st (fun t_ k_ => XS.iload X3.here hx rfl (hb hby d_prog_175_method_7_5) rfl k_) ?_
  show GoOn _ _ _ _ (T3.setTop (mkF m 7 #[.val (.ref a1), .val (.int (0 : Int32)), .val (.long (own_step (1 : Int64) (own_vals q0))), .second, .val (.int (1 : Int32)), .val (.long (own_vals q0)), .second] [(.int (1 : Int32))]))
  refine GoOn.st (fun t_ k_ => XS.aloadN X3.here hx rfl (hb hby d_prog_175_method_7_7) rfl rfl k_) ?_
  obtain ⟨T5, X5, e5, st5⟩ := getF X3 hx hZ hown (host := "") (Or.inl (hw _ (List.mem_of_getElem? (i := 95) rfl))) Via.refl e3 Frl (g := (mkF m 8 #[.val (.ref a1), .val (.int (0 : Int32)), .val (.long (own_step (1 : Int64) (own_vals q0))), .second, .val (.int (1 : Int32)), .val (.long (own_vals q0)), .second] [(.ref a1), (.int (1 : Int32))])) rfl rfl (hb hby d_prog_175_method_7_8)
  refine GoOn.st st5 ?_
  refine GoOn.st (fun t_ k_ => own_arrlen X5 hx hZ e5 Vl (hb hby d_prog_175_method_7_11) _ k_) ?_
  refine GoOn.st (fun t_ k_ => XS.icmpNo X5.here hx rfl (hb hby d_prog_175_method_7_12) rfl (tlt (by decide : (1 : Int32) < (2 : Int32))).2.1 k_) ?_
  show GoOn _ _ _ _ (T5.setTop (mkF m 15 #[.val (.ref a1), .val (.int (0 : Int32)), .val (.long (own_step (1 : Int64) (own_vals q0))), .second, .val (.int (1 : Int32)), .val (.long (own_vals q0)), .second] []))
  refine GoOn.st (fun t_ k_ => XS.aloadN X5.here hx rfl (hb hby d_prog_175_method_7_15) rfl rfl k_) ?_
  obtain ⟨T6, X6, e6, st6⟩ := getF X5 hx hZ hown (host := "") (Or.inl (hw _ (List.mem_of_getElem? (i := 97) rfl))) Via.refl e5 Frh (g := (mkF m 16 #[.val (.ref a1), .val (.int (0 : Int32)), .val (.long (own_step (1 : Int64) (own_vals q0))), .second, .val (.int (1 : Int32)), .val (.long (own_vals q0)), .second] [(.ref a1)])) rfl rfl (hb hby d_prog_175_method_7_16)
  refine GoOn.st st6 ?_
  refine GoOn.st (fun t_ k_ => XS.iload X6.here hx rfl (hb hby d_prog_175_method_7_19) rfl k_) ?_
  refine GoOn.st (fun t_ k_ => own_iaload X6 hx hZ e6 Vh (j := (1 : Int32)) (by decide) (v := (.int (own_high q1))) rfl (hb hby d_prog_175_method_7_21) _ k_) ?_
  show GoOn _ _ _ _ (T6.setTop (mkF m 22 #[.val (.ref a1), .val (.int (0 : Int32)), .val (.long (own_step (1 : Int64) (own_vals q0))), .second, .val (.int (1 : Int32)), .val (.long (own_vals q0)), .second] [(.int (own_high q1))]))
  refine GoOn.st (fun t_ k_ => XS.i2l X6.here hx rfl (hb hby d_prog_175_method_7_22) rfl k_) ?_
  refine GoOn.st (fun t_ k_ => XS.aloadN X6.here hx rfl (hb hby d_prog_175_method_7_23) rfl rfl k_) ?_
  obtain ⟨T7, X7, e7, st7⟩ := getF X6 hx hZ hown (host := "") (Or.inl (hw _ (List.mem_of_getElem? (i := 95) rfl))) Via.refl e6 Frl (g := (mkF m 24 #[.val (.ref a1), .val (.int (0 : Int32)), .val (.long (own_step (1 : Int64) (own_vals q0))), .second, .val (.int (1 : Int32)), .val (.long (own_vals q0)), .second] [(.ref a1), (.long (((own_high q1)).toInt64))])) rfl rfl (hb hby d_prog_175_method_7_24)
  refine GoOn.st st7 ?_
  refine GoOn.st (fun t_ k_ => XS.iload X7.here hx rfl (hb hby d_prog_175_method_7_27) rfl k_) ?_
  show GoOn _ _ _ _ (T7.setTop (mkF m 29 #[.val (.ref a1), .val (.int (0 : Int32)), .val (.long (own_step (1 : Int64) (own_vals q0))), .second, .val (.int (1 : Int32)), .val (.long (own_vals q0)), .second] [(.int (1 : Int32)), (.ref bl), (.long (((own_high q1)).toInt64))]))
  refine GoOn.st (fun t_ k_ => own_iaload X7 hx hZ e7 Vl (j := (1 : Int32)) (by decide) (v := (.int (own_low q1))) rfl (hb hby d_prog_175_method_7_29) _ k_) ?_
  refine GoOn.st (fun t_ k_ => XS.i2l X7.here hx rfl (hb hby d_prog_175_method_7_30) rfl k_) ?_
  refine GoOn.st (fun t_ k_ => XS.lsub X7.here hx rfl (hb hby d_prog_175_method_7_31) rfl k_) ?_
  refine GoOn.st (fun t_ k_ => XS.lconst X7.here hx rfl (hb hby d_prog_175_method_7_32)  k_) ?_
  show GoOn _ _ _ _ (T7.setTop (mkF m 33 #[.val (.ref a1), .val (.int (0 : Int32)), .val (.long (own_step (1 : Int64) (own_vals q0))), .second, .val (.int (1 : Int32)), .val (.long (own_vals q0)), .second] [(.long (1 : Int64)), (.long ((((own_high q1)).toInt64) - (((own_low q1)).toInt64)))]))
  refine GoOn.st (fun t_ k_ => XS.ladd X7.here hx rfl (hb hby d_prog_175_method_7_33) rfl k_) ?_
  refine GoOn.st (fun t_ k_ => XS.lstore X7.here hx rfl (hb hby d_prog_175_method_7_34) rfl (l' := #[.val (.ref a1), .val (.int (0 : Int32)), .val (.long (own_step (1 : Int64) (own_vals q0))), .second, .val (.int (1 : Int32)), .val (.long (((((own_high q1)).toInt64) - (((own_low q1)).toInt64)) + (1 : Int64))), .second]) rfl k_) ?_
  show GoOn _ _ _ _ (T7.setTop (mkF m 36 #[.val (.ref a1), .val (.int (0 : Int32)), .val (.long (own_step (1 : Int64) (own_vals q0))), .second, .val (.int (1 : Int32)), .val (.long (own_vals q1)), .second] []))
  refine GoOn.st (fun t_ k_ => XS.lloadN X7.here hx rfl (hb hby d_prog_175_method_7_36) rfl k_) ?_
  refine GoOn.st (fun t_ k_ => X7.ldc2Long hx hown (mvT hZ (hw _ (List.mem_of_getElem? (i := 170) rfl))) (g := (mkF m 37 #[.val (.ref a1), .val (.int (0 : Int32)), .val (.long (own_step (1 : Int64) (own_vals q0))), .second, .val (.int (1 : Int32)), .val (.long (own_vals q1)), .second] [(.long (own_step (1 : Int64) (own_vals q0)))])) rfl (hb hby d_prog_175_method_7_37) _ k_) ?_
  refine GoOn.st (fun t_ k_ => XS.lload X7.here hx rfl (hb hby d_prog_175_method_7_40) rfl k_) ?_
  refine GoOn.st (fun t_ k_ => XS.ldiv X7.here hx rfl (hb hby d_prog_175_method_7_42) rfl (own_in_nz (own_in_vals q1)) k_) ?_
  show GoOn _ _ _ _ (T7.setTop (mkF m 43 #[.val (.ref a1), .val (.int (0 : Int32)), .val (.long (own_step (1 : Int64) (own_vals q0))), .second, .val (.int (1 : Int32)), .val (.long (own_vals q1)), .second] [(.long ((9223372036854775807 : Int64) / (own_vals q1))), (.long (own_step (1 : Int64) (own_vals q0)))]))
  refine GoOn.st (fun t_ k_ => XS.lcmp X7.here hx rfl (hb hby d_prog_175_method_7_43) rfl k_) ?_
  have dm8 : ∀ zz0 : Int64, zz0 = (if ((9223372036854775807 : Int64) / (own_vals q1)) < (own_step (1 : Int64) (own_vals q0)) then (9223372036854775807 : Int64) else ((own_step (1 : Int64) (own_vals q0)) * (own_vals q1))) → ∀ t_, Steps p.tables e below (T7.setTop (mkF m 57 #[.val (.ref a1), .val (.int (0 : Int32)), .val (.long (own_step (1 : Int64) (own_vals q0))), .second, .val (.int (1 : Int32)), .val (.long (own_vals q1)), .second] [(.long zz0)])) t_ → Steps p.tables e below (T7.setTop (mkF m 44 #[.val (.ref a1), .val (.int (0 : Int32)), .val (.long (own_step (1 : Int64) (own_vals q0))), .second, .val (.int (1 : Int32)), .val (.long (own_vals q1)), .second] [(.int (lcmpW (own_step (1 : Int64) (own_vals q0)) ((9223372036854775807 : Int64) / (own_vals q1))))])) t_ := by
    intro zz0 hzz0 t_ k_; by_cases hc : ((9223372036854775807 : Int64) / (own_vals q1)) < (own_step (1 : Int64) (own_vals q0))
    · rw [hzz0.trans (if_pos hc)] at k_
      refine XS.ifNo X7.here hx rfl (hb hby d_prog_175_method_7_44) rfl ((if0 _ _).trans (tlt ((lw_gt (own_step (1 : Int64) (own_vals q0)) ((9223372036854775807 : Int64) / (own_vals q1))).mpr hc)).2.2.2) ?_
      refine X7.ldc2Long hx hown (mvT hZ (hw _ (List.mem_of_getElem? (i := 170) rfl))) (g := (mkF m 47 #[.val (.ref a1), .val (.int (0 : Int32)), .val (.long (own_step (1 : Int64) (own_vals q0))), .second, .val (.int (1 : Int32)), .val (.long (own_vals q1)), .second] [])) rfl (hb hby d_prog_175_method_7_47) _ ?_
      refine XS.goto X7.here hx rfl (pc0 := 50) (pc' := 57) rfl (hb hby d_prog_175_method_7_50) (by decide) (by decide) ?_
      exact k_
    · rw [hzz0.trans (if_neg hc)] at k_
      refine XS.ifYes X7.here hx rfl (pc0 := 44) (pc' := 53) rfl (hb hby d_prog_175_method_7_44) rfl ((if0 _ _).trans (flt (fun q => hc ((lw_gt (own_step (1 : Int64) (own_vals q0)) ((9223372036854775807 : Int64) / (own_vals q1))).mp q))).2.2.2) (by decide) (by decide) ?_
      refine XS.lloadN X7.here hx rfl (hb hby d_prog_175_method_7_53) rfl ?_
      refine XS.lload X7.here hx rfl (hb hby d_prog_175_method_7_54) rfl ?_
      show Steps _ _ _ (T7.setTop (mkF m 56 #[.val (.ref a1), .val (.int (0 : Int32)), .val (.long (own_step (1 : Int64) (own_vals q0))), .second, .val (.int (1 : Int32)), .val (.long (own_vals q1)), .second] [(.long (own_vals q1)), (.long (own_step (1 : Int64) (own_vals q0)))])) _
      refine XS.lmul X7.here hx rfl (hb hby d_prog_175_method_7_56) rfl ?_
      exact k_
  refine GoOn.st (dm8 _ rfl) ?_
  show GoOn _ _ _ _ (T7.setTop (mkF m 57 #[.val (.ref a1), .val (.int (0 : Int32)), .val (.long (own_step (1 : Int64) (own_vals q0))), .second, .val (.int (1 : Int32)), .val (.long (own_vals q1)), .second] [(.long (own_step (own_step (1 : Int64) (own_vals q0)) (own_vals q1)))]))
  refine GoOn.st (fun t_ k_ => XS.lstoreN X7.here hx rfl (hb hby d_prog_175_method_7_57) rfl (l' := #[.val (.ref a1), .val (.int (0 : Int32)), .val (.long (own_step (own_step (1 : Int64) (own_vals q0)) (own_vals q1))), .second, .val (.int (1 : Int32)), .val (.long (own_vals q1)), .second]) rfl k_) ?_
  refine GoOn.st (fun t_ k_ => XS.iinc X7.here hx rfl (hb hby d_prog_175_method_7_58) rfl (l' := #[.val (.ref a1), .val (.int (0 : Int32)), .val (.long (own_step (own_step (1 : Int64) (own_vals q0)) (own_vals q1))), .second, .val (.int (2 : Int32)), .val (.long (own_vals q1)), .second]) rfl k_) ?_
  refine GoOn.st (fun t_ k_ => XS.goto X7.here hx rfl (pc0 := 61) (pc' := 5) rfl (hb hby d_prog_175_method_7_61) (by decide) (by decide) k_) ?_
  refine GoOn.st (fun t_ k_ => XS.iload X7.here hx rfl (hb hby d_prog_175_method_7_5) rfl k_) ?_
  show GoOn _ _ _ _ (T7.setTop (mkF m 7 #[.val (.ref a1), .val (.int (0 : Int32)), .val (.long (own_step (own_step (1 : Int64) (own_vals q0)) (own_vals q1))), .second, .val (.int (2 : Int32)), .val (.long (own_vals q1)), .second] [(.int (2 : Int32))]))
  refine GoOn.st (fun t_ k_ => XS.aloadN X7.here hx rfl (hb hby d_prog_175_method_7_7) rfl rfl k_) ?_
  obtain ⟨T9, X9, e9, st9⟩ := getF X7 hx hZ hown (host := "") (Or.inl (hw _ (List.mem_of_getElem? (i := 95) rfl))) Via.refl e7 Frl (g := (mkF m 8 #[.val (.ref a1), .val (.int (0 : Int32)), .val (.long (own_step (own_step (1 : Int64) (own_vals q0)) (own_vals q1))), .second, .val (.int (2 : Int32)), .val (.long (own_vals q1)), .second] [(.ref a1), (.int (2 : Int32))])) rfl rfl (hb hby d_prog_175_method_7_8)
  refine GoOn.st st9 ?_
  refine GoOn.st (fun t_ k_ => own_arrlen X9 hx hZ e9 Vl (hb hby d_prog_175_method_7_11) _ k_) ?_
  refine GoOn.st (fun t_ k_ => XS.icmpYes X9.here hx rfl (pc0 := 12) (pc' := 64) rfl (hb hby d_prog_175_method_7_12) rfl (flt (by decide : ¬ ((2 : Int32) < (2 : Int32)))).2.1 (by decide) (by decide) k_) ?_
  show GoOn _ _ _ _ (T9.setTop (mkF m 64 #[.val (.ref a1), .val (.int (0 : Int32)), .val (.long (own_step (own_step (1 : Int64) (own_vals q0)) (own_vals q1))), .second, .val (.int (2 : Int32)), .val (.long (own_vals q1)), .second] []))
  refine GoOn.st (fun t_ k_ => XS.lloadN X9.here hx rfl (hb hby d_prog_175_method_7_64) rfl k_) ?_
  show GoOn _ _ _ _ (T9.setTop (mkF m 65 #[.val (.ref a1), .val (.int (0 : Int32)), .val (.long (own_step (own_step (1 : Int64) (own_vals q0)) (own_vals q1))), .second, .val (.int (2 : Int32)), .val (.long (own_vals q1)), .second] [(.long (own_step (own_step (1 : Int64) (own_vals q0)) (own_vals q1)))]))
  exact GoOn.retJ X9 hx hlk hret (hb hby d_prog_175_method_7_65) (by rw [e9]; exact ⟨rfl, rfl, rfl⟩) (by decide) (by decide)
theorem ef_val21 (m : MethodId) (x0 : Addr) (x1 : Int32) : entryFrame m #[(.ref x0), (.int x1)] 7 = mkF m 0 #[.val (.ref x0), .val (.int x1), .unset, .unset, .unset, .unset, .unset] [] := by first | (simp [entryFrame, mkF, argsToLocals, Value.category]; done) | rfl
set_option maxRecDepth 65536 in
set_option maxHeartbeats 40000000 in
theorem rm_val21 (l : Launch) (Z : State) (a0 : Array Value) (hw : ∀ d ∈ tables_1, d.before a0 Z = true) (a1 bl bh : Addr) (kl kh : ClassId) (q0 q1 : Int64) (h0 : Heap) (Frl : Fld Z h0 a1 "com/example/tributary/tributary/semantics/Ranges" "low" "[I" (.ref bl)) (Frh : Fld Z h0 a1 "com/example/tributary/tributary/semantics/Ranges" "high" "[I" (.ref bh)) (Vl : Arv Z h0 bl kl .int (2 : Int32) [(.int (own_low q0)), (.int (own_low q1))] (.int (0 : Int32))) (Vh : Arv Z h0 bh kh .int (2 : Int32) [(.int (own_high q0)), (.int (own_high q1))] (.int (0 : Int32))) :
    OwCon l Z (⟨"com/example/tributary/tributary/semantics/Ranges", "valuations", "(I)J"⟩ : MethodName) prog_175_method_7_code 7 (some .long) [] ({ frames := 0, cells := 0, slots := 0, locals := 0 } : Room) #[(.ref a1), (.int (1 : Int32))] h0 (OwRet (some (.long (own_step (1 : Int64) (own_vals q1)))) h0) := by
  refine OwCon.of (plainFor_of_name pn_com_example_tributary_tributary_semantics_Ranges) ?_
  intro p e s m below meth cd_ s₁ X0 hx hby hml hret hlk hown hnm hZ e0
  refine GoOn.st (fun t_ k_ => castTop (ef_val21 m a1 (1 : Int32)) k_) ?_
  show GoOn _ _ _ _ (s₁.setTop (mkF m 0 #[.val (.ref a1), .val (.int (1 : Int32)), .unset, .unset, .unset, .unset, .unset] []))
  refine GoOn.st (fun t_ k_ => XS.lconst X0.here hx rfl (hb hby d_prog_175_method_7_0)  k_) ?_
  refine GoOn.st (fun t_ k_ => XS.lstoreN X0.here hx rfl (hb hby d_prog_175_method_7_1) rfl (l' := #[.val (.ref a1), .val (.int (1 : Int32)), .val (.long (1 : Int64)), .second, .unset, .unset, .unset]) rfl k_) ?_
  refine GoOn.st (fun t_ k_ => XS.iloadN X0.here hx rfl (hb hby d_prog_175_method_7_2) rfl k_) ?_
  refine GoOn.st (fun t_ k_ => XS.istore X0.here hx rfl (hb hby d_prog_175_method_7_3) rfl (l' := #[.val (.ref a1), .val (.int (1 : Int32)), .val (.long (1 : Int64)), .second, .val (.int (1 : Int32)), .unset, .unset]) rfl k_) ?_
  show GoOn _ _ _ _ (s₁.setTop (mkF m 5 #[.val (.ref a1), .val (.int (1 : Int32)), .val (.long (1 : Int64)), .second, .val (.int (1 : Int32)), .unset, .unset] []))
  refine GoOn.st (fun t_ k_ => XS.iload X0.here hx rfl (hb hby d_prog_175_method_7_5) rfl k_) ?_
  refine GoOn.st (fun t_ k_ => XS.aloadN X0.here hx rfl (hb hby d_prog_175_method_7_7) rfl rfl k_) ?_
  obtain ⟨T1, X1, e1, st1⟩ := getF X0 hx hZ hown (host := "") (Or.inl (hw _ (List.mem_of_getElem? (i := 95) rfl))) Via.refl e0 Frl (g := (mkF m 8 #[.val (.ref a1), .val (.int (1 : Int32)), .val (.long (1 : Int64)), .second, .val (.int (1 : Int32)), .unset, .unset] [(.ref a1), (.int (1 : Int32))])) rfl rfl (hb hby d_prog_175_method_7_8)
  refine GoOn.st st1 ?_
  refine GoOn.st (fun t_ k_ => own_arrlen X1 hx hZ e1 Vl (hb hby d_prog_175_method_7_11) _ k_) ?_
  show GoOn _ _ _ _ (T1.setTop (mkF m 12 #[.val (.ref a1), .val (.int (1 : Int32)), .val (.long (1 : Int64)), .second, .val (.int (1 : Int32)), .unset, .unset] [(.int (2 : Int32)), (.int (1 : Int32))]))
  refine GoOn.st (fun t_ k_ => XS.icmpNo X1.here hx rfl (hb hby d_prog_175_method_7_12) rfl (tlt (by decide : (1 : Int32) < (2 : Int32))).2.1 k_) ?_
  refine GoOn.st (fun t_ k_ => XS.aloadN X1.here hx rfl (hb hby d_prog_175_method_7_15) rfl rfl k_) ?_
  obtain ⟨T2, X2, e2, st2⟩ := getF X1 hx hZ hown (host := "") (Or.inl (hw _ (List.mem_of_getElem? (i := 97) rfl))) Via.refl e1 Frh (g := (mkF m 16 #[.val (.ref a1), .val (.int (1 : Int32)), .val (.long (1 : Int64)), .second, .val (.int (1 : Int32)), .unset, .unset] [(.ref a1)])) rfl rfl (hb hby d_prog_175_method_7_16)
  refine GoOn.st st2 ?_
  refine GoOn.st (fun t_ k_ => XS.iload X2.here hx rfl (hb hby d_prog_175_method_7_19) rfl k_) ?_
  show GoOn _ _ _ _ (T2.setTop (mkF m 21 #[.val (.ref a1), .val (.int (1 : Int32)), .val (.long (1 : Int64)), .second, .val (.int (1 : Int32)), .unset, .unset] [(.int (1 : Int32)), (.ref bh)]))
  refine GoOn.st (fun t_ k_ => own_iaload X2 hx hZ e2 Vh (j := (1 : Int32)) (by decide) (v := (.int (own_high q1))) rfl (hb hby d_prog_175_method_7_21) _ k_) ?_
  refine GoOn.st (fun t_ k_ => XS.i2l X2.here hx rfl (hb hby d_prog_175_method_7_22) rfl k_) ?_
  refine GoOn.st (fun t_ k_ => XS.aloadN X2.here hx rfl (hb hby d_prog_175_method_7_23) rfl rfl k_) ?_
  obtain ⟨T3, X3, e3, st3⟩ := getF X2 hx hZ hown (host := "") (Or.inl (hw _ (List.mem_of_getElem? (i := 95) rfl))) Via.refl e2 Frl (g := (mkF m 24 #[.val (.ref a1), .val (.int (1 : Int32)), .val (.long (1 : Int64)), .second, .val (.int (1 : Int32)), .unset, .unset] [(.ref a1), (.long (((own_high q1)).toInt64))])) rfl rfl (hb hby d_prog_175_method_7_24)
  refine GoOn.st st3 ?_
  show GoOn _ _ _ _ (T3.setTop (mkF m 27 #[.val (.ref a1), .val (.int (1 : Int32)), .val (.long (1 : Int64)), .second, .val (.int (1 : Int32)), .unset, .unset] [(.ref bl), (.long (((own_high q1)).toInt64))]))
  refine GoOn.st (fun t_ k_ => XS.iload X3.here hx rfl (hb hby d_prog_175_method_7_27) rfl k_) ?_
  refine GoOn.st (fun t_ k_ => own_iaload X3 hx hZ e3 Vl (j := (1 : Int32)) (by decide) (v := (.int (own_low q1))) rfl (hb hby d_prog_175_method_7_29) _ k_) ?_
  refine GoOn.st (fun t_ k_ => XS.i2l X3.here hx rfl (hb hby d_prog_175_method_7_30) rfl k_) ?_
  refine GoOn.st (fun t_ k_ => XS.lsub X3.here hx rfl (hb hby d_prog_175_method_7_31) rfl k_) ?_
  show GoOn _ _ _ _ (T3.setTop (mkF m 32 #[.val (.ref a1), .val (.int (1 : Int32)), .val (.long (1 : Int64)), .second, .val (.int (1 : Int32)), .unset, .unset] [(.long ((((own_high q1)).toInt64) - (((own_low q1)).toInt64)))]))
  refine GoOn.st (fun t_ k_ => XS.lconst X3.here hx rfl (hb hby d_prog_175_method_7_32)  k_) ?_
  refine GoOn.st (fun t_ k_ => XS.ladd X3.here hx rfl (hb hby d_prog_175_method_7_33) rfl k_) ?_
  refine GoOn.st (fun t_ k_ => XS.lstore X3.here hx rfl (hb hby d_prog_175_method_7_34) rfl (l' := #[.val (.ref a1), .val (.int (1 : Int32)), .val (.long (1 : Int64)), .second, .val (.int (1 : Int32)), .val (.long (((((own_high q1)).toInt64) - (((own_low q1)).toInt64)) + (1 : Int64))), .second]) rfl k_) ?_
  show GoOn _ _ _ _ (T3.setTop (mkF m 36 #[.val (.ref a1), .val (.int (1 : Int32)), .val (.long (1 : Int64)), .second, .val (.int (1 : Int32)), .val (.long (own_vals q1)), .second] []))
  refine GoOn.st (fun t_ k_ => XS.lloadN X3.here hx rfl (hb hby d_prog_175_method_7_36) rfl k_) ?_
  refine GoOn.st (fun t_ k_ => X3.ldc2Long hx hown (mvT hZ (hw _ (List.mem_of_getElem? (i := 170) rfl))) (g := (mkF m 37 #[.val (.ref a1), .val (.int (1 : Int32)), .val (.long (1 : Int64)), .second, .val (.int (1 : Int32)), .val (.long (own_vals q1)), .second] [(.long (1 : Int64))])) rfl (hb hby d_prog_175_method_7_37) _ k_) ?_
  refine GoOn.st (fun t_ k_ => XS.lload X3.here hx rfl (hb hby d_prog_175_method_7_40) rfl k_) ?_
  refine GoOn.st (fun t_ k_ => XS.ldiv X3.here hx rfl (hb hby d_prog_175_method_7_42) rfl (own_in_nz (own_in_vals q1)) k_) ?_
  show GoOn _ _ _ _ (T3.setTop (mkF m 43 #[.val (.ref a1), .val (.int (1 : Int32)), .val (.long (1 : Int64)), .second, .val (.int (1 : Int32)), .val (.long (own_vals q1)), .second] [(.long ((9223372036854775807 : Int64) / (own_vals q1))), (.long (1 : Int64))]))
  refine GoOn.st (fun t_ k_ => XS.lcmp X3.here hx rfl (hb hby d_prog_175_method_7_43) rfl k_) ?_
  have dm4 : ∀ zz0 : Int64, zz0 = (if ((9223372036854775807 : Int64) / (own_vals q1)) < (1 : Int64) then (9223372036854775807 : Int64) else ((1 : Int64) * (own_vals q1))) → ∀ t_, Steps p.tables e below (T3.setTop (mkF m 57 #[.val (.ref a1), .val (.int (1 : Int32)), .val (.long (1 : Int64)), .second, .val (.int (1 : Int32)), .val (.long (own_vals q1)), .second] [(.long zz0)])) t_ → Steps p.tables e below (T3.setTop (mkF m 44 #[.val (.ref a1), .val (.int (1 : Int32)), .val (.long (1 : Int64)), .second, .val (.int (1 : Int32)), .val (.long (own_vals q1)), .second] [(.int (lcmpW (1 : Int64) ((9223372036854775807 : Int64) / (own_vals q1))))])) t_ := by
    intro zz0 hzz0 t_ k_; by_cases hc : ((9223372036854775807 : Int64) / (own_vals q1)) < (1 : Int64)
    · rw [hzz0.trans (if_pos hc)] at k_
      refine XS.ifNo X3.here hx rfl (hb hby d_prog_175_method_7_44) rfl ((if0 _ _).trans (tlt ((lw_gt (1 : Int64) ((9223372036854775807 : Int64) / (own_vals q1))).mpr hc)).2.2.2) ?_
      refine X3.ldc2Long hx hown (mvT hZ (hw _ (List.mem_of_getElem? (i := 170) rfl))) (g := (mkF m 47 #[.val (.ref a1), .val (.int (1 : Int32)), .val (.long (1 : Int64)), .second, .val (.int (1 : Int32)), .val (.long (own_vals q1)), .second] [])) rfl (hb hby d_prog_175_method_7_47) _ ?_
      refine XS.goto X3.here hx rfl (pc0 := 50) (pc' := 57) rfl (hb hby d_prog_175_method_7_50) (by decide) (by decide) ?_
      exact k_
    · rw [hzz0.trans (if_neg hc)] at k_
      refine XS.ifYes X3.here hx rfl (pc0 := 44) (pc' := 53) rfl (hb hby d_prog_175_method_7_44) rfl ((if0 _ _).trans (flt (fun q => hc ((lw_gt (1 : Int64) ((9223372036854775807 : Int64) / (own_vals q1))).mp q))).2.2.2) (by decide) (by decide) ?_
      refine XS.lloadN X3.here hx rfl (hb hby d_prog_175_method_7_53) rfl ?_
      refine XS.lload X3.here hx rfl (hb hby d_prog_175_method_7_54) rfl ?_
      show Steps _ _ _ (T3.setTop (mkF m 56 #[.val (.ref a1), .val (.int (1 : Int32)), .val (.long (1 : Int64)), .second, .val (.int (1 : Int32)), .val (.long (own_vals q1)), .second] [(.long (own_vals q1)), (.long (1 : Int64))])) _
      refine XS.lmul X3.here hx rfl (hb hby d_prog_175_method_7_56) rfl ?_
      exact k_
  refine GoOn.st (dm4 _ rfl) ?_
  show GoOn _ _ _ _ (T3.setTop (mkF m 57 #[.val (.ref a1), .val (.int (1 : Int32)), .val (.long (1 : Int64)), .second, .val (.int (1 : Int32)), .val (.long (own_vals q1)), .second] [(.long (own_step (1 : Int64) (own_vals q1)))]))
  refine GoOn.st (fun t_ k_ => XS.lstoreN X3.here hx rfl (hb hby d_prog_175_method_7_57) rfl (l' := #[.val (.ref a1), .val (.int (1 : Int32)), .val (.long (own_step (1 : Int64) (own_vals q1))), .second, .val (.int (1 : Int32)), .val (.long (own_vals q1)), .second]) rfl k_) ?_
  refine GoOn.st (fun t_ k_ => XS.iinc X3.here hx rfl (hb hby d_prog_175_method_7_58) rfl (l' := #[.val (.ref a1), .val (.int (1 : Int32)), .val (.long (own_step (1 : Int64) (own_vals q1))), .second, .val (.int (2 : Int32)), .val (.long (own_vals q1)), .second]) rfl k_) ?_
  refine GoOn.st (fun t_ k_ => XS.goto X3.here hx rfl (pc0 := 61) (pc' := 5) rfl (hb hby d_prog_175_method_7_61) (by decide) (by decide) k_) ?_
  refine GoOn.st (fun t_ k_ => XS.iload X3.here hx rfl (hb hby d_prog_175_method_7_5) rfl k_) ?_
  show GoOn _ _ _ _ (T3.setTop (mkF m 7 #[.val (.ref a1), .val (.int (1 : Int32)), .val (.long (own_step (1 : Int64) (own_vals q1))), .second, .val (.int (2 : Int32)), .val (.long (own_vals q1)), .second] [(.int (2 : Int32))]))
  refine GoOn.st (fun t_ k_ => XS.aloadN X3.here hx rfl (hb hby d_prog_175_method_7_7) rfl rfl k_) ?_
  obtain ⟨T5, X5, e5, st5⟩ := getF X3 hx hZ hown (host := "") (Or.inl (hw _ (List.mem_of_getElem? (i := 95) rfl))) Via.refl e3 Frl (g := (mkF m 8 #[.val (.ref a1), .val (.int (1 : Int32)), .val (.long (own_step (1 : Int64) (own_vals q1))), .second, .val (.int (2 : Int32)), .val (.long (own_vals q1)), .second] [(.ref a1), (.int (2 : Int32))])) rfl rfl (hb hby d_prog_175_method_7_8)
  refine GoOn.st st5 ?_
  refine GoOn.st (fun t_ k_ => own_arrlen X5 hx hZ e5 Vl (hb hby d_prog_175_method_7_11) _ k_) ?_
  refine GoOn.st (fun t_ k_ => XS.icmpYes X5.here hx rfl (pc0 := 12) (pc' := 64) rfl (hb hby d_prog_175_method_7_12) rfl (flt (by decide : ¬ ((2 : Int32) < (2 : Int32)))).2.1 (by decide) (by decide) k_) ?_
  show GoOn _ _ _ _ (T5.setTop (mkF m 64 #[.val (.ref a1), .val (.int (1 : Int32)), .val (.long (own_step (1 : Int64) (own_vals q1))), .second, .val (.int (2 : Int32)), .val (.long (own_vals q1)), .second] []))
  refine GoOn.st (fun t_ k_ => XS.lloadN X5.here hx rfl (hb hby d_prog_175_method_7_64) rfl k_) ?_
  show GoOn _ _ _ _ (T5.setTop (mkF m 65 #[.val (.ref a1), .val (.int (1 : Int32)), .val (.long (own_step (1 : Int64) (own_vals q1))), .second, .val (.int (2 : Int32)), .val (.long (own_vals q1)), .second] [(.long (own_step (1 : Int64) (own_vals q1)))]))
  exact GoOn.retJ X5 hx hlk hret (hb hby d_prog_175_method_7_65) (by rw [e5]; exact ⟨rfl, rfl, rfl⟩) (by decide) (by decide)
theorem ef_val22 (m : MethodId) (x0 : Addr) (x1 : Int32) : entryFrame m #[(.ref x0), (.int x1)] 7 = mkF m 0 #[.val (.ref x0), .val (.int x1), .unset, .unset, .unset, .unset, .unset] [] := by first | (simp [entryFrame, mkF, argsToLocals, Value.category]; done) | rfl
set_option maxRecDepth 65536 in
set_option maxHeartbeats 40000000 in
theorem rm_val22 (l : Launch) (Z : State) (a0 : Array Value) (hw : ∀ d ∈ tables_1, d.before a0 Z = true) (a1 bl bh : Addr) (kl kh : ClassId) (q0 q1 : Int64) (h0 : Heap) (Frl : Fld Z h0 a1 "com/example/tributary/tributary/semantics/Ranges" "low" "[I" (.ref bl)) (Frh : Fld Z h0 a1 "com/example/tributary/tributary/semantics/Ranges" "high" "[I" (.ref bh)) (Vl : Arv Z h0 bl kl .int (2 : Int32) [(.int (own_low q0)), (.int (own_low q1))] (.int (0 : Int32))) (Vh : Arv Z h0 bh kh .int (2 : Int32) [(.int (own_high q0)), (.int (own_high q1))] (.int (0 : Int32))) :
    OwCon l Z (⟨"com/example/tributary/tributary/semantics/Ranges", "valuations", "(I)J"⟩ : MethodName) prog_175_method_7_code 7 (some .long) [] ({ frames := 0, cells := 0, slots := 0, locals := 0 } : Room) #[(.ref a1), (.int (2 : Int32))] h0 (OwRet (some (.long (1 : Int64))) h0) := by
  refine OwCon.of (plainFor_of_name pn_com_example_tributary_tributary_semantics_Ranges) ?_
  intro p e s m below meth cd_ s₁ X0 hx hby hml hret hlk hown hnm hZ e0
  refine GoOn.st (fun t_ k_ => castTop (ef_val22 m a1 (2 : Int32)) k_) ?_
  show GoOn _ _ _ _ (s₁.setTop (mkF m 0 #[.val (.ref a1), .val (.int (2 : Int32)), .unset, .unset, .unset, .unset, .unset] []))
  refine GoOn.st (fun t_ k_ => XS.lconst X0.here hx rfl (hb hby d_prog_175_method_7_0)  k_) ?_
  refine GoOn.st (fun t_ k_ => XS.lstoreN X0.here hx rfl (hb hby d_prog_175_method_7_1) rfl (l' := #[.val (.ref a1), .val (.int (2 : Int32)), .val (.long (1 : Int64)), .second, .unset, .unset, .unset]) rfl k_) ?_
  refine GoOn.st (fun t_ k_ => XS.iloadN X0.here hx rfl (hb hby d_prog_175_method_7_2) rfl k_) ?_
  refine GoOn.st (fun t_ k_ => XS.istore X0.here hx rfl (hb hby d_prog_175_method_7_3) rfl (l' := #[.val (.ref a1), .val (.int (2 : Int32)), .val (.long (1 : Int64)), .second, .val (.int (2 : Int32)), .unset, .unset]) rfl k_) ?_
  show GoOn _ _ _ _ (s₁.setTop (mkF m 5 #[.val (.ref a1), .val (.int (2 : Int32)), .val (.long (1 : Int64)), .second, .val (.int (2 : Int32)), .unset, .unset] []))
  refine GoOn.st (fun t_ k_ => XS.iload X0.here hx rfl (hb hby d_prog_175_method_7_5) rfl k_) ?_
  refine GoOn.st (fun t_ k_ => XS.aloadN X0.here hx rfl (hb hby d_prog_175_method_7_7) rfl rfl k_) ?_
  obtain ⟨T1, X1, e1, st1⟩ := getF X0 hx hZ hown (host := "") (Or.inl (hw _ (List.mem_of_getElem? (i := 95) rfl))) Via.refl e0 Frl (g := (mkF m 8 #[.val (.ref a1), .val (.int (2 : Int32)), .val (.long (1 : Int64)), .second, .val (.int (2 : Int32)), .unset, .unset] [(.ref a1), (.int (2 : Int32))])) rfl rfl (hb hby d_prog_175_method_7_8)
  refine GoOn.st st1 ?_
  refine GoOn.st (fun t_ k_ => own_arrlen X1 hx hZ e1 Vl (hb hby d_prog_175_method_7_11) _ k_) ?_
  show GoOn _ _ _ _ (T1.setTop (mkF m 12 #[.val (.ref a1), .val (.int (2 : Int32)), .val (.long (1 : Int64)), .second, .val (.int (2 : Int32)), .unset, .unset] [(.int (2 : Int32)), (.int (2 : Int32))]))
  refine GoOn.st (fun t_ k_ => XS.icmpYes X1.here hx rfl (pc0 := 12) (pc' := 64) rfl (hb hby d_prog_175_method_7_12) rfl (flt (by decide : ¬ ((2 : Int32) < (2 : Int32)))).2.1 (by decide) (by decide) k_) ?_
  refine GoOn.st (fun t_ k_ => XS.lloadN X1.here hx rfl (hb hby d_prog_175_method_7_64) rfl k_) ?_
  show GoOn _ _ _ _ (T1.setTop (mkF m 65 #[.val (.ref a1), .val (.int (2 : Int32)), .val (.long (1 : Int64)), .second, .val (.int (2 : Int32)), .unset, .unset] [(.long (1 : Int64))]))
  exact GoOn.retJ X1 hx hlk hret (hb hby d_prog_175_method_7_65) (by rw [e1]; exact ⟨rfl, rfl, rfl⟩) (by decide) (by decide)
theorem ef_val23 (m : MethodId) (x0 : Addr) (x1 : Int32) : entryFrame m #[(.ref x0), (.int x1)] 7 = mkF m 0 #[.val (.ref x0), .val (.int x1), .unset, .unset, .unset, .unset, .unset] [] := by first | (simp [entryFrame, mkF, argsToLocals, Value.category]; done) | rfl
set_option maxRecDepth 65536 in
set_option maxHeartbeats 40000000 in
theorem rm_val23 (l : Launch) (Z : State) (a0 : Array Value) (hw : ∀ d ∈ tables_1, d.before a0 Z = true) (a1 bl bh : Addr) (kl kh : ClassId) (q0 q1 : Int64) (h0 : Heap) (Frl : Fld Z h0 a1 "com/example/tributary/tributary/semantics/Ranges" "low" "[I" (.ref bl)) (Frh : Fld Z h0 a1 "com/example/tributary/tributary/semantics/Ranges" "high" "[I" (.ref bh)) (Vl : Arv Z h0 bl kl .int (2 : Int32) [(.int (own_low q0)), (.int (own_low q1))] (.int (0 : Int32))) (Vh : Arv Z h0 bh kh .int (2 : Int32) [(.int (own_high q0)), (.int (own_high q1))] (.int (0 : Int32))) :
    OwCon l Z (⟨"com/example/tributary/tributary/semantics/Ranges", "valuations", "(I)J"⟩ : MethodName) prog_175_method_7_code 7 (some .long) [] ({ frames := 0, cells := 0, slots := 0, locals := 0 } : Room) #[(.ref a1), (.int (3 : Int32))] h0 (OwRet (some (.long (1 : Int64))) h0) := by
  refine OwCon.of (plainFor_of_name pn_com_example_tributary_tributary_semantics_Ranges) ?_
  intro p e s m below meth cd_ s₁ X0 hx hby hml hret hlk hown hnm hZ e0
  refine GoOn.st (fun t_ k_ => castTop (ef_val23 m a1 (3 : Int32)) k_) ?_
  show GoOn _ _ _ _ (s₁.setTop (mkF m 0 #[.val (.ref a1), .val (.int (3 : Int32)), .unset, .unset, .unset, .unset, .unset] []))
  refine GoOn.st (fun t_ k_ => XS.lconst X0.here hx rfl (hb hby d_prog_175_method_7_0)  k_) ?_
  refine GoOn.st (fun t_ k_ => XS.lstoreN X0.here hx rfl (hb hby d_prog_175_method_7_1) rfl (l' := #[.val (.ref a1), .val (.int (3 : Int32)), .val (.long (1 : Int64)), .second, .unset, .unset, .unset]) rfl k_) ?_
  refine GoOn.st (fun t_ k_ => XS.iloadN X0.here hx rfl (hb hby d_prog_175_method_7_2) rfl k_) ?_
  refine GoOn.st (fun t_ k_ => XS.istore X0.here hx rfl (hb hby d_prog_175_method_7_3) rfl (l' := #[.val (.ref a1), .val (.int (3 : Int32)), .val (.long (1 : Int64)), .second, .val (.int (3 : Int32)), .unset, .unset]) rfl k_) ?_
  show GoOn _ _ _ _ (s₁.setTop (mkF m 5 #[.val (.ref a1), .val (.int (3 : Int32)), .val (.long (1 : Int64)), .second, .val (.int (3 : Int32)), .unset, .unset] []))
  refine GoOn.st (fun t_ k_ => XS.iload X0.here hx rfl (hb hby d_prog_175_method_7_5) rfl k_) ?_
  refine GoOn.st (fun t_ k_ => XS.aloadN X0.here hx rfl (hb hby d_prog_175_method_7_7) rfl rfl k_) ?_
  obtain ⟨T1, X1, e1, st1⟩ := getF X0 hx hZ hown (host := "") (Or.inl (hw _ (List.mem_of_getElem? (i := 95) rfl))) Via.refl e0 Frl (g := (mkF m 8 #[.val (.ref a1), .val (.int (3 : Int32)), .val (.long (1 : Int64)), .second, .val (.int (3 : Int32)), .unset, .unset] [(.ref a1), (.int (3 : Int32))])) rfl rfl (hb hby d_prog_175_method_7_8)
  refine GoOn.st st1 ?_
  refine GoOn.st (fun t_ k_ => own_arrlen X1 hx hZ e1 Vl (hb hby d_prog_175_method_7_11) _ k_) ?_
  show GoOn _ _ _ _ (T1.setTop (mkF m 12 #[.val (.ref a1), .val (.int (3 : Int32)), .val (.long (1 : Int64)), .second, .val (.int (3 : Int32)), .unset, .unset] [(.int (2 : Int32)), (.int (3 : Int32))]))
  refine GoOn.st (fun t_ k_ => XS.icmpYes X1.here hx rfl (pc0 := 12) (pc' := 64) rfl (hb hby d_prog_175_method_7_12) rfl (flt (by decide : ¬ ((3 : Int32) < (2 : Int32)))).2.1 (by decide) (by decide) k_) ?_
  refine GoOn.st (fun t_ k_ => XS.lloadN X1.here hx rfl (hb hby d_prog_175_method_7_64) rfl k_) ?_
  show GoOn _ _ _ _ (T1.setTop (mkF m 65 #[.val (.ref a1), .val (.int (3 : Int32)), .val (.long (1 : Int64)), .second, .val (.int (3 : Int32)), .unset, .unset] [(.long (1 : Int64))]))
  exact GoOn.retJ X1 hx hlk hret (hb hby d_prog_175_method_7_65) (by rw [e1]; exact ⟨rfl, rfl, rfl⟩) (by decide) (by decide)
theorem ef_rinit3 (m : MethodId) (x0 : Addr) (x1 : Addr) : entryFrame m #[(.ref x0), (.ref x1)] 3 = mkF m 0 #[.val (.ref x0), .val (.ref x1), .unset] [] := by first | (simp [entryFrame, mkF, argsToLocals, Value.category]; done) | rfl
set_option maxRecDepth 65536 in
set_option maxHeartbeats 40000000 in
theorem rm_rinit3 (l : Launch) (Z : State) (a0 : Array Value) (hw : ∀ d ∈ tables_1, d.before a0 Z = true) (a1 a2 b2 x0 x1 x2 : Addr) (kb : ClassId) (q0 q1 q2 : Int64) (h0 : Heap) (n0 : Nat) (Z0 : n0 ≤ h0.size) (Er : Exa Z h0 a1 "com/example/tributary/tributary/semantics/Ranges") (Frl : Fld Z h0 a1 "com/example/tributary/tributary/semantics/Ranges" "low" "[I" .null) (Frh : Fld Z h0 a1 "com/example/tributary/tributary/semantics/Ranges" "high" "[I" .null) (Ea : Exa Z h0 a2 "java/util/ArrayList") (Fs : Fld Z h0 a2 "java/util/ArrayList" "size" "I" (.int (3 : Int32))) (h21 : a2 ≠ a1) (g_a1 : n0 ≤ a1) (Fe : Fld Z h0 a2 "java/util/ArrayList" "elementData" "[Ljava/lang/Object;" (.ref b2)) (Vb : Arv Z h0 b2 kb (.object "java/lang/Object") (10 : Int32) [(.ref x0), (.ref x1), (.ref x2), .null, .null, .null, .null, .null, .null, .null] .null) (hb1 : b2 ≠ a1) (Ex0 : Exa Z h0 x0 "com/example/tributary/tributary/semantics/Variable") (Lx0 : Fld Z h0 x0 "com/example/tributary/tributary/semantics/Variable" "low" "I" (.int (own_low q0))) (Hx0 : Fld Z h0 x0 "com/example/tributary/tributary/semantics/Variable" "high" "I" (.int (own_high q0))) (hx0 : x0 ≠ a1) (Ex1 : Exa Z h0 x1 "com/example/tributary/tributary/semantics/Variable") (Lx1 : Fld Z h0 x1 "com/example/tributary/tributary/semantics/Variable" "low" "I" (.int (own_low q1))) (Hx1 : Fld Z h0 x1 "com/example/tributary/tributary/semantics/Variable" "high" "I" (.int (own_high q1))) (hx1 : x1 ≠ a1) (Ex2 : Exa Z h0 x2 "com/example/tributary/tributary/semantics/Variable") (Lx2 : Fld Z h0 x2 "com/example/tributary/tributary/semantics/Variable" "low" "I" (.int (own_low q2))) (Hx2 : Fld Z h0 x2 "com/example/tributary/tributary/semantics/Variable" "high" "I" (.int (own_high q2))) (hx2 : x2 ≠ a1) :
    OwCon l Z (⟨"com/example/tributary/tributary/semantics/Ranges", "<init>", "(Ljava/util/List;)V"⟩ : MethodName) prog_175_method_1_code 3 none [] ({ frames := 3, cells := 2, slots := 6, locals := 42 } : Room) #[(.ref a1), (.ref a2)] h0 (fun v h L => ∃ bl bh kl kh, v = none ∧ Fr n0 L ∧ Keep h0 h [a1] ∧ Exa Z h a1 "com/example/tributary/tributary/semantics/Ranges" ∧ Fld Z h a1 "com/example/tributary/tributary/semantics/Ranges" "low" "[I" (.ref bl) ∧ Fld Z h a1 "com/example/tributary/tributary/semantics/Ranges" "high" "[I" (.ref bh) ∧ Arv Z h bl kl .int (3 : Int32) [(.int (own_low q0)), (.int (own_low q1)), (.int (own_low q2))] (.int (0 : Int32)) ∧ Arv Z h bh kh .int (3 : Int32) [(.int (own_high q0)), (.int (own_high q1)), (.int (own_high q2))] (.int (0 : Int32))) := by
  refine OwCon.of (plainFor_of_name pn_com_example_tributary_tributary_semantics_Ranges) ?_
  intro p e s m below meth cd_ s₁ X0 hx hby hml hret hlk hown hnm hZ e0
  have N0 := Fr.nil n0
  refine GoOn.st (fun t_ k_ => castTop (ef_rinit3 m a1 a2) k_) ?_
  show GoOn _ _ _ _ (s₁.setTop (mkF m 0 #[.val (.ref a1), .val (.ref a2), .unset] []))
  refine GoOn.st (fun t_ k_ => XS.aloadN X0.here hx rfl (hb hby d_prog_175_method_1_0) rfl rfl k_) ?_
  show GoOn _ _ _ _ (s₁.setTop (mkF m 1 #[.val (.ref a1), .val (.ref a2), .unset] [(.ref a1)]))
  obtain ⟨T1, X1, e1, st1⟩ := initO X0 hx hZ hown (hw _ (List.mem_of_getElem? (i := 82) rfl)) (hw _ (List.mem_of_getElem? (i := 40) rfl)) (hw _ (List.mem_of_getElem? (i := 41) rfl)) e0 (g := (mkF m 1 #[.val (.ref a1), .val (.ref a2), .unset] [(.ref a1)])) rfl (by rw [hml]; rfl) rfl (hb hby d_prog_175_method_1_1) (by decide) (W := 0) (by show 2 * 0 + _ ≤ _; exact Nat.le_of_eq rfl) (by decide)
  refine GoOn.st st1 ?_
  refine GoOn.st (fun t_ k_ => XS.aloadN X1.here hx rfl (hb hby d_prog_175_method_1_4) rfl rfl k_) ?_
  refine GoOn.st (fun t_ k_ => XS.aloadN X1.here hx rfl (hb hby d_prog_175_method_1_5) rfl rfl k_) ?_
  show GoOn _ _ _ _ (T1.setTop (mkF m 6 #[.val (.ref a1), .val (.ref a2), .unset] [(.ref a2), (.ref a1)]))
  refine GoOn.callI (W := 1) (argsL := []) (rest := [(.ref a1)]) (a := a2) (K := "java/util/ArrayList") X1 hx hZ hown (hw _ (List.mem_of_getElem? (i := 83) rfl)) (hw _ (List.mem_of_getElem? (i := 84) rfl)) (hw _ (List.mem_of_getElem? (i := 85) rfl)) (hw _ (List.mem_of_getElem? (i := 86) rfl)) (hw _ (List.mem_of_getElem? (i := 87) rfl)) (hw _ (List.mem_of_getElem? (i := 88) rfl)) (hw _ (List.mem_of_getElem? (i := 89) rfl)) (hw _ (List.mem_of_getElem? (i := 90) rfl)) (by first | rfl | decide +kernel) (hw _ (List.mem_of_getElem? (i := 54) rfl)) (hw _ (List.mem_of_getElem? (i := 91) rfl)) (by decide) (rm_size l Z a0 hw a2 (3 : Int32) h0 Fs) e1 Ea (by decide) (by decide) (by rw [hml]; rfl) pd_9 rfl rfl (Nat.le_of_eq rfl) (hb hby d_prog_175_method_1_6) (by decide) (by decide) ?_
  rintro _ T2 L2 X2 ⟨rfl, rfl, e2⟩
  rw [List.append_nil] at X2
  obtain ⟨T3, h3, k3, X3, e3, E3, A3, st3⟩ := newP X2 hx hZ (hw _ (List.mem_of_getElem? (i := 94) rfl)) e2 (g := (mkF m 11 #[.val (.ref a1), .val (.ref a2), .unset] [(.int (3 : Int32)), (.ref a1)])) rfl (hb hby d_prog_175_method_1_11) rfl (by decide) (cap := 3) (by decide) (by decide) (by decide) (by decide)
  obtain ⟨b3, g3⟩ : ∃ z, z = h0.size := ⟨_, rfl⟩
  rw [← g3] at A3 st3
  have ne_a1_b3 : a1 ≠ b3 := Nat.ne_of_lt (Nat.lt_of_lt_of_le Er.lt (Nat.le_of_eq g3.symm))
  have ne_a2_b3 : a2 ≠ b3 := Nat.ne_of_lt (Nat.lt_of_lt_of_le Ea.lt (Nat.le_of_eq g3.symm))
  have ne_b2_b3 : b2 ≠ b3 := Nat.ne_of_lt (Nat.lt_of_lt_of_le Vb.lt (Nat.le_of_eq g3.symm))
  have ne_x0_b3 : x0 ≠ b3 := Nat.ne_of_lt (Nat.lt_of_lt_of_le Ex0.lt (Nat.le_of_eq g3.symm))
  have ne_x1_b3 : x1 ≠ b3 := Nat.ne_of_lt (Nat.lt_of_lt_of_le Ex1.lt (Nat.le_of_eq g3.symm))
  have ne_x2_b3 : x2 ≠ b3 := Nat.ne_of_lt (Nat.lt_of_lt_of_le Ex2.lt (Nat.le_of_eq g3.symm))
  have g_b3 : n0 ≤ b3 := Nat.le_trans Z0 (Nat.le_of_eq g3.symm)
  have sz_b3 : h0.size ≤ b3 := Nat.le_trans (Keep.refl h0 [a1]).1 (Nat.le_of_eq g3.symm)
  have V3 : Arv Z h3 b3 k3 .int (3 : Int32) [(.int (0 : Int32)), (.int (0 : Int32)), (.int (0 : Int32))] (.int (0 : Int32)) := (Arv.new A3 (by decide)).pad (pad_rep [] _ 3)
  refine GoOn.st st3 ?_
  have F4 := (Er.ext E3)
  have F5 := (Frl.ext E3)
  obtain ⟨T6, h6, X6, e6, W6, st6⟩ := putF X3 hx hZ hown (host := "") (Or.inl (hw _ (List.mem_of_getElem? (i := 95) rfl))) Via.refl e3 F5 F4 (Or.inr ⟨(hw _ (List.mem_of_getElem? (i := 96) rfl)), rfl, hnm⟩) (hw _ (List.mem_of_getElem? (i := 77) rfl)) (ty := (.array .int)) (by decide) rfl rfl (g := (mkF m 13 #[.val (.ref a1), .val (.ref a2), .unset] [(.ref b3), (.ref a1)])) rfl rfl (hb hby d_prog_175_method_1_13)
  have Fw6 := Fld.same W6 F5
  have N7 := Fr.snoc X6 N0 g_a1
  refine GoOn.st st6 ?_
  refine GoOn.st (fun t_ k_ => XS.aloadN X6.here hx rfl (hb hby d_prog_175_method_1_16) rfl rfl k_) ?_
  show GoOn _ _ _ _ (T6.setTop (mkF m 17 #[.val (.ref a1), .val (.ref a2), .unset] [(.ref a1)]))
  refine GoOn.st (fun t_ k_ => XS.aloadN X6.here hx rfl (hb hby d_prog_175_method_1_17) rfl rfl k_) ?_
  show GoOn _ _ _ _ (T6.setTop (mkF m 18 #[.val (.ref a1), .val (.ref a2), .unset] [(.ref a2), (.ref a1)]))
  have F8 := (Fld.other W6 (Fs.ext E3) (Or.inl h21))
  have F10 := (Exa.wr W6 (Ea.ext E3))
  refine GoOn.callI (W := 1) (argsL := []) (rest := [(.ref a1)]) (a := a2) (K := "java/util/ArrayList") X6 hx hZ hown (hw _ (List.mem_of_getElem? (i := 83) rfl)) (hw _ (List.mem_of_getElem? (i := 84) rfl)) (hw _ (List.mem_of_getElem? (i := 85) rfl)) (hw _ (List.mem_of_getElem? (i := 86) rfl)) (hw _ (List.mem_of_getElem? (i := 87) rfl)) (hw _ (List.mem_of_getElem? (i := 88) rfl)) (hw _ (List.mem_of_getElem? (i := 89) rfl)) (hw _ (List.mem_of_getElem? (i := 90) rfl)) (by first | rfl | decide +kernel) (hw _ (List.mem_of_getElem? (i := 54) rfl)) (hw _ (List.mem_of_getElem? (i := 91) rfl)) (by decide) (rm_size l Z a0 hw a2 (3 : Int32) h6 F8) e6 F10 (by decide) (by decide) (by rw [hml]; rfl) pd_9 rfl rfl (Nat.le_of_eq rfl) (hb hby d_prog_175_method_1_18) (by decide) (by decide) ?_
  rintro _ T9 L9 X9 ⟨rfl, rfl, e9⟩
  rw [List.append_nil] at X9
  obtain ⟨T11, h11, k11, X11, e11, E11, A11, st11⟩ := newP X9 hx hZ (hw _ (List.mem_of_getElem? (i := 94) rfl)) e9 (g := (mkF m 23 #[.val (.ref a1), .val (.ref a2), .unset] [(.int (3 : Int32)), (.ref a1)])) rfl (hb hby d_prog_175_method_1_23) rfl (by decide) (cap := 3) (by decide) (by decide) (by decide) (by decide)
  obtain ⟨b11, g11⟩ : ∃ z, z = h6.size := ⟨_, rfl⟩
  rw [← g11] at A11 st11
  have ne_a1_b11 : a1 ≠ b11 := Nat.ne_of_lt (Nat.lt_of_lt_of_le (Exa.wr W6 F4).lt (Nat.le_of_eq g11.symm))
  have ne_a2_b11 : a2 ≠ b11 := Nat.ne_of_lt (Nat.lt_of_lt_of_le F10.lt (Nat.le_of_eq g11.symm))
  have ne_b2_b11 : b2 ≠ b11 := Nat.ne_of_lt (Nat.lt_of_lt_of_le (Arv.other (Vb.ext E3) W6 hb1).lt (Nat.le_of_eq g11.symm))
  have ne_x0_b11 : x0 ≠ b11 := Nat.ne_of_lt (Nat.lt_of_lt_of_le (Exa.wr W6 (Ex0.ext E3)).lt (Nat.le_of_eq g11.symm))
  have ne_x1_b11 : x1 ≠ b11 := Nat.ne_of_lt (Nat.lt_of_lt_of_le (Exa.wr W6 (Ex1.ext E3)).lt (Nat.le_of_eq g11.symm))
  have ne_x2_b11 : x2 ≠ b11 := Nat.ne_of_lt (Nat.lt_of_lt_of_le (Exa.wr W6 (Ex2.ext E3)).lt (Nat.le_of_eq g11.symm))
  have ne_b3_b11 : b3 ≠ b11 := Nat.ne_of_lt (Nat.lt_of_lt_of_le (Arv.other V3 W6 (Ne.symm ne_a1_b3)).lt (Nat.le_of_eq g11.symm))
  have g_b11 : n0 ≤ b11 := Nat.le_trans (Nat.le_trans (Nat.le_trans Z0 E3.1) (Keep.of_wr W6).1) (Nat.le_of_eq g11.symm)
  have sz_b11 : h0.size ≤ b11 := Nat.le_trans (((Keep.refl h0 [a1]).ext E3).wr W6 (Or.inl (List.mem_of_getElem? (i := 0) rfl))).1 (Nat.le_of_eq g11.symm)
  have V11 : Arv Z h11 b11 k11 .int (3 : Int32) [(.int (0 : Int32)), (.int (0 : Int32)), (.int (0 : Int32))] (.int (0 : Int32)) := (Arv.new A11 (by decide)).pad (pad_rep [] _ 3)
  refine GoOn.st st11 ?_
  have F12 := ((Exa.wr W6 F4).ext E11)
  have F13 := ((Fld.other W6 (Frh.ext E3) (Or.inr (slot_ne (Or.inr (hw _ (List.mem_of_getElem? (i := 98) rfl))) (Or.inr (hw _ (List.mem_of_getElem? (i := 96) rfl))) (by decide) (t := (.array .int)) (t' := (.array .int)) (by decide) (by decide)))).ext E11)
  obtain ⟨T14, h14, X14, e14, W14, st14⟩ := putF X11 hx hZ hown (host := "") (Or.inl (hw _ (List.mem_of_getElem? (i := 97) rfl))) Via.refl e11 F13 F12 (Or.inr ⟨(hw _ (List.mem_of_getElem? (i := 98) rfl)), rfl, hnm⟩) (hw _ (List.mem_of_getElem? (i := 77) rfl)) (ty := (.array .int)) (by decide) rfl rfl (g := (mkF m 25 #[.val (.ref a1), .val (.ref a2), .unset] [(.ref b11), (.ref a1)])) rfl rfl (hb hby d_prog_175_method_1_25)
  have Fw14 := Fld.same W14 F13
  have N15 := Fr.snoc X14 N7 g_a1
  refine GoOn.st st14 ?_
  refine GoOn.st (fun t_ k_ => XS.iconst X14.here hx rfl (hb hby d_prog_175_method_1_28)  k_) ?_
  show GoOn _ _ _ _ (T14.setTop (mkF m 29 #[.val (.ref a1), .val (.ref a2), .unset] [(.int (0 : Int32))]))
  refine GoOn.st (fun t_ k_ => XS.istoreN X14.here hx rfl (hb hby d_prog_175_method_1_29) rfl (l' := #[.val (.ref a1), .val (.ref a2), .val (.int (0 : Int32))]) rfl k_) ?_
  refine GoOn.st (fun t_ k_ => XS.iloadN X14.here hx rfl (hb hby d_prog_175_method_1_30) rfl k_) ?_
  refine GoOn.st (fun t_ k_ => XS.aloadN X14.here hx rfl (hb hby d_prog_175_method_1_31) rfl rfl k_) ?_
  have F16 := (Fld.other W14 (Fw6.ext E11) (Or.inr (slot_ne (Or.inr (hw _ (List.mem_of_getElem? (i := 96) rfl))) (Or.inr (hw _ (List.mem_of_getElem? (i := 98) rfl))) (by decide) (t := (.array .int)) (t' := (.array .int)) (by decide) (by decide))))
  obtain ⟨T17, X17, e17, st17⟩ := getF X14 hx hZ hown (host := "") (Or.inl (hw _ (List.mem_of_getElem? (i := 95) rfl))) Via.refl e14 F16 (g := (mkF m 32 #[.val (.ref a1), .val (.ref a2), .val (.int (0 : Int32))] [(.ref a1), (.int (0 : Int32))])) rfl rfl (hb hby d_prog_175_method_1_32)
  refine GoOn.st st17 ?_
  show GoOn _ _ _ _ (T17.setTop (mkF m 35 #[.val (.ref a1), .val (.ref a2), .val (.int (0 : Int32))] [(.ref b3), (.int (0 : Int32))]))
  have F18 := (Arv.other ((Arv.other V3 W6 (Ne.symm ne_a1_b3)).ext E11) W14 (Ne.symm ne_a1_b3))
  refine GoOn.st (fun t_ k_ => own_arrlen X17 hx hZ e17 F18 (hb hby d_prog_175_method_1_35) _ k_) ?_
  refine GoOn.st (fun t_ k_ => XS.icmpNo X17.here hx rfl (hb hby d_prog_175_method_1_36) rfl (tlt (by decide : (0 : Int32) < (3 : Int32))).2.1 k_) ?_
  refine GoOn.st (fun t_ k_ => XS.aloadN X17.here hx rfl (hb hby d_prog_175_method_1_39) rfl rfl k_) ?_
  obtain ⟨T19, X19, e19, st19⟩ := getF X17 hx hZ hown (host := "") (Or.inl (hw _ (List.mem_of_getElem? (i := 95) rfl))) Via.refl e17 F16 (g := (mkF m 40 #[.val (.ref a1), .val (.ref a2), .val (.int (0 : Int32))] [(.ref a1)])) rfl rfl (hb hby d_prog_175_method_1_40)
  refine GoOn.st st19 ?_
  show GoOn _ _ _ _ (T19.setTop (mkF m 43 #[.val (.ref a1), .val (.ref a2), .val (.int (0 : Int32))] [(.ref b3)]))
  refine GoOn.st (fun t_ k_ => XS.iloadN X19.here hx rfl (hb hby d_prog_175_method_1_43) rfl k_) ?_
  refine GoOn.st (fun t_ k_ => XS.aloadN X19.here hx rfl (hb hby d_prog_175_method_1_44) rfl rfl k_) ?_
  refine GoOn.st (fun t_ k_ => XS.iloadN X19.here hx rfl (hb hby d_prog_175_method_1_45) rfl k_) ?_
  show GoOn _ _ _ _ (T19.setTop (mkF m 46 #[.val (.ref a1), .val (.ref a2), .val (.int (0 : Int32))] [(.int (0 : Int32)), (.ref a2), (.int (0 : Int32)), (.ref b3)]))
  have F20 := (Exa.wr W14 (F10.ext E11))
  have F21 := (Fld.other W14 ((Fld.other W6 (Fe.ext E3) (Or.inl h21)).ext E11) (Or.inl h21))
  have F22 := (Fld.other W14 (F8.ext E11) (Or.inl h21))
  have F23 := (Arv.other ((Arv.other (Vb.ext E3) W6 hb1).ext E11) W14 hb1)
  refine GoOn.callI (W := 2) (argsL := [(.int (0 : Int32))]) (rest := [(.int (0 : Int32)), (.ref b3)]) (a := a2) (K := "java/util/ArrayList") X19 hx hZ hown (hw _ (List.mem_of_getElem? (i := 137) rfl)) (hw _ (List.mem_of_getElem? (i := 138) rfl)) (hw _ (List.mem_of_getElem? (i := 139) rfl)) (hw _ (List.mem_of_getElem? (i := 140) rfl)) (hw _ (List.mem_of_getElem? (i := 141) rfl)) (hw _ (List.mem_of_getElem? (i := 142) rfl)) (hw _ (List.mem_of_getElem? (i := 143) rfl)) (hw _ (List.mem_of_getElem? (i := 90) rfl)) (by first | rfl | decide +kernel) (hw _ (List.mem_of_getElem? (i := 54) rfl)) (hw _ (List.mem_of_getElem? (i := 144) rfl)) (by decide) (rm_get l Z a0 hw a2 b2 x0 kb [(.ref x0), (.ref x1), (.ref x2), .null, .null, .null, .null, .null, .null, .null] (0 : Int32) (3 : Int32) h14 F20 F21 F22 F23 (by decide) rfl (by decide) (by decide)) e19 F20 (by decide) (by decide) (by rw [hml]; rfl) pd_8 rfl rfl (Nat.le_of_eq rfl) (hb hby d_prog_175_method_1_46) (by decide) (by decide) ?_
  rintro _ T24 L24 X24 ⟨rfl, rfl, e24⟩
  rw [List.append_nil] at X24
  have F26 := (Exa.wr W14 ((Exa.wr W6 (Ex0.ext E3)).ext E11))
  obtain ⟨T25, X25, e25, st25⟩ := castY X24 hx hZ hown (hw _ (List.mem_of_getElem? (i := 158) rfl)) e24 (Ins.self F26) (g := (mkF m 51 #[.val (.ref a1), .val (.ref a2), .val (.int (0 : Int32))] [(.ref x0), (.int (0 : Int32)), (.ref b3)])) rfl rfl (hb hby d_prog_175_method_1_51)
  refine GoOn.st st25 ?_
  show GoOn _ _ _ _ (T25.setTop (mkF m 54 #[.val (.ref a1), .val (.ref a2), .val (.int (0 : Int32))] [(.ref x0), (.int (0 : Int32)), (.ref b3)]))
  have F27 := (Fld.other W14 ((Fld.other W6 (Lx0.ext E3) (Or.inl hx0)).ext E11) (Or.inl hx0))
  refine GoOn.callV (W := 2) (argsL := []) (rest := [(.int (0 : Int32)), (.ref b3)]) (a := x0) X25 hx hZ hown (hw _ (List.mem_of_getElem? (i := 160) rfl)) (hw _ (List.mem_of_getElem? (i := 161) rfl)) (notFace_of_selects (args := #[]) (mvT hZ (hw _ (List.mem_of_getElem? (i := 163) rfl)))) (hw _ (List.mem_of_getElem? (i := 163) rfl)) (hw _ (List.mem_of_getElem? (i := 162) rfl)) (hw _ (List.mem_of_getElem? (i := 6) rfl)) (hw _ (List.mem_of_getElem? (i := 164) rfl)) (by decide) (rm_vlow l Z a0 hw x0 (own_low q0) h14 F27) e25 F26 (by decide) (by decide) (by rw [hml]; rfl) pd_9 rfl rfl (Nat.le_of_eq rfl) (hb hby d_prog_175_method_1_54) (by decide) (by decide) ?_
  rintro _ T28 L28 X28 ⟨rfl, rfl, e28⟩
  rw [List.append_nil] at X28
  obtain ⟨T29, h29, X29, e29, W29, V29, st29⟩ := own_iastore X28 hx hZ e28 F18 (j := (0 : Int32)) (by decide) 0 (by decide) (show 0 < _ from (by decide : 0 < 3)) (x := (own_low q0)) (Ls := #[.val (.ref a1), .val (.ref a2), .val (.int (0 : Int32))]) (rest := []) (hb hby d_prog_175_method_1_57)
  replace V29 : Arv Z h29 b3 k3 .int (3 : Int32) [(.int (own_low q0)), (.int (0 : Int32)), (.int (0 : Int32))] (.int (0 : Int32)) := V29
  have N30 := Fr.snoc X29 N15 g_b3
  refine GoOn.st st29 ?_
  refine GoOn.st (fun t_ k_ => XS.aloadN X29.here hx rfl (hb hby d_prog_175_method_1_58) rfl rfl k_) ?_
  have F31 := (Fld.other W29 Fw14 (Or.inl ne_a1_b3))
  obtain ⟨T32, X32, e32, st32⟩ := getF X29 hx hZ hown (host := "") (Or.inl (hw _ (List.mem_of_getElem? (i := 97) rfl))) Via.refl e29 F31 (g := (mkF m 59 #[.val (.ref a1), .val (.ref a2), .val (.int (0 : Int32))] [(.ref a1)])) rfl rfl (hb hby d_prog_175_method_1_59)
  refine GoOn.st st32 ?_
  show GoOn _ _ _ _ (T32.setTop (mkF m 62 #[.val (.ref a1), .val (.ref a2), .val (.int (0 : Int32))] [(.ref b11)]))
  refine GoOn.st (fun t_ k_ => XS.iloadN X32.here hx rfl (hb hby d_prog_175_method_1_62) rfl k_) ?_
  refine GoOn.st (fun t_ k_ => XS.aloadN X32.here hx rfl (hb hby d_prog_175_method_1_63) rfl rfl k_) ?_
  refine GoOn.st (fun t_ k_ => XS.iloadN X32.here hx rfl (hb hby d_prog_175_method_1_64) rfl k_) ?_
  show GoOn _ _ _ _ (T32.setTop (mkF m 65 #[.val (.ref a1), .val (.ref a2), .val (.int (0 : Int32))] [(.int (0 : Int32)), (.ref a2), (.int (0 : Int32)), (.ref b11)]))
  have F33 := (Exa.wr W29 F20)
  have F34 := (Fld.other W29 F21 (Or.inl ne_a2_b3))
  have F35 := (Fld.other W29 F22 (Or.inl ne_a2_b3))
  have F36 := (Arv.other F23 W29 ne_b2_b3)
  refine GoOn.callI (W := 2) (argsL := [(.int (0 : Int32))]) (rest := [(.int (0 : Int32)), (.ref b11)]) (a := a2) (K := "java/util/ArrayList") X32 hx hZ hown (hw _ (List.mem_of_getElem? (i := 137) rfl)) (hw _ (List.mem_of_getElem? (i := 138) rfl)) (hw _ (List.mem_of_getElem? (i := 139) rfl)) (hw _ (List.mem_of_getElem? (i := 140) rfl)) (hw _ (List.mem_of_getElem? (i := 141) rfl)) (hw _ (List.mem_of_getElem? (i := 142) rfl)) (hw _ (List.mem_of_getElem? (i := 143) rfl)) (hw _ (List.mem_of_getElem? (i := 90) rfl)) (by first | rfl | decide +kernel) (hw _ (List.mem_of_getElem? (i := 54) rfl)) (hw _ (List.mem_of_getElem? (i := 144) rfl)) (by decide) (rm_get l Z a0 hw a2 b2 x0 kb [(.ref x0), (.ref x1), (.ref x2), .null, .null, .null, .null, .null, .null, .null] (0 : Int32) (3 : Int32) h29 F33 F34 F35 F36 (by decide) rfl (by decide) (by decide)) e32 F33 (by decide) (by decide) (by rw [hml]; rfl) pd_8 rfl rfl (Nat.le_of_eq rfl) (hb hby d_prog_175_method_1_65) (by decide) (by decide) ?_
  rintro _ T37 L37 X37 ⟨rfl, rfl, e37⟩
  rw [List.append_nil] at X37
  have F39 := (Exa.wr W29 F26)
  obtain ⟨T38, X38, e38, st38⟩ := castY X37 hx hZ hown (hw _ (List.mem_of_getElem? (i := 158) rfl)) e37 (Ins.self F39) (g := (mkF m 70 #[.val (.ref a1), .val (.ref a2), .val (.int (0 : Int32))] [(.ref x0), (.int (0 : Int32)), (.ref b11)])) rfl rfl (hb hby d_prog_175_method_1_70)
  refine GoOn.st st38 ?_
  show GoOn _ _ _ _ (T38.setTop (mkF m 73 #[.val (.ref a1), .val (.ref a2), .val (.int (0 : Int32))] [(.ref x0), (.int (0 : Int32)), (.ref b11)]))
  have F40 := (Fld.other W29 (Fld.other W14 ((Fld.other W6 (Hx0.ext E3) (Or.inl hx0)).ext E11) (Or.inl hx0)) (Or.inl ne_x0_b3))
  refine GoOn.callV (W := 2) (argsL := []) (rest := [(.int (0 : Int32)), (.ref b11)]) (a := x0) X38 hx hZ hown (hw _ (List.mem_of_getElem? (i := 165) rfl)) (hw _ (List.mem_of_getElem? (i := 166) rfl)) (notFace_of_selects (args := #[]) (mvT hZ (hw _ (List.mem_of_getElem? (i := 168) rfl)))) (hw _ (List.mem_of_getElem? (i := 168) rfl)) (hw _ (List.mem_of_getElem? (i := 167) rfl)) (hw _ (List.mem_of_getElem? (i := 6) rfl)) (hw _ (List.mem_of_getElem? (i := 169) rfl)) (by decide) (rm_vhigh l Z a0 hw x0 (own_high q0) h29 F40) e38 F39 (by decide) (by decide) (by rw [hml]; rfl) pd_9 rfl rfl (Nat.le_of_eq rfl) (hb hby d_prog_175_method_1_73) (by decide) (by decide) ?_
  rintro _ T41 L41 X41 ⟨rfl, rfl, e41⟩
  rw [List.append_nil] at X41
  have F42 := (Arv.other (Arv.other V11 W14 (Ne.symm ne_a1_b11)) W29 (Ne.symm ne_b3_b11))
  obtain ⟨T43, h43, X43, e43, W43, V43, st43⟩ := own_iastore X41 hx hZ e41 F42 (j := (0 : Int32)) (by decide) 0 (by decide) (show 0 < _ from (by decide : 0 < 3)) (x := (own_high q0)) (Ls := #[.val (.ref a1), .val (.ref a2), .val (.int (0 : Int32))]) (rest := []) (hb hby d_prog_175_method_1_76)
  replace V43 : Arv Z h43 b11 k11 .int (3 : Int32) [(.int (own_high q0)), (.int (0 : Int32)), (.int (0 : Int32))] (.int (0 : Int32)) := V43
  have N44 := Fr.snoc X43 N30 g_b11
  refine GoOn.st st43 ?_
  refine GoOn.st (fun t_ k_ => XS.iinc X43.here hx rfl (hb hby d_prog_175_method_1_77) rfl (l' := #[.val (.ref a1), .val (.ref a2), .val (.int (1 : Int32))]) rfl k_) ?_
  refine GoOn.st (fun t_ k_ => XS.goto X43.here hx rfl (pc0 := 80) (pc' := 30) rfl (hb hby d_prog_175_method_1_80) (by decide) (by decide) k_) ?_
  show GoOn _ _ _ _ (T43.setTop (mkF m 30 #[.val (.ref a1), .val (.ref a2), .val (.int (1 : Int32))] []))
  refine GoOn.st (fun t_ k_ => XS.iloadN X43.here hx rfl (hb hby d_prog_175_method_1_30) rfl k_) ?_
  refine GoOn.st (fun t_ k_ => XS.aloadN X43.here hx rfl (hb hby d_prog_175_method_1_31) rfl rfl k_) ?_
  have F45 := (Fld.other W43 (Fld.other W29 F16 (Or.inl ne_a1_b3)) (Or.inl ne_a1_b11))
  obtain ⟨T46, X46, e46, st46⟩ := getF X43 hx hZ hown (host := "") (Or.inl (hw _ (List.mem_of_getElem? (i := 95) rfl))) Via.refl e43 F45 (g := (mkF m 32 #[.val (.ref a1), .val (.ref a2), .val (.int (1 : Int32))] [(.ref a1), (.int (1 : Int32))])) rfl rfl (hb hby d_prog_175_method_1_32)
  refine GoOn.st st46 ?_
  have F47 := (Arv.other V29 W43 ne_b3_b11)
  refine GoOn.st (fun t_ k_ => own_arrlen X46 hx hZ e46 F47 (hb hby d_prog_175_method_1_35) _ k_) ?_
  show GoOn _ _ _ _ (T46.setTop (mkF m 36 #[.val (.ref a1), .val (.ref a2), .val (.int (1 : Int32))] [(.int (3 : Int32)), (.int (1 : Int32))]))
  refine GoOn.st (fun t_ k_ => XS.icmpNo X46.here hx rfl (hb hby d_prog_175_method_1_36) rfl (tlt (by decide : (1 : Int32) < (3 : Int32))).2.1 k_) ?_
  refine GoOn.st (fun t_ k_ => XS.aloadN X46.here hx rfl (hb hby d_prog_175_method_1_39) rfl rfl k_) ?_
  obtain ⟨T48, X48, e48, st48⟩ := getF X46 hx hZ hown (host := "") (Or.inl (hw _ (List.mem_of_getElem? (i := 95) rfl))) Via.refl e46 F45 (g := (mkF m 40 #[.val (.ref a1), .val (.ref a2), .val (.int (1 : Int32))] [(.ref a1)])) rfl rfl (hb hby d_prog_175_method_1_40)
  refine GoOn.st st48 ?_
  refine GoOn.st (fun t_ k_ => XS.iloadN X48.here hx rfl (hb hby d_prog_175_method_1_43) rfl k_) ?_
  show GoOn _ _ _ _ (T48.setTop (mkF m 44 #[.val (.ref a1), .val (.ref a2), .val (.int (1 : Int32))] [(.int (1 : Int32)), (.ref b3)]))
  refine GoOn.st (fun t_ k_ => XS.aloadN X48.here hx rfl (hb hby d_prog_175_method_1_44) rfl rfl k_) ?_
  refine GoOn.st (fun t_ k_ => XS.iloadN X48.here hx rfl (hb hby d_prog_175_method_1_45) rfl k_) ?_
  show GoOn _ _ _ _ (T48.setTop (mkF m 46 #[.val (.ref a1), .val (.ref a2), .val (.int (1 : Int32))] [(.int (1 : Int32)), (.ref a2), (.int (1 : Int32)), (.ref b3)]))
  have F49 := (Exa.wr W43 F33)
  have F50 := (Fld.other W43 F34 (Or.inl ne_a2_b11))
  have F51 := (Fld.other W43 F35 (Or.inl ne_a2_b11))
  have F52 := (Arv.other F36 W43 ne_b2_b11)
  refine GoOn.callI (W := 2) (argsL := [(.int (1 : Int32))]) (rest := [(.int (1 : Int32)), (.ref b3)]) (a := a2) (K := "java/util/ArrayList") X48 hx hZ hown (hw _ (List.mem_of_getElem? (i := 137) rfl)) (hw _ (List.mem_of_getElem? (i := 138) rfl)) (hw _ (List.mem_of_getElem? (i := 139) rfl)) (hw _ (List.mem_of_getElem? (i := 140) rfl)) (hw _ (List.mem_of_getElem? (i := 141) rfl)) (hw _ (List.mem_of_getElem? (i := 142) rfl)) (hw _ (List.mem_of_getElem? (i := 143) rfl)) (hw _ (List.mem_of_getElem? (i := 90) rfl)) (by first | rfl | decide +kernel) (hw _ (List.mem_of_getElem? (i := 54) rfl)) (hw _ (List.mem_of_getElem? (i := 144) rfl)) (by decide) (rm_get l Z a0 hw a2 b2 x1 kb [(.ref x0), (.ref x1), (.ref x2), .null, .null, .null, .null, .null, .null, .null] (1 : Int32) (3 : Int32) h43 F49 F50 F51 F52 (by decide) rfl (by decide) (by decide)) e48 F49 (by decide) (by decide) (by rw [hml]; rfl) pd_8 rfl rfl (Nat.le_of_eq rfl) (hb hby d_prog_175_method_1_46) (by decide) (by decide) ?_
  rintro _ T53 L53 X53 ⟨rfl, rfl, e53⟩
  rw [List.append_nil] at X53
  have F55 := (Exa.wr W43 (Exa.wr W29 (Exa.wr W14 ((Exa.wr W6 (Ex1.ext E3)).ext E11))))
  obtain ⟨T54, X54, e54, st54⟩ := castY X53 hx hZ hown (hw _ (List.mem_of_getElem? (i := 158) rfl)) e53 (Ins.self F55) (g := (mkF m 51 #[.val (.ref a1), .val (.ref a2), .val (.int (1 : Int32))] [(.ref x1), (.int (1 : Int32)), (.ref b3)])) rfl rfl (hb hby d_prog_175_method_1_51)
  refine GoOn.st st54 ?_
  show GoOn _ _ _ _ (T54.setTop (mkF m 54 #[.val (.ref a1), .val (.ref a2), .val (.int (1 : Int32))] [(.ref x1), (.int (1 : Int32)), (.ref b3)]))
  have F56 := (Fld.other W43 (Fld.other W29 (Fld.other W14 ((Fld.other W6 (Lx1.ext E3) (Or.inl hx1)).ext E11) (Or.inl hx1)) (Or.inl ne_x1_b3)) (Or.inl ne_x1_b11))
  refine GoOn.callV (W := 2) (argsL := []) (rest := [(.int (1 : Int32)), (.ref b3)]) (a := x1) X54 hx hZ hown (hw _ (List.mem_of_getElem? (i := 160) rfl)) (hw _ (List.mem_of_getElem? (i := 161) rfl)) (notFace_of_selects (args := #[]) (mvT hZ (hw _ (List.mem_of_getElem? (i := 163) rfl)))) (hw _ (List.mem_of_getElem? (i := 163) rfl)) (hw _ (List.mem_of_getElem? (i := 162) rfl)) (hw _ (List.mem_of_getElem? (i := 6) rfl)) (hw _ (List.mem_of_getElem? (i := 164) rfl)) (by decide) (rm_vlow l Z a0 hw x1 (own_low q1) h43 F56) e54 F55 (by decide) (by decide) (by rw [hml]; rfl) pd_9 rfl rfl (Nat.le_of_eq rfl) (hb hby d_prog_175_method_1_54) (by decide) (by decide) ?_
  rintro _ T57 L57 X57 ⟨rfl, rfl, e57⟩
  rw [List.append_nil] at X57
  obtain ⟨T58, h58, X58, e58, W58, V58, st58⟩ := own_iastore X57 hx hZ e57 F47 (j := (1 : Int32)) (by decide) 1 (by decide) (show 1 < _ from (by decide : 1 < 3)) (x := (own_low q1)) (Ls := #[.val (.ref a1), .val (.ref a2), .val (.int (1 : Int32))]) (rest := []) (hb hby d_prog_175_method_1_57)
  replace V58 : Arv Z h58 b3 k3 .int (3 : Int32) [(.int (own_low q0)), (.int (own_low q1)), (.int (0 : Int32))] (.int (0 : Int32)) := V58
  have N59 := Fr.snoc X58 N44 g_b3
  refine GoOn.st st58 ?_
  refine GoOn.st (fun t_ k_ => XS.aloadN X58.here hx rfl (hb hby d_prog_175_method_1_58) rfl rfl k_) ?_
  have F60 := (Fld.other W58 (Fld.other W43 F31 (Or.inl ne_a1_b11)) (Or.inl ne_a1_b3))
  obtain ⟨T61, X61, e61, st61⟩ := getF X58 hx hZ hown (host := "") (Or.inl (hw _ (List.mem_of_getElem? (i := 97) rfl))) Via.refl e58 F60 (g := (mkF m 59 #[.val (.ref a1), .val (.ref a2), .val (.int (1 : Int32))] [(.ref a1)])) rfl rfl (hb hby d_prog_175_method_1_59)
  refine GoOn.st st61 ?_
  show GoOn _ _ _ _ (T61.setTop (mkF m 62 #[.val (.ref a1), .val (.ref a2), .val (.int (1 : Int32))] [(.ref b11)]))
  refine GoOn.st (fun t_ k_ => XS.iloadN X61.here hx rfl (hb hby d_prog_175_method_1_62) rfl k_) ?_
  refine GoOn.st (fun t_ k_ => XS.aloadN X61.here hx rfl (hb hby d_prog_175_method_1_63) rfl rfl k_) ?_
  refine GoOn.st (fun t_ k_ => XS.iloadN X61.here hx rfl (hb hby d_prog_175_method_1_64) rfl k_) ?_
  show GoOn _ _ _ _ (T61.setTop (mkF m 65 #[.val (.ref a1), .val (.ref a2), .val (.int (1 : Int32))] [(.int (1 : Int32)), (.ref a2), (.int (1 : Int32)), (.ref b11)]))
  have F62 := (Exa.wr W58 F49)
  have F63 := (Fld.other W58 F50 (Or.inl ne_a2_b3))
  have F64 := (Fld.other W58 F51 (Or.inl ne_a2_b3))
  have F65 := (Arv.other F52 W58 ne_b2_b3)
  refine GoOn.callI (W := 2) (argsL := [(.int (1 : Int32))]) (rest := [(.int (1 : Int32)), (.ref b11)]) (a := a2) (K := "java/util/ArrayList") X61 hx hZ hown (hw _ (List.mem_of_getElem? (i := 137) rfl)) (hw _ (List.mem_of_getElem? (i := 138) rfl)) (hw _ (List.mem_of_getElem? (i := 139) rfl)) (hw _ (List.mem_of_getElem? (i := 140) rfl)) (hw _ (List.mem_of_getElem? (i := 141) rfl)) (hw _ (List.mem_of_getElem? (i := 142) rfl)) (hw _ (List.mem_of_getElem? (i := 143) rfl)) (hw _ (List.mem_of_getElem? (i := 90) rfl)) (by first | rfl | decide +kernel) (hw _ (List.mem_of_getElem? (i := 54) rfl)) (hw _ (List.mem_of_getElem? (i := 144) rfl)) (by decide) (rm_get l Z a0 hw a2 b2 x1 kb [(.ref x0), (.ref x1), (.ref x2), .null, .null, .null, .null, .null, .null, .null] (1 : Int32) (3 : Int32) h58 F62 F63 F64 F65 (by decide) rfl (by decide) (by decide)) e61 F62 (by decide) (by decide) (by rw [hml]; rfl) pd_8 rfl rfl (Nat.le_of_eq rfl) (hb hby d_prog_175_method_1_65) (by decide) (by decide) ?_
  rintro _ T66 L66 X66 ⟨rfl, rfl, e66⟩
  rw [List.append_nil] at X66
  have F68 := (Exa.wr W58 F55)
  obtain ⟨T67, X67, e67, st67⟩ := castY X66 hx hZ hown (hw _ (List.mem_of_getElem? (i := 158) rfl)) e66 (Ins.self F68) (g := (mkF m 70 #[.val (.ref a1), .val (.ref a2), .val (.int (1 : Int32))] [(.ref x1), (.int (1 : Int32)), (.ref b11)])) rfl rfl (hb hby d_prog_175_method_1_70)
  refine GoOn.st st67 ?_
  show GoOn _ _ _ _ (T67.setTop (mkF m 73 #[.val (.ref a1), .val (.ref a2), .val (.int (1 : Int32))] [(.ref x1), (.int (1 : Int32)), (.ref b11)]))
  have F69 := (Fld.other W58 (Fld.other W43 (Fld.other W29 (Fld.other W14 ((Fld.other W6 (Hx1.ext E3) (Or.inl hx1)).ext E11) (Or.inl hx1)) (Or.inl ne_x1_b3)) (Or.inl ne_x1_b11)) (Or.inl ne_x1_b3))
  refine GoOn.callV (W := 2) (argsL := []) (rest := [(.int (1 : Int32)), (.ref b11)]) (a := x1) X67 hx hZ hown (hw _ (List.mem_of_getElem? (i := 165) rfl)) (hw _ (List.mem_of_getElem? (i := 166) rfl)) (notFace_of_selects (args := #[]) (mvT hZ (hw _ (List.mem_of_getElem? (i := 168) rfl)))) (hw _ (List.mem_of_getElem? (i := 168) rfl)) (hw _ (List.mem_of_getElem? (i := 167) rfl)) (hw _ (List.mem_of_getElem? (i := 6) rfl)) (hw _ (List.mem_of_getElem? (i := 169) rfl)) (by decide) (rm_vhigh l Z a0 hw x1 (own_high q1) h58 F69) e67 F68 (by decide) (by decide) (by rw [hml]; rfl) pd_9 rfl rfl (Nat.le_of_eq rfl) (hb hby d_prog_175_method_1_73) (by decide) (by decide) ?_
  rintro _ T70 L70 X70 ⟨rfl, rfl, e70⟩
  rw [List.append_nil] at X70
  have F71 := (Arv.other V43 W58 (Ne.symm ne_b3_b11))
  obtain ⟨T72, h72, X72, e72, W72, V72, st72⟩ := own_iastore X70 hx hZ e70 F71 (j := (1 : Int32)) (by decide) 1 (by decide) (show 1 < _ from (by decide : 1 < 3)) (x := (own_high q1)) (Ls := #[.val (.ref a1), .val (.ref a2), .val (.int (1 : Int32))]) (rest := []) (hb hby d_prog_175_method_1_76)
  replace V72 : Arv Z h72 b11 k11 .int (3 : Int32) [(.int (own_high q0)), (.int (own_high q1)), (.int (0 : Int32))] (.int (0 : Int32)) := V72
  have N73 := Fr.snoc X72 N59 g_b11
  refine GoOn.st st72 ?_
  refine GoOn.st (fun t_ k_ => XS.iinc X72.here hx rfl (hb hby d_prog_175_method_1_77) rfl (l' := #[.val (.ref a1), .val (.ref a2), .val (.int (2 : Int32))]) rfl k_) ?_
  refine GoOn.st (fun t_ k_ => XS.goto X72.here hx rfl (pc0 := 80) (pc' := 30) rfl (hb hby d_prog_175_method_1_80) (by decide) (by decide) k_) ?_
  show GoOn _ _ _ _ (T72.setTop (mkF m 30 #[.val (.ref a1), .val (.ref a2), .val (.int (2 : Int32))] []))
  refine GoOn.st (fun t_ k_ => XS.iloadN X72.here hx rfl (hb hby d_prog_175_method_1_30) rfl k_) ?_
  refine GoOn.st (fun t_ k_ => XS.aloadN X72.here hx rfl (hb hby d_prog_175_method_1_31) rfl rfl k_) ?_
  have F74 := (Fld.other W72 (Fld.other W58 F45 (Or.inl ne_a1_b3)) (Or.inl ne_a1_b11))
  obtain ⟨T75, X75, e75, st75⟩ := getF X72 hx hZ hown (host := "") (Or.inl (hw _ (List.mem_of_getElem? (i := 95) rfl))) Via.refl e72 F74 (g := (mkF m 32 #[.val (.ref a1), .val (.ref a2), .val (.int (2 : Int32))] [(.ref a1), (.int (2 : Int32))])) rfl rfl (hb hby d_prog_175_method_1_32)
  refine GoOn.st st75 ?_
  have F76 := (Arv.other V58 W72 ne_b3_b11)
  refine GoOn.st (fun t_ k_ => own_arrlen X75 hx hZ e75 F76 (hb hby d_prog_175_method_1_35) _ k_) ?_
  show GoOn _ _ _ _ (T75.setTop (mkF m 36 #[.val (.ref a1), .val (.ref a2), .val (.int (2 : Int32))] [(.int (3 : Int32)), (.int (2 : Int32))]))
  refine GoOn.st (fun t_ k_ => XS.icmpNo X75.here hx rfl (hb hby d_prog_175_method_1_36) rfl (tlt (by decide : (2 : Int32) < (3 : Int32))).2.1 k_) ?_
  refine GoOn.st (fun t_ k_ => XS.aloadN X75.here hx rfl (hb hby d_prog_175_method_1_39) rfl rfl k_) ?_
  obtain ⟨T77, X77, e77, st77⟩ := getF X75 hx hZ hown (host := "") (Or.inl (hw _ (List.mem_of_getElem? (i := 95) rfl))) Via.refl e75 F74 (g := (mkF m 40 #[.val (.ref a1), .val (.ref a2), .val (.int (2 : Int32))] [(.ref a1)])) rfl rfl (hb hby d_prog_175_method_1_40)
  refine GoOn.st st77 ?_
  refine GoOn.st (fun t_ k_ => XS.iloadN X77.here hx rfl (hb hby d_prog_175_method_1_43) rfl k_) ?_
  show GoOn _ _ _ _ (T77.setTop (mkF m 44 #[.val (.ref a1), .val (.ref a2), .val (.int (2 : Int32))] [(.int (2 : Int32)), (.ref b3)]))
  refine GoOn.st (fun t_ k_ => XS.aloadN X77.here hx rfl (hb hby d_prog_175_method_1_44) rfl rfl k_) ?_
  refine GoOn.st (fun t_ k_ => XS.iloadN X77.here hx rfl (hb hby d_prog_175_method_1_45) rfl k_) ?_
  show GoOn _ _ _ _ (T77.setTop (mkF m 46 #[.val (.ref a1), .val (.ref a2), .val (.int (2 : Int32))] [(.int (2 : Int32)), (.ref a2), (.int (2 : Int32)), (.ref b3)]))
  have F78 := (Exa.wr W72 F62)
  have F79 := (Fld.other W72 F63 (Or.inl ne_a2_b11))
  have F80 := (Fld.other W72 F64 (Or.inl ne_a2_b11))
  have F81 := (Arv.other F65 W72 ne_b2_b11)
  refine GoOn.callI (W := 2) (argsL := [(.int (2 : Int32))]) (rest := [(.int (2 : Int32)), (.ref b3)]) (a := a2) (K := "java/util/ArrayList") X77 hx hZ hown (hw _ (List.mem_of_getElem? (i := 137) rfl)) (hw _ (List.mem_of_getElem? (i := 138) rfl)) (hw _ (List.mem_of_getElem? (i := 139) rfl)) (hw _ (List.mem_of_getElem? (i := 140) rfl)) (hw _ (List.mem_of_getElem? (i := 141) rfl)) (hw _ (List.mem_of_getElem? (i := 142) rfl)) (hw _ (List.mem_of_getElem? (i := 143) rfl)) (hw _ (List.mem_of_getElem? (i := 90) rfl)) (by first | rfl | decide +kernel) (hw _ (List.mem_of_getElem? (i := 54) rfl)) (hw _ (List.mem_of_getElem? (i := 144) rfl)) (by decide) (rm_get l Z a0 hw a2 b2 x2 kb [(.ref x0), (.ref x1), (.ref x2), .null, .null, .null, .null, .null, .null, .null] (2 : Int32) (3 : Int32) h72 F78 F79 F80 F81 (by decide) rfl (by decide) (by decide)) e77 F78 (by decide) (by decide) (by rw [hml]; rfl) pd_8 rfl rfl (Nat.le_of_eq rfl) (hb hby d_prog_175_method_1_46) (by decide) (by decide) ?_
  rintro _ T82 L82 X82 ⟨rfl, rfl, e82⟩
  rw [List.append_nil] at X82
  have F84 := (Exa.wr W72 (Exa.wr W58 (Exa.wr W43 (Exa.wr W29 (Exa.wr W14 ((Exa.wr W6 (Ex2.ext E3)).ext E11))))))
  obtain ⟨T83, X83, e83, st83⟩ := castY X82 hx hZ hown (hw _ (List.mem_of_getElem? (i := 158) rfl)) e82 (Ins.self F84) (g := (mkF m 51 #[.val (.ref a1), .val (.ref a2), .val (.int (2 : Int32))] [(.ref x2), (.int (2 : Int32)), (.ref b3)])) rfl rfl (hb hby d_prog_175_method_1_51)
  refine GoOn.st st83 ?_
  show GoOn _ _ _ _ (T83.setTop (mkF m 54 #[.val (.ref a1), .val (.ref a2), .val (.int (2 : Int32))] [(.ref x2), (.int (2 : Int32)), (.ref b3)]))
  have F85 := (Fld.other W72 (Fld.other W58 (Fld.other W43 (Fld.other W29 (Fld.other W14 ((Fld.other W6 (Lx2.ext E3) (Or.inl hx2)).ext E11) (Or.inl hx2)) (Or.inl ne_x2_b3)) (Or.inl ne_x2_b11)) (Or.inl ne_x2_b3)) (Or.inl ne_x2_b11))
  refine GoOn.callV (W := 2) (argsL := []) (rest := [(.int (2 : Int32)), (.ref b3)]) (a := x2) X83 hx hZ hown (hw _ (List.mem_of_getElem? (i := 160) rfl)) (hw _ (List.mem_of_getElem? (i := 161) rfl)) (notFace_of_selects (args := #[]) (mvT hZ (hw _ (List.mem_of_getElem? (i := 163) rfl)))) (hw _ (List.mem_of_getElem? (i := 163) rfl)) (hw _ (List.mem_of_getElem? (i := 162) rfl)) (hw _ (List.mem_of_getElem? (i := 6) rfl)) (hw _ (List.mem_of_getElem? (i := 164) rfl)) (by decide) (rm_vlow l Z a0 hw x2 (own_low q2) h72 F85) e83 F84 (by decide) (by decide) (by rw [hml]; rfl) pd_9 rfl rfl (Nat.le_of_eq rfl) (hb hby d_prog_175_method_1_54) (by decide) (by decide) ?_
  rintro _ T86 L86 X86 ⟨rfl, rfl, e86⟩
  rw [List.append_nil] at X86
  obtain ⟨T87, h87, X87, e87, W87, V87, st87⟩ := own_iastore X86 hx hZ e86 F76 (j := (2 : Int32)) (by decide) 2 (by decide) (show 2 < _ from (by decide : 2 < 3)) (x := (own_low q2)) (Ls := #[.val (.ref a1), .val (.ref a2), .val (.int (2 : Int32))]) (rest := []) (hb hby d_prog_175_method_1_57)
  replace V87 : Arv Z h87 b3 k3 .int (3 : Int32) [(.int (own_low q0)), (.int (own_low q1)), (.int (own_low q2))] (.int (0 : Int32)) := V87
  have N88 := Fr.snoc X87 N73 g_b3
  refine GoOn.st st87 ?_
  refine GoOn.st (fun t_ k_ => XS.aloadN X87.here hx rfl (hb hby d_prog_175_method_1_58) rfl rfl k_) ?_
  have F89 := (Fld.other W87 (Fld.other W72 F60 (Or.inl ne_a1_b11)) (Or.inl ne_a1_b3))
  obtain ⟨T90, X90, e90, st90⟩ := getF X87 hx hZ hown (host := "") (Or.inl (hw _ (List.mem_of_getElem? (i := 97) rfl))) Via.refl e87 F89 (g := (mkF m 59 #[.val (.ref a1), .val (.ref a2), .val (.int (2 : Int32))] [(.ref a1)])) rfl rfl (hb hby d_prog_175_method_1_59)
  refine GoOn.st st90 ?_
  show GoOn _ _ _ _ (T90.setTop (mkF m 62 #[.val (.ref a1), .val (.ref a2), .val (.int (2 : Int32))] [(.ref b11)]))
  refine GoOn.st (fun t_ k_ => XS.iloadN X90.here hx rfl (hb hby d_prog_175_method_1_62) rfl k_) ?_
  refine GoOn.st (fun t_ k_ => XS.aloadN X90.here hx rfl (hb hby d_prog_175_method_1_63) rfl rfl k_) ?_
  refine GoOn.st (fun t_ k_ => XS.iloadN X90.here hx rfl (hb hby d_prog_175_method_1_64) rfl k_) ?_
  show GoOn _ _ _ _ (T90.setTop (mkF m 65 #[.val (.ref a1), .val (.ref a2), .val (.int (2 : Int32))] [(.int (2 : Int32)), (.ref a2), (.int (2 : Int32)), (.ref b11)]))
  have F91 := (Exa.wr W87 F78)
  have F92 := (Fld.other W87 F79 (Or.inl ne_a2_b3))
  have F93 := (Fld.other W87 F80 (Or.inl ne_a2_b3))
  have F94 := (Arv.other F81 W87 ne_b2_b3)
  refine GoOn.callI (W := 2) (argsL := [(.int (2 : Int32))]) (rest := [(.int (2 : Int32)), (.ref b11)]) (a := a2) (K := "java/util/ArrayList") X90 hx hZ hown (hw _ (List.mem_of_getElem? (i := 137) rfl)) (hw _ (List.mem_of_getElem? (i := 138) rfl)) (hw _ (List.mem_of_getElem? (i := 139) rfl)) (hw _ (List.mem_of_getElem? (i := 140) rfl)) (hw _ (List.mem_of_getElem? (i := 141) rfl)) (hw _ (List.mem_of_getElem? (i := 142) rfl)) (hw _ (List.mem_of_getElem? (i := 143) rfl)) (hw _ (List.mem_of_getElem? (i := 90) rfl)) (by first | rfl | decide +kernel) (hw _ (List.mem_of_getElem? (i := 54) rfl)) (hw _ (List.mem_of_getElem? (i := 144) rfl)) (by decide) (rm_get l Z a0 hw a2 b2 x2 kb [(.ref x0), (.ref x1), (.ref x2), .null, .null, .null, .null, .null, .null, .null] (2 : Int32) (3 : Int32) h87 F91 F92 F93 F94 (by decide) rfl (by decide) (by decide)) e90 F91 (by decide) (by decide) (by rw [hml]; rfl) pd_8 rfl rfl (Nat.le_of_eq rfl) (hb hby d_prog_175_method_1_65) (by decide) (by decide) ?_
  rintro _ T95 L95 X95 ⟨rfl, rfl, e95⟩
  rw [List.append_nil] at X95
  have F97 := (Exa.wr W87 F84)
  obtain ⟨T96, X96, e96, st96⟩ := castY X95 hx hZ hown (hw _ (List.mem_of_getElem? (i := 158) rfl)) e95 (Ins.self F97) (g := (mkF m 70 #[.val (.ref a1), .val (.ref a2), .val (.int (2 : Int32))] [(.ref x2), (.int (2 : Int32)), (.ref b11)])) rfl rfl (hb hby d_prog_175_method_1_70)
  refine GoOn.st st96 ?_
  show GoOn _ _ _ _ (T96.setTop (mkF m 73 #[.val (.ref a1), .val (.ref a2), .val (.int (2 : Int32))] [(.ref x2), (.int (2 : Int32)), (.ref b11)]))
  have F98 := (Fld.other W87 (Fld.other W72 (Fld.other W58 (Fld.other W43 (Fld.other W29 (Fld.other W14 ((Fld.other W6 (Hx2.ext E3) (Or.inl hx2)).ext E11) (Or.inl hx2)) (Or.inl ne_x2_b3)) (Or.inl ne_x2_b11)) (Or.inl ne_x2_b3)) (Or.inl ne_x2_b11)) (Or.inl ne_x2_b3))
  refine GoOn.callV (W := 2) (argsL := []) (rest := [(.int (2 : Int32)), (.ref b11)]) (a := x2) X96 hx hZ hown (hw _ (List.mem_of_getElem? (i := 165) rfl)) (hw _ (List.mem_of_getElem? (i := 166) rfl)) (notFace_of_selects (args := #[]) (mvT hZ (hw _ (List.mem_of_getElem? (i := 168) rfl)))) (hw _ (List.mem_of_getElem? (i := 168) rfl)) (hw _ (List.mem_of_getElem? (i := 167) rfl)) (hw _ (List.mem_of_getElem? (i := 6) rfl)) (hw _ (List.mem_of_getElem? (i := 169) rfl)) (by decide) (rm_vhigh l Z a0 hw x2 (own_high q2) h87 F98) e96 F97 (by decide) (by decide) (by rw [hml]; rfl) pd_9 rfl rfl (Nat.le_of_eq rfl) (hb hby d_prog_175_method_1_73) (by decide) (by decide) ?_
  rintro _ T99 L99 X99 ⟨rfl, rfl, e99⟩
  rw [List.append_nil] at X99
  have F100 := (Arv.other V72 W87 (Ne.symm ne_b3_b11))
  obtain ⟨T101, h101, X101, e101, W101, V101, st101⟩ := own_iastore X99 hx hZ e99 F100 (j := (2 : Int32)) (by decide) 2 (by decide) (show 2 < _ from (by decide : 2 < 3)) (x := (own_high q2)) (Ls := #[.val (.ref a1), .val (.ref a2), .val (.int (2 : Int32))]) (rest := []) (hb hby d_prog_175_method_1_76)
  replace V101 : Arv Z h101 b11 k11 .int (3 : Int32) [(.int (own_high q0)), (.int (own_high q1)), (.int (own_high q2))] (.int (0 : Int32)) := V101
  have N102 := Fr.snoc X101 N88 g_b11
  refine GoOn.st st101 ?_
  refine GoOn.st (fun t_ k_ => XS.iinc X101.here hx rfl (hb hby d_prog_175_method_1_77) rfl (l' := #[.val (.ref a1), .val (.ref a2), .val (.int (3 : Int32))]) rfl k_) ?_
  refine GoOn.st (fun t_ k_ => XS.goto X101.here hx rfl (pc0 := 80) (pc' := 30) rfl (hb hby d_prog_175_method_1_80) (by decide) (by decide) k_) ?_
  show GoOn _ _ _ _ (T101.setTop (mkF m 30 #[.val (.ref a1), .val (.ref a2), .val (.int (3 : Int32))] []))
  refine GoOn.st (fun t_ k_ => XS.iloadN X101.here hx rfl (hb hby d_prog_175_method_1_30) rfl k_) ?_
  refine GoOn.st (fun t_ k_ => XS.aloadN X101.here hx rfl (hb hby d_prog_175_method_1_31) rfl rfl k_) ?_
  have F103 := (Fld.other W101 (Fld.other W87 F74 (Or.inl ne_a1_b3)) (Or.inl ne_a1_b11))
  obtain ⟨T104, X104, e104, st104⟩ := getF X101 hx hZ hown (host := "") (Or.inl (hw _ (List.mem_of_getElem? (i := 95) rfl))) Via.refl e101 F103 (g := (mkF m 32 #[.val (.ref a1), .val (.ref a2), .val (.int (3 : Int32))] [(.ref a1), (.int (3 : Int32))])) rfl rfl (hb hby d_prog_175_method_1_32)
  refine GoOn.st st104 ?_
  have F105 := (Arv.other V87 W101 ne_b3_b11)
  refine GoOn.st (fun t_ k_ => own_arrlen X104 hx hZ e104 F105 (hb hby d_prog_175_method_1_35) _ k_) ?_
  show GoOn _ _ _ _ (T104.setTop (mkF m 36 #[.val (.ref a1), .val (.ref a2), .val (.int (3 : Int32))] [(.int (3 : Int32)), (.int (3 : Int32))]))
  refine GoOn.st (fun t_ k_ => XS.icmpYes X104.here hx rfl (pc0 := 36) (pc' := 83) rfl (hb hby d_prog_175_method_1_36) rfl (flt (by decide : ¬ ((3 : Int32) < (3 : Int32)))).2.1 (by decide) (by decide) k_) ?_
  show GoOn _ _ _ _ (T104.setTop (mkF m 83 #[.val (.ref a1), .val (.ref a2), .val (.int (3 : Int32))] []))
  exact GoOn.retV X104 hx hlk hret (hb hby d_prog_175_method_1_83) (by rw [e104]; exact ⟨b3, b11, k3, k11, rfl, N102, (((((((((((Keep.refl h0 [a1]).ext E3).wr W6 (Or.inl (List.mem_of_getElem? (i := 0) rfl))).ext E11).wr W14 (Or.inl (List.mem_of_getElem? (i := 0) rfl))).wr W29 (Or.inr sz_b3)).wr W43 (Or.inr sz_b11)).wr W58 (Or.inr sz_b3)).wr W72 (Or.inr sz_b11)).wr W87 (Or.inr sz_b3)).wr W101 (Or.inr sz_b11)), (Exa.wr W101 (Exa.wr W87 (Exa.wr W72 (Exa.wr W58 (Exa.wr W43 (Exa.wr W29 (Exa.wr W14 F12))))))), F103, (Fld.other W101 F89 (Or.inl ne_a1_b11)), F105, V101⟩) (by decide) (by decide)
theorem ef_val30 (m : MethodId) (x0 : Addr) (x1 : Int32) : entryFrame m #[(.ref x0), (.int x1)] 7 = mkF m 0 #[.val (.ref x0), .val (.int x1), .unset, .unset, .unset, .unset, .unset] [] := by first | (simp [entryFrame, mkF, argsToLocals, Value.category]; done) | rfl
set_option maxRecDepth 65536 in
set_option maxHeartbeats 40000000 in
theorem rm_val30 (l : Launch) (Z : State) (a0 : Array Value) (hw : ∀ d ∈ tables_1, d.before a0 Z = true) (a1 bl bh : Addr) (kl kh : ClassId) (q0 q1 q2 : Int64) (h0 : Heap) (Frl : Fld Z h0 a1 "com/example/tributary/tributary/semantics/Ranges" "low" "[I" (.ref bl)) (Frh : Fld Z h0 a1 "com/example/tributary/tributary/semantics/Ranges" "high" "[I" (.ref bh)) (Vl : Arv Z h0 bl kl .int (3 : Int32) [(.int (own_low q0)), (.int (own_low q1)), (.int (own_low q2))] (.int (0 : Int32))) (Vh : Arv Z h0 bh kh .int (3 : Int32) [(.int (own_high q0)), (.int (own_high q1)), (.int (own_high q2))] (.int (0 : Int32))) :
    OwCon l Z (⟨"com/example/tributary/tributary/semantics/Ranges", "valuations", "(I)J"⟩ : MethodName) prog_175_method_7_code 7 (some .long) [] ({ frames := 0, cells := 0, slots := 0, locals := 0 } : Room) #[(.ref a1), (.int (0 : Int32))] h0 (OwRet (some (.long (own_step (own_step (own_step (1 : Int64) (own_vals q0)) (own_vals q1)) (own_vals q2)))) h0) := by
  refine OwCon.of (plainFor_of_name pn_com_example_tributary_tributary_semantics_Ranges) ?_
  intro p e s m below meth cd_ s₁ X0 hx hby hml hret hlk hown hnm hZ e0
  refine GoOn.st (fun t_ k_ => castTop (ef_val30 m a1 (0 : Int32)) k_) ?_
  show GoOn _ _ _ _ (s₁.setTop (mkF m 0 #[.val (.ref a1), .val (.int (0 : Int32)), .unset, .unset, .unset, .unset, .unset] []))
  refine GoOn.st (fun t_ k_ => XS.lconst X0.here hx rfl (hb hby d_prog_175_method_7_0)  k_) ?_
  refine GoOn.st (fun t_ k_ => XS.lstoreN X0.here hx rfl (hb hby d_prog_175_method_7_1) rfl (l' := #[.val (.ref a1), .val (.int (0 : Int32)), .val (.long (1 : Int64)), .second, .unset, .unset, .unset]) rfl k_) ?_
  refine GoOn.st (fun t_ k_ => XS.iloadN X0.here hx rfl (hb hby d_prog_175_method_7_2) rfl k_) ?_
  refine GoOn.st (fun t_ k_ => XS.istore X0.here hx rfl (hb hby d_prog_175_method_7_3) rfl (l' := #[.val (.ref a1), .val (.int (0 : Int32)), .val (.long (1 : Int64)), .second, .val (.int (0 : Int32)), .unset, .unset]) rfl k_) ?_
  show GoOn _ _ _ _ (s₁.setTop (mkF m 5 #[.val (.ref a1), .val (.int (0 : Int32)), .val (.long (1 : Int64)), .second, .val (.int (0 : Int32)), .unset, .unset] []))
  refine GoOn.st (fun t_ k_ => XS.iload X0.here hx rfl (hb hby d_prog_175_method_7_5) rfl k_) ?_
  refine GoOn.st (fun t_ k_ => XS.aloadN X0.here hx rfl (hb hby d_prog_175_method_7_7) rfl rfl k_) ?_
  obtain ⟨T1, X1, e1, st1⟩ := getF X0 hx hZ hown (host := "") (Or.inl (hw _ (List.mem_of_getElem? (i := 95) rfl))) Via.refl e0 Frl (g := (mkF m 8 #[.val (.ref a1), .val (.int (0 : Int32)), .val (.long (1 : Int64)), .second, .val (.int (0 : Int32)), .unset, .unset] [(.ref a1), (.int (0 : Int32))])) rfl rfl (hb hby d_prog_175_method_7_8)
  refine GoOn.st st1 ?_
  refine GoOn.st (fun t_ k_ => own_arrlen X1 hx hZ e1 Vl (hb hby d_prog_175_method_7_11) _ k_) ?_
  show GoOn _ _ _ _ (T1.setTop (mkF m 12 #[.val (.ref a1), .val (.int (0 : Int32)), .val (.long (1 : Int64)), .second, .val (.int (0 : Int32)), .unset, .unset] [(.int (3 : Int32)), (.int (0 : Int32))]))
  refine GoOn.st (fun t_ k_ => XS.icmpNo X1.here hx rfl (hb hby d_prog_175_method_7_12) rfl (tlt (by decide : (0 : Int32) < (3 : Int32))).2.1 k_) ?_
  refine GoOn.st (fun t_ k_ => XS.aloadN X1.here hx rfl (hb hby d_prog_175_method_7_15) rfl rfl k_) ?_
  obtain ⟨T2, X2, e2, st2⟩ := getF X1 hx hZ hown (host := "") (Or.inl (hw _ (List.mem_of_getElem? (i := 97) rfl))) Via.refl e1 Frh (g := (mkF m 16 #[.val (.ref a1), .val (.int (0 : Int32)), .val (.long (1 : Int64)), .second, .val (.int (0 : Int32)), .unset, .unset] [(.ref a1)])) rfl rfl (hb hby d_prog_175_method_7_16)
  refine GoOn.st st2 ?_
  refine GoOn.st (fun t_ k_ => XS.iload X2.here hx rfl (hb hby d_prog_175_method_7_19) rfl k_) ?_
  show GoOn _ _ _ _ (T2.setTop (mkF m 21 #[.val (.ref a1), .val (.int (0 : Int32)), .val (.long (1 : Int64)), .second, .val (.int (0 : Int32)), .unset, .unset] [(.int (0 : Int32)), (.ref bh)]))
  refine GoOn.st (fun t_ k_ => own_iaload X2 hx hZ e2 Vh (j := (0 : Int32)) (by decide) (v := (.int (own_high q0))) rfl (hb hby d_prog_175_method_7_21) _ k_) ?_
  refine GoOn.st (fun t_ k_ => XS.i2l X2.here hx rfl (hb hby d_prog_175_method_7_22) rfl k_) ?_
  refine GoOn.st (fun t_ k_ => XS.aloadN X2.here hx rfl (hb hby d_prog_175_method_7_23) rfl rfl k_) ?_
  obtain ⟨T3, X3, e3, st3⟩ := getF X2 hx hZ hown (host := "") (Or.inl (hw _ (List.mem_of_getElem? (i := 95) rfl))) Via.refl e2 Frl (g := (mkF m 24 #[.val (.ref a1), .val (.int (0 : Int32)), .val (.long (1 : Int64)), .second, .val (.int (0 : Int32)), .unset, .unset] [(.ref a1), (.long (((own_high q0)).toInt64))])) rfl rfl (hb hby d_prog_175_method_7_24)
  refine GoOn.st st3 ?_
  show GoOn _ _ _ _ (T3.setTop (mkF m 27 #[.val (.ref a1), .val (.int (0 : Int32)), .val (.long (1 : Int64)), .second, .val (.int (0 : Int32)), .unset, .unset] [(.ref bl), (.long (((own_high q0)).toInt64))]))
  refine GoOn.st (fun t_ k_ => XS.iload X3.here hx rfl (hb hby d_prog_175_method_7_27) rfl k_) ?_
  refine GoOn.st (fun t_ k_ => own_iaload X3 hx hZ e3 Vl (j := (0 : Int32)) (by decide) (v := (.int (own_low q0))) rfl (hb hby d_prog_175_method_7_29) _ k_) ?_
  refine GoOn.st (fun t_ k_ => XS.i2l X3.here hx rfl (hb hby d_prog_175_method_7_30) rfl k_) ?_
  refine GoOn.st (fun t_ k_ => XS.lsub X3.here hx rfl (hb hby d_prog_175_method_7_31) rfl k_) ?_
  show GoOn _ _ _ _ (T3.setTop (mkF m 32 #[.val (.ref a1), .val (.int (0 : Int32)), .val (.long (1 : Int64)), .second, .val (.int (0 : Int32)), .unset, .unset] [(.long ((((own_high q0)).toInt64) - (((own_low q0)).toInt64)))]))
  refine GoOn.st (fun t_ k_ => XS.lconst X3.here hx rfl (hb hby d_prog_175_method_7_32)  k_) ?_
  refine GoOn.st (fun t_ k_ => XS.ladd X3.here hx rfl (hb hby d_prog_175_method_7_33) rfl k_) ?_
  refine GoOn.st (fun t_ k_ => XS.lstore X3.here hx rfl (hb hby d_prog_175_method_7_34) rfl (l' := #[.val (.ref a1), .val (.int (0 : Int32)), .val (.long (1 : Int64)), .second, .val (.int (0 : Int32)), .val (.long (((((own_high q0)).toInt64) - (((own_low q0)).toInt64)) + (1 : Int64))), .second]) rfl k_) ?_
  show GoOn _ _ _ _ (T3.setTop (mkF m 36 #[.val (.ref a1), .val (.int (0 : Int32)), .val (.long (1 : Int64)), .second, .val (.int (0 : Int32)), .val (.long (own_vals q0)), .second] []))
  refine GoOn.st (fun t_ k_ => XS.lloadN X3.here hx rfl (hb hby d_prog_175_method_7_36) rfl k_) ?_
  refine GoOn.st (fun t_ k_ => X3.ldc2Long hx hown (mvT hZ (hw _ (List.mem_of_getElem? (i := 170) rfl))) (g := (mkF m 37 #[.val (.ref a1), .val (.int (0 : Int32)), .val (.long (1 : Int64)), .second, .val (.int (0 : Int32)), .val (.long (own_vals q0)), .second] [(.long (1 : Int64))])) rfl (hb hby d_prog_175_method_7_37) _ k_) ?_
  refine GoOn.st (fun t_ k_ => XS.lload X3.here hx rfl (hb hby d_prog_175_method_7_40) rfl k_) ?_
  refine GoOn.st (fun t_ k_ => XS.ldiv X3.here hx rfl (hb hby d_prog_175_method_7_42) rfl (own_in_nz (own_in_vals q0)) k_) ?_
  show GoOn _ _ _ _ (T3.setTop (mkF m 43 #[.val (.ref a1), .val (.int (0 : Int32)), .val (.long (1 : Int64)), .second, .val (.int (0 : Int32)), .val (.long (own_vals q0)), .second] [(.long ((9223372036854775807 : Int64) / (own_vals q0))), (.long (1 : Int64))]))
  refine GoOn.st (fun t_ k_ => XS.lcmp X3.here hx rfl (hb hby d_prog_175_method_7_43) rfl k_) ?_
  have dm4 : ∀ zz0 : Int64, zz0 = (if ((9223372036854775807 : Int64) / (own_vals q0)) < (1 : Int64) then (9223372036854775807 : Int64) else ((1 : Int64) * (own_vals q0))) → ∀ t_, Steps p.tables e below (T3.setTop (mkF m 57 #[.val (.ref a1), .val (.int (0 : Int32)), .val (.long (1 : Int64)), .second, .val (.int (0 : Int32)), .val (.long (own_vals q0)), .second] [(.long zz0)])) t_ → Steps p.tables e below (T3.setTop (mkF m 44 #[.val (.ref a1), .val (.int (0 : Int32)), .val (.long (1 : Int64)), .second, .val (.int (0 : Int32)), .val (.long (own_vals q0)), .second] [(.int (lcmpW (1 : Int64) ((9223372036854775807 : Int64) / (own_vals q0))))])) t_ := by
    intro zz0 hzz0 t_ k_; by_cases hc : ((9223372036854775807 : Int64) / (own_vals q0)) < (1 : Int64)
    · rw [hzz0.trans (if_pos hc)] at k_
      refine XS.ifNo X3.here hx rfl (hb hby d_prog_175_method_7_44) rfl ((if0 _ _).trans (tlt ((lw_gt (1 : Int64) ((9223372036854775807 : Int64) / (own_vals q0))).mpr hc)).2.2.2) ?_
      refine X3.ldc2Long hx hown (mvT hZ (hw _ (List.mem_of_getElem? (i := 170) rfl))) (g := (mkF m 47 #[.val (.ref a1), .val (.int (0 : Int32)), .val (.long (1 : Int64)), .second, .val (.int (0 : Int32)), .val (.long (own_vals q0)), .second] [])) rfl (hb hby d_prog_175_method_7_47) _ ?_
      refine XS.goto X3.here hx rfl (pc0 := 50) (pc' := 57) rfl (hb hby d_prog_175_method_7_50) (by decide) (by decide) ?_
      exact k_
    · rw [hzz0.trans (if_neg hc)] at k_
      refine XS.ifYes X3.here hx rfl (pc0 := 44) (pc' := 53) rfl (hb hby d_prog_175_method_7_44) rfl ((if0 _ _).trans (flt (fun q => hc ((lw_gt (1 : Int64) ((9223372036854775807 : Int64) / (own_vals q0))).mp q))).2.2.2) (by decide) (by decide) ?_
      refine XS.lloadN X3.here hx rfl (hb hby d_prog_175_method_7_53) rfl ?_
      refine XS.lload X3.here hx rfl (hb hby d_prog_175_method_7_54) rfl ?_
      show Steps _ _ _ (T3.setTop (mkF m 56 #[.val (.ref a1), .val (.int (0 : Int32)), .val (.long (1 : Int64)), .second, .val (.int (0 : Int32)), .val (.long (own_vals q0)), .second] [(.long (own_vals q0)), (.long (1 : Int64))])) _
      refine XS.lmul X3.here hx rfl (hb hby d_prog_175_method_7_56) rfl ?_
      exact k_
  refine GoOn.st (dm4 _ rfl) ?_
  show GoOn _ _ _ _ (T3.setTop (mkF m 57 #[.val (.ref a1), .val (.int (0 : Int32)), .val (.long (1 : Int64)), .second, .val (.int (0 : Int32)), .val (.long (own_vals q0)), .second] [(.long (own_step (1 : Int64) (own_vals q0)))]))
  refine GoOn.st (fun t_ k_ => XS.lstoreN X3.here hx rfl (hb hby d_prog_175_method_7_57) rfl (l' := #[.val (.ref a1), .val (.int (0 : Int32)), .val (.long (own_step (1 : Int64) (own_vals q0))), .second, .val (.int (0 : Int32)), .val (.long (own_vals q0)), .second]) rfl k_) ?_
  refine GoOn.st (fun t_ k_ => XS.iinc X3.here hx rfl (hb hby d_prog_175_method_7_58) rfl (l' := #[.val (.ref a1), .val (.int (0 : Int32)), .val (.long (own_step (1 : Int64) (own_vals q0))), .second, .val (.int (1 : Int32)), .val (.long (own_vals q0)), .second]) rfl k_) ?_
  refine GoOn.st (fun t_ k_ => XS.goto X3.here hx rfl (pc0 := 61) (pc' := 5) rfl (hb hby d_prog_175_method_7_61) (by decide) (by decide) k_) ?_
  refine GoOn.st (fun t_ k_ => XS.iload X3.here hx rfl (hb hby d_prog_175_method_7_5) rfl k_) ?_
  show GoOn _ _ _ _ (T3.setTop (mkF m 7 #[.val (.ref a1), .val (.int (0 : Int32)), .val (.long (own_step (1 : Int64) (own_vals q0))), .second, .val (.int (1 : Int32)), .val (.long (own_vals q0)), .second] [(.int (1 : Int32))]))
  refine GoOn.st (fun t_ k_ => XS.aloadN X3.here hx rfl (hb hby d_prog_175_method_7_7) rfl rfl k_) ?_
  obtain ⟨T5, X5, e5, st5⟩ := getF X3 hx hZ hown (host := "") (Or.inl (hw _ (List.mem_of_getElem? (i := 95) rfl))) Via.refl e3 Frl (g := (mkF m 8 #[.val (.ref a1), .val (.int (0 : Int32)), .val (.long (own_step (1 : Int64) (own_vals q0))), .second, .val (.int (1 : Int32)), .val (.long (own_vals q0)), .second] [(.ref a1), (.int (1 : Int32))])) rfl rfl (hb hby d_prog_175_method_7_8)
  refine GoOn.st st5 ?_
  refine GoOn.st (fun t_ k_ => own_arrlen X5 hx hZ e5 Vl (hb hby d_prog_175_method_7_11) _ k_) ?_
  refine GoOn.st (fun t_ k_ => XS.icmpNo X5.here hx rfl (hb hby d_prog_175_method_7_12) rfl (tlt (by decide : (1 : Int32) < (3 : Int32))).2.1 k_) ?_
  show GoOn _ _ _ _ (T5.setTop (mkF m 15 #[.val (.ref a1), .val (.int (0 : Int32)), .val (.long (own_step (1 : Int64) (own_vals q0))), .second, .val (.int (1 : Int32)), .val (.long (own_vals q0)), .second] []))
  refine GoOn.st (fun t_ k_ => XS.aloadN X5.here hx rfl (hb hby d_prog_175_method_7_15) rfl rfl k_) ?_
  obtain ⟨T6, X6, e6, st6⟩ := getF X5 hx hZ hown (host := "") (Or.inl (hw _ (List.mem_of_getElem? (i := 97) rfl))) Via.refl e5 Frh (g := (mkF m 16 #[.val (.ref a1), .val (.int (0 : Int32)), .val (.long (own_step (1 : Int64) (own_vals q0))), .second, .val (.int (1 : Int32)), .val (.long (own_vals q0)), .second] [(.ref a1)])) rfl rfl (hb hby d_prog_175_method_7_16)
  refine GoOn.st st6 ?_
  refine GoOn.st (fun t_ k_ => XS.iload X6.here hx rfl (hb hby d_prog_175_method_7_19) rfl k_) ?_
  refine GoOn.st (fun t_ k_ => own_iaload X6 hx hZ e6 Vh (j := (1 : Int32)) (by decide) (v := (.int (own_high q1))) rfl (hb hby d_prog_175_method_7_21) _ k_) ?_
  show GoOn _ _ _ _ (T6.setTop (mkF m 22 #[.val (.ref a1), .val (.int (0 : Int32)), .val (.long (own_step (1 : Int64) (own_vals q0))), .second, .val (.int (1 : Int32)), .val (.long (own_vals q0)), .second] [(.int (own_high q1))]))
  refine GoOn.st (fun t_ k_ => XS.i2l X6.here hx rfl (hb hby d_prog_175_method_7_22) rfl k_) ?_
  refine GoOn.st (fun t_ k_ => XS.aloadN X6.here hx rfl (hb hby d_prog_175_method_7_23) rfl rfl k_) ?_
  obtain ⟨T7, X7, e7, st7⟩ := getF X6 hx hZ hown (host := "") (Or.inl (hw _ (List.mem_of_getElem? (i := 95) rfl))) Via.refl e6 Frl (g := (mkF m 24 #[.val (.ref a1), .val (.int (0 : Int32)), .val (.long (own_step (1 : Int64) (own_vals q0))), .second, .val (.int (1 : Int32)), .val (.long (own_vals q0)), .second] [(.ref a1), (.long (((own_high q1)).toInt64))])) rfl rfl (hb hby d_prog_175_method_7_24)
  refine GoOn.st st7 ?_
  refine GoOn.st (fun t_ k_ => XS.iload X7.here hx rfl (hb hby d_prog_175_method_7_27) rfl k_) ?_
  show GoOn _ _ _ _ (T7.setTop (mkF m 29 #[.val (.ref a1), .val (.int (0 : Int32)), .val (.long (own_step (1 : Int64) (own_vals q0))), .second, .val (.int (1 : Int32)), .val (.long (own_vals q0)), .second] [(.int (1 : Int32)), (.ref bl), (.long (((own_high q1)).toInt64))]))
  refine GoOn.st (fun t_ k_ => own_iaload X7 hx hZ e7 Vl (j := (1 : Int32)) (by decide) (v := (.int (own_low q1))) rfl (hb hby d_prog_175_method_7_29) _ k_) ?_
  refine GoOn.st (fun t_ k_ => XS.i2l X7.here hx rfl (hb hby d_prog_175_method_7_30) rfl k_) ?_
  refine GoOn.st (fun t_ k_ => XS.lsub X7.here hx rfl (hb hby d_prog_175_method_7_31) rfl k_) ?_
  refine GoOn.st (fun t_ k_ => XS.lconst X7.here hx rfl (hb hby d_prog_175_method_7_32)  k_) ?_
  show GoOn _ _ _ _ (T7.setTop (mkF m 33 #[.val (.ref a1), .val (.int (0 : Int32)), .val (.long (own_step (1 : Int64) (own_vals q0))), .second, .val (.int (1 : Int32)), .val (.long (own_vals q0)), .second] [(.long (1 : Int64)), (.long ((((own_high q1)).toInt64) - (((own_low q1)).toInt64)))]))
  refine GoOn.st (fun t_ k_ => XS.ladd X7.here hx rfl (hb hby d_prog_175_method_7_33) rfl k_) ?_
  refine GoOn.st (fun t_ k_ => XS.lstore X7.here hx rfl (hb hby d_prog_175_method_7_34) rfl (l' := #[.val (.ref a1), .val (.int (0 : Int32)), .val (.long (own_step (1 : Int64) (own_vals q0))), .second, .val (.int (1 : Int32)), .val (.long (((((own_high q1)).toInt64) - (((own_low q1)).toInt64)) + (1 : Int64))), .second]) rfl k_) ?_
  show GoOn _ _ _ _ (T7.setTop (mkF m 36 #[.val (.ref a1), .val (.int (0 : Int32)), .val (.long (own_step (1 : Int64) (own_vals q0))), .second, .val (.int (1 : Int32)), .val (.long (own_vals q1)), .second] []))
  refine GoOn.st (fun t_ k_ => XS.lloadN X7.here hx rfl (hb hby d_prog_175_method_7_36) rfl k_) ?_
  refine GoOn.st (fun t_ k_ => X7.ldc2Long hx hown (mvT hZ (hw _ (List.mem_of_getElem? (i := 170) rfl))) (g := (mkF m 37 #[.val (.ref a1), .val (.int (0 : Int32)), .val (.long (own_step (1 : Int64) (own_vals q0))), .second, .val (.int (1 : Int32)), .val (.long (own_vals q1)), .second] [(.long (own_step (1 : Int64) (own_vals q0)))])) rfl (hb hby d_prog_175_method_7_37) _ k_) ?_
  refine GoOn.st (fun t_ k_ => XS.lload X7.here hx rfl (hb hby d_prog_175_method_7_40) rfl k_) ?_
  refine GoOn.st (fun t_ k_ => XS.ldiv X7.here hx rfl (hb hby d_prog_175_method_7_42) rfl (own_in_nz (own_in_vals q1)) k_) ?_
  show GoOn _ _ _ _ (T7.setTop (mkF m 43 #[.val (.ref a1), .val (.int (0 : Int32)), .val (.long (own_step (1 : Int64) (own_vals q0))), .second, .val (.int (1 : Int32)), .val (.long (own_vals q1)), .second] [(.long ((9223372036854775807 : Int64) / (own_vals q1))), (.long (own_step (1 : Int64) (own_vals q0)))]))
  refine GoOn.st (fun t_ k_ => XS.lcmp X7.here hx rfl (hb hby d_prog_175_method_7_43) rfl k_) ?_
  have dm8 : ∀ zz0 : Int64, zz0 = (if ((9223372036854775807 : Int64) / (own_vals q1)) < (own_step (1 : Int64) (own_vals q0)) then (9223372036854775807 : Int64) else ((own_step (1 : Int64) (own_vals q0)) * (own_vals q1))) → ∀ t_, Steps p.tables e below (T7.setTop (mkF m 57 #[.val (.ref a1), .val (.int (0 : Int32)), .val (.long (own_step (1 : Int64) (own_vals q0))), .second, .val (.int (1 : Int32)), .val (.long (own_vals q1)), .second] [(.long zz0)])) t_ → Steps p.tables e below (T7.setTop (mkF m 44 #[.val (.ref a1), .val (.int (0 : Int32)), .val (.long (own_step (1 : Int64) (own_vals q0))), .second, .val (.int (1 : Int32)), .val (.long (own_vals q1)), .second] [(.int (lcmpW (own_step (1 : Int64) (own_vals q0)) ((9223372036854775807 : Int64) / (own_vals q1))))])) t_ := by
    intro zz0 hzz0 t_ k_; by_cases hc : ((9223372036854775807 : Int64) / (own_vals q1)) < (own_step (1 : Int64) (own_vals q0))
    · rw [hzz0.trans (if_pos hc)] at k_
      refine XS.ifNo X7.here hx rfl (hb hby d_prog_175_method_7_44) rfl ((if0 _ _).trans (tlt ((lw_gt (own_step (1 : Int64) (own_vals q0)) ((9223372036854775807 : Int64) / (own_vals q1))).mpr hc)).2.2.2) ?_
      refine X7.ldc2Long hx hown (mvT hZ (hw _ (List.mem_of_getElem? (i := 170) rfl))) (g := (mkF m 47 #[.val (.ref a1), .val (.int (0 : Int32)), .val (.long (own_step (1 : Int64) (own_vals q0))), .second, .val (.int (1 : Int32)), .val (.long (own_vals q1)), .second] [])) rfl (hb hby d_prog_175_method_7_47) _ ?_
      refine XS.goto X7.here hx rfl (pc0 := 50) (pc' := 57) rfl (hb hby d_prog_175_method_7_50) (by decide) (by decide) ?_
      exact k_
    · rw [hzz0.trans (if_neg hc)] at k_
      refine XS.ifYes X7.here hx rfl (pc0 := 44) (pc' := 53) rfl (hb hby d_prog_175_method_7_44) rfl ((if0 _ _).trans (flt (fun q => hc ((lw_gt (own_step (1 : Int64) (own_vals q0)) ((9223372036854775807 : Int64) / (own_vals q1))).mp q))).2.2.2) (by decide) (by decide) ?_
      refine XS.lloadN X7.here hx rfl (hb hby d_prog_175_method_7_53) rfl ?_
      refine XS.lload X7.here hx rfl (hb hby d_prog_175_method_7_54) rfl ?_
      show Steps _ _ _ (T7.setTop (mkF m 56 #[.val (.ref a1), .val (.int (0 : Int32)), .val (.long (own_step (1 : Int64) (own_vals q0))), .second, .val (.int (1 : Int32)), .val (.long (own_vals q1)), .second] [(.long (own_vals q1)), (.long (own_step (1 : Int64) (own_vals q0)))])) _
      refine XS.lmul X7.here hx rfl (hb hby d_prog_175_method_7_56) rfl ?_
      exact k_
  refine GoOn.st (dm8 _ rfl) ?_
  show GoOn _ _ _ _ (T7.setTop (mkF m 57 #[.val (.ref a1), .val (.int (0 : Int32)), .val (.long (own_step (1 : Int64) (own_vals q0))), .second, .val (.int (1 : Int32)), .val (.long (own_vals q1)), .second] [(.long (own_step (own_step (1 : Int64) (own_vals q0)) (own_vals q1)))]))
  refine GoOn.st (fun t_ k_ => XS.lstoreN X7.here hx rfl (hb hby d_prog_175_method_7_57) rfl (l' := #[.val (.ref a1), .val (.int (0 : Int32)), .val (.long (own_step (own_step (1 : Int64) (own_vals q0)) (own_vals q1))), .second, .val (.int (1 : Int32)), .val (.long (own_vals q1)), .second]) rfl k_) ?_
  refine GoOn.st (fun t_ k_ => XS.iinc X7.here hx rfl (hb hby d_prog_175_method_7_58) rfl (l' := #[.val (.ref a1), .val (.int (0 : Int32)), .val (.long (own_step (own_step (1 : Int64) (own_vals q0)) (own_vals q1))), .second, .val (.int (2 : Int32)), .val (.long (own_vals q1)), .second]) rfl k_) ?_
  refine GoOn.st (fun t_ k_ => XS.goto X7.here hx rfl (pc0 := 61) (pc' := 5) rfl (hb hby d_prog_175_method_7_61) (by decide) (by decide) k_) ?_
  refine GoOn.st (fun t_ k_ => XS.iload X7.here hx rfl (hb hby d_prog_175_method_7_5) rfl k_) ?_
  show GoOn _ _ _ _ (T7.setTop (mkF m 7 #[.val (.ref a1), .val (.int (0 : Int32)), .val (.long (own_step (own_step (1 : Int64) (own_vals q0)) (own_vals q1))), .second, .val (.int (2 : Int32)), .val (.long (own_vals q1)), .second] [(.int (2 : Int32))]))
  refine GoOn.st (fun t_ k_ => XS.aloadN X7.here hx rfl (hb hby d_prog_175_method_7_7) rfl rfl k_) ?_
  obtain ⟨T9, X9, e9, st9⟩ := getF X7 hx hZ hown (host := "") (Or.inl (hw _ (List.mem_of_getElem? (i := 95) rfl))) Via.refl e7 Frl (g := (mkF m 8 #[.val (.ref a1), .val (.int (0 : Int32)), .val (.long (own_step (own_step (1 : Int64) (own_vals q0)) (own_vals q1))), .second, .val (.int (2 : Int32)), .val (.long (own_vals q1)), .second] [(.ref a1), (.int (2 : Int32))])) rfl rfl (hb hby d_prog_175_method_7_8)
  refine GoOn.st st9 ?_
  refine GoOn.st (fun t_ k_ => own_arrlen X9 hx hZ e9 Vl (hb hby d_prog_175_method_7_11) _ k_) ?_
  refine GoOn.st (fun t_ k_ => XS.icmpNo X9.here hx rfl (hb hby d_prog_175_method_7_12) rfl (tlt (by decide : (2 : Int32) < (3 : Int32))).2.1 k_) ?_
  show GoOn _ _ _ _ (T9.setTop (mkF m 15 #[.val (.ref a1), .val (.int (0 : Int32)), .val (.long (own_step (own_step (1 : Int64) (own_vals q0)) (own_vals q1))), .second, .val (.int (2 : Int32)), .val (.long (own_vals q1)), .second] []))
  refine GoOn.st (fun t_ k_ => XS.aloadN X9.here hx rfl (hb hby d_prog_175_method_7_15) rfl rfl k_) ?_
  obtain ⟨T10, X10, e10, st10⟩ := getF X9 hx hZ hown (host := "") (Or.inl (hw _ (List.mem_of_getElem? (i := 97) rfl))) Via.refl e9 Frh (g := (mkF m 16 #[.val (.ref a1), .val (.int (0 : Int32)), .val (.long (own_step (own_step (1 : Int64) (own_vals q0)) (own_vals q1))), .second, .val (.int (2 : Int32)), .val (.long (own_vals q1)), .second] [(.ref a1)])) rfl rfl (hb hby d_prog_175_method_7_16)
  refine GoOn.st st10 ?_
  refine GoOn.st (fun t_ k_ => XS.iload X10.here hx rfl (hb hby d_prog_175_method_7_19) rfl k_) ?_
  refine GoOn.st (fun t_ k_ => own_iaload X10 hx hZ e10 Vh (j := (2 : Int32)) (by decide) (v := (.int (own_high q2))) rfl (hb hby d_prog_175_method_7_21) _ k_) ?_
  show GoOn _ _ _ _ (T10.setTop (mkF m 22 #[.val (.ref a1), .val (.int (0 : Int32)), .val (.long (own_step (own_step (1 : Int64) (own_vals q0)) (own_vals q1))), .second, .val (.int (2 : Int32)), .val (.long (own_vals q1)), .second] [(.int (own_high q2))]))
  refine GoOn.st (fun t_ k_ => XS.i2l X10.here hx rfl (hb hby d_prog_175_method_7_22) rfl k_) ?_
  refine GoOn.st (fun t_ k_ => XS.aloadN X10.here hx rfl (hb hby d_prog_175_method_7_23) rfl rfl k_) ?_
  obtain ⟨T11, X11, e11, st11⟩ := getF X10 hx hZ hown (host := "") (Or.inl (hw _ (List.mem_of_getElem? (i := 95) rfl))) Via.refl e10 Frl (g := (mkF m 24 #[.val (.ref a1), .val (.int (0 : Int32)), .val (.long (own_step (own_step (1 : Int64) (own_vals q0)) (own_vals q1))), .second, .val (.int (2 : Int32)), .val (.long (own_vals q1)), .second] [(.ref a1), (.long (((own_high q2)).toInt64))])) rfl rfl (hb hby d_prog_175_method_7_24)
  refine GoOn.st st11 ?_
  refine GoOn.st (fun t_ k_ => XS.iload X11.here hx rfl (hb hby d_prog_175_method_7_27) rfl k_) ?_
  show GoOn _ _ _ _ (T11.setTop (mkF m 29 #[.val (.ref a1), .val (.int (0 : Int32)), .val (.long (own_step (own_step (1 : Int64) (own_vals q0)) (own_vals q1))), .second, .val (.int (2 : Int32)), .val (.long (own_vals q1)), .second] [(.int (2 : Int32)), (.ref bl), (.long (((own_high q2)).toInt64))]))
  refine GoOn.st (fun t_ k_ => own_iaload X11 hx hZ e11 Vl (j := (2 : Int32)) (by decide) (v := (.int (own_low q2))) rfl (hb hby d_prog_175_method_7_29) _ k_) ?_
  refine GoOn.st (fun t_ k_ => XS.i2l X11.here hx rfl (hb hby d_prog_175_method_7_30) rfl k_) ?_
  refine GoOn.st (fun t_ k_ => XS.lsub X11.here hx rfl (hb hby d_prog_175_method_7_31) rfl k_) ?_
  refine GoOn.st (fun t_ k_ => XS.lconst X11.here hx rfl (hb hby d_prog_175_method_7_32)  k_) ?_
  show GoOn _ _ _ _ (T11.setTop (mkF m 33 #[.val (.ref a1), .val (.int (0 : Int32)), .val (.long (own_step (own_step (1 : Int64) (own_vals q0)) (own_vals q1))), .second, .val (.int (2 : Int32)), .val (.long (own_vals q1)), .second] [(.long (1 : Int64)), (.long ((((own_high q2)).toInt64) - (((own_low q2)).toInt64)))]))
  refine GoOn.st (fun t_ k_ => XS.ladd X11.here hx rfl (hb hby d_prog_175_method_7_33) rfl k_) ?_
  refine GoOn.st (fun t_ k_ => XS.lstore X11.here hx rfl (hb hby d_prog_175_method_7_34) rfl (l' := #[.val (.ref a1), .val (.int (0 : Int32)), .val (.long (own_step (own_step (1 : Int64) (own_vals q0)) (own_vals q1))), .second, .val (.int (2 : Int32)), .val (.long (((((own_high q2)).toInt64) - (((own_low q2)).toInt64)) + (1 : Int64))), .second]) rfl k_) ?_
  show GoOn _ _ _ _ (T11.setTop (mkF m 36 #[.val (.ref a1), .val (.int (0 : Int32)), .val (.long (own_step (own_step (1 : Int64) (own_vals q0)) (own_vals q1))), .second, .val (.int (2 : Int32)), .val (.long (own_vals q2)), .second] []))
  refine GoOn.st (fun t_ k_ => XS.lloadN X11.here hx rfl (hb hby d_prog_175_method_7_36) rfl k_) ?_
  refine GoOn.st (fun t_ k_ => X11.ldc2Long hx hown (mvT hZ (hw _ (List.mem_of_getElem? (i := 170) rfl))) (g := (mkF m 37 #[.val (.ref a1), .val (.int (0 : Int32)), .val (.long (own_step (own_step (1 : Int64) (own_vals q0)) (own_vals q1))), .second, .val (.int (2 : Int32)), .val (.long (own_vals q2)), .second] [(.long (own_step (own_step (1 : Int64) (own_vals q0)) (own_vals q1)))])) rfl (hb hby d_prog_175_method_7_37) _ k_) ?_
  refine GoOn.st (fun t_ k_ => XS.lload X11.here hx rfl (hb hby d_prog_175_method_7_40) rfl k_) ?_
  refine GoOn.st (fun t_ k_ => XS.ldiv X11.here hx rfl (hb hby d_prog_175_method_7_42) rfl (own_in_nz (own_in_vals q2)) k_) ?_
  show GoOn _ _ _ _ (T11.setTop (mkF m 43 #[.val (.ref a1), .val (.int (0 : Int32)), .val (.long (own_step (own_step (1 : Int64) (own_vals q0)) (own_vals q1))), .second, .val (.int (2 : Int32)), .val (.long (own_vals q2)), .second] [(.long ((9223372036854775807 : Int64) / (own_vals q2))), (.long (own_step (own_step (1 : Int64) (own_vals q0)) (own_vals q1)))]))
  refine GoOn.st (fun t_ k_ => XS.lcmp X11.here hx rfl (hb hby d_prog_175_method_7_43) rfl k_) ?_
  have dm12 : ∀ zz0 : Int64, zz0 = (if ((9223372036854775807 : Int64) / (own_vals q2)) < (own_step (own_step (1 : Int64) (own_vals q0)) (own_vals q1)) then (9223372036854775807 : Int64) else ((own_step (own_step (1 : Int64) (own_vals q0)) (own_vals q1)) * (own_vals q2))) → ∀ t_, Steps p.tables e below (T11.setTop (mkF m 57 #[.val (.ref a1), .val (.int (0 : Int32)), .val (.long (own_step (own_step (1 : Int64) (own_vals q0)) (own_vals q1))), .second, .val (.int (2 : Int32)), .val (.long (own_vals q2)), .second] [(.long zz0)])) t_ → Steps p.tables e below (T11.setTop (mkF m 44 #[.val (.ref a1), .val (.int (0 : Int32)), .val (.long (own_step (own_step (1 : Int64) (own_vals q0)) (own_vals q1))), .second, .val (.int (2 : Int32)), .val (.long (own_vals q2)), .second] [(.int (lcmpW (own_step (own_step (1 : Int64) (own_vals q0)) (own_vals q1)) ((9223372036854775807 : Int64) / (own_vals q2))))])) t_ := by
    intro zz0 hzz0 t_ k_; by_cases hc : ((9223372036854775807 : Int64) / (own_vals q2)) < (own_step (own_step (1 : Int64) (own_vals q0)) (own_vals q1))
    · rw [hzz0.trans (if_pos hc)] at k_
      refine XS.ifNo X11.here hx rfl (hb hby d_prog_175_method_7_44) rfl ((if0 _ _).trans (tlt ((lw_gt (own_step (own_step (1 : Int64) (own_vals q0)) (own_vals q1)) ((9223372036854775807 : Int64) / (own_vals q2))).mpr hc)).2.2.2) ?_
      refine X11.ldc2Long hx hown (mvT hZ (hw _ (List.mem_of_getElem? (i := 170) rfl))) (g := (mkF m 47 #[.val (.ref a1), .val (.int (0 : Int32)), .val (.long (own_step (own_step (1 : Int64) (own_vals q0)) (own_vals q1))), .second, .val (.int (2 : Int32)), .val (.long (own_vals q2)), .second] [])) rfl (hb hby d_prog_175_method_7_47) _ ?_
      refine XS.goto X11.here hx rfl (pc0 := 50) (pc' := 57) rfl (hb hby d_prog_175_method_7_50) (by decide) (by decide) ?_
      exact k_
    · rw [hzz0.trans (if_neg hc)] at k_
      refine XS.ifYes X11.here hx rfl (pc0 := 44) (pc' := 53) rfl (hb hby d_prog_175_method_7_44) rfl ((if0 _ _).trans (flt (fun q => hc ((lw_gt (own_step (own_step (1 : Int64) (own_vals q0)) (own_vals q1)) ((9223372036854775807 : Int64) / (own_vals q2))).mp q))).2.2.2) (by decide) (by decide) ?_
      refine XS.lloadN X11.here hx rfl (hb hby d_prog_175_method_7_53) rfl ?_
      refine XS.lload X11.here hx rfl (hb hby d_prog_175_method_7_54) rfl ?_
      show Steps _ _ _ (T11.setTop (mkF m 56 #[.val (.ref a1), .val (.int (0 : Int32)), .val (.long (own_step (own_step (1 : Int64) (own_vals q0)) (own_vals q1))), .second, .val (.int (2 : Int32)), .val (.long (own_vals q2)), .second] [(.long (own_vals q2)), (.long (own_step (own_step (1 : Int64) (own_vals q0)) (own_vals q1)))])) _
      refine XS.lmul X11.here hx rfl (hb hby d_prog_175_method_7_56) rfl ?_
      exact k_
  refine GoOn.st (dm12 _ rfl) ?_
  show GoOn _ _ _ _ (T11.setTop (mkF m 57 #[.val (.ref a1), .val (.int (0 : Int32)), .val (.long (own_step (own_step (1 : Int64) (own_vals q0)) (own_vals q1))), .second, .val (.int (2 : Int32)), .val (.long (own_vals q2)), .second] [(.long (own_step (own_step (own_step (1 : Int64) (own_vals q0)) (own_vals q1)) (own_vals q2)))]))
  refine GoOn.st (fun t_ k_ => XS.lstoreN X11.here hx rfl (hb hby d_prog_175_method_7_57) rfl (l' := #[.val (.ref a1), .val (.int (0 : Int32)), .val (.long (own_step (own_step (own_step (1 : Int64) (own_vals q0)) (own_vals q1)) (own_vals q2))), .second, .val (.int (2 : Int32)), .val (.long (own_vals q2)), .second]) rfl k_) ?_
  refine GoOn.st (fun t_ k_ => XS.iinc X11.here hx rfl (hb hby d_prog_175_method_7_58) rfl (l' := #[.val (.ref a1), .val (.int (0 : Int32)), .val (.long (own_step (own_step (own_step (1 : Int64) (own_vals q0)) (own_vals q1)) (own_vals q2))), .second, .val (.int (3 : Int32)), .val (.long (own_vals q2)), .second]) rfl k_) ?_
  refine GoOn.st (fun t_ k_ => XS.goto X11.here hx rfl (pc0 := 61) (pc' := 5) rfl (hb hby d_prog_175_method_7_61) (by decide) (by decide) k_) ?_
  refine GoOn.st (fun t_ k_ => XS.iload X11.here hx rfl (hb hby d_prog_175_method_7_5) rfl k_) ?_
  show GoOn _ _ _ _ (T11.setTop (mkF m 7 #[.val (.ref a1), .val (.int (0 : Int32)), .val (.long (own_step (own_step (own_step (1 : Int64) (own_vals q0)) (own_vals q1)) (own_vals q2))), .second, .val (.int (3 : Int32)), .val (.long (own_vals q2)), .second] [(.int (3 : Int32))]))
  refine GoOn.st (fun t_ k_ => XS.aloadN X11.here hx rfl (hb hby d_prog_175_method_7_7) rfl rfl k_) ?_
  obtain ⟨T13, X13, e13, st13⟩ := getF X11 hx hZ hown (host := "") (Or.inl (hw _ (List.mem_of_getElem? (i := 95) rfl))) Via.refl e11 Frl (g := (mkF m 8 #[.val (.ref a1), .val (.int (0 : Int32)), .val (.long (own_step (own_step (own_step (1 : Int64) (own_vals q0)) (own_vals q1)) (own_vals q2))), .second, .val (.int (3 : Int32)), .val (.long (own_vals q2)), .second] [(.ref a1), (.int (3 : Int32))])) rfl rfl (hb hby d_prog_175_method_7_8)
  refine GoOn.st st13 ?_
  refine GoOn.st (fun t_ k_ => own_arrlen X13 hx hZ e13 Vl (hb hby d_prog_175_method_7_11) _ k_) ?_
  refine GoOn.st (fun t_ k_ => XS.icmpYes X13.here hx rfl (pc0 := 12) (pc' := 64) rfl (hb hby d_prog_175_method_7_12) rfl (flt (by decide : ¬ ((3 : Int32) < (3 : Int32)))).2.1 (by decide) (by decide) k_) ?_
  show GoOn _ _ _ _ (T13.setTop (mkF m 64 #[.val (.ref a1), .val (.int (0 : Int32)), .val (.long (own_step (own_step (own_step (1 : Int64) (own_vals q0)) (own_vals q1)) (own_vals q2))), .second, .val (.int (3 : Int32)), .val (.long (own_vals q2)), .second] []))
  refine GoOn.st (fun t_ k_ => XS.lloadN X13.here hx rfl (hb hby d_prog_175_method_7_64) rfl k_) ?_
  show GoOn _ _ _ _ (T13.setTop (mkF m 65 #[.val (.ref a1), .val (.int (0 : Int32)), .val (.long (own_step (own_step (own_step (1 : Int64) (own_vals q0)) (own_vals q1)) (own_vals q2))), .second, .val (.int (3 : Int32)), .val (.long (own_vals q2)), .second] [(.long (own_step (own_step (own_step (1 : Int64) (own_vals q0)) (own_vals q1)) (own_vals q2)))]))
  exact GoOn.retJ X13 hx hlk hret (hb hby d_prog_175_method_7_65) (by rw [e13]; exact ⟨rfl, rfl, rfl⟩) (by decide) (by decide)
theorem ef_val31 (m : MethodId) (x0 : Addr) (x1 : Int32) : entryFrame m #[(.ref x0), (.int x1)] 7 = mkF m 0 #[.val (.ref x0), .val (.int x1), .unset, .unset, .unset, .unset, .unset] [] := by first | (simp [entryFrame, mkF, argsToLocals, Value.category]; done) | rfl
set_option maxRecDepth 65536 in
set_option maxHeartbeats 40000000 in
theorem rm_val31 (l : Launch) (Z : State) (a0 : Array Value) (hw : ∀ d ∈ tables_1, d.before a0 Z = true) (a1 bl bh : Addr) (kl kh : ClassId) (q0 q1 q2 : Int64) (h0 : Heap) (Frl : Fld Z h0 a1 "com/example/tributary/tributary/semantics/Ranges" "low" "[I" (.ref bl)) (Frh : Fld Z h0 a1 "com/example/tributary/tributary/semantics/Ranges" "high" "[I" (.ref bh)) (Vl : Arv Z h0 bl kl .int (3 : Int32) [(.int (own_low q0)), (.int (own_low q1)), (.int (own_low q2))] (.int (0 : Int32))) (Vh : Arv Z h0 bh kh .int (3 : Int32) [(.int (own_high q0)), (.int (own_high q1)), (.int (own_high q2))] (.int (0 : Int32))) :
    OwCon l Z (⟨"com/example/tributary/tributary/semantics/Ranges", "valuations", "(I)J"⟩ : MethodName) prog_175_method_7_code 7 (some .long) [] ({ frames := 0, cells := 0, slots := 0, locals := 0 } : Room) #[(.ref a1), (.int (1 : Int32))] h0 (OwRet (some (.long (own_step (own_step (1 : Int64) (own_vals q1)) (own_vals q2)))) h0) := by
  refine OwCon.of (plainFor_of_name pn_com_example_tributary_tributary_semantics_Ranges) ?_
  intro p e s m below meth cd_ s₁ X0 hx hby hml hret hlk hown hnm hZ e0
  refine GoOn.st (fun t_ k_ => castTop (ef_val31 m a1 (1 : Int32)) k_) ?_
  show GoOn _ _ _ _ (s₁.setTop (mkF m 0 #[.val (.ref a1), .val (.int (1 : Int32)), .unset, .unset, .unset, .unset, .unset] []))
  refine GoOn.st (fun t_ k_ => XS.lconst X0.here hx rfl (hb hby d_prog_175_method_7_0)  k_) ?_
  refine GoOn.st (fun t_ k_ => XS.lstoreN X0.here hx rfl (hb hby d_prog_175_method_7_1) rfl (l' := #[.val (.ref a1), .val (.int (1 : Int32)), .val (.long (1 : Int64)), .second, .unset, .unset, .unset]) rfl k_) ?_
  refine GoOn.st (fun t_ k_ => XS.iloadN X0.here hx rfl (hb hby d_prog_175_method_7_2) rfl k_) ?_
  refine GoOn.st (fun t_ k_ => XS.istore X0.here hx rfl (hb hby d_prog_175_method_7_3) rfl (l' := #[.val (.ref a1), .val (.int (1 : Int32)), .val (.long (1 : Int64)), .second, .val (.int (1 : Int32)), .unset, .unset]) rfl k_) ?_
  show GoOn _ _ _ _ (s₁.setTop (mkF m 5 #[.val (.ref a1), .val (.int (1 : Int32)), .val (.long (1 : Int64)), .second, .val (.int (1 : Int32)), .unset, .unset] []))
  refine GoOn.st (fun t_ k_ => XS.iload X0.here hx rfl (hb hby d_prog_175_method_7_5) rfl k_) ?_
  refine GoOn.st (fun t_ k_ => XS.aloadN X0.here hx rfl (hb hby d_prog_175_method_7_7) rfl rfl k_) ?_
  obtain ⟨T1, X1, e1, st1⟩ := getF X0 hx hZ hown (host := "") (Or.inl (hw _ (List.mem_of_getElem? (i := 95) rfl))) Via.refl e0 Frl (g := (mkF m 8 #[.val (.ref a1), .val (.int (1 : Int32)), .val (.long (1 : Int64)), .second, .val (.int (1 : Int32)), .unset, .unset] [(.ref a1), (.int (1 : Int32))])) rfl rfl (hb hby d_prog_175_method_7_8)
  refine GoOn.st st1 ?_
  refine GoOn.st (fun t_ k_ => own_arrlen X1 hx hZ e1 Vl (hb hby d_prog_175_method_7_11) _ k_) ?_
  show GoOn _ _ _ _ (T1.setTop (mkF m 12 #[.val (.ref a1), .val (.int (1 : Int32)), .val (.long (1 : Int64)), .second, .val (.int (1 : Int32)), .unset, .unset] [(.int (3 : Int32)), (.int (1 : Int32))]))
  refine GoOn.st (fun t_ k_ => XS.icmpNo X1.here hx rfl (hb hby d_prog_175_method_7_12) rfl (tlt (by decide : (1 : Int32) < (3 : Int32))).2.1 k_) ?_
  refine GoOn.st (fun t_ k_ => XS.aloadN X1.here hx rfl (hb hby d_prog_175_method_7_15) rfl rfl k_) ?_
  obtain ⟨T2, X2, e2, st2⟩ := getF X1 hx hZ hown (host := "") (Or.inl (hw _ (List.mem_of_getElem? (i := 97) rfl))) Via.refl e1 Frh (g := (mkF m 16 #[.val (.ref a1), .val (.int (1 : Int32)), .val (.long (1 : Int64)), .second, .val (.int (1 : Int32)), .unset, .unset] [(.ref a1)])) rfl rfl (hb hby d_prog_175_method_7_16)
  refine GoOn.st st2 ?_
  refine GoOn.st (fun t_ k_ => XS.iload X2.here hx rfl (hb hby d_prog_175_method_7_19) rfl k_) ?_
  show GoOn _ _ _ _ (T2.setTop (mkF m 21 #[.val (.ref a1), .val (.int (1 : Int32)), .val (.long (1 : Int64)), .second, .val (.int (1 : Int32)), .unset, .unset] [(.int (1 : Int32)), (.ref bh)]))
  refine GoOn.st (fun t_ k_ => own_iaload X2 hx hZ e2 Vh (j := (1 : Int32)) (by decide) (v := (.int (own_high q1))) rfl (hb hby d_prog_175_method_7_21) _ k_) ?_
  refine GoOn.st (fun t_ k_ => XS.i2l X2.here hx rfl (hb hby d_prog_175_method_7_22) rfl k_) ?_
  refine GoOn.st (fun t_ k_ => XS.aloadN X2.here hx rfl (hb hby d_prog_175_method_7_23) rfl rfl k_) ?_
  obtain ⟨T3, X3, e3, st3⟩ := getF X2 hx hZ hown (host := "") (Or.inl (hw _ (List.mem_of_getElem? (i := 95) rfl))) Via.refl e2 Frl (g := (mkF m 24 #[.val (.ref a1), .val (.int (1 : Int32)), .val (.long (1 : Int64)), .second, .val (.int (1 : Int32)), .unset, .unset] [(.ref a1), (.long (((own_high q1)).toInt64))])) rfl rfl (hb hby d_prog_175_method_7_24)
  refine GoOn.st st3 ?_
  show GoOn _ _ _ _ (T3.setTop (mkF m 27 #[.val (.ref a1), .val (.int (1 : Int32)), .val (.long (1 : Int64)), .second, .val (.int (1 : Int32)), .unset, .unset] [(.ref bl), (.long (((own_high q1)).toInt64))]))
  refine GoOn.st (fun t_ k_ => XS.iload X3.here hx rfl (hb hby d_prog_175_method_7_27) rfl k_) ?_
  refine GoOn.st (fun t_ k_ => own_iaload X3 hx hZ e3 Vl (j := (1 : Int32)) (by decide) (v := (.int (own_low q1))) rfl (hb hby d_prog_175_method_7_29) _ k_) ?_
  refine GoOn.st (fun t_ k_ => XS.i2l X3.here hx rfl (hb hby d_prog_175_method_7_30) rfl k_) ?_
  refine GoOn.st (fun t_ k_ => XS.lsub X3.here hx rfl (hb hby d_prog_175_method_7_31) rfl k_) ?_
  show GoOn _ _ _ _ (T3.setTop (mkF m 32 #[.val (.ref a1), .val (.int (1 : Int32)), .val (.long (1 : Int64)), .second, .val (.int (1 : Int32)), .unset, .unset] [(.long ((((own_high q1)).toInt64) - (((own_low q1)).toInt64)))]))
  refine GoOn.st (fun t_ k_ => XS.lconst X3.here hx rfl (hb hby d_prog_175_method_7_32)  k_) ?_
  refine GoOn.st (fun t_ k_ => XS.ladd X3.here hx rfl (hb hby d_prog_175_method_7_33) rfl k_) ?_
  refine GoOn.st (fun t_ k_ => XS.lstore X3.here hx rfl (hb hby d_prog_175_method_7_34) rfl (l' := #[.val (.ref a1), .val (.int (1 : Int32)), .val (.long (1 : Int64)), .second, .val (.int (1 : Int32)), .val (.long (((((own_high q1)).toInt64) - (((own_low q1)).toInt64)) + (1 : Int64))), .second]) rfl k_) ?_
  show GoOn _ _ _ _ (T3.setTop (mkF m 36 #[.val (.ref a1), .val (.int (1 : Int32)), .val (.long (1 : Int64)), .second, .val (.int (1 : Int32)), .val (.long (own_vals q1)), .second] []))
  refine GoOn.st (fun t_ k_ => XS.lloadN X3.here hx rfl (hb hby d_prog_175_method_7_36) rfl k_) ?_
  refine GoOn.st (fun t_ k_ => X3.ldc2Long hx hown (mvT hZ (hw _ (List.mem_of_getElem? (i := 170) rfl))) (g := (mkF m 37 #[.val (.ref a1), .val (.int (1 : Int32)), .val (.long (1 : Int64)), .second, .val (.int (1 : Int32)), .val (.long (own_vals q1)), .second] [(.long (1 : Int64))])) rfl (hb hby d_prog_175_method_7_37) _ k_) ?_
  refine GoOn.st (fun t_ k_ => XS.lload X3.here hx rfl (hb hby d_prog_175_method_7_40) rfl k_) ?_
  refine GoOn.st (fun t_ k_ => XS.ldiv X3.here hx rfl (hb hby d_prog_175_method_7_42) rfl (own_in_nz (own_in_vals q1)) k_) ?_
  show GoOn _ _ _ _ (T3.setTop (mkF m 43 #[.val (.ref a1), .val (.int (1 : Int32)), .val (.long (1 : Int64)), .second, .val (.int (1 : Int32)), .val (.long (own_vals q1)), .second] [(.long ((9223372036854775807 : Int64) / (own_vals q1))), (.long (1 : Int64))]))
  refine GoOn.st (fun t_ k_ => XS.lcmp X3.here hx rfl (hb hby d_prog_175_method_7_43) rfl k_) ?_
  have dm4 : ∀ zz0 : Int64, zz0 = (if ((9223372036854775807 : Int64) / (own_vals q1)) < (1 : Int64) then (9223372036854775807 : Int64) else ((1 : Int64) * (own_vals q1))) → ∀ t_, Steps p.tables e below (T3.setTop (mkF m 57 #[.val (.ref a1), .val (.int (1 : Int32)), .val (.long (1 : Int64)), .second, .val (.int (1 : Int32)), .val (.long (own_vals q1)), .second] [(.long zz0)])) t_ → Steps p.tables e below (T3.setTop (mkF m 44 #[.val (.ref a1), .val (.int (1 : Int32)), .val (.long (1 : Int64)), .second, .val (.int (1 : Int32)), .val (.long (own_vals q1)), .second] [(.int (lcmpW (1 : Int64) ((9223372036854775807 : Int64) / (own_vals q1))))])) t_ := by
    intro zz0 hzz0 t_ k_; by_cases hc : ((9223372036854775807 : Int64) / (own_vals q1)) < (1 : Int64)
    · rw [hzz0.trans (if_pos hc)] at k_
      refine XS.ifNo X3.here hx rfl (hb hby d_prog_175_method_7_44) rfl ((if0 _ _).trans (tlt ((lw_gt (1 : Int64) ((9223372036854775807 : Int64) / (own_vals q1))).mpr hc)).2.2.2) ?_
      refine X3.ldc2Long hx hown (mvT hZ (hw _ (List.mem_of_getElem? (i := 170) rfl))) (g := (mkF m 47 #[.val (.ref a1), .val (.int (1 : Int32)), .val (.long (1 : Int64)), .second, .val (.int (1 : Int32)), .val (.long (own_vals q1)), .second] [])) rfl (hb hby d_prog_175_method_7_47) _ ?_
      refine XS.goto X3.here hx rfl (pc0 := 50) (pc' := 57) rfl (hb hby d_prog_175_method_7_50) (by decide) (by decide) ?_
      exact k_
    · rw [hzz0.trans (if_neg hc)] at k_
      refine XS.ifYes X3.here hx rfl (pc0 := 44) (pc' := 53) rfl (hb hby d_prog_175_method_7_44) rfl ((if0 _ _).trans (flt (fun q => hc ((lw_gt (1 : Int64) ((9223372036854775807 : Int64) / (own_vals q1))).mp q))).2.2.2) (by decide) (by decide) ?_
      refine XS.lloadN X3.here hx rfl (hb hby d_prog_175_method_7_53) rfl ?_
      refine XS.lload X3.here hx rfl (hb hby d_prog_175_method_7_54) rfl ?_
      show Steps _ _ _ (T3.setTop (mkF m 56 #[.val (.ref a1), .val (.int (1 : Int32)), .val (.long (1 : Int64)), .second, .val (.int (1 : Int32)), .val (.long (own_vals q1)), .second] [(.long (own_vals q1)), (.long (1 : Int64))])) _
      refine XS.lmul X3.here hx rfl (hb hby d_prog_175_method_7_56) rfl ?_
      exact k_
  refine GoOn.st (dm4 _ rfl) ?_
  show GoOn _ _ _ _ (T3.setTop (mkF m 57 #[.val (.ref a1), .val (.int (1 : Int32)), .val (.long (1 : Int64)), .second, .val (.int (1 : Int32)), .val (.long (own_vals q1)), .second] [(.long (own_step (1 : Int64) (own_vals q1)))]))
  refine GoOn.st (fun t_ k_ => XS.lstoreN X3.here hx rfl (hb hby d_prog_175_method_7_57) rfl (l' := #[.val (.ref a1), .val (.int (1 : Int32)), .val (.long (own_step (1 : Int64) (own_vals q1))), .second, .val (.int (1 : Int32)), .val (.long (own_vals q1)), .second]) rfl k_) ?_
  refine GoOn.st (fun t_ k_ => XS.iinc X3.here hx rfl (hb hby d_prog_175_method_7_58) rfl (l' := #[.val (.ref a1), .val (.int (1 : Int32)), .val (.long (own_step (1 : Int64) (own_vals q1))), .second, .val (.int (2 : Int32)), .val (.long (own_vals q1)), .second]) rfl k_) ?_
  refine GoOn.st (fun t_ k_ => XS.goto X3.here hx rfl (pc0 := 61) (pc' := 5) rfl (hb hby d_prog_175_method_7_61) (by decide) (by decide) k_) ?_
  refine GoOn.st (fun t_ k_ => XS.iload X3.here hx rfl (hb hby d_prog_175_method_7_5) rfl k_) ?_
  show GoOn _ _ _ _ (T3.setTop (mkF m 7 #[.val (.ref a1), .val (.int (1 : Int32)), .val (.long (own_step (1 : Int64) (own_vals q1))), .second, .val (.int (2 : Int32)), .val (.long (own_vals q1)), .second] [(.int (2 : Int32))]))
  refine GoOn.st (fun t_ k_ => XS.aloadN X3.here hx rfl (hb hby d_prog_175_method_7_7) rfl rfl k_) ?_
  obtain ⟨T5, X5, e5, st5⟩ := getF X3 hx hZ hown (host := "") (Or.inl (hw _ (List.mem_of_getElem? (i := 95) rfl))) Via.refl e3 Frl (g := (mkF m 8 #[.val (.ref a1), .val (.int (1 : Int32)), .val (.long (own_step (1 : Int64) (own_vals q1))), .second, .val (.int (2 : Int32)), .val (.long (own_vals q1)), .second] [(.ref a1), (.int (2 : Int32))])) rfl rfl (hb hby d_prog_175_method_7_8)
  refine GoOn.st st5 ?_
  refine GoOn.st (fun t_ k_ => own_arrlen X5 hx hZ e5 Vl (hb hby d_prog_175_method_7_11) _ k_) ?_
  refine GoOn.st (fun t_ k_ => XS.icmpNo X5.here hx rfl (hb hby d_prog_175_method_7_12) rfl (tlt (by decide : (2 : Int32) < (3 : Int32))).2.1 k_) ?_
  show GoOn _ _ _ _ (T5.setTop (mkF m 15 #[.val (.ref a1), .val (.int (1 : Int32)), .val (.long (own_step (1 : Int64) (own_vals q1))), .second, .val (.int (2 : Int32)), .val (.long (own_vals q1)), .second] []))
  refine GoOn.st (fun t_ k_ => XS.aloadN X5.here hx rfl (hb hby d_prog_175_method_7_15) rfl rfl k_) ?_
  obtain ⟨T6, X6, e6, st6⟩ := getF X5 hx hZ hown (host := "") (Or.inl (hw _ (List.mem_of_getElem? (i := 97) rfl))) Via.refl e5 Frh (g := (mkF m 16 #[.val (.ref a1), .val (.int (1 : Int32)), .val (.long (own_step (1 : Int64) (own_vals q1))), .second, .val (.int (2 : Int32)), .val (.long (own_vals q1)), .second] [(.ref a1)])) rfl rfl (hb hby d_prog_175_method_7_16)
  refine GoOn.st st6 ?_
  refine GoOn.st (fun t_ k_ => XS.iload X6.here hx rfl (hb hby d_prog_175_method_7_19) rfl k_) ?_
  refine GoOn.st (fun t_ k_ => own_iaload X6 hx hZ e6 Vh (j := (2 : Int32)) (by decide) (v := (.int (own_high q2))) rfl (hb hby d_prog_175_method_7_21) _ k_) ?_
  show GoOn _ _ _ _ (T6.setTop (mkF m 22 #[.val (.ref a1), .val (.int (1 : Int32)), .val (.long (own_step (1 : Int64) (own_vals q1))), .second, .val (.int (2 : Int32)), .val (.long (own_vals q1)), .second] [(.int (own_high q2))]))
  refine GoOn.st (fun t_ k_ => XS.i2l X6.here hx rfl (hb hby d_prog_175_method_7_22) rfl k_) ?_
  refine GoOn.st (fun t_ k_ => XS.aloadN X6.here hx rfl (hb hby d_prog_175_method_7_23) rfl rfl k_) ?_
  obtain ⟨T7, X7, e7, st7⟩ := getF X6 hx hZ hown (host := "") (Or.inl (hw _ (List.mem_of_getElem? (i := 95) rfl))) Via.refl e6 Frl (g := (mkF m 24 #[.val (.ref a1), .val (.int (1 : Int32)), .val (.long (own_step (1 : Int64) (own_vals q1))), .second, .val (.int (2 : Int32)), .val (.long (own_vals q1)), .second] [(.ref a1), (.long (((own_high q2)).toInt64))])) rfl rfl (hb hby d_prog_175_method_7_24)
  refine GoOn.st st7 ?_
  refine GoOn.st (fun t_ k_ => XS.iload X7.here hx rfl (hb hby d_prog_175_method_7_27) rfl k_) ?_
  show GoOn _ _ _ _ (T7.setTop (mkF m 29 #[.val (.ref a1), .val (.int (1 : Int32)), .val (.long (own_step (1 : Int64) (own_vals q1))), .second, .val (.int (2 : Int32)), .val (.long (own_vals q1)), .second] [(.int (2 : Int32)), (.ref bl), (.long (((own_high q2)).toInt64))]))
  refine GoOn.st (fun t_ k_ => own_iaload X7 hx hZ e7 Vl (j := (2 : Int32)) (by decide) (v := (.int (own_low q2))) rfl (hb hby d_prog_175_method_7_29) _ k_) ?_
  refine GoOn.st (fun t_ k_ => XS.i2l X7.here hx rfl (hb hby d_prog_175_method_7_30) rfl k_) ?_
  refine GoOn.st (fun t_ k_ => XS.lsub X7.here hx rfl (hb hby d_prog_175_method_7_31) rfl k_) ?_
  refine GoOn.st (fun t_ k_ => XS.lconst X7.here hx rfl (hb hby d_prog_175_method_7_32)  k_) ?_
  show GoOn _ _ _ _ (T7.setTop (mkF m 33 #[.val (.ref a1), .val (.int (1 : Int32)), .val (.long (own_step (1 : Int64) (own_vals q1))), .second, .val (.int (2 : Int32)), .val (.long (own_vals q1)), .second] [(.long (1 : Int64)), (.long ((((own_high q2)).toInt64) - (((own_low q2)).toInt64)))]))
  refine GoOn.st (fun t_ k_ => XS.ladd X7.here hx rfl (hb hby d_prog_175_method_7_33) rfl k_) ?_
  refine GoOn.st (fun t_ k_ => XS.lstore X7.here hx rfl (hb hby d_prog_175_method_7_34) rfl (l' := #[.val (.ref a1), .val (.int (1 : Int32)), .val (.long (own_step (1 : Int64) (own_vals q1))), .second, .val (.int (2 : Int32)), .val (.long (((((own_high q2)).toInt64) - (((own_low q2)).toInt64)) + (1 : Int64))), .second]) rfl k_) ?_
  show GoOn _ _ _ _ (T7.setTop (mkF m 36 #[.val (.ref a1), .val (.int (1 : Int32)), .val (.long (own_step (1 : Int64) (own_vals q1))), .second, .val (.int (2 : Int32)), .val (.long (own_vals q2)), .second] []))
  refine GoOn.st (fun t_ k_ => XS.lloadN X7.here hx rfl (hb hby d_prog_175_method_7_36) rfl k_) ?_
  refine GoOn.st (fun t_ k_ => X7.ldc2Long hx hown (mvT hZ (hw _ (List.mem_of_getElem? (i := 170) rfl))) (g := (mkF m 37 #[.val (.ref a1), .val (.int (1 : Int32)), .val (.long (own_step (1 : Int64) (own_vals q1))), .second, .val (.int (2 : Int32)), .val (.long (own_vals q2)), .second] [(.long (own_step (1 : Int64) (own_vals q1)))])) rfl (hb hby d_prog_175_method_7_37) _ k_) ?_
  refine GoOn.st (fun t_ k_ => XS.lload X7.here hx rfl (hb hby d_prog_175_method_7_40) rfl k_) ?_
  refine GoOn.st (fun t_ k_ => XS.ldiv X7.here hx rfl (hb hby d_prog_175_method_7_42) rfl (own_in_nz (own_in_vals q2)) k_) ?_
  show GoOn _ _ _ _ (T7.setTop (mkF m 43 #[.val (.ref a1), .val (.int (1 : Int32)), .val (.long (own_step (1 : Int64) (own_vals q1))), .second, .val (.int (2 : Int32)), .val (.long (own_vals q2)), .second] [(.long ((9223372036854775807 : Int64) / (own_vals q2))), (.long (own_step (1 : Int64) (own_vals q1)))]))
  refine GoOn.st (fun t_ k_ => XS.lcmp X7.here hx rfl (hb hby d_prog_175_method_7_43) rfl k_) ?_
  have dm8 : ∀ zz0 : Int64, zz0 = (if ((9223372036854775807 : Int64) / (own_vals q2)) < (own_step (1 : Int64) (own_vals q1)) then (9223372036854775807 : Int64) else ((own_step (1 : Int64) (own_vals q1)) * (own_vals q2))) → ∀ t_, Steps p.tables e below (T7.setTop (mkF m 57 #[.val (.ref a1), .val (.int (1 : Int32)), .val (.long (own_step (1 : Int64) (own_vals q1))), .second, .val (.int (2 : Int32)), .val (.long (own_vals q2)), .second] [(.long zz0)])) t_ → Steps p.tables e below (T7.setTop (mkF m 44 #[.val (.ref a1), .val (.int (1 : Int32)), .val (.long (own_step (1 : Int64) (own_vals q1))), .second, .val (.int (2 : Int32)), .val (.long (own_vals q2)), .second] [(.int (lcmpW (own_step (1 : Int64) (own_vals q1)) ((9223372036854775807 : Int64) / (own_vals q2))))])) t_ := by
    intro zz0 hzz0 t_ k_; by_cases hc : ((9223372036854775807 : Int64) / (own_vals q2)) < (own_step (1 : Int64) (own_vals q1))
    · rw [hzz0.trans (if_pos hc)] at k_
      refine XS.ifNo X7.here hx rfl (hb hby d_prog_175_method_7_44) rfl ((if0 _ _).trans (tlt ((lw_gt (own_step (1 : Int64) (own_vals q1)) ((9223372036854775807 : Int64) / (own_vals q2))).mpr hc)).2.2.2) ?_
      refine X7.ldc2Long hx hown (mvT hZ (hw _ (List.mem_of_getElem? (i := 170) rfl))) (g := (mkF m 47 #[.val (.ref a1), .val (.int (1 : Int32)), .val (.long (own_step (1 : Int64) (own_vals q1))), .second, .val (.int (2 : Int32)), .val (.long (own_vals q2)), .second] [])) rfl (hb hby d_prog_175_method_7_47) _ ?_
      refine XS.goto X7.here hx rfl (pc0 := 50) (pc' := 57) rfl (hb hby d_prog_175_method_7_50) (by decide) (by decide) ?_
      exact k_
    · rw [hzz0.trans (if_neg hc)] at k_
      refine XS.ifYes X7.here hx rfl (pc0 := 44) (pc' := 53) rfl (hb hby d_prog_175_method_7_44) rfl ((if0 _ _).trans (flt (fun q => hc ((lw_gt (own_step (1 : Int64) (own_vals q1)) ((9223372036854775807 : Int64) / (own_vals q2))).mp q))).2.2.2) (by decide) (by decide) ?_
      refine XS.lloadN X7.here hx rfl (hb hby d_prog_175_method_7_53) rfl ?_
      refine XS.lload X7.here hx rfl (hb hby d_prog_175_method_7_54) rfl ?_
      show Steps _ _ _ (T7.setTop (mkF m 56 #[.val (.ref a1), .val (.int (1 : Int32)), .val (.long (own_step (1 : Int64) (own_vals q1))), .second, .val (.int (2 : Int32)), .val (.long (own_vals q2)), .second] [(.long (own_vals q2)), (.long (own_step (1 : Int64) (own_vals q1)))])) _
      refine XS.lmul X7.here hx rfl (hb hby d_prog_175_method_7_56) rfl ?_
      exact k_
  refine GoOn.st (dm8 _ rfl) ?_
  show GoOn _ _ _ _ (T7.setTop (mkF m 57 #[.val (.ref a1), .val (.int (1 : Int32)), .val (.long (own_step (1 : Int64) (own_vals q1))), .second, .val (.int (2 : Int32)), .val (.long (own_vals q2)), .second] [(.long (own_step (own_step (1 : Int64) (own_vals q1)) (own_vals q2)))]))
  refine GoOn.st (fun t_ k_ => XS.lstoreN X7.here hx rfl (hb hby d_prog_175_method_7_57) rfl (l' := #[.val (.ref a1), .val (.int (1 : Int32)), .val (.long (own_step (own_step (1 : Int64) (own_vals q1)) (own_vals q2))), .second, .val (.int (2 : Int32)), .val (.long (own_vals q2)), .second]) rfl k_) ?_
  refine GoOn.st (fun t_ k_ => XS.iinc X7.here hx rfl (hb hby d_prog_175_method_7_58) rfl (l' := #[.val (.ref a1), .val (.int (1 : Int32)), .val (.long (own_step (own_step (1 : Int64) (own_vals q1)) (own_vals q2))), .second, .val (.int (3 : Int32)), .val (.long (own_vals q2)), .second]) rfl k_) ?_
  refine GoOn.st (fun t_ k_ => XS.goto X7.here hx rfl (pc0 := 61) (pc' := 5) rfl (hb hby d_prog_175_method_7_61) (by decide) (by decide) k_) ?_
  refine GoOn.st (fun t_ k_ => XS.iload X7.here hx rfl (hb hby d_prog_175_method_7_5) rfl k_) ?_
  show GoOn _ _ _ _ (T7.setTop (mkF m 7 #[.val (.ref a1), .val (.int (1 : Int32)), .val (.long (own_step (own_step (1 : Int64) (own_vals q1)) (own_vals q2))), .second, .val (.int (3 : Int32)), .val (.long (own_vals q2)), .second] [(.int (3 : Int32))]))
  refine GoOn.st (fun t_ k_ => XS.aloadN X7.here hx rfl (hb hby d_prog_175_method_7_7) rfl rfl k_) ?_
  obtain ⟨T9, X9, e9, st9⟩ := getF X7 hx hZ hown (host := "") (Or.inl (hw _ (List.mem_of_getElem? (i := 95) rfl))) Via.refl e7 Frl (g := (mkF m 8 #[.val (.ref a1), .val (.int (1 : Int32)), .val (.long (own_step (own_step (1 : Int64) (own_vals q1)) (own_vals q2))), .second, .val (.int (3 : Int32)), .val (.long (own_vals q2)), .second] [(.ref a1), (.int (3 : Int32))])) rfl rfl (hb hby d_prog_175_method_7_8)
  refine GoOn.st st9 ?_
  refine GoOn.st (fun t_ k_ => own_arrlen X9 hx hZ e9 Vl (hb hby d_prog_175_method_7_11) _ k_) ?_
  refine GoOn.st (fun t_ k_ => XS.icmpYes X9.here hx rfl (pc0 := 12) (pc' := 64) rfl (hb hby d_prog_175_method_7_12) rfl (flt (by decide : ¬ ((3 : Int32) < (3 : Int32)))).2.1 (by decide) (by decide) k_) ?_
  show GoOn _ _ _ _ (T9.setTop (mkF m 64 #[.val (.ref a1), .val (.int (1 : Int32)), .val (.long (own_step (own_step (1 : Int64) (own_vals q1)) (own_vals q2))), .second, .val (.int (3 : Int32)), .val (.long (own_vals q2)), .second] []))
  refine GoOn.st (fun t_ k_ => XS.lloadN X9.here hx rfl (hb hby d_prog_175_method_7_64) rfl k_) ?_
  show GoOn _ _ _ _ (T9.setTop (mkF m 65 #[.val (.ref a1), .val (.int (1 : Int32)), .val (.long (own_step (own_step (1 : Int64) (own_vals q1)) (own_vals q2))), .second, .val (.int (3 : Int32)), .val (.long (own_vals q2)), .second] [(.long (own_step (own_step (1 : Int64) (own_vals q1)) (own_vals q2)))]))
  exact GoOn.retJ X9 hx hlk hret (hb hby d_prog_175_method_7_65) (by rw [e9]; exact ⟨rfl, rfl, rfl⟩) (by decide) (by decide)
theorem ef_val32 (m : MethodId) (x0 : Addr) (x1 : Int32) : entryFrame m #[(.ref x0), (.int x1)] 7 = mkF m 0 #[.val (.ref x0), .val (.int x1), .unset, .unset, .unset, .unset, .unset] [] := by first | (simp [entryFrame, mkF, argsToLocals, Value.category]; done) | rfl
set_option maxRecDepth 65536 in
set_option maxHeartbeats 40000000 in
theorem rm_val32 (l : Launch) (Z : State) (a0 : Array Value) (hw : ∀ d ∈ tables_1, d.before a0 Z = true) (a1 bl bh : Addr) (kl kh : ClassId) (q0 q1 q2 : Int64) (h0 : Heap) (Frl : Fld Z h0 a1 "com/example/tributary/tributary/semantics/Ranges" "low" "[I" (.ref bl)) (Frh : Fld Z h0 a1 "com/example/tributary/tributary/semantics/Ranges" "high" "[I" (.ref bh)) (Vl : Arv Z h0 bl kl .int (3 : Int32) [(.int (own_low q0)), (.int (own_low q1)), (.int (own_low q2))] (.int (0 : Int32))) (Vh : Arv Z h0 bh kh .int (3 : Int32) [(.int (own_high q0)), (.int (own_high q1)), (.int (own_high q2))] (.int (0 : Int32))) :
    OwCon l Z (⟨"com/example/tributary/tributary/semantics/Ranges", "valuations", "(I)J"⟩ : MethodName) prog_175_method_7_code 7 (some .long) [] ({ frames := 0, cells := 0, slots := 0, locals := 0 } : Room) #[(.ref a1), (.int (2 : Int32))] h0 (OwRet (some (.long (own_step (1 : Int64) (own_vals q2)))) h0) := by
  refine OwCon.of (plainFor_of_name pn_com_example_tributary_tributary_semantics_Ranges) ?_
  intro p e s m below meth cd_ s₁ X0 hx hby hml hret hlk hown hnm hZ e0
  refine GoOn.st (fun t_ k_ => castTop (ef_val32 m a1 (2 : Int32)) k_) ?_
  show GoOn _ _ _ _ (s₁.setTop (mkF m 0 #[.val (.ref a1), .val (.int (2 : Int32)), .unset, .unset, .unset, .unset, .unset] []))
  refine GoOn.st (fun t_ k_ => XS.lconst X0.here hx rfl (hb hby d_prog_175_method_7_0)  k_) ?_
  refine GoOn.st (fun t_ k_ => XS.lstoreN X0.here hx rfl (hb hby d_prog_175_method_7_1) rfl (l' := #[.val (.ref a1), .val (.int (2 : Int32)), .val (.long (1 : Int64)), .second, .unset, .unset, .unset]) rfl k_) ?_
  refine GoOn.st (fun t_ k_ => XS.iloadN X0.here hx rfl (hb hby d_prog_175_method_7_2) rfl k_) ?_
  refine GoOn.st (fun t_ k_ => XS.istore X0.here hx rfl (hb hby d_prog_175_method_7_3) rfl (l' := #[.val (.ref a1), .val (.int (2 : Int32)), .val (.long (1 : Int64)), .second, .val (.int (2 : Int32)), .unset, .unset]) rfl k_) ?_
  show GoOn _ _ _ _ (s₁.setTop (mkF m 5 #[.val (.ref a1), .val (.int (2 : Int32)), .val (.long (1 : Int64)), .second, .val (.int (2 : Int32)), .unset, .unset] []))
  refine GoOn.st (fun t_ k_ => XS.iload X0.here hx rfl (hb hby d_prog_175_method_7_5) rfl k_) ?_
  refine GoOn.st (fun t_ k_ => XS.aloadN X0.here hx rfl (hb hby d_prog_175_method_7_7) rfl rfl k_) ?_
  obtain ⟨T1, X1, e1, st1⟩ := getF X0 hx hZ hown (host := "") (Or.inl (hw _ (List.mem_of_getElem? (i := 95) rfl))) Via.refl e0 Frl (g := (mkF m 8 #[.val (.ref a1), .val (.int (2 : Int32)), .val (.long (1 : Int64)), .second, .val (.int (2 : Int32)), .unset, .unset] [(.ref a1), (.int (2 : Int32))])) rfl rfl (hb hby d_prog_175_method_7_8)
  refine GoOn.st st1 ?_
  refine GoOn.st (fun t_ k_ => own_arrlen X1 hx hZ e1 Vl (hb hby d_prog_175_method_7_11) _ k_) ?_
  show GoOn _ _ _ _ (T1.setTop (mkF m 12 #[.val (.ref a1), .val (.int (2 : Int32)), .val (.long (1 : Int64)), .second, .val (.int (2 : Int32)), .unset, .unset] [(.int (3 : Int32)), (.int (2 : Int32))]))
  refine GoOn.st (fun t_ k_ => XS.icmpNo X1.here hx rfl (hb hby d_prog_175_method_7_12) rfl (tlt (by decide : (2 : Int32) < (3 : Int32))).2.1 k_) ?_
  refine GoOn.st (fun t_ k_ => XS.aloadN X1.here hx rfl (hb hby d_prog_175_method_7_15) rfl rfl k_) ?_
  obtain ⟨T2, X2, e2, st2⟩ := getF X1 hx hZ hown (host := "") (Or.inl (hw _ (List.mem_of_getElem? (i := 97) rfl))) Via.refl e1 Frh (g := (mkF m 16 #[.val (.ref a1), .val (.int (2 : Int32)), .val (.long (1 : Int64)), .second, .val (.int (2 : Int32)), .unset, .unset] [(.ref a1)])) rfl rfl (hb hby d_prog_175_method_7_16)
  refine GoOn.st st2 ?_
  refine GoOn.st (fun t_ k_ => XS.iload X2.here hx rfl (hb hby d_prog_175_method_7_19) rfl k_) ?_
  show GoOn _ _ _ _ (T2.setTop (mkF m 21 #[.val (.ref a1), .val (.int (2 : Int32)), .val (.long (1 : Int64)), .second, .val (.int (2 : Int32)), .unset, .unset] [(.int (2 : Int32)), (.ref bh)]))
  refine GoOn.st (fun t_ k_ => own_iaload X2 hx hZ e2 Vh (j := (2 : Int32)) (by decide) (v := (.int (own_high q2))) rfl (hb hby d_prog_175_method_7_21) _ k_) ?_
  refine GoOn.st (fun t_ k_ => XS.i2l X2.here hx rfl (hb hby d_prog_175_method_7_22) rfl k_) ?_
  refine GoOn.st (fun t_ k_ => XS.aloadN X2.here hx rfl (hb hby d_prog_175_method_7_23) rfl rfl k_) ?_
  obtain ⟨T3, X3, e3, st3⟩ := getF X2 hx hZ hown (host := "") (Or.inl (hw _ (List.mem_of_getElem? (i := 95) rfl))) Via.refl e2 Frl (g := (mkF m 24 #[.val (.ref a1), .val (.int (2 : Int32)), .val (.long (1 : Int64)), .second, .val (.int (2 : Int32)), .unset, .unset] [(.ref a1), (.long (((own_high q2)).toInt64))])) rfl rfl (hb hby d_prog_175_method_7_24)
  refine GoOn.st st3 ?_
  show GoOn _ _ _ _ (T3.setTop (mkF m 27 #[.val (.ref a1), .val (.int (2 : Int32)), .val (.long (1 : Int64)), .second, .val (.int (2 : Int32)), .unset, .unset] [(.ref bl), (.long (((own_high q2)).toInt64))]))
  refine GoOn.st (fun t_ k_ => XS.iload X3.here hx rfl (hb hby d_prog_175_method_7_27) rfl k_) ?_
  refine GoOn.st (fun t_ k_ => own_iaload X3 hx hZ e3 Vl (j := (2 : Int32)) (by decide) (v := (.int (own_low q2))) rfl (hb hby d_prog_175_method_7_29) _ k_) ?_
  refine GoOn.st (fun t_ k_ => XS.i2l X3.here hx rfl (hb hby d_prog_175_method_7_30) rfl k_) ?_
  refine GoOn.st (fun t_ k_ => XS.lsub X3.here hx rfl (hb hby d_prog_175_method_7_31) rfl k_) ?_
  show GoOn _ _ _ _ (T3.setTop (mkF m 32 #[.val (.ref a1), .val (.int (2 : Int32)), .val (.long (1 : Int64)), .second, .val (.int (2 : Int32)), .unset, .unset] [(.long ((((own_high q2)).toInt64) - (((own_low q2)).toInt64)))]))
  refine GoOn.st (fun t_ k_ => XS.lconst X3.here hx rfl (hb hby d_prog_175_method_7_32)  k_) ?_
  refine GoOn.st (fun t_ k_ => XS.ladd X3.here hx rfl (hb hby d_prog_175_method_7_33) rfl k_) ?_
  refine GoOn.st (fun t_ k_ => XS.lstore X3.here hx rfl (hb hby d_prog_175_method_7_34) rfl (l' := #[.val (.ref a1), .val (.int (2 : Int32)), .val (.long (1 : Int64)), .second, .val (.int (2 : Int32)), .val (.long (((((own_high q2)).toInt64) - (((own_low q2)).toInt64)) + (1 : Int64))), .second]) rfl k_) ?_
  show GoOn _ _ _ _ (T3.setTop (mkF m 36 #[.val (.ref a1), .val (.int (2 : Int32)), .val (.long (1 : Int64)), .second, .val (.int (2 : Int32)), .val (.long (own_vals q2)), .second] []))
  refine GoOn.st (fun t_ k_ => XS.lloadN X3.here hx rfl (hb hby d_prog_175_method_7_36) rfl k_) ?_
  refine GoOn.st (fun t_ k_ => X3.ldc2Long hx hown (mvT hZ (hw _ (List.mem_of_getElem? (i := 170) rfl))) (g := (mkF m 37 #[.val (.ref a1), .val (.int (2 : Int32)), .val (.long (1 : Int64)), .second, .val (.int (2 : Int32)), .val (.long (own_vals q2)), .second] [(.long (1 : Int64))])) rfl (hb hby d_prog_175_method_7_37) _ k_) ?_
  refine GoOn.st (fun t_ k_ => XS.lload X3.here hx rfl (hb hby d_prog_175_method_7_40) rfl k_) ?_
  refine GoOn.st (fun t_ k_ => XS.ldiv X3.here hx rfl (hb hby d_prog_175_method_7_42) rfl (own_in_nz (own_in_vals q2)) k_) ?_
  show GoOn _ _ _ _ (T3.setTop (mkF m 43 #[.val (.ref a1), .val (.int (2 : Int32)), .val (.long (1 : Int64)), .second, .val (.int (2 : Int32)), .val (.long (own_vals q2)), .second] [(.long ((9223372036854775807 : Int64) / (own_vals q2))), (.long (1 : Int64))]))
  refine GoOn.st (fun t_ k_ => XS.lcmp X3.here hx rfl (hb hby d_prog_175_method_7_43) rfl k_) ?_
  have dm4 : ∀ zz0 : Int64, zz0 = (if ((9223372036854775807 : Int64) / (own_vals q2)) < (1 : Int64) then (9223372036854775807 : Int64) else ((1 : Int64) * (own_vals q2))) → ∀ t_, Steps p.tables e below (T3.setTop (mkF m 57 #[.val (.ref a1), .val (.int (2 : Int32)), .val (.long (1 : Int64)), .second, .val (.int (2 : Int32)), .val (.long (own_vals q2)), .second] [(.long zz0)])) t_ → Steps p.tables e below (T3.setTop (mkF m 44 #[.val (.ref a1), .val (.int (2 : Int32)), .val (.long (1 : Int64)), .second, .val (.int (2 : Int32)), .val (.long (own_vals q2)), .second] [(.int (lcmpW (1 : Int64) ((9223372036854775807 : Int64) / (own_vals q2))))])) t_ := by
    intro zz0 hzz0 t_ k_; by_cases hc : ((9223372036854775807 : Int64) / (own_vals q2)) < (1 : Int64)
    · rw [hzz0.trans (if_pos hc)] at k_
      refine XS.ifNo X3.here hx rfl (hb hby d_prog_175_method_7_44) rfl ((if0 _ _).trans (tlt ((lw_gt (1 : Int64) ((9223372036854775807 : Int64) / (own_vals q2))).mpr hc)).2.2.2) ?_
      refine X3.ldc2Long hx hown (mvT hZ (hw _ (List.mem_of_getElem? (i := 170) rfl))) (g := (mkF m 47 #[.val (.ref a1), .val (.int (2 : Int32)), .val (.long (1 : Int64)), .second, .val (.int (2 : Int32)), .val (.long (own_vals q2)), .second] [])) rfl (hb hby d_prog_175_method_7_47) _ ?_
      refine XS.goto X3.here hx rfl (pc0 := 50) (pc' := 57) rfl (hb hby d_prog_175_method_7_50) (by decide) (by decide) ?_
      exact k_
    · rw [hzz0.trans (if_neg hc)] at k_
      refine XS.ifYes X3.here hx rfl (pc0 := 44) (pc' := 53) rfl (hb hby d_prog_175_method_7_44) rfl ((if0 _ _).trans (flt (fun q => hc ((lw_gt (1 : Int64) ((9223372036854775807 : Int64) / (own_vals q2))).mp q))).2.2.2) (by decide) (by decide) ?_
      refine XS.lloadN X3.here hx rfl (hb hby d_prog_175_method_7_53) rfl ?_
      refine XS.lload X3.here hx rfl (hb hby d_prog_175_method_7_54) rfl ?_
      show Steps _ _ _ (T3.setTop (mkF m 56 #[.val (.ref a1), .val (.int (2 : Int32)), .val (.long (1 : Int64)), .second, .val (.int (2 : Int32)), .val (.long (own_vals q2)), .second] [(.long (own_vals q2)), (.long (1 : Int64))])) _
      refine XS.lmul X3.here hx rfl (hb hby d_prog_175_method_7_56) rfl ?_
      exact k_
  refine GoOn.st (dm4 _ rfl) ?_
  show GoOn _ _ _ _ (T3.setTop (mkF m 57 #[.val (.ref a1), .val (.int (2 : Int32)), .val (.long (1 : Int64)), .second, .val (.int (2 : Int32)), .val (.long (own_vals q2)), .second] [(.long (own_step (1 : Int64) (own_vals q2)))]))
  refine GoOn.st (fun t_ k_ => XS.lstoreN X3.here hx rfl (hb hby d_prog_175_method_7_57) rfl (l' := #[.val (.ref a1), .val (.int (2 : Int32)), .val (.long (own_step (1 : Int64) (own_vals q2))), .second, .val (.int (2 : Int32)), .val (.long (own_vals q2)), .second]) rfl k_) ?_
  refine GoOn.st (fun t_ k_ => XS.iinc X3.here hx rfl (hb hby d_prog_175_method_7_58) rfl (l' := #[.val (.ref a1), .val (.int (2 : Int32)), .val (.long (own_step (1 : Int64) (own_vals q2))), .second, .val (.int (3 : Int32)), .val (.long (own_vals q2)), .second]) rfl k_) ?_
  refine GoOn.st (fun t_ k_ => XS.goto X3.here hx rfl (pc0 := 61) (pc' := 5) rfl (hb hby d_prog_175_method_7_61) (by decide) (by decide) k_) ?_
  refine GoOn.st (fun t_ k_ => XS.iload X3.here hx rfl (hb hby d_prog_175_method_7_5) rfl k_) ?_
  show GoOn _ _ _ _ (T3.setTop (mkF m 7 #[.val (.ref a1), .val (.int (2 : Int32)), .val (.long (own_step (1 : Int64) (own_vals q2))), .second, .val (.int (3 : Int32)), .val (.long (own_vals q2)), .second] [(.int (3 : Int32))]))
  refine GoOn.st (fun t_ k_ => XS.aloadN X3.here hx rfl (hb hby d_prog_175_method_7_7) rfl rfl k_) ?_
  obtain ⟨T5, X5, e5, st5⟩ := getF X3 hx hZ hown (host := "") (Or.inl (hw _ (List.mem_of_getElem? (i := 95) rfl))) Via.refl e3 Frl (g := (mkF m 8 #[.val (.ref a1), .val (.int (2 : Int32)), .val (.long (own_step (1 : Int64) (own_vals q2))), .second, .val (.int (3 : Int32)), .val (.long (own_vals q2)), .second] [(.ref a1), (.int (3 : Int32))])) rfl rfl (hb hby d_prog_175_method_7_8)
  refine GoOn.st st5 ?_
  refine GoOn.st (fun t_ k_ => own_arrlen X5 hx hZ e5 Vl (hb hby d_prog_175_method_7_11) _ k_) ?_
  refine GoOn.st (fun t_ k_ => XS.icmpYes X5.here hx rfl (pc0 := 12) (pc' := 64) rfl (hb hby d_prog_175_method_7_12) rfl (flt (by decide : ¬ ((3 : Int32) < (3 : Int32)))).2.1 (by decide) (by decide) k_) ?_
  show GoOn _ _ _ _ (T5.setTop (mkF m 64 #[.val (.ref a1), .val (.int (2 : Int32)), .val (.long (own_step (1 : Int64) (own_vals q2))), .second, .val (.int (3 : Int32)), .val (.long (own_vals q2)), .second] []))
  refine GoOn.st (fun t_ k_ => XS.lloadN X5.here hx rfl (hb hby d_prog_175_method_7_64) rfl k_) ?_
  show GoOn _ _ _ _ (T5.setTop (mkF m 65 #[.val (.ref a1), .val (.int (2 : Int32)), .val (.long (own_step (1 : Int64) (own_vals q2))), .second, .val (.int (3 : Int32)), .val (.long (own_vals q2)), .second] [(.long (own_step (1 : Int64) (own_vals q2)))]))
  exact GoOn.retJ X5 hx hlk hret (hb hby d_prog_175_method_7_65) (by rw [e5]; exact ⟨rfl, rfl, rfl⟩) (by decide) (by decide)
theorem ef_val33 (m : MethodId) (x0 : Addr) (x1 : Int32) : entryFrame m #[(.ref x0), (.int x1)] 7 = mkF m 0 #[.val (.ref x0), .val (.int x1), .unset, .unset, .unset, .unset, .unset] [] := by first | (simp [entryFrame, mkF, argsToLocals, Value.category]; done) | rfl
set_option maxRecDepth 65536 in
set_option maxHeartbeats 40000000 in
theorem rm_val33 (l : Launch) (Z : State) (a0 : Array Value) (hw : ∀ d ∈ tables_1, d.before a0 Z = true) (a1 bl bh : Addr) (kl kh : ClassId) (q0 q1 q2 : Int64) (h0 : Heap) (Frl : Fld Z h0 a1 "com/example/tributary/tributary/semantics/Ranges" "low" "[I" (.ref bl)) (Frh : Fld Z h0 a1 "com/example/tributary/tributary/semantics/Ranges" "high" "[I" (.ref bh)) (Vl : Arv Z h0 bl kl .int (3 : Int32) [(.int (own_low q0)), (.int (own_low q1)), (.int (own_low q2))] (.int (0 : Int32))) (Vh : Arv Z h0 bh kh .int (3 : Int32) [(.int (own_high q0)), (.int (own_high q1)), (.int (own_high q2))] (.int (0 : Int32))) :
    OwCon l Z (⟨"com/example/tributary/tributary/semantics/Ranges", "valuations", "(I)J"⟩ : MethodName) prog_175_method_7_code 7 (some .long) [] ({ frames := 0, cells := 0, slots := 0, locals := 0 } : Room) #[(.ref a1), (.int (3 : Int32))] h0 (OwRet (some (.long (1 : Int64))) h0) := by
  refine OwCon.of (plainFor_of_name pn_com_example_tributary_tributary_semantics_Ranges) ?_
  intro p e s m below meth cd_ s₁ X0 hx hby hml hret hlk hown hnm hZ e0
  refine GoOn.st (fun t_ k_ => castTop (ef_val33 m a1 (3 : Int32)) k_) ?_
  show GoOn _ _ _ _ (s₁.setTop (mkF m 0 #[.val (.ref a1), .val (.int (3 : Int32)), .unset, .unset, .unset, .unset, .unset] []))
  refine GoOn.st (fun t_ k_ => XS.lconst X0.here hx rfl (hb hby d_prog_175_method_7_0)  k_) ?_
  refine GoOn.st (fun t_ k_ => XS.lstoreN X0.here hx rfl (hb hby d_prog_175_method_7_1) rfl (l' := #[.val (.ref a1), .val (.int (3 : Int32)), .val (.long (1 : Int64)), .second, .unset, .unset, .unset]) rfl k_) ?_
  refine GoOn.st (fun t_ k_ => XS.iloadN X0.here hx rfl (hb hby d_prog_175_method_7_2) rfl k_) ?_
  refine GoOn.st (fun t_ k_ => XS.istore X0.here hx rfl (hb hby d_prog_175_method_7_3) rfl (l' := #[.val (.ref a1), .val (.int (3 : Int32)), .val (.long (1 : Int64)), .second, .val (.int (3 : Int32)), .unset, .unset]) rfl k_) ?_
  show GoOn _ _ _ _ (s₁.setTop (mkF m 5 #[.val (.ref a1), .val (.int (3 : Int32)), .val (.long (1 : Int64)), .second, .val (.int (3 : Int32)), .unset, .unset] []))
  refine GoOn.st (fun t_ k_ => XS.iload X0.here hx rfl (hb hby d_prog_175_method_7_5) rfl k_) ?_
  refine GoOn.st (fun t_ k_ => XS.aloadN X0.here hx rfl (hb hby d_prog_175_method_7_7) rfl rfl k_) ?_
  obtain ⟨T1, X1, e1, st1⟩ := getF X0 hx hZ hown (host := "") (Or.inl (hw _ (List.mem_of_getElem? (i := 95) rfl))) Via.refl e0 Frl (g := (mkF m 8 #[.val (.ref a1), .val (.int (3 : Int32)), .val (.long (1 : Int64)), .second, .val (.int (3 : Int32)), .unset, .unset] [(.ref a1), (.int (3 : Int32))])) rfl rfl (hb hby d_prog_175_method_7_8)
  refine GoOn.st st1 ?_
  refine GoOn.st (fun t_ k_ => own_arrlen X1 hx hZ e1 Vl (hb hby d_prog_175_method_7_11) _ k_) ?_
  show GoOn _ _ _ _ (T1.setTop (mkF m 12 #[.val (.ref a1), .val (.int (3 : Int32)), .val (.long (1 : Int64)), .second, .val (.int (3 : Int32)), .unset, .unset] [(.int (3 : Int32)), (.int (3 : Int32))]))
  refine GoOn.st (fun t_ k_ => XS.icmpYes X1.here hx rfl (pc0 := 12) (pc' := 64) rfl (hb hby d_prog_175_method_7_12) rfl (flt (by decide : ¬ ((3 : Int32) < (3 : Int32)))).2.1 (by decide) (by decide) k_) ?_
  refine GoOn.st (fun t_ k_ => XS.lloadN X1.here hx rfl (hb hby d_prog_175_method_7_64) rfl k_) ?_
  show GoOn _ _ _ _ (T1.setTop (mkF m 65 #[.val (.ref a1), .val (.int (3 : Int32)), .val (.long (1 : Int64)), .second, .val (.int (3 : Int32)), .unset, .unset] [(.long (1 : Int64))]))
  exact GoOn.retJ X1 hx hlk hret (hb hby d_prog_175_method_7_65) (by rw [e1]; exact ⟨rfl, rfl, rfl⟩) (by decide) (by decide)
theorem ef_facY (m : MethodId) (x0 : Int64) (x1 : Int32) (x2 : Int32) (x3 : Int32) : entryFrame m #[(.long x0), (.int x1), (.int x2), (.int x3)] 5 = mkF m 0 #[.val (.long x0), .second, .val (.int x1), .val (.int x2), .val (.int x3)] [] := by first | (simp [entryFrame, mkF, argsToLocals, Value.category]; done) | rfl
theorem d_method_6_0 : decode method_6_code 0 = .ok (.iload_n 3, 1) := by decide +kernel
theorem d_method_6_1 : decode method_6_code 1 = .ok (.iload_n 2, 1) := by decide +kernel
theorem d_method_6_2 : decode method_6_code 2 = .ok (.if_icmp .gt 23, 3) := by decide +kernel
theorem d_method_6_5 : decode method_6_code 5 = .ok (.iload_n 2, 1) := by decide +kernel
theorem d_method_6_6 : decode method_6_code 6 = .ok (.iload 4, 2) := by decide +kernel
theorem d_method_6_8 : decode method_6_code 8 = .ok (.if_icmp .ge 17, 3) := by decide +kernel
theorem d_method_6_11 : decode method_6_code 11 = .ok (.lload_n 0, 1) := by decide +kernel
theorem d_method_6_12 : decode method_6_code 12 = .ok (.invokestatic 51, 3) := by decide +kernel
theorem d_method_6_15 : decode method_6_code 15 = .ok (.i2l, 1) := by decide +kernel
theorem d_method_6_16 : decode method_6_code 16 = .ok (.lload_n 0, 1) := by decide +kernel
theorem d_method_6_17 : decode method_6_code 17 = .ok (.invokestatic 47, 3) := by decide +kernel
theorem d_method_6_20 : decode method_6_code 20 = .ok (.i2l, 1) := by decide +kernel
theorem d_method_6_21 : decode method_6_code 21 = .ok (.lsub, 1) := by decide +kernel
theorem d_method_6_22 : decode method_6_code 22 = .ok (.lconst 1, 1) := by decide +kernel
theorem d_method_6_23 : decode method_6_code 23 = .ok (.ladd, 1) := by decide +kernel
theorem d_method_6_24 : decode method_6_code 24 = .ok (.lreturn, 1) := by decide +kernel
set_option maxRecDepth 65536 in
set_option maxHeartbeats 40000000 in
theorem rm_facY (l : Launch) (Z : State) (a0 : Array Value) (hw : ∀ d ∈ tables_1, d.before a0 Z = true) (q1 : Int64) (p1 p2 p3 : Int32) (h0 : Heap) (h1 : ¬ p1 < p2) (h2 : p1 < p3) :
    OwCon l Z (⟨"com/example/tributary/tributary/semantics/RangesValuationsPinLaw", "factor", "(JIII)J"⟩ : MethodName) method_6_code 5 (some .long) [] ({ frames := 2, cells := 0, slots := 0, locals := 28 } : Room) #[(.long q1), (.int p1), (.int p2), (.int p3)] h0 (OwRet (some (.long (own_vals q1))) h0) := by
  refine OwCon.of (plainFor_of_name pn_com_example_tributary_tributary_semantics_RangesValuationsPinLaw) ?_
  intro p e s m below meth cd_ s₁ X0 hx hby hml hret hlk hown hnm hZ e0
  refine GoOn.st (fun t_ k_ => castTop (ef_facY m q1 p1 p2 p3) k_) ?_
  show GoOn _ _ _ _ (s₁.setTop (mkF m 0 #[.val (.long q1), .second, .val (.int p1), .val (.int p2), .val (.int p3)] []))
  refine GoOn.st (fun t_ k_ => XS.iloadN X0.here hx rfl (hb hby d_method_6_0) rfl k_) ?_
  refine GoOn.st (fun t_ k_ => XS.iloadN X0.here hx rfl (hb hby d_method_6_1) rfl k_) ?_
  refine GoOn.st (fun t_ k_ => XS.icmpNo X0.here hx rfl (hb hby d_method_6_2) rfl (flt h1).2.2.1 k_) ?_
  refine GoOn.st (fun t_ k_ => XS.iloadN X0.here hx rfl (hb hby d_method_6_5) rfl k_) ?_
  show GoOn _ _ _ _ (s₁.setTop (mkF m 6 #[.val (.long q1), .second, .val (.int p1), .val (.int p2), .val (.int p3)] [(.int p1)]))
  refine GoOn.st (fun t_ k_ => XS.iload X0.here hx rfl (hb hby d_method_6_6) rfl k_) ?_
  refine GoOn.st (fun t_ k_ => XS.icmpNo X0.here hx rfl (hb hby d_method_6_8) rfl (tlt h2).2.1 k_) ?_
  refine GoOn.st (fun t_ k_ => XS.lloadN X0.here hx rfl (hb hby d_method_6_11) rfl k_) ?_
  show GoOn _ _ _ _ (s₁.setTop (mkF m 12 #[.val (.long q1), .second, .val (.int p1), .val (.int p2), .val (.int p3)] [(.long q1)]))
  refine GoOn.callS (W := 0) (argsL := [(.long q1)]) (rest := []) X0 hx hZ hown (hw _ (List.mem_of_getElem? (i := 25) rfl)) (hw _ (List.mem_of_getElem? (i := 26) rfl)) (hw _ (List.mem_of_getElem? (i := 2) rfl)) (hw _ (List.mem_of_getElem? (i := 27) rfl)) (by decide) (rm_high l Z a0 hw q1 h0) e0 (by decide) (by decide) (by rw [hml]; rfl) pd_2 rfl rfl (Nat.le_of_eq rfl) (hb hby d_method_6_12) (by decide) (by decide) ?_
  rintro _ T1 L1 X1 ⟨rfl, rfl, e1⟩
  rw [List.append_nil] at X1
  refine GoOn.st (fun t_ k_ => XS.i2l X1.here hx rfl (hb hby d_method_6_15) rfl k_) ?_
  refine GoOn.st (fun t_ k_ => XS.lloadN X1.here hx rfl (hb hby d_method_6_16) rfl k_) ?_
  show GoOn _ _ _ _ (T1.setTop (mkF m 17 #[.val (.long q1), .second, .val (.int p1), .val (.int p2), .val (.int p3)] [(.long q1), (.long (((own_high q1)).toInt64))]))
  refine GoOn.callS (W := 2) (argsL := [(.long q1)]) (rest := [(.long (((own_high q1)).toInt64))]) X1 hx hZ hown (hw _ (List.mem_of_getElem? (i := 18) rfl)) (hw _ (List.mem_of_getElem? (i := 19) rfl)) (hw _ (List.mem_of_getElem? (i := 2) rfl)) (hw _ (List.mem_of_getElem? (i := 20) rfl)) (by decide) (rm_low l Z a0 hw q1 h0) e1 (by decide) (by decide) (by rw [hml]; rfl) pd_2 rfl rfl (Nat.le_of_eq rfl) (hb hby d_method_6_17) (by decide) (by decide) ?_
  rintro _ T2 L2 X2 ⟨rfl, rfl, e2⟩
  rw [List.append_nil] at X2
  refine GoOn.st (fun t_ k_ => XS.i2l X2.here hx rfl (hb hby d_method_6_20) rfl k_) ?_
  refine GoOn.st (fun t_ k_ => XS.lsub X2.here hx rfl (hb hby d_method_6_21) rfl k_) ?_
  refine GoOn.st (fun t_ k_ => XS.lconst X2.here hx rfl (hb hby d_method_6_22)  k_) ?_
  show GoOn _ _ _ _ (T2.setTop (mkF m 23 #[.val (.long q1), .second, .val (.int p1), .val (.int p2), .val (.int p3)] [(.long (1 : Int64)), (.long ((((own_high q1)).toInt64) - (((own_low q1)).toInt64)))]))
  refine GoOn.st (fun t_ k_ => XS.ladd X2.here hx rfl (hb hby d_method_6_23) rfl k_) ?_
  show GoOn _ _ _ _ (T2.setTop (mkF m 24 #[.val (.long q1), .second, .val (.int p1), .val (.int p2), .val (.int p3)] [(.long (((((own_high q1)).toInt64) - (((own_low q1)).toInt64)) + (1 : Int64)))]))
  exact GoOn.retJ X2 hx hlk hret (hb hby d_method_6_24) (by rw [e2]; exact ⟨rfl, rfl, rfl⟩) (by decide) (by decide)
theorem ef_facN (m : MethodId) (x0 : Int64) (x1 : Int32) (x2 : Int32) (x3 : Int32) : entryFrame m #[(.long x0), (.int x1), (.int x2), (.int x3)] 5 = mkF m 0 #[.val (.long x0), .second, .val (.int x1), .val (.int x2), .val (.int x3)] [] := by first | (simp [entryFrame, mkF, argsToLocals, Value.category]; done) | rfl
theorem d_method_6_25 : decode method_6_code 25 = .ok (.lconst 1, 1) := by decide +kernel
theorem d_method_6_26 : decode method_6_code 26 = .ok (.lreturn, 1) := by decide +kernel
set_option maxRecDepth 65536 in
set_option maxHeartbeats 40000000 in
theorem rm_facN (l : Launch) (Z : State) (a0 : Array Value) (hw : ∀ d ∈ tables_1, d.before a0 Z = true) (q1 : Int64) (p1 p2 p3 : Int32) (h0 : Heap) (h1 : ¬ p1 < p2) (h2 : ¬ p1 < p3) :
    OwCon l Z (⟨"com/example/tributary/tributary/semantics/RangesValuationsPinLaw", "factor", "(JIII)J"⟩ : MethodName) method_6_code 5 (some .long) [] ({ frames := 0, cells := 0, slots := 0, locals := 0 } : Room) #[(.long q1), (.int p1), (.int p2), (.int p3)] h0 (OwRet (some (.long 1)) h0) := by
  refine OwCon.of (plainFor_of_name pn_com_example_tributary_tributary_semantics_RangesValuationsPinLaw) ?_
  intro p e s m below meth cd_ s₁ X0 hx hby hml hret hlk hown hnm hZ e0
  refine GoOn.st (fun t_ k_ => castTop (ef_facN m q1 p1 p2 p3) k_) ?_
  show GoOn _ _ _ _ (s₁.setTop (mkF m 0 #[.val (.long q1), .second, .val (.int p1), .val (.int p2), .val (.int p3)] []))
  refine GoOn.st (fun t_ k_ => XS.iloadN X0.here hx rfl (hb hby d_method_6_0) rfl k_) ?_
  refine GoOn.st (fun t_ k_ => XS.iloadN X0.here hx rfl (hb hby d_method_6_1) rfl k_) ?_
  refine GoOn.st (fun t_ k_ => XS.icmpNo X0.here hx rfl (hb hby d_method_6_2) rfl (flt h1).2.2.1 k_) ?_
  refine GoOn.st (fun t_ k_ => XS.iloadN X0.here hx rfl (hb hby d_method_6_5) rfl k_) ?_
  show GoOn _ _ _ _ (s₁.setTop (mkF m 6 #[.val (.long q1), .second, .val (.int p1), .val (.int p2), .val (.int p3)] [(.int p1)]))
  refine GoOn.st (fun t_ k_ => XS.iload X0.here hx rfl (hb hby d_method_6_6) rfl k_) ?_
  refine GoOn.st (fun t_ k_ => XS.icmpYes X0.here hx rfl (pc0 := 8) (pc' := 25) rfl (hb hby d_method_6_8) rfl (flt h2).2.1 (by decide) (by decide) k_) ?_
  refine GoOn.st (fun t_ k_ => XS.lconst X0.here hx rfl (hb hby d_method_6_25)  k_) ?_
  show GoOn _ _ _ _ (s₁.setTop (mkF m 26 #[.val (.long q1), .second, .val (.int p1), .val (.int p2), .val (.int p3)] [(.long (1 : Int64))]))
  exact GoOn.retJ X0 hx hlk hret (hb hby d_method_6_26) (by rw [e0]; exact ⟨rfl, rfl, rfl⟩) (by decide) (by decide)
theorem ef_facM (m : MethodId) (x0 : Int64) (x1 : Int32) (x2 : Int32) (x3 : Int32) : entryFrame m #[(.long x0), (.int x1), (.int x2), (.int x3)] 5 = mkF m 0 #[.val (.long x0), .second, .val (.int x1), .val (.int x2), .val (.int x3)] [] := by first | (simp [entryFrame, mkF, argsToLocals, Value.category]; done) | rfl
set_option maxRecDepth 65536 in
set_option maxHeartbeats 40000000 in
theorem rm_facM (l : Launch) (Z : State) (a0 : Array Value) (hw : ∀ d ∈ tables_1, d.before a0 Z = true) (q1 : Int64) (p1 p2 p3 : Int32) (h0 : Heap) (h1 : p1 < p2) :
    OwCon l Z (⟨"com/example/tributary/tributary/semantics/RangesValuationsPinLaw", "factor", "(JIII)J"⟩ : MethodName) method_6_code 5 (some .long) [] ({ frames := 0, cells := 0, slots := 0, locals := 0 } : Room) #[(.long q1), (.int p1), (.int p2), (.int p3)] h0 (OwRet (some (.long 1)) h0) := by
  refine OwCon.of (plainFor_of_name pn_com_example_tributary_tributary_semantics_RangesValuationsPinLaw) ?_
  intro p e s m below meth cd_ s₁ X0 hx hby hml hret hlk hown hnm hZ e0
  refine GoOn.st (fun t_ k_ => castTop (ef_facM m q1 p1 p2 p3) k_) ?_
  show GoOn _ _ _ _ (s₁.setTop (mkF m 0 #[.val (.long q1), .second, .val (.int p1), .val (.int p2), .val (.int p3)] []))
  refine GoOn.st (fun t_ k_ => XS.iloadN X0.here hx rfl (hb hby d_method_6_0) rfl k_) ?_
  refine GoOn.st (fun t_ k_ => XS.iloadN X0.here hx rfl (hb hby d_method_6_1) rfl k_) ?_
  refine GoOn.st (fun t_ k_ => XS.icmpYes X0.here hx rfl (pc0 := 2) (pc' := 25) rfl (hb hby d_method_6_2) rfl (tlt h1).2.2.1 (by decide) (by decide) k_) ?_
  refine GoOn.st (fun t_ k_ => XS.lconst X0.here hx rfl (hb hby d_method_6_25)  k_) ?_
  show GoOn _ _ _ _ (s₁.setTop (mkF m 26 #[.val (.long q1), .second, .val (.int p1), .val (.int p2), .val (.int p3)] [(.long (1 : Int64))]))
  exact GoOn.retJ X0 hx hlk hret (hb hby d_method_6_26) (by rw [e0]; exact ⟨rfl, rfl, rfl⟩) (by decide) (by decide)
theorem ef_sat (m : MethodId) (x0 : Int64) (x1 : Int64) (x2 : Int64) : entryFrame m #[(.long x0), (.long x1), (.long x2)] 8 = mkF m 0 #[.val (.long x0), .second, .val (.long x1), .second, .val (.long x2), .second, .unset, .unset] [] := by first | (simp [entryFrame, mkF, argsToLocals, Value.category]; done) | rfl
theorem d_method_7_0 : decode method_7_code 0 = .ok (.lload_n 0, 1) := by decide +kernel
theorem d_method_7_1 : decode method_7_code 1 = .ok (.lload_n 2, 1) := by decide +kernel
theorem d_method_7_2 : decode method_7_code 2 = .ok (.lmul, 1) := by decide +kernel
theorem d_method_7_3 : decode method_7_code 3 = .ok (.lstore 6, 2) := by decide +kernel
theorem d_method_7_5 : decode method_7_code 5 = .ok (.lload 6, 2) := by decide +kernel
theorem d_method_7_7 : decode method_7_code 7 = .ok (.lconst 0, 1) := by decide +kernel
theorem d_method_7_8 : decode method_7_code 8 = .ok (.lcmp, 1) := by decide +kernel
theorem d_method_7_9 : decode method_7_code 9 = .ok (.ifCond .gt 7, 3) := by decide +kernel
theorem d_method_7_16 : decode method_7_code 16 = .ok (.lload 6, 2) := by decide +kernel
theorem d_method_7_18 : decode method_7_code 18 = .ok (.ldc2_w 68, 3) := by decide +kernel
theorem d_method_7_21 : decode method_7_code 21 = .ok (.lload 4, 2) := by decide +kernel
theorem d_method_7_23 : decode method_7_code 23 = .ok (.ldiv, 1) := by decide +kernel
theorem d_method_7_24 : decode method_7_code 24 = .ok (.lcmp, 1) := by decide +kernel
theorem d_method_7_25 : decode method_7_code 25 = .ok (.ifCond .le 7, 3) := by decide +kernel
theorem d_method_7_28 : decode method_7_code 28 = .ok (.ldc2_w 68, 3) := by decide +kernel
theorem d_method_7_31 : decode method_7_code 31 = .ok (.lreturn, 1) := by decide +kernel
theorem d_method_7_32 : decode method_7_code 32 = .ok (.lload 6, 2) := by decide +kernel
theorem d_method_7_34 : decode method_7_code 34 = .ok (.lload 4, 2) := by decide +kernel
theorem d_method_7_36 : decode method_7_code 36 = .ok (.lmul, 1) := by decide +kernel
theorem d_method_7_37 : decode method_7_code 37 = .ok (.lreturn, 1) := by decide +kernel
theorem d_method_7_12 : decode method_7_code 12 = .ok (.ldc2_w 68, 3) := by decide +kernel
theorem d_method_7_15 : decode method_7_code 15 = .ok (.lreturn, 1) := by decide +kernel
set_option maxRecDepth 65536 in
set_option maxHeartbeats 40000000 in
theorem rm_sat (l : Launch) (Z : State) (a0 : Array Value) (hw : ∀ d ∈ tables_1, d.before a0 Z = true) (q1 q2 q3 : Int64) (h0 : Heap) (h3 : own_in q3) :
    OwCon l Z (⟨"com/example/tributary/tributary/semantics/RangesValuationsPinLaw", "saturated", "(JJJ)J"⟩ : MethodName) method_7_code 8 (some .long) [] ({ frames := 0, cells := 0, slots := 0, locals := 0 } : Room) #[(.long q1), (.long q2), (.long q3)] h0 (OwRet (some (.long (own_sat q1 q2 q3))) h0) := by
  refine OwCon.of (plainFor_of_name pn_com_example_tributary_tributary_semantics_RangesValuationsPinLaw) ?_
  intro p e s m below meth cd_ s₁ X0 hx hby hml hret hlk hown hnm hZ e0
  refine GoOn.st (fun t_ k_ => castTop (ef_sat m q1 q2 q3) k_) ?_
  show GoOn _ _ _ _ (s₁.setTop (mkF m 0 #[.val (.long q1), .second, .val (.long q2), .second, .val (.long q3), .second, .unset, .unset] []))
  refine GoOn.st (fun t_ k_ => XS.lloadN X0.here hx rfl (hb hby d_method_7_0) rfl k_) ?_
  refine GoOn.st (fun t_ k_ => XS.lloadN X0.here hx rfl (hb hby d_method_7_1) rfl k_) ?_
  refine GoOn.st (fun t_ k_ => XS.lmul X0.here hx rfl (hb hby d_method_7_2) rfl k_) ?_
  refine GoOn.st (fun t_ k_ => XS.lstore X0.here hx rfl (hb hby d_method_7_3) rfl (l' := #[.val (.long q1), .second, .val (.long q2), .second, .val (.long q3), .second, .val (.long (q1 * q2)), .second]) rfl k_) ?_
  show GoOn _ _ _ _ (s₁.setTop (mkF m 5 #[.val (.long q1), .second, .val (.long q2), .second, .val (.long q3), .second, .val (.long (q1 * q2)), .second] []))
  refine GoOn.st (fun t_ k_ => XS.lload X0.here hx rfl (hb hby d_method_7_5) rfl k_) ?_
  refine GoOn.st (fun t_ k_ => XS.lconst X0.here hx rfl (hb hby d_method_7_7)  k_) ?_
  refine GoOn.st (fun t_ k_ => XS.lcmp X0.here hx rfl (hb hby d_method_7_8) rfl k_) ?_
  by_cases hc1 : (0 : Int64) < (q1 * q2)
  · skip
    refine GoOn.st (fun t_ k_ => XS.ifYes X0.here hx rfl (pc0 := 9) (pc' := 16) rfl (hb hby d_method_7_9) rfl ((if0 _ _).trans (tlt ((lw_gt (q1 * q2) (0 : Int64)).mpr hc1)).2.2.1) (by decide) (by decide) k_) ?_
    show GoOn _ _ _ _ (s₁.setTop (mkF m 16 #[.val (.long q1), .second, .val (.long q2), .second, .val (.long q3), .second, .val (.long (q1 * q2)), .second] []))
    refine GoOn.st (fun t_ k_ => XS.lload X0.here hx rfl (hb hby d_method_7_16) rfl k_) ?_
    refine GoOn.st (fun t_ k_ => X0.ldc2Long hx hown (mvT hZ (hw _ (List.mem_of_getElem? (i := 110) rfl))) (g := (mkF m 18 #[.val (.long q1), .second, .val (.long q2), .second, .val (.long q3), .second, .val (.long (q1 * q2)), .second] [(.long (q1 * q2))])) rfl (hb hby d_method_7_18) _ k_) ?_
    refine GoOn.st (fun t_ k_ => XS.lload X0.here hx rfl (hb hby d_method_7_21) rfl k_) ?_
    refine GoOn.st (fun t_ k_ => XS.ldiv X0.here hx rfl (hb hby d_method_7_23) rfl (own_in_nz h3) k_) ?_
    show GoOn _ _ _ _ (s₁.setTop (mkF m 24 #[.val (.long q1), .second, .val (.long q2), .second, .val (.long q3), .second, .val (.long (q1 * q2)), .second] [(.long ((9223372036854775807 : Int64) / q3)), (.long (q1 * q2))]))
    refine GoOn.st (fun t_ k_ => XS.lcmp X0.here hx rfl (hb hby d_method_7_24) rfl k_) ?_
    by_cases hc2 : ((9223372036854775807 : Int64) / q3) < (q1 * q2)
    · skip
      refine GoOn.st (fun t_ k_ => XS.ifNo X0.here hx rfl (hb hby d_method_7_25) rfl ((if0 _ _).trans (tlt ((lw_gt (q1 * q2) ((9223372036854775807 : Int64) / q3)).mpr hc2)).2.2.2) k_) ?_
      refine GoOn.st (fun t_ k_ => X0.ldc2Long hx hown (mvT hZ (hw _ (List.mem_of_getElem? (i := 110) rfl))) (g := (mkF m 28 #[.val (.long q1), .second, .val (.long q2), .second, .val (.long q3), .second, .val (.long (q1 * q2)), .second] [])) rfl (hb hby d_method_7_28) _ k_) ?_
      show GoOn _ _ _ _ (s₁.setTop (mkF m 31 #[.val (.long q1), .second, .val (.long q2), .second, .val (.long q3), .second, .val (.long (q1 * q2)), .second] [(.long (9223372036854775807 : Int64))]))
      exact GoOn.retJ X0 hx hlk hret (hb hby d_method_7_31) (by rw [e0]; exact ⟨(by unfold own_sat; rw [if_pos hc1, if_pos hc2]), rfl, rfl⟩) (by decide) (by decide)
    · skip
      refine GoOn.st (fun t_ k_ => XS.ifYes X0.here hx rfl (pc0 := 25) (pc' := 32) rfl (hb hby d_method_7_25) rfl ((if0 _ _).trans (flt (fun q => hc2 ((lw_gt (q1 * q2) ((9223372036854775807 : Int64) / q3)).mp q))).2.2.2) (by decide) (by decide) k_) ?_
      refine GoOn.st (fun t_ k_ => XS.lload X0.here hx rfl (hb hby d_method_7_32) rfl k_) ?_
      refine GoOn.st (fun t_ k_ => XS.lload X0.here hx rfl (hb hby d_method_7_34) rfl k_) ?_
      show GoOn _ _ _ _ (s₁.setTop (mkF m 36 #[.val (.long q1), .second, .val (.long q2), .second, .val (.long q3), .second, .val (.long (q1 * q2)), .second] [(.long q3), (.long (q1 * q2))]))
      refine GoOn.st (fun t_ k_ => XS.lmul X0.here hx rfl (hb hby d_method_7_36) rfl k_) ?_
      show GoOn _ _ _ _ (s₁.setTop (mkF m 37 #[.val (.long q1), .second, .val (.long q2), .second, .val (.long q3), .second, .val (.long (q1 * q2)), .second] [(.long ((q1 * q2) * q3))]))
      exact GoOn.retJ X0 hx hlk hret (hb hby d_method_7_37) (by rw [e0]; exact ⟨(by unfold own_sat; rw [if_pos hc1, if_neg hc2]), rfl, rfl⟩) (by decide) (by decide)
  · skip
    refine GoOn.st (fun t_ k_ => XS.ifNo X0.here hx rfl (hb hby d_method_7_9) rfl ((if0 _ _).trans (flt (fun q => hc1 ((lw_gt (q1 * q2) (0 : Int64)).mp q))).2.2.1) k_) ?_
    show GoOn _ _ _ _ (s₁.setTop (mkF m 12 #[.val (.long q1), .second, .val (.long q2), .second, .val (.long q3), .second, .val (.long (q1 * q2)), .second] []))
    refine GoOn.st (fun t_ k_ => X0.ldc2Long hx hown (mvT hZ (hw _ (List.mem_of_getElem? (i := 110) rfl))) (g := (mkF m 12 #[.val (.long q1), .second, .val (.long q2), .second, .val (.long q3), .second, .val (.long (q1 * q2)), .second] [])) rfl (hb hby d_method_7_12) _ k_) ?_
    show GoOn _ _ _ _ (s₁.setTop (mkF m 15 #[.val (.long q1), .second, .val (.long q2), .second, .val (.long q3), .second, .val (.long (q1 * q2)), .second] [(.long (9223372036854775807 : Int64))]))
    exact GoOn.retJ X0 hx hlk hret (hb hby d_method_7_15) (by rw [e0]; exact ⟨(by unfold own_sat; rw [if_neg hc1]), rfl, rfl⟩) (by decide) (by decide)
theorem ef_law (m : MethodId) (x0 : Int32) (x1 : Int64) (x2 : Int64) (x3 : Int64) : entryFrame m #[(.int x0), (.long x1), (.long x2), (.long x3)] maxLocals = mkF m 0 #[.val (.int x0), .val (.long x1), .second, .val (.long x2), .second, .val (.long x3), .second, .unset, .unset, .unset, .unset, .unset, .unset, .unset, .unset, .unset, .unset, .unset, .unset, .unset, .unset, .unset] [] := by first | (simp [entryFrame, mkF, argsToLocals, Value.category, maxLocals]; done) | rfl
theorem pd_10 : parseMethodDescriptor "(J)Lcom/example/tributary/tributary/semantics/Variable;" = some ⟨[.long], some (.object "com/example/tributary/tributary/semantics/Variable")⟩ := by decide +kernel
theorem pd_11 : parseMethodDescriptor "(Ljava/util/List;)V" = some ⟨[(.object "java/util/List")], none⟩ := by decide +kernel
theorem pd_12 : parseMethodDescriptor "(I)J" = some ⟨[.int], some .long⟩ := by decide +kernel
theorem pd_13 : parseMethodDescriptor "(JIII)J" = some ⟨[.long, .int, .int, .int], some .long⟩ := by decide +kernel
theorem pd_14 : parseMethodDescriptor "(JJJ)J" = some ⟨[.long, .long, .long], some .long⟩ := by decide +kernel
theorem pd_15 : parseMethodDescriptor "(Ljava/lang/Object;)Z" = some ⟨[(.object "java/lang/Object")], some .boolean⟩ := by decide +kernel
set_option maxRecDepth 65536 in
set_option maxHeartbeats 40000000 in
theorem rm_law (l : Launch) (Z : State) (a0 : Array Value) (hw : ∀ d ∈ tables_1, d.before a0 Z = true) (ws : List Jvm.Cond) (p1 : Int32) (q1 q2 q3 : Int64) (h0 : Heap) (n0 : Nat) (Z0 : n0 ≤ h0.size) (aI aD : Addr) (kD : ClassId) (O0 : Old Z n0 h0) (SI : Sta Z Z.heap "com/example/tributary/tributary/language/Type" "INT" "Lcom/example/tributary/tributary/language/Type;" (.ref aI)) (SD : Sta Z Z.heap "java/util/ArrayList" "DEFAULTCAPACITY_EMPTY_ELEMENTDATA" "[Ljava/lang/Object;" (.ref aD)) (VD : Arv Z Z.heap aD kD (.object "java/lang/Object") 0 [] .null) :
    OwConW l Z x code maxLocals ret ws room_1 #[(.int p1), (.long q1), (.long q2), (.long q3)] h0 (fun v h L => v = some (.int 1) ∧ Fr n0 L) := by
  refine OwConW.of (plainFor_of_name pn_com_example_tributary_tributary_semantics_RangesValuationsPinLaw) ?_
  intro p e s m below meth cd_ s₁ X0 hx hby hml hret hlk hown hnm hZ e0 hS0
  have N0 := Fr.nil n0
  refine GoOn.st (fun t_ k_ => castTop (ef_law m p1 q1 q2 q3) k_) ?_
  show GoOn _ _ _ _ (s₁.setTop (mkF m 0 #[.val (.int p1), .val (.long q1), .second, .val (.long q2), .second, .val (.long q3), .second, .unset, .unset, .unset, .unset, .unset, .unset, .unset, .unset, .unset, .unset, .unset, .unset, .unset, .unset, .unset] []))
  refine GoOn.st (fun t_ k_ => XS.iloadN X0.here hx rfl (hb hby at_0) rfl k_) ?_
  refine GoOn.st (fun t_ k_ => XS.iconst X0.here hx rfl (hb hby at_1)  k_) ?_
  refine GoOn.st (fun t_ k_ => XS.iand X0.here hx rfl (hb hby at_2) rfl k_) ?_
  refine GoOn.st (fun t_ k_ => XS.istore X0.here hx rfl (hb hby at_3) rfl (l' := #[.val (.int p1), .val (.long q1), .second, .val (.long q2), .second, .val (.long q3), .second, .val (.int (p1 &&& (3 : Int32))), .unset, .unset, .unset, .unset, .unset, .unset, .unset, .unset, .unset, .unset, .unset, .unset, .unset, .unset]) rfl k_) ?_
  show GoOn _ _ _ _ (s₁.setTop (mkF m 5 #[.val (.int p1), .val (.long q1), .second, .val (.long q2), .second, .val (.long q3), .second, .val (.int (p1 &&& (3 : Int32))), .unset, .unset, .unset, .unset, .unset, .unset, .unset, .unset, .unset, .unset, .unset, .unset, .unset, .unset] []))
  refine GoOn.st (fun t_ k_ => XS.iloadN X0.here hx rfl (hb hby at_5) rfl k_) ?_
  refine GoOn.st (fun t_ k_ => XS.iconst X0.here hx rfl (hb hby at_6)  k_) ?_
  refine GoOn.st (fun t_ k_ => XS.iushr X0.here hx rfl (hb hby at_7) rfl k_) ?_
  refine GoOn.st (fun t_ k_ => XS.iconst X0.here hx rfl (hb hby at_8)  k_) ?_
  show GoOn _ _ _ _ (s₁.setTop (mkF m 9 #[.val (.int p1), .val (.long q1), .second, .val (.long q2), .second, .val (.long q3), .second, .val (.int (p1 &&& (3 : Int32))), .unset, .unset, .unset, .unset, .unset, .unset, .unset, .unset, .unset, .unset, .unset, .unset, .unset, .unset] [(.int (3 : Int32)), (.int (((p1).toUInt32 >>> ((2 : Int32) &&& 31).toUInt32).toInt32))]))
  refine GoOn.st (fun t_ k_ => XS.iand X0.here hx rfl (hb hby at_9) rfl k_) ?_
  refine GoOn.st (fun t_ k_ => XS.istore X0.here hx rfl (hb hby at_10) rfl (l' := #[.val (.int p1), .val (.long q1), .second, .val (.long q2), .second, .val (.long q3), .second, .val (.int (p1 &&& (3 : Int32))), .val (.int ((((p1).toUInt32 >>> ((2 : Int32) &&& 31).toUInt32).toInt32) &&& (3 : Int32))), .unset, .unset, .unset, .unset, .unset, .unset, .unset, .unset, .unset, .unset, .unset, .unset, .unset]) rfl k_) ?_
  refine GoOn.st (fun t_ k_ => XS.lloadN X0.here hx rfl (hb hby at_12) rfl k_) ?_
  show GoOn _ _ _ _ (s₁.setTop (mkF m 13 #[.val (.int p1), .val (.long q1), .second, .val (.long q2), .second, .val (.long q3), .second, .val (.int (p1 &&& (3 : Int32))), .val (.int ((((p1).toUInt32 >>> ((2 : Int32) &&& 31).toUInt32).toInt32) &&& (3 : Int32))), .unset, .unset, .unset, .unset, .unset, .unset, .unset, .unset, .unset, .unset, .unset, .unset, .unset] [(.long q1)]))
  refine GoOn.callSW (W := 0) (argsL := [(.long q1)]) (rest := []) X0 hS0 (Nat.le_refl _) hx hZ hown (hw _ (List.mem_of_getElem? (i := 0) rfl)) (hw _ (List.mem_of_getElem? (i := 1) rfl)) (hw _ (List.mem_of_getElem? (i := 2) rfl)) (hw _ (List.mem_of_getElem? (i := 3) rfl)) (by decide) (rm_vari l Z a0 hw aI q1 h0 n0 Z0 O0 SI) e0 (by decide) (by decide) (by rw [hml]; rfl) pd_10 rfl rfl (Nat.le_of_eq rfl) (hb hby at_13) (by decide) (by decide) ?_
  rintro _ T1 L1 X1 hS1 hZ1 hown1 ⟨bb1, rfl, N1q, K1, gb1, sb1, f1_0, f1_1, f1_2⟩
  have N1 := Fr.app N0 N1q
  have g_bb1 := gb1
  refine GoOn.st (fun t_ k_ => XS.astore X1.here hx rfl (hb hby at_16) rfl rfl (l' := #[.val (.int p1), .val (.long q1), .second, .val (.long q2), .second, .val (.long q3), .second, .val (.int (p1 &&& (3 : Int32))), .val (.int ((((p1).toUInt32 >>> ((2 : Int32) &&& 31).toUInt32).toInt32) &&& (3 : Int32))), .val (.ref bb1), .unset, .unset, .unset, .unset, .unset, .unset, .unset, .unset, .unset, .unset, .unset, .unset]) rfl k_) ?_
  refine GoOn.st (fun t_ k_ => XS.lloadN X1.here hx rfl (hb hby at_18) rfl k_) ?_
  show GoOn _ _ _ _ (T1.setTop (mkF m 19 #[.val (.int p1), .val (.long q1), .second, .val (.long q2), .second, .val (.long q3), .second, .val (.int (p1 &&& (3 : Int32))), .val (.int ((((p1).toUInt32 >>> ((2 : Int32) &&& 31).toUInt32).toInt32) &&& (3 : Int32))), .val (.ref bb1), .unset, .unset, .unset, .unset, .unset, .unset, .unset, .unset, .unset, .unset, .unset, .unset] [(.long q2)]))
  have Od2 := (O0.keep K1 all0)
  refine GoOn.callSW (W := 0) (argsL := [(.long q2)]) (rest := []) X1 hS1 (Nat.le_refl _) hx hZ1 hown1 (hw _ (List.mem_of_getElem? (i := 0) rfl)) (hw _ (List.mem_of_getElem? (i := 1) rfl)) (hw _ (List.mem_of_getElem? (i := 2) rfl)) (hw _ (List.mem_of_getElem? (i := 3) rfl)) (by decide) (rm_vari l Z a0 hw aI q2 T1.heap n0 (Nat.le_trans Z0 K1.1) Od2 SI) rfl (by decide) (by decide) (by rw [hml]; rfl) pd_10 rfl rfl (Nat.le_of_eq rfl) (hb hby at_19) (by decide) (by decide) ?_
  rintro _ T3 L3 X3 hS3 hZ3 hown3 ⟨bb3, rfl, N3q, K3, gb3, sb3, f3_0, f3_1, f3_2⟩
  have ne_bb1_bb3 : bb1 ≠ bb3 := Nat.ne_of_lt (Nat.lt_of_lt_of_le f1_0.lt sb3)
  have N3 := Fr.app N1 N3q
  have g_bb3 := gb3
  refine GoOn.st (fun t_ k_ => XS.astore X3.here hx rfl (hb hby at_22) rfl rfl (l' := #[.val (.int p1), .val (.long q1), .second, .val (.long q2), .second, .val (.long q3), .second, .val (.int (p1 &&& (3 : Int32))), .val (.int ((((p1).toUInt32 >>> ((2 : Int32) &&& 31).toUInt32).toInt32) &&& (3 : Int32))), .val (.ref bb1), .val (.ref bb3), .unset, .unset, .unset, .unset, .unset, .unset, .unset, .unset, .unset, .unset, .unset]) rfl k_) ?_
  refine GoOn.st (fun t_ k_ => XS.lload X3.here hx rfl (hb hby at_24) rfl k_) ?_
  show GoOn _ _ _ _ (T3.setTop (mkF m 26 #[.val (.int p1), .val (.long q1), .second, .val (.long q2), .second, .val (.long q3), .second, .val (.int (p1 &&& (3 : Int32))), .val (.int ((((p1).toUInt32 >>> ((2 : Int32) &&& 31).toUInt32).toInt32) &&& (3 : Int32))), .val (.ref bb1), .val (.ref bb3), .unset, .unset, .unset, .unset, .unset, .unset, .unset, .unset, .unset, .unset, .unset] [(.long q3)]))
  have F4 := (f1_0.keep K3)
  have Od5 := (Od2.keep K3 all0)
  refine GoOn.callSW (W := 0) (argsL := [(.long q3)]) (rest := []) X3 hS3 (Nat.le_refl _) hx hZ3 hown3 (hw _ (List.mem_of_getElem? (i := 0) rfl)) (hw _ (List.mem_of_getElem? (i := 1) rfl)) (hw _ (List.mem_of_getElem? (i := 2) rfl)) (hw _ (List.mem_of_getElem? (i := 3) rfl)) (by decide) (rm_vari l Z a0 hw aI q3 T3.heap n0 (Nat.le_trans (Nat.le_trans Z0 K1.1) K3.1) Od5 SI) rfl (by decide) (by decide) (by rw [hml]; rfl) pd_10 rfl rfl (Nat.le_of_eq rfl) (hb hby at_26) (by decide) (by decide) ?_
  rintro _ T6 L6 X6 hS6 hZ6 hown6 ⟨bb6, rfl, N6q, K6, gb6, sb6, f6_0, f6_1, f6_2⟩
  have ne_bb1_bb6 : bb1 ≠ bb6 := Nat.ne_of_lt (Nat.lt_of_lt_of_le F4.lt sb6)
  have ne_bb3_bb6 : bb3 ≠ bb6 := Nat.ne_of_lt (Nat.lt_of_lt_of_le f3_0.lt sb6)
  have N6 := Fr.app N3 N6q
  have g_bb6 := gb6
  refine GoOn.st (fun t_ k_ => XS.astore X6.here hx rfl (hb hby at_29) rfl rfl (l' := #[.val (.int p1), .val (.long q1), .second, .val (.long q2), .second, .val (.long q3), .second, .val (.int (p1 &&& (3 : Int32))), .val (.int ((((p1).toUInt32 >>> ((2 : Int32) &&& 31).toUInt32).toInt32) &&& (3 : Int32))), .val (.ref bb1), .val (.ref bb3), .val (.ref bb6), .unset, .unset, .unset, .unset, .unset, .unset, .unset, .unset, .unset, .unset]) rfl k_) ?_
  obtain ⟨T7, h7, X7, e7, E7, A7, D7, -, st7⟩ := newO X6 hx hZ6 hown6 (hw _ (List.mem_of_getElem? (i := 52) rfl)) (hw _ (List.mem_of_getElem? (i := 53) rfl)) (hw _ (List.mem_of_getElem? (i := 54) rfl)) rfl (g := (mkF m 31 #[.val (.int p1), .val (.long q1), .second, .val (.long q2), .second, .val (.long q3), .second, .val (.int (p1 &&& (3 : Int32))), .val (.int ((((p1).toUInt32 >>> ((2 : Int32) &&& 31).toUInt32).toInt32) &&& (3 : Int32))), .val (.ref bb1), .val (.ref bb3), .val (.ref bb6), .unset, .unset, .unset, .unset, .unset, .unset, .unset, .unset, .unset, .unset] [])) rfl (hb hby at_31) (by decide) (by decide)
  obtain ⟨b7, g7⟩ : ∃ z, z = T6.heap.size := ⟨_, rfl⟩
  rw [← g7] at A7 D7 st7
  have ne_bb1_b7 : bb1 ≠ b7 := Nat.ne_of_lt (Nat.lt_of_lt_of_le (F4.keep K6).lt (Nat.le_of_eq g7.symm))
  have ne_bb3_b7 : bb3 ≠ b7 := Nat.ne_of_lt (Nat.lt_of_lt_of_le (f3_0.keep K6).lt (Nat.le_of_eq g7.symm))
  have ne_bb6_b7 : bb6 ≠ b7 := Nat.ne_of_lt (Nat.lt_of_lt_of_le f6_0.lt (Nat.le_of_eq g7.symm))
  have g_b7 : n0 ≤ b7 := Nat.le_trans (Nat.le_trans (Nat.le_trans (Nat.le_trans Z0 K1.1) K3.1) K6.1) (Nat.le_of_eq g7.symm)
  have F_modCount_b7 : Fld Z h7 b7 "java/util/AbstractList" "modCount" "I" (.int (0 : Int32)) := D7 (Or.inl (hw _ (List.mem_of_getElem? (i := 72) rfl))) (ty := .int) (by decide)
  have F_elementData_b7 : Fld Z h7 b7 "java/util/ArrayList" "elementData" "[Ljava/lang/Object;" .null := D7 (Or.inl (hw _ (List.mem_of_getElem? (i := 75) rfl))) (ty := (.array (.object "java/lang/Object"))) (by decide)
  have F_size_b7 : Fld Z h7 b7 "java/util/ArrayList" "size" "I" (.int (0 : Int32)) := D7 (Or.inl (hw _ (List.mem_of_getElem? (i := 93) rfl))) (ty := .int) (by decide)
  refine GoOn.st st7 ?_
  refine GoOn.st (fun t_ k_ => XS.dup X7.here hx rfl (hb hby at_34) rfl rfl k_) ?_
  show GoOn _ _ _ _ (T7.setTop (mkF m 35 #[.val (.int p1), .val (.long q1), .second, .val (.long q2), .second, .val (.long q3), .second, .val (.int (p1 &&& (3 : Int32))), .val (.int ((((p1).toUInt32 >>> ((2 : Int32) &&& 31).toUInt32).toInt32) &&& (3 : Int32))), .val (.ref bb1), .val (.ref bb3), .val (.ref bb6), .unset, .unset, .unset, .unset, .unset, .unset, .unset, .unset, .unset, .unset] [(.ref b7), (.ref b7)]))
  have Od8 := ((Od5.keep K6 all0).ext E7)
  refine GoOn.callC (W := 1) (argsL := []) (rest := [(.ref b7)]) (a := b7) X7 hx hZ6 hown6 rfl (hw _ (List.mem_of_getElem? (i := 55) rfl)) (hw _ (List.mem_of_getElem? (i := 56) rfl)) (hw _ (List.mem_of_getElem? (i := 54) rfl)) (hw _ (List.mem_of_getElem? (i := 57) rfl)) (by decide) (rm_lsinit l Z a0 hw b7 aD kD h7 n0 Od8 SD VD A7 F_modCount_b7 F_elementData_b7 F_size_b7 g_b7) e7 (by decide) (by decide) (by rw [hml]; rfl) pd_1 rfl rfl (Nat.le_of_eq rfl) (hb hby at_35) (by decide) (by decide) ?_
  rintro _ T9 L9 X9 ⟨rfl, N9q, K9, f9_0, f9_1, f9_2, f9_3⟩
  have N9 := Fr.app N6 N9q
  refine GoOn.st (fun t_ k_ => XS.astore X9.here hx rfl (hb hby at_38) rfl rfl (l' := #[.val (.int p1), .val (.long q1), .second, .val (.long q2), .second, .val (.long q3), .second, .val (.int (p1 &&& (3 : Int32))), .val (.int ((((p1).toUInt32 >>> ((2 : Int32) &&& 31).toUInt32).toInt32) &&& (3 : Int32))), .val (.ref bb1), .val (.ref bb3), .val (.ref bb6), .val (.ref b7), .unset, .unset, .unset, .unset, .unset, .unset, .unset, .unset, .unset]) rfl k_) ?_
  show GoOn _ _ _ _ (T9.setTop (mkF m 40 #[.val (.int p1), .val (.long q1), .second, .val (.long q2), .second, .val (.long q3), .second, .val (.int (p1 &&& (3 : Int32))), .val (.int ((((p1).toUInt32 >>> ((2 : Int32) &&& 31).toUInt32).toInt32) &&& (3 : Int32))), .val (.ref bb1), .val (.ref bb3), .val (.ref bb6), .val (.ref b7), .unset, .unset, .unset, .unset, .unset, .unset, .unset, .unset, .unset] []))
  rcases own_and3 p1 with hk10 | hk10 | hk10 | hk10
  · rw [hk10]
    refine GoOn.st (fun t_ k_ => XS.iload X9.here hx rfl (hb hby at_40) rfl k_) ?_
    refine GoOn.st (fun t_ k_ => XS.ifYes X9.here hx rfl (pc0 := 42) (pc' := 53) rfl (hb hby at_42) rfl ((if0 _ _).trans (flt (by decide : ¬ ((0 : Int32) < (0 : Int32)))).2.2.2) (by decide) (by decide) k_) ?_
    refine GoOn.st (fun t_ k_ => XS.iload X9.here hx rfl (hb hby at_53) rfl k_) ?_
    show GoOn _ _ _ _ (T9.setTop (mkF m 55 #[.val (.int p1), .val (.long q1), .second, .val (.long q2), .second, .val (.long q3), .second, .val (.int (0 : Int32)), .val (.int ((((p1).toUInt32 >>> ((2 : Int32) &&& 31).toUInt32).toInt32) &&& (3 : Int32))), .val (.ref bb1), .val (.ref bb3), .val (.ref bb6), .val (.ref b7), .unset, .unset, .unset, .unset, .unset, .unset, .unset, .unset, .unset] [(.int (0 : Int32))]))
    refine GoOn.st (fun t_ k_ => XS.iconst X9.here hx rfl (hb hby at_55)  k_) ?_
    refine GoOn.st (fun t_ k_ => XS.icmpYes X9.here hx rfl (pc0 := 56) (pc' := 67) rfl (hb hby at_56) rfl (flt (by decide : ¬ ((1 : Int32) < (0 : Int32)))).2.2.2 (by decide) (by decide) k_) ?_
    refine GoOn.st (fun t_ k_ => XS.iload X9.here hx rfl (hb hby at_67) rfl k_) ?_
    refine GoOn.st (fun t_ k_ => XS.iconst X9.here hx rfl (hb hby at_69)  k_) ?_
    show GoOn _ _ _ _ (T9.setTop (mkF m 70 #[.val (.int p1), .val (.long q1), .second, .val (.long q2), .second, .val (.long q3), .second, .val (.int (0 : Int32)), .val (.int ((((p1).toUInt32 >>> ((2 : Int32) &&& 31).toUInt32).toInt32) &&& (3 : Int32))), .val (.ref bb1), .val (.ref bb3), .val (.ref bb6), .val (.ref b7), .unset, .unset, .unset, .unset, .unset, .unset, .unset, .unset, .unset] [(.int (2 : Int32)), (.int (0 : Int32))]))
    refine GoOn.st (fun t_ k_ => XS.icmpYes X9.here hx rfl (pc0 := 70) (pc' := 81) rfl (hb hby at_70) rfl (flt (by decide : ¬ ((2 : Int32) < (0 : Int32)))).2.2.2 (by decide) (by decide) k_) ?_
    obtain ⟨T11, h11, X11, e11, E11, A11, D11, -, st11⟩ := newO X9 hx hZ6 hown6 (hw _ (List.mem_of_getElem? (i := 76) rfl)) (hw _ (List.mem_of_getElem? (i := 77) rfl)) (hw _ (List.mem_of_getElem? (i := 78) rfl)) rfl (g := (mkF m 81 #[.val (.int p1), .val (.long q1), .second, .val (.long q2), .second, .val (.long q3), .second, .val (.int (0 : Int32)), .val (.int ((((p1).toUInt32 >>> ((2 : Int32) &&& 31).toUInt32).toInt32) &&& (3 : Int32))), .val (.ref bb1), .val (.ref bb3), .val (.ref bb6), .val (.ref b7), .unset, .unset, .unset, .unset, .unset, .unset, .unset, .unset, .unset] [])) rfl (hb hby at_81) (by decide) (by decide)
    obtain ⟨b11, g11⟩ : ∃ z, z = T9.heap.size := ⟨_, rfl⟩
    rw [← g11] at A11 D11 st11
    have ne_bb1_b11 : bb1 ≠ b11 := Nat.ne_of_lt (Nat.lt_of_lt_of_le (((F4.keep K6).ext E7).keep K9).lt (Nat.le_of_eq g11.symm))
    have ne_bb3_b11 : bb3 ≠ b11 := Nat.ne_of_lt (Nat.lt_of_lt_of_le (((f3_0.keep K6).ext E7).keep K9).lt (Nat.le_of_eq g11.symm))
    have ne_bb6_b11 : bb6 ≠ b11 := Nat.ne_of_lt (Nat.lt_of_lt_of_le ((f6_0.ext E7).keep K9).lt (Nat.le_of_eq g11.symm))
    have ne_b7_b11 : b7 ≠ b11 := Nat.ne_of_lt (Nat.lt_of_lt_of_le f9_0.lt (Nat.le_of_eq g11.symm))
    have g_b11 : n0 ≤ b11 := Nat.le_trans (Nat.le_trans (Nat.le_trans (Nat.le_trans (Nat.le_trans (Nat.le_trans Z0 K1.1) K3.1) K6.1) E7.1) K9.1) (Nat.le_of_eq g11.symm)
    have F_low_b11 : Fld Z h11 b11 "com/example/tributary/tributary/semantics/Ranges" "low" "[I" .null := D11 (Or.inr (hw _ (List.mem_of_getElem? (i := 96) rfl))) (ty := (.array .int)) (by decide)
    have F_high_b11 : Fld Z h11 b11 "com/example/tributary/tributary/semantics/Ranges" "high" "[I" .null := D11 (Or.inr (hw _ (List.mem_of_getElem? (i := 98) rfl))) (ty := (.array .int)) (by decide)
    refine GoOn.st st11 ?_
    refine GoOn.st (fun t_ k_ => XS.dup X11.here hx rfl (hb hby at_84) rfl rfl k_) ?_
    refine GoOn.st (fun t_ k_ => XS.aload X11.here hx rfl (hb hby at_85) rfl rfl k_) ?_
    show GoOn _ _ _ _ (T11.setTop (mkF m 87 #[.val (.int p1), .val (.long q1), .second, .val (.long q2), .second, .val (.long q3), .second, .val (.int (0 : Int32)), .val (.int ((((p1).toUInt32 >>> ((2 : Int32) &&& 31).toUInt32).toInt32) &&& (3 : Int32))), .val (.ref bb1), .val (.ref bb3), .val (.ref bb6), .val (.ref b7), .unset, .unset, .unset, .unset, .unset, .unset, .unset, .unset, .unset] [(.ref b7), (.ref b11), (.ref b11)]))
    have F12 := (f9_0.ext E11)
    have F13 := (f9_3.ext E11)
    refine GoOn.callC (W := 1) (argsL := [(.ref b7)]) (rest := [(.ref b11)]) (a := b11) X11 hx hZ6 hown6 rfl (hw _ (List.mem_of_getElem? (i := 79) rfl)) (hw _ (List.mem_of_getElem? (i := 80) rfl)) (hw _ (List.mem_of_getElem? (i := 78) rfl)) (hw _ (List.mem_of_getElem? (i := 81) rfl)) (by decide) (rm_rinit0 l Z a0 hw b11 b7  h11 n0 (Nat.le_trans (Nat.le_trans (Nat.le_trans (Nat.le_trans (Nat.le_trans (Nat.le_trans Z0 K1.1) K3.1) K6.1) E7.1) K9.1) E11.1) A11 F_low_b11 F_high_b11 F12 F13 ne_b7_b11 g_b11) e11 (by decide) (by decide) (by rw [hml]; rfl) pd_11 rfl rfl (Nat.le_of_eq rfl) (hb hby at_87) (by decide) (by decide) ?_
    rintro _ T14 L14 X14 ⟨bl14, bh14, kl14, kh14, rfl, N14q, K14, f14_0, f14_1, f14_2, f14_3, f14_4⟩
    have N14 := Fr.app N9 N14q
    refine GoOn.st (fun t_ k_ => XS.astore X14.here hx rfl (hb hby at_90) rfl rfl (l' := #[.val (.int p1), .val (.long q1), .second, .val (.long q2), .second, .val (.long q3), .second, .val (.int (0 : Int32)), .val (.int ((((p1).toUInt32 >>> ((2 : Int32) &&& 31).toUInt32).toInt32) &&& (3 : Int32))), .val (.ref bb1), .val (.ref bb3), .val (.ref bb6), .val (.ref b7), .val (.ref b11), .unset, .unset, .unset, .unset, .unset, .unset, .unset, .unset]) rfl k_) ?_
    show GoOn _ _ _ _ (T14.setTop (mkF m 92 #[.val (.int p1), .val (.long q1), .second, .val (.long q2), .second, .val (.long q3), .second, .val (.int (0 : Int32)), .val (.int ((((p1).toUInt32 >>> ((2 : Int32) &&& 31).toUInt32).toInt32) &&& (3 : Int32))), .val (.ref bb1), .val (.ref bb3), .val (.ref bb6), .val (.ref b7), .val (.ref b11), .unset, .unset, .unset, .unset, .unset, .unset, .unset, .unset] []))
    rcases own_and3 (((p1).toUInt32 >>> ((2 : Int32) &&& 31).toUInt32).toInt32) with hk15 | hk15 | hk15 | hk15
    · rw [hk15]
      refine GoOn.st (fun t_ k_ => XS.aload X14.here hx rfl (hb hby at_92) rfl rfl k_) ?_
      refine GoOn.st (fun t_ k_ => XS.iload X14.here hx rfl (hb hby at_94) rfl k_) ?_
      show GoOn _ _ _ _ (T14.setTop (mkF m 96 #[.val (.int p1), .val (.long q1), .second, .val (.long q2), .second, .val (.long q3), .second, .val (.int (0 : Int32)), .val (.int (0 : Int32)), .val (.ref bb1), .val (.ref bb3), .val (.ref bb6), .val (.ref b7), .val (.ref b11), .unset, .unset, .unset, .unset, .unset, .unset, .unset, .unset] [(.int (0 : Int32)), (.ref b11)]))
      refine GoOn.callV (W := 0) (argsL := [(.int (0 : Int32))]) (rest := []) (a := b11) X14 hx hZ6 hown6 (hw _ (List.mem_of_getElem? (i := 99) rfl)) (hw _ (List.mem_of_getElem? (i := 100) rfl)) (notFace_of_selects (args := #[]) (mvT hZ6 (hw _ (List.mem_of_getElem? (i := 102) rfl)))) (hw _ (List.mem_of_getElem? (i := 102) rfl)) (hw _ (List.mem_of_getElem? (i := 101) rfl)) (hw _ (List.mem_of_getElem? (i := 78) rfl)) (hw _ (List.mem_of_getElem? (i := 103) rfl)) (by decide) (rm_val00 l Z a0 hw b11 bl14 bh14 kl14 kh14  T14.heap f14_1 f14_2 f14_3 f14_4) rfl f14_0 (by decide) (by decide) (by rw [hml]; rfl) pd_12 rfl rfl (Nat.le_of_eq rfl) (hb hby at_96) (by decide) (by decide) ?_
      rintro _ T16 L16 X16 ⟨rfl, rfl, e16⟩
      rw [List.append_nil] at X16
      refine GoOn.st (fun t_ k_ => XS.lstore X16.here hx rfl (hb hby at_99) rfl (l' := #[.val (.int p1), .val (.long q1), .second, .val (.long q2), .second, .val (.long q3), .second, .val (.int (0 : Int32)), .val (.int (0 : Int32)), .val (.ref bb1), .val (.ref bb3), .val (.ref bb6), .val (.ref b7), .val (.ref b11), .val (.long (1 : Int64)), .second, .unset, .unset, .unset, .unset, .unset, .unset]) rfl k_) ?_
      refine GoOn.st (fun t_ k_ => XS.lloadN X16.here hx rfl (hb hby at_101) rfl k_) ?_
      refine GoOn.st (fun t_ k_ => XS.iconst X16.here hx rfl (hb hby at_102)  k_) ?_
      show GoOn _ _ _ _ (T16.setTop (mkF m 103 #[.val (.int p1), .val (.long q1), .second, .val (.long q2), .second, .val (.long q3), .second, .val (.int (0 : Int32)), .val (.int (0 : Int32)), .val (.ref bb1), .val (.ref bb3), .val (.ref bb6), .val (.ref b7), .val (.ref b11), .val (.long (1 : Int64)), .second, .unset, .unset, .unset, .unset, .unset, .unset] [(.int (0 : Int32)), (.long q1)]))
      refine GoOn.st (fun t_ k_ => XS.iload X16.here hx rfl (hb hby at_103) rfl k_) ?_
      refine GoOn.st (fun t_ k_ => XS.iload X16.here hx rfl (hb hby at_105) rfl k_) ?_
      show GoOn _ _ _ _ (T16.setTop (mkF m 107 #[.val (.int p1), .val (.long q1), .second, .val (.long q2), .second, .val (.long q3), .second, .val (.int (0 : Int32)), .val (.int (0 : Int32)), .val (.ref bb1), .val (.ref bb3), .val (.ref bb6), .val (.ref b7), .val (.ref b11), .val (.long (1 : Int64)), .second, .unset, .unset, .unset, .unset, .unset, .unset] [(.int (0 : Int32)), (.int (0 : Int32)), (.int (0 : Int32)), (.long q1)]))
      refine GoOn.callS (W := 0) (argsL := [(.long q1), (.int (0 : Int32)), (.int (0 : Int32)), (.int (0 : Int32))]) (rest := []) X16 hx hZ6 hown6 (hw _ (List.mem_of_getElem? (i := 104) rfl)) (hw _ (List.mem_of_getElem? (i := 105) rfl)) (hw _ (List.mem_of_getElem? (i := 2) rfl)) (hw _ (List.mem_of_getElem? (i := 106) rfl)) (by decide) (rm_facN l Z a0 hw q1 (0 : Int32) (0 : Int32) (0 : Int32) T14.heap (by decide) (by decide)) e16 (by decide) (by decide) (by rw [hml]; rfl) pd_13 rfl rfl (Nat.le_of_eq rfl) (hb hby at_107) (by decide) (by decide) ?_
      rintro _ T17 L17 X17 ⟨rfl, rfl, e17⟩
      rw [List.append_nil] at X17
      refine GoOn.st (fun t_ k_ => XS.lstore X17.here hx rfl (hb hby at_110) rfl (l' := #[.val (.int p1), .val (.long q1), .second, .val (.long q2), .second, .val (.long q3), .second, .val (.int (0 : Int32)), .val (.int (0 : Int32)), .val (.ref bb1), .val (.ref bb3), .val (.ref bb6), .val (.ref b7), .val (.ref b11), .val (.long (1 : Int64)), .second, .val (.long (1 : Int64)), .second, .unset, .unset, .unset, .unset]) rfl k_) ?_
      refine GoOn.st (fun t_ k_ => XS.lloadN X17.here hx rfl (hb hby at_112) rfl k_) ?_
      refine GoOn.st (fun t_ k_ => XS.iconst X17.here hx rfl (hb hby at_113)  k_) ?_
      show GoOn _ _ _ _ (T17.setTop (mkF m 114 #[.val (.int p1), .val (.long q1), .second, .val (.long q2), .second, .val (.long q3), .second, .val (.int (0 : Int32)), .val (.int (0 : Int32)), .val (.ref bb1), .val (.ref bb3), .val (.ref bb6), .val (.ref b7), .val (.ref b11), .val (.long (1 : Int64)), .second, .val (.long (1 : Int64)), .second, .unset, .unset, .unset, .unset] [(.int (1 : Int32)), (.long q2)]))
      refine GoOn.st (fun t_ k_ => XS.iload X17.here hx rfl (hb hby at_114) rfl k_) ?_
      refine GoOn.st (fun t_ k_ => XS.iload X17.here hx rfl (hb hby at_116) rfl k_) ?_
      show GoOn _ _ _ _ (T17.setTop (mkF m 118 #[.val (.int p1), .val (.long q1), .second, .val (.long q2), .second, .val (.long q3), .second, .val (.int (0 : Int32)), .val (.int (0 : Int32)), .val (.ref bb1), .val (.ref bb3), .val (.ref bb6), .val (.ref b7), .val (.ref b11), .val (.long (1 : Int64)), .second, .val (.long (1 : Int64)), .second, .unset, .unset, .unset, .unset] [(.int (0 : Int32)), (.int (0 : Int32)), (.int (1 : Int32)), (.long q2)]))
      refine GoOn.callS (W := 0) (argsL := [(.long q2), (.int (1 : Int32)), (.int (0 : Int32)), (.int (0 : Int32))]) (rest := []) X17 hx hZ6 hown6 (hw _ (List.mem_of_getElem? (i := 104) rfl)) (hw _ (List.mem_of_getElem? (i := 105) rfl)) (hw _ (List.mem_of_getElem? (i := 2) rfl)) (hw _ (List.mem_of_getElem? (i := 106) rfl)) (by decide) (rm_facN l Z a0 hw q2 (1 : Int32) (0 : Int32) (0 : Int32) T14.heap (by decide) (by decide)) e17 (by decide) (by decide) (by rw [hml]; rfl) pd_13 rfl rfl (Nat.le_of_eq rfl) (hb hby at_118) (by decide) (by decide) ?_
      rintro _ T18 L18 X18 ⟨rfl, rfl, e18⟩
      rw [List.append_nil] at X18
      refine GoOn.st (fun t_ k_ => XS.lstore X18.here hx rfl (hb hby at_121) rfl (l' := #[.val (.int p1), .val (.long q1), .second, .val (.long q2), .second, .val (.long q3), .second, .val (.int (0 : Int32)), .val (.int (0 : Int32)), .val (.ref bb1), .val (.ref bb3), .val (.ref bb6), .val (.ref b7), .val (.ref b11), .val (.long (1 : Int64)), .second, .val (.long (1 : Int64)), .second, .val (.long (1 : Int64)), .second, .unset, .unset]) rfl k_) ?_
      refine GoOn.st (fun t_ k_ => XS.lload X18.here hx rfl (hb hby at_123) rfl k_) ?_
      refine GoOn.st (fun t_ k_ => XS.iconst X18.here hx rfl (hb hby at_125)  k_) ?_
      show GoOn _ _ _ _ (T18.setTop (mkF m 126 #[.val (.int p1), .val (.long q1), .second, .val (.long q2), .second, .val (.long q3), .second, .val (.int (0 : Int32)), .val (.int (0 : Int32)), .val (.ref bb1), .val (.ref bb3), .val (.ref bb6), .val (.ref b7), .val (.ref b11), .val (.long (1 : Int64)), .second, .val (.long (1 : Int64)), .second, .val (.long (1 : Int64)), .second, .unset, .unset] [(.int (2 : Int32)), (.long q3)]))
      refine GoOn.st (fun t_ k_ => XS.iload X18.here hx rfl (hb hby at_126) rfl k_) ?_
      refine GoOn.st (fun t_ k_ => XS.iload X18.here hx rfl (hb hby at_128) rfl k_) ?_
      show GoOn _ _ _ _ (T18.setTop (mkF m 130 #[.val (.int p1), .val (.long q1), .second, .val (.long q2), .second, .val (.long q3), .second, .val (.int (0 : Int32)), .val (.int (0 : Int32)), .val (.ref bb1), .val (.ref bb3), .val (.ref bb6), .val (.ref b7), .val (.ref b11), .val (.long (1 : Int64)), .second, .val (.long (1 : Int64)), .second, .val (.long (1 : Int64)), .second, .unset, .unset] [(.int (0 : Int32)), (.int (0 : Int32)), (.int (2 : Int32)), (.long q3)]))
      refine GoOn.callS (W := 0) (argsL := [(.long q3), (.int (2 : Int32)), (.int (0 : Int32)), (.int (0 : Int32))]) (rest := []) X18 hx hZ6 hown6 (hw _ (List.mem_of_getElem? (i := 104) rfl)) (hw _ (List.mem_of_getElem? (i := 105) rfl)) (hw _ (List.mem_of_getElem? (i := 2) rfl)) (hw _ (List.mem_of_getElem? (i := 106) rfl)) (by decide) (rm_facN l Z a0 hw q3 (2 : Int32) (0 : Int32) (0 : Int32) T14.heap (by decide) (by decide)) e18 (by decide) (by decide) (by rw [hml]; rfl) pd_13 rfl rfl (Nat.le_of_eq rfl) (hb hby at_130) (by decide) (by decide) ?_
      rintro _ T19 L19 X19 ⟨rfl, rfl, e19⟩
      rw [List.append_nil] at X19
      refine GoOn.st (fun t_ k_ => XS.lstore X19.here hx rfl (hb hby at_133) rfl (l' := #[.val (.int p1), .val (.long q1), .second, .val (.long q2), .second, .val (.long q3), .second, .val (.int (0 : Int32)), .val (.int (0 : Int32)), .val (.ref bb1), .val (.ref bb3), .val (.ref bb6), .val (.ref b7), .val (.ref b11), .val (.long (1 : Int64)), .second, .val (.long (1 : Int64)), .second, .val (.long (1 : Int64)), .second, .val (.long (1 : Int64)), .second]) rfl k_) ?_
      refine GoOn.st (fun t_ k_ => XS.lload X19.here hx rfl (hb hby at_135) rfl k_) ?_
      refine GoOn.st (fun t_ k_ => XS.lload X19.here hx rfl (hb hby at_137) rfl k_) ?_
      show GoOn _ _ _ _ (T19.setTop (mkF m 139 #[.val (.int p1), .val (.long q1), .second, .val (.long q2), .second, .val (.long q3), .second, .val (.int (0 : Int32)), .val (.int (0 : Int32)), .val (.ref bb1), .val (.ref bb3), .val (.ref bb6), .val (.ref b7), .val (.ref b11), .val (.long (1 : Int64)), .second, .val (.long (1 : Int64)), .second, .val (.long (1 : Int64)), .second, .val (.long (1 : Int64)), .second] [(.long (1 : Int64)), (.long (1 : Int64))]))
      refine GoOn.st (fun t_ k_ => XS.lload X19.here hx rfl (hb hby at_139) rfl k_) ?_
      refine GoOn.st (fun t_ k_ => XS.lload X19.here hx rfl (hb hby at_141) rfl k_) ?_
      show GoOn _ _ _ _ (T19.setTop (mkF m 143 #[.val (.int p1), .val (.long q1), .second, .val (.long q2), .second, .val (.long q3), .second, .val (.int (0 : Int32)), .val (.int (0 : Int32)), .val (.ref bb1), .val (.ref bb3), .val (.ref bb6), .val (.ref b7), .val (.ref b11), .val (.long (1 : Int64)), .second, .val (.long (1 : Int64)), .second, .val (.long (1 : Int64)), .second, .val (.long (1 : Int64)), .second] [(.long (1 : Int64)), (.long (1 : Int64)), (.long (1 : Int64)), (.long (1 : Int64))]))
      refine GoOn.callS (W := 2) (argsL := [(.long (1 : Int64)), (.long (1 : Int64)), (.long (1 : Int64))]) (rest := [(.long (1 : Int64))]) X19 hx hZ6 hown6 (hw _ (List.mem_of_getElem? (i := 107) rfl)) (hw _ (List.mem_of_getElem? (i := 108) rfl)) (hw _ (List.mem_of_getElem? (i := 2) rfl)) (hw _ (List.mem_of_getElem? (i := 109) rfl)) (by decide) (rm_sat l Z a0 hw (1 : Int64) (1 : Int64) (1 : Int64) T14.heap own_in_one) e19 (by decide) (by decide) (by rw [hml]; rfl) pd_14 rfl rfl (Nat.le_of_eq rfl) (hb hby at_143) (by decide) (by decide) ?_
      rintro _ T20 L20 X20 ⟨rfl, rfl, e20⟩
      rw [List.append_nil] at X20
      refine GoOn.st (fun t_ k_ => XS.lcmp X20.here hx rfl (hb hby at_146) rfl k_) ?_
      refine GoOn.st (fun t_ k_ => XS.ifNo X20.here hx rfl (hb hby at_147) rfl ((if0 _ _).trans (teq ((lw_eq (1 : Int64) (own_sat (1 : Int64) (1 : Int64) (1 : Int64))).mpr (by have e := own_law own_in_one own_in_one own_in_one; simp only [own_step_first own_in_one, own_step_one _ (own_in_one).1, own_step_first (own_in_vals q1), own_step_one _ (own_in_vals q1).1, own_step_first (own_in_vals q2), own_step_one _ (own_in_vals q2).1, own_step_first (own_in_vals q3), own_step_one _ (own_in_vals q3).1, own_step_one _ (own_step_pos (own_in_vals q2) (own_in_vals q1).1)] at e ⊢; exact e))).2) k_) ?_
      refine GoOn.st (fun t_ k_ => XS.iconst X20.here hx rfl (hb hby at_150)  k_) ?_
      show GoOn _ _ _ _ (T20.setTop (mkF m 151 #[.val (.int p1), .val (.long q1), .second, .val (.long q2), .second, .val (.long q3), .second, .val (.int (0 : Int32)), .val (.int (0 : Int32)), .val (.ref bb1), .val (.ref bb3), .val (.ref bb6), .val (.ref b7), .val (.ref b11), .val (.long (1 : Int64)), .second, .val (.long (1 : Int64)), .second, .val (.long (1 : Int64)), .second, .val (.long (1 : Int64)), .second] [(.int (1 : Int32))]))
      refine GoOn.st (fun t_ k_ => XS.goto X20.here hx rfl (pc0 := 151) (pc' := 155) rfl (hb hby at_151) (by decide) (by decide) k_) ?_
      show GoOn _ _ _ _ (T20.setTop (mkF m 155 #[.val (.int p1), .val (.long q1), .second, .val (.long q2), .second, .val (.long q3), .second, .val (.int (0 : Int32)), .val (.int (0 : Int32)), .val (.ref bb1), .val (.ref bb3), .val (.ref bb6), .val (.ref b7), .val (.ref b11), .val (.long (1 : Int64)), .second, .val (.long (1 : Int64)), .second, .val (.long (1 : Int64)), .second, .val (.long (1 : Int64)), .second] [(.int (1 : Int32))]))
      exact GoOn.retWZ X20 hS6 (by rw [e20]; exact (Nat.le_trans (Nat.le_trans (Nat.le_trans (Nat.le_trans (Nat.le_refl _) E7.1) K9.1) E11.1) K14.1)) hx hlk hret (by simp) rfl (hb hby at_155) ⟨rfl, N14⟩ (by decide) (by decide)
    · rw [hk15]
      refine GoOn.st (fun t_ k_ => XS.aload X14.here hx rfl (hb hby at_92) rfl rfl k_) ?_
      refine GoOn.st (fun t_ k_ => XS.iload X14.here hx rfl (hb hby at_94) rfl k_) ?_
      show GoOn _ _ _ _ (T14.setTop (mkF m 96 #[.val (.int p1), .val (.long q1), .second, .val (.long q2), .second, .val (.long q3), .second, .val (.int (0 : Int32)), .val (.int (1 : Int32)), .val (.ref bb1), .val (.ref bb3), .val (.ref bb6), .val (.ref b7), .val (.ref b11), .unset, .unset, .unset, .unset, .unset, .unset, .unset, .unset] [(.int (1 : Int32)), (.ref b11)]))
      refine GoOn.callV (W := 0) (argsL := [(.int (1 : Int32))]) (rest := []) (a := b11) X14 hx hZ6 hown6 (hw _ (List.mem_of_getElem? (i := 99) rfl)) (hw _ (List.mem_of_getElem? (i := 100) rfl)) (notFace_of_selects (args := #[]) (mvT hZ6 (hw _ (List.mem_of_getElem? (i := 102) rfl)))) (hw _ (List.mem_of_getElem? (i := 102) rfl)) (hw _ (List.mem_of_getElem? (i := 101) rfl)) (hw _ (List.mem_of_getElem? (i := 78) rfl)) (hw _ (List.mem_of_getElem? (i := 103) rfl)) (by decide) (rm_val01 l Z a0 hw b11 bl14 bh14 kl14 kh14  T14.heap f14_1 f14_2 f14_3 f14_4) rfl f14_0 (by decide) (by decide) (by rw [hml]; rfl) pd_12 rfl rfl (Nat.le_of_eq rfl) (hb hby at_96) (by decide) (by decide) ?_
      rintro _ T21 L21 X21 ⟨rfl, rfl, e21⟩
      rw [List.append_nil] at X21
      refine GoOn.st (fun t_ k_ => XS.lstore X21.here hx rfl (hb hby at_99) rfl (l' := #[.val (.int p1), .val (.long q1), .second, .val (.long q2), .second, .val (.long q3), .second, .val (.int (0 : Int32)), .val (.int (1 : Int32)), .val (.ref bb1), .val (.ref bb3), .val (.ref bb6), .val (.ref b7), .val (.ref b11), .val (.long (1 : Int64)), .second, .unset, .unset, .unset, .unset, .unset, .unset]) rfl k_) ?_
      refine GoOn.st (fun t_ k_ => XS.lloadN X21.here hx rfl (hb hby at_101) rfl k_) ?_
      refine GoOn.st (fun t_ k_ => XS.iconst X21.here hx rfl (hb hby at_102)  k_) ?_
      show GoOn _ _ _ _ (T21.setTop (mkF m 103 #[.val (.int p1), .val (.long q1), .second, .val (.long q2), .second, .val (.long q3), .second, .val (.int (0 : Int32)), .val (.int (1 : Int32)), .val (.ref bb1), .val (.ref bb3), .val (.ref bb6), .val (.ref b7), .val (.ref b11), .val (.long (1 : Int64)), .second, .unset, .unset, .unset, .unset, .unset, .unset] [(.int (0 : Int32)), (.long q1)]))
      refine GoOn.st (fun t_ k_ => XS.iload X21.here hx rfl (hb hby at_103) rfl k_) ?_
      refine GoOn.st (fun t_ k_ => XS.iload X21.here hx rfl (hb hby at_105) rfl k_) ?_
      show GoOn _ _ _ _ (T21.setTop (mkF m 107 #[.val (.int p1), .val (.long q1), .second, .val (.long q2), .second, .val (.long q3), .second, .val (.int (0 : Int32)), .val (.int (1 : Int32)), .val (.ref bb1), .val (.ref bb3), .val (.ref bb6), .val (.ref b7), .val (.ref b11), .val (.long (1 : Int64)), .second, .unset, .unset, .unset, .unset, .unset, .unset] [(.int (0 : Int32)), (.int (1 : Int32)), (.int (0 : Int32)), (.long q1)]))
      refine GoOn.callS (W := 0) (argsL := [(.long q1), (.int (0 : Int32)), (.int (1 : Int32)), (.int (0 : Int32))]) (rest := []) X21 hx hZ6 hown6 (hw _ (List.mem_of_getElem? (i := 104) rfl)) (hw _ (List.mem_of_getElem? (i := 105) rfl)) (hw _ (List.mem_of_getElem? (i := 2) rfl)) (hw _ (List.mem_of_getElem? (i := 106) rfl)) (by decide) (rm_facM l Z a0 hw q1 (0 : Int32) (1 : Int32) (0 : Int32) T14.heap (by decide)) e21 (by decide) (by decide) (by rw [hml]; rfl) pd_13 rfl rfl (Nat.le_of_eq rfl) (hb hby at_107) (by decide) (by decide) ?_
      rintro _ T22 L22 X22 ⟨rfl, rfl, e22⟩
      rw [List.append_nil] at X22
      refine GoOn.st (fun t_ k_ => XS.lstore X22.here hx rfl (hb hby at_110) rfl (l' := #[.val (.int p1), .val (.long q1), .second, .val (.long q2), .second, .val (.long q3), .second, .val (.int (0 : Int32)), .val (.int (1 : Int32)), .val (.ref bb1), .val (.ref bb3), .val (.ref bb6), .val (.ref b7), .val (.ref b11), .val (.long (1 : Int64)), .second, .val (.long (1 : Int64)), .second, .unset, .unset, .unset, .unset]) rfl k_) ?_
      refine GoOn.st (fun t_ k_ => XS.lloadN X22.here hx rfl (hb hby at_112) rfl k_) ?_
      refine GoOn.st (fun t_ k_ => XS.iconst X22.here hx rfl (hb hby at_113)  k_) ?_
      show GoOn _ _ _ _ (T22.setTop (mkF m 114 #[.val (.int p1), .val (.long q1), .second, .val (.long q2), .second, .val (.long q3), .second, .val (.int (0 : Int32)), .val (.int (1 : Int32)), .val (.ref bb1), .val (.ref bb3), .val (.ref bb6), .val (.ref b7), .val (.ref b11), .val (.long (1 : Int64)), .second, .val (.long (1 : Int64)), .second, .unset, .unset, .unset, .unset] [(.int (1 : Int32)), (.long q2)]))
      refine GoOn.st (fun t_ k_ => XS.iload X22.here hx rfl (hb hby at_114) rfl k_) ?_
      refine GoOn.st (fun t_ k_ => XS.iload X22.here hx rfl (hb hby at_116) rfl k_) ?_
      show GoOn _ _ _ _ (T22.setTop (mkF m 118 #[.val (.int p1), .val (.long q1), .second, .val (.long q2), .second, .val (.long q3), .second, .val (.int (0 : Int32)), .val (.int (1 : Int32)), .val (.ref bb1), .val (.ref bb3), .val (.ref bb6), .val (.ref b7), .val (.ref b11), .val (.long (1 : Int64)), .second, .val (.long (1 : Int64)), .second, .unset, .unset, .unset, .unset] [(.int (0 : Int32)), (.int (1 : Int32)), (.int (1 : Int32)), (.long q2)]))
      refine GoOn.callS (W := 0) (argsL := [(.long q2), (.int (1 : Int32)), (.int (1 : Int32)), (.int (0 : Int32))]) (rest := []) X22 hx hZ6 hown6 (hw _ (List.mem_of_getElem? (i := 104) rfl)) (hw _ (List.mem_of_getElem? (i := 105) rfl)) (hw _ (List.mem_of_getElem? (i := 2) rfl)) (hw _ (List.mem_of_getElem? (i := 106) rfl)) (by decide) (rm_facN l Z a0 hw q2 (1 : Int32) (1 : Int32) (0 : Int32) T14.heap (by decide) (by decide)) e22 (by decide) (by decide) (by rw [hml]; rfl) pd_13 rfl rfl (Nat.le_of_eq rfl) (hb hby at_118) (by decide) (by decide) ?_
      rintro _ T23 L23 X23 ⟨rfl, rfl, e23⟩
      rw [List.append_nil] at X23
      refine GoOn.st (fun t_ k_ => XS.lstore X23.here hx rfl (hb hby at_121) rfl (l' := #[.val (.int p1), .val (.long q1), .second, .val (.long q2), .second, .val (.long q3), .second, .val (.int (0 : Int32)), .val (.int (1 : Int32)), .val (.ref bb1), .val (.ref bb3), .val (.ref bb6), .val (.ref b7), .val (.ref b11), .val (.long (1 : Int64)), .second, .val (.long (1 : Int64)), .second, .val (.long (1 : Int64)), .second, .unset, .unset]) rfl k_) ?_
      refine GoOn.st (fun t_ k_ => XS.lload X23.here hx rfl (hb hby at_123) rfl k_) ?_
      refine GoOn.st (fun t_ k_ => XS.iconst X23.here hx rfl (hb hby at_125)  k_) ?_
      show GoOn _ _ _ _ (T23.setTop (mkF m 126 #[.val (.int p1), .val (.long q1), .second, .val (.long q2), .second, .val (.long q3), .second, .val (.int (0 : Int32)), .val (.int (1 : Int32)), .val (.ref bb1), .val (.ref bb3), .val (.ref bb6), .val (.ref b7), .val (.ref b11), .val (.long (1 : Int64)), .second, .val (.long (1 : Int64)), .second, .val (.long (1 : Int64)), .second, .unset, .unset] [(.int (2 : Int32)), (.long q3)]))
      refine GoOn.st (fun t_ k_ => XS.iload X23.here hx rfl (hb hby at_126) rfl k_) ?_
      refine GoOn.st (fun t_ k_ => XS.iload X23.here hx rfl (hb hby at_128) rfl k_) ?_
      show GoOn _ _ _ _ (T23.setTop (mkF m 130 #[.val (.int p1), .val (.long q1), .second, .val (.long q2), .second, .val (.long q3), .second, .val (.int (0 : Int32)), .val (.int (1 : Int32)), .val (.ref bb1), .val (.ref bb3), .val (.ref bb6), .val (.ref b7), .val (.ref b11), .val (.long (1 : Int64)), .second, .val (.long (1 : Int64)), .second, .val (.long (1 : Int64)), .second, .unset, .unset] [(.int (0 : Int32)), (.int (1 : Int32)), (.int (2 : Int32)), (.long q3)]))
      refine GoOn.callS (W := 0) (argsL := [(.long q3), (.int (2 : Int32)), (.int (1 : Int32)), (.int (0 : Int32))]) (rest := []) X23 hx hZ6 hown6 (hw _ (List.mem_of_getElem? (i := 104) rfl)) (hw _ (List.mem_of_getElem? (i := 105) rfl)) (hw _ (List.mem_of_getElem? (i := 2) rfl)) (hw _ (List.mem_of_getElem? (i := 106) rfl)) (by decide) (rm_facN l Z a0 hw q3 (2 : Int32) (1 : Int32) (0 : Int32) T14.heap (by decide) (by decide)) e23 (by decide) (by decide) (by rw [hml]; rfl) pd_13 rfl rfl (Nat.le_of_eq rfl) (hb hby at_130) (by decide) (by decide) ?_
      rintro _ T24 L24 X24 ⟨rfl, rfl, e24⟩
      rw [List.append_nil] at X24
      refine GoOn.st (fun t_ k_ => XS.lstore X24.here hx rfl (hb hby at_133) rfl (l' := #[.val (.int p1), .val (.long q1), .second, .val (.long q2), .second, .val (.long q3), .second, .val (.int (0 : Int32)), .val (.int (1 : Int32)), .val (.ref bb1), .val (.ref bb3), .val (.ref bb6), .val (.ref b7), .val (.ref b11), .val (.long (1 : Int64)), .second, .val (.long (1 : Int64)), .second, .val (.long (1 : Int64)), .second, .val (.long (1 : Int64)), .second]) rfl k_) ?_
      refine GoOn.st (fun t_ k_ => XS.lload X24.here hx rfl (hb hby at_135) rfl k_) ?_
      refine GoOn.st (fun t_ k_ => XS.lload X24.here hx rfl (hb hby at_137) rfl k_) ?_
      show GoOn _ _ _ _ (T24.setTop (mkF m 139 #[.val (.int p1), .val (.long q1), .second, .val (.long q2), .second, .val (.long q3), .second, .val (.int (0 : Int32)), .val (.int (1 : Int32)), .val (.ref bb1), .val (.ref bb3), .val (.ref bb6), .val (.ref b7), .val (.ref b11), .val (.long (1 : Int64)), .second, .val (.long (1 : Int64)), .second, .val (.long (1 : Int64)), .second, .val (.long (1 : Int64)), .second] [(.long (1 : Int64)), (.long (1 : Int64))]))
      refine GoOn.st (fun t_ k_ => XS.lload X24.here hx rfl (hb hby at_139) rfl k_) ?_
      refine GoOn.st (fun t_ k_ => XS.lload X24.here hx rfl (hb hby at_141) rfl k_) ?_
      show GoOn _ _ _ _ (T24.setTop (mkF m 143 #[.val (.int p1), .val (.long q1), .second, .val (.long q2), .second, .val (.long q3), .second, .val (.int (0 : Int32)), .val (.int (1 : Int32)), .val (.ref bb1), .val (.ref bb3), .val (.ref bb6), .val (.ref b7), .val (.ref b11), .val (.long (1 : Int64)), .second, .val (.long (1 : Int64)), .second, .val (.long (1 : Int64)), .second, .val (.long (1 : Int64)), .second] [(.long (1 : Int64)), (.long (1 : Int64)), (.long (1 : Int64)), (.long (1 : Int64))]))
      refine GoOn.callS (W := 2) (argsL := [(.long (1 : Int64)), (.long (1 : Int64)), (.long (1 : Int64))]) (rest := [(.long (1 : Int64))]) X24 hx hZ6 hown6 (hw _ (List.mem_of_getElem? (i := 107) rfl)) (hw _ (List.mem_of_getElem? (i := 108) rfl)) (hw _ (List.mem_of_getElem? (i := 2) rfl)) (hw _ (List.mem_of_getElem? (i := 109) rfl)) (by decide) (rm_sat l Z a0 hw (1 : Int64) (1 : Int64) (1 : Int64) T14.heap own_in_one) e24 (by decide) (by decide) (by rw [hml]; rfl) pd_14 rfl rfl (Nat.le_of_eq rfl) (hb hby at_143) (by decide) (by decide) ?_
      rintro _ T25 L25 X25 ⟨rfl, rfl, e25⟩
      rw [List.append_nil] at X25
      refine GoOn.st (fun t_ k_ => XS.lcmp X25.here hx rfl (hb hby at_146) rfl k_) ?_
      refine GoOn.st (fun t_ k_ => XS.ifNo X25.here hx rfl (hb hby at_147) rfl ((if0 _ _).trans (teq ((lw_eq (1 : Int64) (own_sat (1 : Int64) (1 : Int64) (1 : Int64))).mpr (by have e := own_law own_in_one own_in_one own_in_one; simp only [own_step_first own_in_one, own_step_one _ (own_in_one).1, own_step_first (own_in_vals q1), own_step_one _ (own_in_vals q1).1, own_step_first (own_in_vals q2), own_step_one _ (own_in_vals q2).1, own_step_first (own_in_vals q3), own_step_one _ (own_in_vals q3).1, own_step_one _ (own_step_pos (own_in_vals q2) (own_in_vals q1).1)] at e ⊢; exact e))).2) k_) ?_
      refine GoOn.st (fun t_ k_ => XS.iconst X25.here hx rfl (hb hby at_150)  k_) ?_
      show GoOn _ _ _ _ (T25.setTop (mkF m 151 #[.val (.int p1), .val (.long q1), .second, .val (.long q2), .second, .val (.long q3), .second, .val (.int (0 : Int32)), .val (.int (1 : Int32)), .val (.ref bb1), .val (.ref bb3), .val (.ref bb6), .val (.ref b7), .val (.ref b11), .val (.long (1 : Int64)), .second, .val (.long (1 : Int64)), .second, .val (.long (1 : Int64)), .second, .val (.long (1 : Int64)), .second] [(.int (1 : Int32))]))
      refine GoOn.st (fun t_ k_ => XS.goto X25.here hx rfl (pc0 := 151) (pc' := 155) rfl (hb hby at_151) (by decide) (by decide) k_) ?_
      show GoOn _ _ _ _ (T25.setTop (mkF m 155 #[.val (.int p1), .val (.long q1), .second, .val (.long q2), .second, .val (.long q3), .second, .val (.int (0 : Int32)), .val (.int (1 : Int32)), .val (.ref bb1), .val (.ref bb3), .val (.ref bb6), .val (.ref b7), .val (.ref b11), .val (.long (1 : Int64)), .second, .val (.long (1 : Int64)), .second, .val (.long (1 : Int64)), .second, .val (.long (1 : Int64)), .second] [(.int (1 : Int32))]))
      exact GoOn.retWZ X25 hS6 (by rw [e25]; exact (Nat.le_trans (Nat.le_trans (Nat.le_trans (Nat.le_trans (Nat.le_refl _) E7.1) K9.1) E11.1) K14.1)) hx hlk hret (by simp) rfl (hb hby at_155) ⟨rfl, N14⟩ (by decide) (by decide)
    · rw [hk15]
      refine GoOn.st (fun t_ k_ => XS.aload X14.here hx rfl (hb hby at_92) rfl rfl k_) ?_
      refine GoOn.st (fun t_ k_ => XS.iload X14.here hx rfl (hb hby at_94) rfl k_) ?_
      show GoOn _ _ _ _ (T14.setTop (mkF m 96 #[.val (.int p1), .val (.long q1), .second, .val (.long q2), .second, .val (.long q3), .second, .val (.int (0 : Int32)), .val (.int (2 : Int32)), .val (.ref bb1), .val (.ref bb3), .val (.ref bb6), .val (.ref b7), .val (.ref b11), .unset, .unset, .unset, .unset, .unset, .unset, .unset, .unset] [(.int (2 : Int32)), (.ref b11)]))
      refine GoOn.callV (W := 0) (argsL := [(.int (2 : Int32))]) (rest := []) (a := b11) X14 hx hZ6 hown6 (hw _ (List.mem_of_getElem? (i := 99) rfl)) (hw _ (List.mem_of_getElem? (i := 100) rfl)) (notFace_of_selects (args := #[]) (mvT hZ6 (hw _ (List.mem_of_getElem? (i := 102) rfl)))) (hw _ (List.mem_of_getElem? (i := 102) rfl)) (hw _ (List.mem_of_getElem? (i := 101) rfl)) (hw _ (List.mem_of_getElem? (i := 78) rfl)) (hw _ (List.mem_of_getElem? (i := 103) rfl)) (by decide) (rm_val02 l Z a0 hw b11 bl14 bh14 kl14 kh14  T14.heap f14_1 f14_2 f14_3 f14_4) rfl f14_0 (by decide) (by decide) (by rw [hml]; rfl) pd_12 rfl rfl (Nat.le_of_eq rfl) (hb hby at_96) (by decide) (by decide) ?_
      rintro _ T26 L26 X26 ⟨rfl, rfl, e26⟩
      rw [List.append_nil] at X26
      refine GoOn.st (fun t_ k_ => XS.lstore X26.here hx rfl (hb hby at_99) rfl (l' := #[.val (.int p1), .val (.long q1), .second, .val (.long q2), .second, .val (.long q3), .second, .val (.int (0 : Int32)), .val (.int (2 : Int32)), .val (.ref bb1), .val (.ref bb3), .val (.ref bb6), .val (.ref b7), .val (.ref b11), .val (.long (1 : Int64)), .second, .unset, .unset, .unset, .unset, .unset, .unset]) rfl k_) ?_
      refine GoOn.st (fun t_ k_ => XS.lloadN X26.here hx rfl (hb hby at_101) rfl k_) ?_
      refine GoOn.st (fun t_ k_ => XS.iconst X26.here hx rfl (hb hby at_102)  k_) ?_
      show GoOn _ _ _ _ (T26.setTop (mkF m 103 #[.val (.int p1), .val (.long q1), .second, .val (.long q2), .second, .val (.long q3), .second, .val (.int (0 : Int32)), .val (.int (2 : Int32)), .val (.ref bb1), .val (.ref bb3), .val (.ref bb6), .val (.ref b7), .val (.ref b11), .val (.long (1 : Int64)), .second, .unset, .unset, .unset, .unset, .unset, .unset] [(.int (0 : Int32)), (.long q1)]))
      refine GoOn.st (fun t_ k_ => XS.iload X26.here hx rfl (hb hby at_103) rfl k_) ?_
      refine GoOn.st (fun t_ k_ => XS.iload X26.here hx rfl (hb hby at_105) rfl k_) ?_
      show GoOn _ _ _ _ (T26.setTop (mkF m 107 #[.val (.int p1), .val (.long q1), .second, .val (.long q2), .second, .val (.long q3), .second, .val (.int (0 : Int32)), .val (.int (2 : Int32)), .val (.ref bb1), .val (.ref bb3), .val (.ref bb6), .val (.ref b7), .val (.ref b11), .val (.long (1 : Int64)), .second, .unset, .unset, .unset, .unset, .unset, .unset] [(.int (0 : Int32)), (.int (2 : Int32)), (.int (0 : Int32)), (.long q1)]))
      refine GoOn.callS (W := 0) (argsL := [(.long q1), (.int (0 : Int32)), (.int (2 : Int32)), (.int (0 : Int32))]) (rest := []) X26 hx hZ6 hown6 (hw _ (List.mem_of_getElem? (i := 104) rfl)) (hw _ (List.mem_of_getElem? (i := 105) rfl)) (hw _ (List.mem_of_getElem? (i := 2) rfl)) (hw _ (List.mem_of_getElem? (i := 106) rfl)) (by decide) (rm_facM l Z a0 hw q1 (0 : Int32) (2 : Int32) (0 : Int32) T14.heap (by decide)) e26 (by decide) (by decide) (by rw [hml]; rfl) pd_13 rfl rfl (Nat.le_of_eq rfl) (hb hby at_107) (by decide) (by decide) ?_
      rintro _ T27 L27 X27 ⟨rfl, rfl, e27⟩
      rw [List.append_nil] at X27
      refine GoOn.st (fun t_ k_ => XS.lstore X27.here hx rfl (hb hby at_110) rfl (l' := #[.val (.int p1), .val (.long q1), .second, .val (.long q2), .second, .val (.long q3), .second, .val (.int (0 : Int32)), .val (.int (2 : Int32)), .val (.ref bb1), .val (.ref bb3), .val (.ref bb6), .val (.ref b7), .val (.ref b11), .val (.long (1 : Int64)), .second, .val (.long (1 : Int64)), .second, .unset, .unset, .unset, .unset]) rfl k_) ?_
      refine GoOn.st (fun t_ k_ => XS.lloadN X27.here hx rfl (hb hby at_112) rfl k_) ?_
      refine GoOn.st (fun t_ k_ => XS.iconst X27.here hx rfl (hb hby at_113)  k_) ?_
      show GoOn _ _ _ _ (T27.setTop (mkF m 114 #[.val (.int p1), .val (.long q1), .second, .val (.long q2), .second, .val (.long q3), .second, .val (.int (0 : Int32)), .val (.int (2 : Int32)), .val (.ref bb1), .val (.ref bb3), .val (.ref bb6), .val (.ref b7), .val (.ref b11), .val (.long (1 : Int64)), .second, .val (.long (1 : Int64)), .second, .unset, .unset, .unset, .unset] [(.int (1 : Int32)), (.long q2)]))
      refine GoOn.st (fun t_ k_ => XS.iload X27.here hx rfl (hb hby at_114) rfl k_) ?_
      refine GoOn.st (fun t_ k_ => XS.iload X27.here hx rfl (hb hby at_116) rfl k_) ?_
      show GoOn _ _ _ _ (T27.setTop (mkF m 118 #[.val (.int p1), .val (.long q1), .second, .val (.long q2), .second, .val (.long q3), .second, .val (.int (0 : Int32)), .val (.int (2 : Int32)), .val (.ref bb1), .val (.ref bb3), .val (.ref bb6), .val (.ref b7), .val (.ref b11), .val (.long (1 : Int64)), .second, .val (.long (1 : Int64)), .second, .unset, .unset, .unset, .unset] [(.int (0 : Int32)), (.int (2 : Int32)), (.int (1 : Int32)), (.long q2)]))
      refine GoOn.callS (W := 0) (argsL := [(.long q2), (.int (1 : Int32)), (.int (2 : Int32)), (.int (0 : Int32))]) (rest := []) X27 hx hZ6 hown6 (hw _ (List.mem_of_getElem? (i := 104) rfl)) (hw _ (List.mem_of_getElem? (i := 105) rfl)) (hw _ (List.mem_of_getElem? (i := 2) rfl)) (hw _ (List.mem_of_getElem? (i := 106) rfl)) (by decide) (rm_facM l Z a0 hw q2 (1 : Int32) (2 : Int32) (0 : Int32) T14.heap (by decide)) e27 (by decide) (by decide) (by rw [hml]; rfl) pd_13 rfl rfl (Nat.le_of_eq rfl) (hb hby at_118) (by decide) (by decide) ?_
      rintro _ T28 L28 X28 ⟨rfl, rfl, e28⟩
      rw [List.append_nil] at X28
      refine GoOn.st (fun t_ k_ => XS.lstore X28.here hx rfl (hb hby at_121) rfl (l' := #[.val (.int p1), .val (.long q1), .second, .val (.long q2), .second, .val (.long q3), .second, .val (.int (0 : Int32)), .val (.int (2 : Int32)), .val (.ref bb1), .val (.ref bb3), .val (.ref bb6), .val (.ref b7), .val (.ref b11), .val (.long (1 : Int64)), .second, .val (.long (1 : Int64)), .second, .val (.long (1 : Int64)), .second, .unset, .unset]) rfl k_) ?_
      refine GoOn.st (fun t_ k_ => XS.lload X28.here hx rfl (hb hby at_123) rfl k_) ?_
      refine GoOn.st (fun t_ k_ => XS.iconst X28.here hx rfl (hb hby at_125)  k_) ?_
      show GoOn _ _ _ _ (T28.setTop (mkF m 126 #[.val (.int p1), .val (.long q1), .second, .val (.long q2), .second, .val (.long q3), .second, .val (.int (0 : Int32)), .val (.int (2 : Int32)), .val (.ref bb1), .val (.ref bb3), .val (.ref bb6), .val (.ref b7), .val (.ref b11), .val (.long (1 : Int64)), .second, .val (.long (1 : Int64)), .second, .val (.long (1 : Int64)), .second, .unset, .unset] [(.int (2 : Int32)), (.long q3)]))
      refine GoOn.st (fun t_ k_ => XS.iload X28.here hx rfl (hb hby at_126) rfl k_) ?_
      refine GoOn.st (fun t_ k_ => XS.iload X28.here hx rfl (hb hby at_128) rfl k_) ?_
      show GoOn _ _ _ _ (T28.setTop (mkF m 130 #[.val (.int p1), .val (.long q1), .second, .val (.long q2), .second, .val (.long q3), .second, .val (.int (0 : Int32)), .val (.int (2 : Int32)), .val (.ref bb1), .val (.ref bb3), .val (.ref bb6), .val (.ref b7), .val (.ref b11), .val (.long (1 : Int64)), .second, .val (.long (1 : Int64)), .second, .val (.long (1 : Int64)), .second, .unset, .unset] [(.int (0 : Int32)), (.int (2 : Int32)), (.int (2 : Int32)), (.long q3)]))
      refine GoOn.callS (W := 0) (argsL := [(.long q3), (.int (2 : Int32)), (.int (2 : Int32)), (.int (0 : Int32))]) (rest := []) X28 hx hZ6 hown6 (hw _ (List.mem_of_getElem? (i := 104) rfl)) (hw _ (List.mem_of_getElem? (i := 105) rfl)) (hw _ (List.mem_of_getElem? (i := 2) rfl)) (hw _ (List.mem_of_getElem? (i := 106) rfl)) (by decide) (rm_facN l Z a0 hw q3 (2 : Int32) (2 : Int32) (0 : Int32) T14.heap (by decide) (by decide)) e28 (by decide) (by decide) (by rw [hml]; rfl) pd_13 rfl rfl (Nat.le_of_eq rfl) (hb hby at_130) (by decide) (by decide) ?_
      rintro _ T29 L29 X29 ⟨rfl, rfl, e29⟩
      rw [List.append_nil] at X29
      refine GoOn.st (fun t_ k_ => XS.lstore X29.here hx rfl (hb hby at_133) rfl (l' := #[.val (.int p1), .val (.long q1), .second, .val (.long q2), .second, .val (.long q3), .second, .val (.int (0 : Int32)), .val (.int (2 : Int32)), .val (.ref bb1), .val (.ref bb3), .val (.ref bb6), .val (.ref b7), .val (.ref b11), .val (.long (1 : Int64)), .second, .val (.long (1 : Int64)), .second, .val (.long (1 : Int64)), .second, .val (.long (1 : Int64)), .second]) rfl k_) ?_
      refine GoOn.st (fun t_ k_ => XS.lload X29.here hx rfl (hb hby at_135) rfl k_) ?_
      refine GoOn.st (fun t_ k_ => XS.lload X29.here hx rfl (hb hby at_137) rfl k_) ?_
      show GoOn _ _ _ _ (T29.setTop (mkF m 139 #[.val (.int p1), .val (.long q1), .second, .val (.long q2), .second, .val (.long q3), .second, .val (.int (0 : Int32)), .val (.int (2 : Int32)), .val (.ref bb1), .val (.ref bb3), .val (.ref bb6), .val (.ref b7), .val (.ref b11), .val (.long (1 : Int64)), .second, .val (.long (1 : Int64)), .second, .val (.long (1 : Int64)), .second, .val (.long (1 : Int64)), .second] [(.long (1 : Int64)), (.long (1 : Int64))]))
      refine GoOn.st (fun t_ k_ => XS.lload X29.here hx rfl (hb hby at_139) rfl k_) ?_
      refine GoOn.st (fun t_ k_ => XS.lload X29.here hx rfl (hb hby at_141) rfl k_) ?_
      show GoOn _ _ _ _ (T29.setTop (mkF m 143 #[.val (.int p1), .val (.long q1), .second, .val (.long q2), .second, .val (.long q3), .second, .val (.int (0 : Int32)), .val (.int (2 : Int32)), .val (.ref bb1), .val (.ref bb3), .val (.ref bb6), .val (.ref b7), .val (.ref b11), .val (.long (1 : Int64)), .second, .val (.long (1 : Int64)), .second, .val (.long (1 : Int64)), .second, .val (.long (1 : Int64)), .second] [(.long (1 : Int64)), (.long (1 : Int64)), (.long (1 : Int64)), (.long (1 : Int64))]))
      refine GoOn.callS (W := 2) (argsL := [(.long (1 : Int64)), (.long (1 : Int64)), (.long (1 : Int64))]) (rest := [(.long (1 : Int64))]) X29 hx hZ6 hown6 (hw _ (List.mem_of_getElem? (i := 107) rfl)) (hw _ (List.mem_of_getElem? (i := 108) rfl)) (hw _ (List.mem_of_getElem? (i := 2) rfl)) (hw _ (List.mem_of_getElem? (i := 109) rfl)) (by decide) (rm_sat l Z a0 hw (1 : Int64) (1 : Int64) (1 : Int64) T14.heap own_in_one) e29 (by decide) (by decide) (by rw [hml]; rfl) pd_14 rfl rfl (Nat.le_of_eq rfl) (hb hby at_143) (by decide) (by decide) ?_
      rintro _ T30 L30 X30 ⟨rfl, rfl, e30⟩
      rw [List.append_nil] at X30
      refine GoOn.st (fun t_ k_ => XS.lcmp X30.here hx rfl (hb hby at_146) rfl k_) ?_
      refine GoOn.st (fun t_ k_ => XS.ifNo X30.here hx rfl (hb hby at_147) rfl ((if0 _ _).trans (teq ((lw_eq (1 : Int64) (own_sat (1 : Int64) (1 : Int64) (1 : Int64))).mpr (by have e := own_law own_in_one own_in_one own_in_one; simp only [own_step_first own_in_one, own_step_one _ (own_in_one).1, own_step_first (own_in_vals q1), own_step_one _ (own_in_vals q1).1, own_step_first (own_in_vals q2), own_step_one _ (own_in_vals q2).1, own_step_first (own_in_vals q3), own_step_one _ (own_in_vals q3).1, own_step_one _ (own_step_pos (own_in_vals q2) (own_in_vals q1).1)] at e ⊢; exact e))).2) k_) ?_
      refine GoOn.st (fun t_ k_ => XS.iconst X30.here hx rfl (hb hby at_150)  k_) ?_
      show GoOn _ _ _ _ (T30.setTop (mkF m 151 #[.val (.int p1), .val (.long q1), .second, .val (.long q2), .second, .val (.long q3), .second, .val (.int (0 : Int32)), .val (.int (2 : Int32)), .val (.ref bb1), .val (.ref bb3), .val (.ref bb6), .val (.ref b7), .val (.ref b11), .val (.long (1 : Int64)), .second, .val (.long (1 : Int64)), .second, .val (.long (1 : Int64)), .second, .val (.long (1 : Int64)), .second] [(.int (1 : Int32))]))
      refine GoOn.st (fun t_ k_ => XS.goto X30.here hx rfl (pc0 := 151) (pc' := 155) rfl (hb hby at_151) (by decide) (by decide) k_) ?_
      show GoOn _ _ _ _ (T30.setTop (mkF m 155 #[.val (.int p1), .val (.long q1), .second, .val (.long q2), .second, .val (.long q3), .second, .val (.int (0 : Int32)), .val (.int (2 : Int32)), .val (.ref bb1), .val (.ref bb3), .val (.ref bb6), .val (.ref b7), .val (.ref b11), .val (.long (1 : Int64)), .second, .val (.long (1 : Int64)), .second, .val (.long (1 : Int64)), .second, .val (.long (1 : Int64)), .second] [(.int (1 : Int32))]))
      exact GoOn.retWZ X30 hS6 (by rw [e30]; exact (Nat.le_trans (Nat.le_trans (Nat.le_trans (Nat.le_trans (Nat.le_refl _) E7.1) K9.1) E11.1) K14.1)) hx hlk hret (by simp) rfl (hb hby at_155) ⟨rfl, N14⟩ (by decide) (by decide)
    · rw [hk15]
      refine GoOn.st (fun t_ k_ => XS.aload X14.here hx rfl (hb hby at_92) rfl rfl k_) ?_
      refine GoOn.st (fun t_ k_ => XS.iload X14.here hx rfl (hb hby at_94) rfl k_) ?_
      show GoOn _ _ _ _ (T14.setTop (mkF m 96 #[.val (.int p1), .val (.long q1), .second, .val (.long q2), .second, .val (.long q3), .second, .val (.int (0 : Int32)), .val (.int (3 : Int32)), .val (.ref bb1), .val (.ref bb3), .val (.ref bb6), .val (.ref b7), .val (.ref b11), .unset, .unset, .unset, .unset, .unset, .unset, .unset, .unset] [(.int (3 : Int32)), (.ref b11)]))
      refine GoOn.callV (W := 0) (argsL := [(.int (3 : Int32))]) (rest := []) (a := b11) X14 hx hZ6 hown6 (hw _ (List.mem_of_getElem? (i := 99) rfl)) (hw _ (List.mem_of_getElem? (i := 100) rfl)) (notFace_of_selects (args := #[]) (mvT hZ6 (hw _ (List.mem_of_getElem? (i := 102) rfl)))) (hw _ (List.mem_of_getElem? (i := 102) rfl)) (hw _ (List.mem_of_getElem? (i := 101) rfl)) (hw _ (List.mem_of_getElem? (i := 78) rfl)) (hw _ (List.mem_of_getElem? (i := 103) rfl)) (by decide) (rm_val03 l Z a0 hw b11 bl14 bh14 kl14 kh14  T14.heap f14_1 f14_2 f14_3 f14_4) rfl f14_0 (by decide) (by decide) (by rw [hml]; rfl) pd_12 rfl rfl (Nat.le_of_eq rfl) (hb hby at_96) (by decide) (by decide) ?_
      rintro _ T31 L31 X31 ⟨rfl, rfl, e31⟩
      rw [List.append_nil] at X31
      refine GoOn.st (fun t_ k_ => XS.lstore X31.here hx rfl (hb hby at_99) rfl (l' := #[.val (.int p1), .val (.long q1), .second, .val (.long q2), .second, .val (.long q3), .second, .val (.int (0 : Int32)), .val (.int (3 : Int32)), .val (.ref bb1), .val (.ref bb3), .val (.ref bb6), .val (.ref b7), .val (.ref b11), .val (.long (1 : Int64)), .second, .unset, .unset, .unset, .unset, .unset, .unset]) rfl k_) ?_
      refine GoOn.st (fun t_ k_ => XS.lloadN X31.here hx rfl (hb hby at_101) rfl k_) ?_
      refine GoOn.st (fun t_ k_ => XS.iconst X31.here hx rfl (hb hby at_102)  k_) ?_
      show GoOn _ _ _ _ (T31.setTop (mkF m 103 #[.val (.int p1), .val (.long q1), .second, .val (.long q2), .second, .val (.long q3), .second, .val (.int (0 : Int32)), .val (.int (3 : Int32)), .val (.ref bb1), .val (.ref bb3), .val (.ref bb6), .val (.ref b7), .val (.ref b11), .val (.long (1 : Int64)), .second, .unset, .unset, .unset, .unset, .unset, .unset] [(.int (0 : Int32)), (.long q1)]))
      refine GoOn.st (fun t_ k_ => XS.iload X31.here hx rfl (hb hby at_103) rfl k_) ?_
      refine GoOn.st (fun t_ k_ => XS.iload X31.here hx rfl (hb hby at_105) rfl k_) ?_
      show GoOn _ _ _ _ (T31.setTop (mkF m 107 #[.val (.int p1), .val (.long q1), .second, .val (.long q2), .second, .val (.long q3), .second, .val (.int (0 : Int32)), .val (.int (3 : Int32)), .val (.ref bb1), .val (.ref bb3), .val (.ref bb6), .val (.ref b7), .val (.ref b11), .val (.long (1 : Int64)), .second, .unset, .unset, .unset, .unset, .unset, .unset] [(.int (0 : Int32)), (.int (3 : Int32)), (.int (0 : Int32)), (.long q1)]))
      refine GoOn.callS (W := 0) (argsL := [(.long q1), (.int (0 : Int32)), (.int (3 : Int32)), (.int (0 : Int32))]) (rest := []) X31 hx hZ6 hown6 (hw _ (List.mem_of_getElem? (i := 104) rfl)) (hw _ (List.mem_of_getElem? (i := 105) rfl)) (hw _ (List.mem_of_getElem? (i := 2) rfl)) (hw _ (List.mem_of_getElem? (i := 106) rfl)) (by decide) (rm_facM l Z a0 hw q1 (0 : Int32) (3 : Int32) (0 : Int32) T14.heap (by decide)) e31 (by decide) (by decide) (by rw [hml]; rfl) pd_13 rfl rfl (Nat.le_of_eq rfl) (hb hby at_107) (by decide) (by decide) ?_
      rintro _ T32 L32 X32 ⟨rfl, rfl, e32⟩
      rw [List.append_nil] at X32
      refine GoOn.st (fun t_ k_ => XS.lstore X32.here hx rfl (hb hby at_110) rfl (l' := #[.val (.int p1), .val (.long q1), .second, .val (.long q2), .second, .val (.long q3), .second, .val (.int (0 : Int32)), .val (.int (3 : Int32)), .val (.ref bb1), .val (.ref bb3), .val (.ref bb6), .val (.ref b7), .val (.ref b11), .val (.long (1 : Int64)), .second, .val (.long (1 : Int64)), .second, .unset, .unset, .unset, .unset]) rfl k_) ?_
      refine GoOn.st (fun t_ k_ => XS.lloadN X32.here hx rfl (hb hby at_112) rfl k_) ?_
      refine GoOn.st (fun t_ k_ => XS.iconst X32.here hx rfl (hb hby at_113)  k_) ?_
      show GoOn _ _ _ _ (T32.setTop (mkF m 114 #[.val (.int p1), .val (.long q1), .second, .val (.long q2), .second, .val (.long q3), .second, .val (.int (0 : Int32)), .val (.int (3 : Int32)), .val (.ref bb1), .val (.ref bb3), .val (.ref bb6), .val (.ref b7), .val (.ref b11), .val (.long (1 : Int64)), .second, .val (.long (1 : Int64)), .second, .unset, .unset, .unset, .unset] [(.int (1 : Int32)), (.long q2)]))
      refine GoOn.st (fun t_ k_ => XS.iload X32.here hx rfl (hb hby at_114) rfl k_) ?_
      refine GoOn.st (fun t_ k_ => XS.iload X32.here hx rfl (hb hby at_116) rfl k_) ?_
      show GoOn _ _ _ _ (T32.setTop (mkF m 118 #[.val (.int p1), .val (.long q1), .second, .val (.long q2), .second, .val (.long q3), .second, .val (.int (0 : Int32)), .val (.int (3 : Int32)), .val (.ref bb1), .val (.ref bb3), .val (.ref bb6), .val (.ref b7), .val (.ref b11), .val (.long (1 : Int64)), .second, .val (.long (1 : Int64)), .second, .unset, .unset, .unset, .unset] [(.int (0 : Int32)), (.int (3 : Int32)), (.int (1 : Int32)), (.long q2)]))
      refine GoOn.callS (W := 0) (argsL := [(.long q2), (.int (1 : Int32)), (.int (3 : Int32)), (.int (0 : Int32))]) (rest := []) X32 hx hZ6 hown6 (hw _ (List.mem_of_getElem? (i := 104) rfl)) (hw _ (List.mem_of_getElem? (i := 105) rfl)) (hw _ (List.mem_of_getElem? (i := 2) rfl)) (hw _ (List.mem_of_getElem? (i := 106) rfl)) (by decide) (rm_facM l Z a0 hw q2 (1 : Int32) (3 : Int32) (0 : Int32) T14.heap (by decide)) e32 (by decide) (by decide) (by rw [hml]; rfl) pd_13 rfl rfl (Nat.le_of_eq rfl) (hb hby at_118) (by decide) (by decide) ?_
      rintro _ T33 L33 X33 ⟨rfl, rfl, e33⟩
      rw [List.append_nil] at X33
      refine GoOn.st (fun t_ k_ => XS.lstore X33.here hx rfl (hb hby at_121) rfl (l' := #[.val (.int p1), .val (.long q1), .second, .val (.long q2), .second, .val (.long q3), .second, .val (.int (0 : Int32)), .val (.int (3 : Int32)), .val (.ref bb1), .val (.ref bb3), .val (.ref bb6), .val (.ref b7), .val (.ref b11), .val (.long (1 : Int64)), .second, .val (.long (1 : Int64)), .second, .val (.long (1 : Int64)), .second, .unset, .unset]) rfl k_) ?_
      refine GoOn.st (fun t_ k_ => XS.lload X33.here hx rfl (hb hby at_123) rfl k_) ?_
      refine GoOn.st (fun t_ k_ => XS.iconst X33.here hx rfl (hb hby at_125)  k_) ?_
      show GoOn _ _ _ _ (T33.setTop (mkF m 126 #[.val (.int p1), .val (.long q1), .second, .val (.long q2), .second, .val (.long q3), .second, .val (.int (0 : Int32)), .val (.int (3 : Int32)), .val (.ref bb1), .val (.ref bb3), .val (.ref bb6), .val (.ref b7), .val (.ref b11), .val (.long (1 : Int64)), .second, .val (.long (1 : Int64)), .second, .val (.long (1 : Int64)), .second, .unset, .unset] [(.int (2 : Int32)), (.long q3)]))
      refine GoOn.st (fun t_ k_ => XS.iload X33.here hx rfl (hb hby at_126) rfl k_) ?_
      refine GoOn.st (fun t_ k_ => XS.iload X33.here hx rfl (hb hby at_128) rfl k_) ?_
      show GoOn _ _ _ _ (T33.setTop (mkF m 130 #[.val (.int p1), .val (.long q1), .second, .val (.long q2), .second, .val (.long q3), .second, .val (.int (0 : Int32)), .val (.int (3 : Int32)), .val (.ref bb1), .val (.ref bb3), .val (.ref bb6), .val (.ref b7), .val (.ref b11), .val (.long (1 : Int64)), .second, .val (.long (1 : Int64)), .second, .val (.long (1 : Int64)), .second, .unset, .unset] [(.int (0 : Int32)), (.int (3 : Int32)), (.int (2 : Int32)), (.long q3)]))
      refine GoOn.callS (W := 0) (argsL := [(.long q3), (.int (2 : Int32)), (.int (3 : Int32)), (.int (0 : Int32))]) (rest := []) X33 hx hZ6 hown6 (hw _ (List.mem_of_getElem? (i := 104) rfl)) (hw _ (List.mem_of_getElem? (i := 105) rfl)) (hw _ (List.mem_of_getElem? (i := 2) rfl)) (hw _ (List.mem_of_getElem? (i := 106) rfl)) (by decide) (rm_facM l Z a0 hw q3 (2 : Int32) (3 : Int32) (0 : Int32) T14.heap (by decide)) e33 (by decide) (by decide) (by rw [hml]; rfl) pd_13 rfl rfl (Nat.le_of_eq rfl) (hb hby at_130) (by decide) (by decide) ?_
      rintro _ T34 L34 X34 ⟨rfl, rfl, e34⟩
      rw [List.append_nil] at X34
      refine GoOn.st (fun t_ k_ => XS.lstore X34.here hx rfl (hb hby at_133) rfl (l' := #[.val (.int p1), .val (.long q1), .second, .val (.long q2), .second, .val (.long q3), .second, .val (.int (0 : Int32)), .val (.int (3 : Int32)), .val (.ref bb1), .val (.ref bb3), .val (.ref bb6), .val (.ref b7), .val (.ref b11), .val (.long (1 : Int64)), .second, .val (.long (1 : Int64)), .second, .val (.long (1 : Int64)), .second, .val (.long (1 : Int64)), .second]) rfl k_) ?_
      refine GoOn.st (fun t_ k_ => XS.lload X34.here hx rfl (hb hby at_135) rfl k_) ?_
      refine GoOn.st (fun t_ k_ => XS.lload X34.here hx rfl (hb hby at_137) rfl k_) ?_
      show GoOn _ _ _ _ (T34.setTop (mkF m 139 #[.val (.int p1), .val (.long q1), .second, .val (.long q2), .second, .val (.long q3), .second, .val (.int (0 : Int32)), .val (.int (3 : Int32)), .val (.ref bb1), .val (.ref bb3), .val (.ref bb6), .val (.ref b7), .val (.ref b11), .val (.long (1 : Int64)), .second, .val (.long (1 : Int64)), .second, .val (.long (1 : Int64)), .second, .val (.long (1 : Int64)), .second] [(.long (1 : Int64)), (.long (1 : Int64))]))
      refine GoOn.st (fun t_ k_ => XS.lload X34.here hx rfl (hb hby at_139) rfl k_) ?_
      refine GoOn.st (fun t_ k_ => XS.lload X34.here hx rfl (hb hby at_141) rfl k_) ?_
      show GoOn _ _ _ _ (T34.setTop (mkF m 143 #[.val (.int p1), .val (.long q1), .second, .val (.long q2), .second, .val (.long q3), .second, .val (.int (0 : Int32)), .val (.int (3 : Int32)), .val (.ref bb1), .val (.ref bb3), .val (.ref bb6), .val (.ref b7), .val (.ref b11), .val (.long (1 : Int64)), .second, .val (.long (1 : Int64)), .second, .val (.long (1 : Int64)), .second, .val (.long (1 : Int64)), .second] [(.long (1 : Int64)), (.long (1 : Int64)), (.long (1 : Int64)), (.long (1 : Int64))]))
      refine GoOn.callS (W := 2) (argsL := [(.long (1 : Int64)), (.long (1 : Int64)), (.long (1 : Int64))]) (rest := [(.long (1 : Int64))]) X34 hx hZ6 hown6 (hw _ (List.mem_of_getElem? (i := 107) rfl)) (hw _ (List.mem_of_getElem? (i := 108) rfl)) (hw _ (List.mem_of_getElem? (i := 2) rfl)) (hw _ (List.mem_of_getElem? (i := 109) rfl)) (by decide) (rm_sat l Z a0 hw (1 : Int64) (1 : Int64) (1 : Int64) T14.heap own_in_one) e34 (by decide) (by decide) (by rw [hml]; rfl) pd_14 rfl rfl (Nat.le_of_eq rfl) (hb hby at_143) (by decide) (by decide) ?_
      rintro _ T35 L35 X35 ⟨rfl, rfl, e35⟩
      rw [List.append_nil] at X35
      refine GoOn.st (fun t_ k_ => XS.lcmp X35.here hx rfl (hb hby at_146) rfl k_) ?_
      refine GoOn.st (fun t_ k_ => XS.ifNo X35.here hx rfl (hb hby at_147) rfl ((if0 _ _).trans (teq ((lw_eq (1 : Int64) (own_sat (1 : Int64) (1 : Int64) (1 : Int64))).mpr (by have e := own_law own_in_one own_in_one own_in_one; simp only [own_step_first own_in_one, own_step_one _ (own_in_one).1, own_step_first (own_in_vals q1), own_step_one _ (own_in_vals q1).1, own_step_first (own_in_vals q2), own_step_one _ (own_in_vals q2).1, own_step_first (own_in_vals q3), own_step_one _ (own_in_vals q3).1, own_step_one _ (own_step_pos (own_in_vals q2) (own_in_vals q1).1)] at e ⊢; exact e))).2) k_) ?_
      refine GoOn.st (fun t_ k_ => XS.iconst X35.here hx rfl (hb hby at_150)  k_) ?_
      show GoOn _ _ _ _ (T35.setTop (mkF m 151 #[.val (.int p1), .val (.long q1), .second, .val (.long q2), .second, .val (.long q3), .second, .val (.int (0 : Int32)), .val (.int (3 : Int32)), .val (.ref bb1), .val (.ref bb3), .val (.ref bb6), .val (.ref b7), .val (.ref b11), .val (.long (1 : Int64)), .second, .val (.long (1 : Int64)), .second, .val (.long (1 : Int64)), .second, .val (.long (1 : Int64)), .second] [(.int (1 : Int32))]))
      refine GoOn.st (fun t_ k_ => XS.goto X35.here hx rfl (pc0 := 151) (pc' := 155) rfl (hb hby at_151) (by decide) (by decide) k_) ?_
      show GoOn _ _ _ _ (T35.setTop (mkF m 155 #[.val (.int p1), .val (.long q1), .second, .val (.long q2), .second, .val (.long q3), .second, .val (.int (0 : Int32)), .val (.int (3 : Int32)), .val (.ref bb1), .val (.ref bb3), .val (.ref bb6), .val (.ref b7), .val (.ref b11), .val (.long (1 : Int64)), .second, .val (.long (1 : Int64)), .second, .val (.long (1 : Int64)), .second, .val (.long (1 : Int64)), .second] [(.int (1 : Int32))]))
      exact GoOn.retWZ X35 hS6 (by rw [e35]; exact (Nat.le_trans (Nat.le_trans (Nat.le_trans (Nat.le_trans (Nat.le_refl _) E7.1) K9.1) E11.1) K14.1)) hx hlk hret (by simp) rfl (hb hby at_155) ⟨rfl, N14⟩ (by decide) (by decide)
  · rw [hk10]
    refine GoOn.st (fun t_ k_ => XS.iload X9.here hx rfl (hb hby at_40) rfl k_) ?_
    refine GoOn.st (fun t_ k_ => XS.ifNo X9.here hx rfl (hb hby at_42) rfl ((if0 _ _).trans (tlt (by decide : (0 : Int32) < (1 : Int32))).2.2.2) k_) ?_
    refine GoOn.st (fun t_ k_ => XS.aload X9.here hx rfl (hb hby at_45) rfl rfl k_) ?_
    show GoOn _ _ _ _ (T9.setTop (mkF m 47 #[.val (.int p1), .val (.long q1), .second, .val (.long q2), .second, .val (.long q3), .second, .val (.int (1 : Int32)), .val (.int ((((p1).toUInt32 >>> ((2 : Int32) &&& 31).toUInt32).toInt32) &&& (3 : Int32))), .val (.ref bb1), .val (.ref bb3), .val (.ref bb6), .val (.ref b7), .unset, .unset, .unset, .unset, .unset, .unset, .unset, .unset, .unset] [(.ref b7)]))
    refine GoOn.st (fun t_ k_ => XS.aload X9.here hx rfl (hb hby at_47) rfl rfl k_) ?_
    show GoOn _ _ _ _ (T9.setTop (mkF m 49 #[.val (.int p1), .val (.long q1), .second, .val (.long q2), .second, .val (.long q3), .second, .val (.int (1 : Int32)), .val (.int ((((p1).toUInt32 >>> ((2 : Int32) &&& 31).toUInt32).toInt32) &&& (3 : Int32))), .val (.ref bb1), .val (.ref bb3), .val (.ref bb6), .val (.ref b7), .unset, .unset, .unset, .unset, .unset, .unset, .unset, .unset, .unset] [(.ref bb1), (.ref b7)]))
    have F36 := (((F4.keep K6).ext E7).keep K9)
    have F37 := (((f3_0.keep K6).ext E7).keep K9)
    have F38 := ((f6_0.ext E7).keep K9)
    have Od39 := (Od8.keep K9 (allS g_b7 all0))
    refine GoOn.callV (W := 0) (argsL := [(.ref bb1)]) (rest := []) (a := b7) X9 hx hZ6 hown6 (hw _ (List.mem_of_getElem? (i := 111) rfl)) (hw _ (List.mem_of_getElem? (i := 112) rfl)) (notFace_of_selects (args := #[]) (mvT hZ6 (hw _ (List.mem_of_getElem? (i := 114) rfl)))) (hw _ (List.mem_of_getElem? (i := 114) rfl)) (hw _ (List.mem_of_getElem? (i := 113) rfl)) (hw _ (List.mem_of_getElem? (i := 54) rfl)) (hw _ (List.mem_of_getElem? (i := 115) rfl)) (by decide) (rm_add10 l Z a0 hw b7 bb1 aD kD T9.heap n0 (Nat.le_trans (Nat.le_trans (Nat.le_trans (Nat.le_trans (Nat.le_trans Z0 K1.1) K3.1) K6.1) E7.1) K9.1) Od39 SD VD f9_0 f9_1 f9_2 f9_3 g_b7 F36 ne_bb1_b7) rfl f9_0 (by decide) (by decide) (by rw [hml]; rfl) pd_15 rfl rfl (Nat.le_of_eq rfl) (hb hby at_49) (by decide) (by decide) ?_
    rintro _ T40 L40 X40 ⟨bb40, kb40, rfl, N40q, K40, gb40, sb40, O40, V40, f40_0, f40_1, f40_2, f40_3⟩
    have N40 := Fr.app N9 N40q
    have ne_bb1_bb40 : bb1 ≠ bb40 := Nat.ne_of_lt (Nat.lt_of_lt_of_le F36.lt sb40)
    have ne_bb3_bb40 : bb3 ≠ bb40 := Nat.ne_of_lt (Nat.lt_of_lt_of_le F37.lt sb40)
    have ne_bb6_bb40 : bb6 ≠ bb40 := Nat.ne_of_lt (Nat.lt_of_lt_of_le F38.lt sb40)
    have ne_b7_bb40 : b7 ≠ bb40 := Nat.ne_of_lt (Nat.lt_of_lt_of_le f9_0.lt sb40)
    have g_bb40 := gb40
    refine GoOn.st (fun t_ k_ => XS.pop X40.here hx rfl (hb hby at_52) rfl rfl k_) ?_
    refine GoOn.st (fun t_ k_ => XS.iload X40.here hx rfl (hb hby at_53) rfl k_) ?_
    refine GoOn.st (fun t_ k_ => XS.iconst X40.here hx rfl (hb hby at_55)  k_) ?_
    show GoOn _ _ _ _ (T40.setTop (mkF m 56 #[.val (.int p1), .val (.long q1), .second, .val (.long q2), .second, .val (.long q3), .second, .val (.int (1 : Int32)), .val (.int ((((p1).toUInt32 >>> ((2 : Int32) &&& 31).toUInt32).toInt32) &&& (3 : Int32))), .val (.ref bb1), .val (.ref bb3), .val (.ref bb6), .val (.ref b7), .unset, .unset, .unset, .unset, .unset, .unset, .unset, .unset, .unset] [(.int (1 : Int32)), (.int (1 : Int32))]))
    refine GoOn.st (fun t_ k_ => XS.icmpYes X40.here hx rfl (pc0 := 56) (pc' := 67) rfl (hb hby at_56) rfl (flt (by decide : ¬ ((1 : Int32) < (1 : Int32)))).2.2.2 (by decide) (by decide) k_) ?_
    refine GoOn.st (fun t_ k_ => XS.iload X40.here hx rfl (hb hby at_67) rfl k_) ?_
    refine GoOn.st (fun t_ k_ => XS.iconst X40.here hx rfl (hb hby at_69)  k_) ?_
    refine GoOn.st (fun t_ k_ => XS.icmpYes X40.here hx rfl (pc0 := 70) (pc' := 81) rfl (hb hby at_70) rfl (flt (by decide : ¬ ((2 : Int32) < (1 : Int32)))).2.2.2 (by decide) (by decide) k_) ?_
    show GoOn _ _ _ _ (T40.setTop (mkF m 81 #[.val (.int p1), .val (.long q1), .second, .val (.long q2), .second, .val (.long q3), .second, .val (.int (1 : Int32)), .val (.int ((((p1).toUInt32 >>> ((2 : Int32) &&& 31).toUInt32).toInt32) &&& (3 : Int32))), .val (.ref bb1), .val (.ref bb3), .val (.ref bb6), .val (.ref b7), .unset, .unset, .unset, .unset, .unset, .unset, .unset, .unset, .unset] []))
    obtain ⟨T41, h41, X41, e41, E41, A41, D41, -, st41⟩ := newO X40 hx hZ6 hown6 (hw _ (List.mem_of_getElem? (i := 76) rfl)) (hw _ (List.mem_of_getElem? (i := 77) rfl)) (hw _ (List.mem_of_getElem? (i := 78) rfl)) rfl (g := (mkF m 81 #[.val (.int p1), .val (.long q1), .second, .val (.long q2), .second, .val (.long q3), .second, .val (.int (1 : Int32)), .val (.int ((((p1).toUInt32 >>> ((2 : Int32) &&& 31).toUInt32).toInt32) &&& (3 : Int32))), .val (.ref bb1), .val (.ref bb3), .val (.ref bb6), .val (.ref b7), .unset, .unset, .unset, .unset, .unset, .unset, .unset, .unset, .unset] [])) rfl (hb hby at_81) (by decide) (by decide)
    obtain ⟨b41, g41⟩ : ∃ z, z = T40.heap.size := ⟨_, rfl⟩
    rw [← g41] at A41 D41 st41
    have ne_bb1_b41 : bb1 ≠ b41 := Nat.ne_of_lt (Nat.lt_of_lt_of_le (F36.keep K40).lt (Nat.le_of_eq g41.symm))
    have ne_bb3_b41 : bb3 ≠ b41 := Nat.ne_of_lt (Nat.lt_of_lt_of_le (F37.keep K40).lt (Nat.le_of_eq g41.symm))
    have ne_bb6_b41 : bb6 ≠ b41 := Nat.ne_of_lt (Nat.lt_of_lt_of_le (F38.keep K40).lt (Nat.le_of_eq g41.symm))
    have ne_b7_b41 : b7 ≠ b41 := Nat.ne_of_lt (Nat.lt_of_lt_of_le f40_0.lt (Nat.le_of_eq g41.symm))
    have ne_bb40_b41 : bb40 ≠ b41 := Nat.ne_of_lt (Nat.lt_of_lt_of_le V40.lt (Nat.le_of_eq g41.symm))
    have g_b41 : n0 ≤ b41 := Nat.le_trans (Nat.le_trans (Nat.le_trans (Nat.le_trans (Nat.le_trans (Nat.le_trans (Nat.le_trans Z0 K1.1) K3.1) K6.1) E7.1) K9.1) K40.1) (Nat.le_of_eq g41.symm)
    have F_low_b41 : Fld Z h41 b41 "com/example/tributary/tributary/semantics/Ranges" "low" "[I" .null := D41 (Or.inr (hw _ (List.mem_of_getElem? (i := 96) rfl))) (ty := (.array .int)) (by decide)
    have F_high_b41 : Fld Z h41 b41 "com/example/tributary/tributary/semantics/Ranges" "high" "[I" .null := D41 (Or.inr (hw _ (List.mem_of_getElem? (i := 98) rfl))) (ty := (.array .int)) (by decide)
    refine GoOn.st st41 ?_
    refine GoOn.st (fun t_ k_ => XS.dup X41.here hx rfl (hb hby at_84) rfl rfl k_) ?_
    refine GoOn.st (fun t_ k_ => XS.aload X41.here hx rfl (hb hby at_85) rfl rfl k_) ?_
    show GoOn _ _ _ _ (T41.setTop (mkF m 87 #[.val (.int p1), .val (.long q1), .second, .val (.long q2), .second, .val (.long q3), .second, .val (.int (1 : Int32)), .val (.int ((((p1).toUInt32 >>> ((2 : Int32) &&& 31).toUInt32).toInt32) &&& (3 : Int32))), .val (.ref bb1), .val (.ref bb3), .val (.ref bb6), .val (.ref b7), .unset, .unset, .unset, .unset, .unset, .unset, .unset, .unset, .unset] [(.ref b7), (.ref b41), (.ref b41)]))
    have F42 := (f40_0.ext E41)
    have F43 := (f40_3.ext E41)
    have F44 := (f40_2.ext E41)
    have F45 := (V40.ext E41)
    have F46 := ((F36.keep K40).ext E41)
    have F47 := ((((((f1_1.keep K3 nin0).keep K6 nin0).ext E7).keep K9 (ninS ne_bb1_b7 nin0)).keep K40 (ninS ne_bb1_b7 nin0)).ext E41)
    have F48 := ((((((f1_2.keep K3 nin0).keep K6 nin0).ext E7).keep K9 (ninS ne_bb1_b7 nin0)).keep K40 (ninS ne_bb1_b7 nin0)).ext E41)
    refine GoOn.callC (W := 1) (argsL := [(.ref b7)]) (rest := [(.ref b41)]) (a := b41) X41 hx hZ6 hown6 rfl (hw _ (List.mem_of_getElem? (i := 79) rfl)) (hw _ (List.mem_of_getElem? (i := 80) rfl)) (hw _ (List.mem_of_getElem? (i := 78) rfl)) (hw _ (List.mem_of_getElem? (i := 81) rfl)) (by decide) (rm_rinit1 l Z a0 hw b41 b7 bb40 bb1 kb40 q1 h41 n0 (Nat.le_trans (Nat.le_trans (Nat.le_trans (Nat.le_trans (Nat.le_trans (Nat.le_trans (Nat.le_trans Z0 K1.1) K3.1) K6.1) E7.1) K9.1) K40.1) E41.1) A41 F_low_b41 F_high_b41 F42 F43 ne_b7_b41 g_b41 F44 F45 ne_bb40_b41 F46 F47 F48 ne_bb1_b41) e41 (by decide) (by decide) (by rw [hml]; rfl) pd_11 rfl rfl (Nat.le_of_eq rfl) (hb hby at_87) (by decide) (by decide) ?_
    rintro _ T49 L49 X49 ⟨bl49, bh49, kl49, kh49, rfl, N49q, K49, f49_0, f49_1, f49_2, f49_3, f49_4⟩
    have N49 := Fr.app N40 N49q
    refine GoOn.st (fun t_ k_ => XS.astore X49.here hx rfl (hb hby at_90) rfl rfl (l' := #[.val (.int p1), .val (.long q1), .second, .val (.long q2), .second, .val (.long q3), .second, .val (.int (1 : Int32)), .val (.int ((((p1).toUInt32 >>> ((2 : Int32) &&& 31).toUInt32).toInt32) &&& (3 : Int32))), .val (.ref bb1), .val (.ref bb3), .val (.ref bb6), .val (.ref b7), .val (.ref b41), .unset, .unset, .unset, .unset, .unset, .unset, .unset, .unset]) rfl k_) ?_
    show GoOn _ _ _ _ (T49.setTop (mkF m 92 #[.val (.int p1), .val (.long q1), .second, .val (.long q2), .second, .val (.long q3), .second, .val (.int (1 : Int32)), .val (.int ((((p1).toUInt32 >>> ((2 : Int32) &&& 31).toUInt32).toInt32) &&& (3 : Int32))), .val (.ref bb1), .val (.ref bb3), .val (.ref bb6), .val (.ref b7), .val (.ref b41), .unset, .unset, .unset, .unset, .unset, .unset, .unset, .unset] []))
    rcases own_and3 (((p1).toUInt32 >>> ((2 : Int32) &&& 31).toUInt32).toInt32) with hk50 | hk50 | hk50 | hk50
    · rw [hk50]
      refine GoOn.st (fun t_ k_ => XS.aload X49.here hx rfl (hb hby at_92) rfl rfl k_) ?_
      refine GoOn.st (fun t_ k_ => XS.iload X49.here hx rfl (hb hby at_94) rfl k_) ?_
      show GoOn _ _ _ _ (T49.setTop (mkF m 96 #[.val (.int p1), .val (.long q1), .second, .val (.long q2), .second, .val (.long q3), .second, .val (.int (1 : Int32)), .val (.int (0 : Int32)), .val (.ref bb1), .val (.ref bb3), .val (.ref bb6), .val (.ref b7), .val (.ref b41), .unset, .unset, .unset, .unset, .unset, .unset, .unset, .unset] [(.int (0 : Int32)), (.ref b41)]))
      refine GoOn.callV (W := 0) (argsL := [(.int (0 : Int32))]) (rest := []) (a := b41) X49 hx hZ6 hown6 (hw _ (List.mem_of_getElem? (i := 99) rfl)) (hw _ (List.mem_of_getElem? (i := 100) rfl)) (notFace_of_selects (args := #[]) (mvT hZ6 (hw _ (List.mem_of_getElem? (i := 102) rfl)))) (hw _ (List.mem_of_getElem? (i := 102) rfl)) (hw _ (List.mem_of_getElem? (i := 101) rfl)) (hw _ (List.mem_of_getElem? (i := 78) rfl)) (hw _ (List.mem_of_getElem? (i := 103) rfl)) (by decide) (rm_val10 l Z a0 hw b41 bl49 bh49 kl49 kh49 q1 T49.heap f49_1 f49_2 f49_3 f49_4) rfl f49_0 (by decide) (by decide) (by rw [hml]; rfl) pd_12 rfl rfl (Nat.le_of_eq rfl) (hb hby at_96) (by decide) (by decide) ?_
      rintro _ T51 L51 X51 ⟨rfl, rfl, e51⟩
      rw [List.append_nil] at X51
      refine GoOn.st (fun t_ k_ => XS.lstore X51.here hx rfl (hb hby at_99) rfl (l' := #[.val (.int p1), .val (.long q1), .second, .val (.long q2), .second, .val (.long q3), .second, .val (.int (1 : Int32)), .val (.int (0 : Int32)), .val (.ref bb1), .val (.ref bb3), .val (.ref bb6), .val (.ref b7), .val (.ref b41), .val (.long (own_step (1 : Int64) (own_vals q1))), .second, .unset, .unset, .unset, .unset, .unset, .unset]) rfl k_) ?_
      refine GoOn.st (fun t_ k_ => XS.lloadN X51.here hx rfl (hb hby at_101) rfl k_) ?_
      refine GoOn.st (fun t_ k_ => XS.iconst X51.here hx rfl (hb hby at_102)  k_) ?_
      show GoOn _ _ _ _ (T51.setTop (mkF m 103 #[.val (.int p1), .val (.long q1), .second, .val (.long q2), .second, .val (.long q3), .second, .val (.int (1 : Int32)), .val (.int (0 : Int32)), .val (.ref bb1), .val (.ref bb3), .val (.ref bb6), .val (.ref b7), .val (.ref b41), .val (.long (own_step (1 : Int64) (own_vals q1))), .second, .unset, .unset, .unset, .unset, .unset, .unset] [(.int (0 : Int32)), (.long q1)]))
      refine GoOn.st (fun t_ k_ => XS.iload X51.here hx rfl (hb hby at_103) rfl k_) ?_
      refine GoOn.st (fun t_ k_ => XS.iload X51.here hx rfl (hb hby at_105) rfl k_) ?_
      show GoOn _ _ _ _ (T51.setTop (mkF m 107 #[.val (.int p1), .val (.long q1), .second, .val (.long q2), .second, .val (.long q3), .second, .val (.int (1 : Int32)), .val (.int (0 : Int32)), .val (.ref bb1), .val (.ref bb3), .val (.ref bb6), .val (.ref b7), .val (.ref b41), .val (.long (own_step (1 : Int64) (own_vals q1))), .second, .unset, .unset, .unset, .unset, .unset, .unset] [(.int (1 : Int32)), (.int (0 : Int32)), (.int (0 : Int32)), (.long q1)]))
      refine GoOn.callS (W := 0) (argsL := [(.long q1), (.int (0 : Int32)), (.int (0 : Int32)), (.int (1 : Int32))]) (rest := []) X51 hx hZ6 hown6 (hw _ (List.mem_of_getElem? (i := 104) rfl)) (hw _ (List.mem_of_getElem? (i := 105) rfl)) (hw _ (List.mem_of_getElem? (i := 2) rfl)) (hw _ (List.mem_of_getElem? (i := 106) rfl)) (by decide) (rm_facY l Z a0 hw q1 (0 : Int32) (0 : Int32) (1 : Int32) T49.heap (by decide) (by decide)) e51 (by decide) (by decide) (by rw [hml]; rfl) pd_13 rfl rfl (Nat.le_of_eq rfl) (hb hby at_107) (by decide) (by decide) ?_
      rintro _ T52 L52 X52 ⟨rfl, rfl, e52⟩
      rw [List.append_nil] at X52
      refine GoOn.st (fun t_ k_ => XS.lstore X52.here hx rfl (hb hby at_110) rfl (l' := #[.val (.int p1), .val (.long q1), .second, .val (.long q2), .second, .val (.long q3), .second, .val (.int (1 : Int32)), .val (.int (0 : Int32)), .val (.ref bb1), .val (.ref bb3), .val (.ref bb6), .val (.ref b7), .val (.ref b41), .val (.long (own_step (1 : Int64) (own_vals q1))), .second, .val (.long (own_vals q1)), .second, .unset, .unset, .unset, .unset]) rfl k_) ?_
      refine GoOn.st (fun t_ k_ => XS.lloadN X52.here hx rfl (hb hby at_112) rfl k_) ?_
      refine GoOn.st (fun t_ k_ => XS.iconst X52.here hx rfl (hb hby at_113)  k_) ?_
      show GoOn _ _ _ _ (T52.setTop (mkF m 114 #[.val (.int p1), .val (.long q1), .second, .val (.long q2), .second, .val (.long q3), .second, .val (.int (1 : Int32)), .val (.int (0 : Int32)), .val (.ref bb1), .val (.ref bb3), .val (.ref bb6), .val (.ref b7), .val (.ref b41), .val (.long (own_step (1 : Int64) (own_vals q1))), .second, .val (.long (own_vals q1)), .second, .unset, .unset, .unset, .unset] [(.int (1 : Int32)), (.long q2)]))
      refine GoOn.st (fun t_ k_ => XS.iload X52.here hx rfl (hb hby at_114) rfl k_) ?_
      refine GoOn.st (fun t_ k_ => XS.iload X52.here hx rfl (hb hby at_116) rfl k_) ?_
      show GoOn _ _ _ _ (T52.setTop (mkF m 118 #[.val (.int p1), .val (.long q1), .second, .val (.long q2), .second, .val (.long q3), .second, .val (.int (1 : Int32)), .val (.int (0 : Int32)), .val (.ref bb1), .val (.ref bb3), .val (.ref bb6), .val (.ref b7), .val (.ref b41), .val (.long (own_step (1 : Int64) (own_vals q1))), .second, .val (.long (own_vals q1)), .second, .unset, .unset, .unset, .unset] [(.int (1 : Int32)), (.int (0 : Int32)), (.int (1 : Int32)), (.long q2)]))
      refine GoOn.callS (W := 0) (argsL := [(.long q2), (.int (1 : Int32)), (.int (0 : Int32)), (.int (1 : Int32))]) (rest := []) X52 hx hZ6 hown6 (hw _ (List.mem_of_getElem? (i := 104) rfl)) (hw _ (List.mem_of_getElem? (i := 105) rfl)) (hw _ (List.mem_of_getElem? (i := 2) rfl)) (hw _ (List.mem_of_getElem? (i := 106) rfl)) (by decide) (rm_facN l Z a0 hw q2 (1 : Int32) (0 : Int32) (1 : Int32) T49.heap (by decide) (by decide)) e52 (by decide) (by decide) (by rw [hml]; rfl) pd_13 rfl rfl (Nat.le_of_eq rfl) (hb hby at_118) (by decide) (by decide) ?_
      rintro _ T53 L53 X53 ⟨rfl, rfl, e53⟩
      rw [List.append_nil] at X53
      refine GoOn.st (fun t_ k_ => XS.lstore X53.here hx rfl (hb hby at_121) rfl (l' := #[.val (.int p1), .val (.long q1), .second, .val (.long q2), .second, .val (.long q3), .second, .val (.int (1 : Int32)), .val (.int (0 : Int32)), .val (.ref bb1), .val (.ref bb3), .val (.ref bb6), .val (.ref b7), .val (.ref b41), .val (.long (own_step (1 : Int64) (own_vals q1))), .second, .val (.long (own_vals q1)), .second, .val (.long (1 : Int64)), .second, .unset, .unset]) rfl k_) ?_
      refine GoOn.st (fun t_ k_ => XS.lload X53.here hx rfl (hb hby at_123) rfl k_) ?_
      refine GoOn.st (fun t_ k_ => XS.iconst X53.here hx rfl (hb hby at_125)  k_) ?_
      show GoOn _ _ _ _ (T53.setTop (mkF m 126 #[.val (.int p1), .val (.long q1), .second, .val (.long q2), .second, .val (.long q3), .second, .val (.int (1 : Int32)), .val (.int (0 : Int32)), .val (.ref bb1), .val (.ref bb3), .val (.ref bb6), .val (.ref b7), .val (.ref b41), .val (.long (own_step (1 : Int64) (own_vals q1))), .second, .val (.long (own_vals q1)), .second, .val (.long (1 : Int64)), .second, .unset, .unset] [(.int (2 : Int32)), (.long q3)]))
      refine GoOn.st (fun t_ k_ => XS.iload X53.here hx rfl (hb hby at_126) rfl k_) ?_
      refine GoOn.st (fun t_ k_ => XS.iload X53.here hx rfl (hb hby at_128) rfl k_) ?_
      show GoOn _ _ _ _ (T53.setTop (mkF m 130 #[.val (.int p1), .val (.long q1), .second, .val (.long q2), .second, .val (.long q3), .second, .val (.int (1 : Int32)), .val (.int (0 : Int32)), .val (.ref bb1), .val (.ref bb3), .val (.ref bb6), .val (.ref b7), .val (.ref b41), .val (.long (own_step (1 : Int64) (own_vals q1))), .second, .val (.long (own_vals q1)), .second, .val (.long (1 : Int64)), .second, .unset, .unset] [(.int (1 : Int32)), (.int (0 : Int32)), (.int (2 : Int32)), (.long q3)]))
      refine GoOn.callS (W := 0) (argsL := [(.long q3), (.int (2 : Int32)), (.int (0 : Int32)), (.int (1 : Int32))]) (rest := []) X53 hx hZ6 hown6 (hw _ (List.mem_of_getElem? (i := 104) rfl)) (hw _ (List.mem_of_getElem? (i := 105) rfl)) (hw _ (List.mem_of_getElem? (i := 2) rfl)) (hw _ (List.mem_of_getElem? (i := 106) rfl)) (by decide) (rm_facN l Z a0 hw q3 (2 : Int32) (0 : Int32) (1 : Int32) T49.heap (by decide) (by decide)) e53 (by decide) (by decide) (by rw [hml]; rfl) pd_13 rfl rfl (Nat.le_of_eq rfl) (hb hby at_130) (by decide) (by decide) ?_
      rintro _ T54 L54 X54 ⟨rfl, rfl, e54⟩
      rw [List.append_nil] at X54
      refine GoOn.st (fun t_ k_ => XS.lstore X54.here hx rfl (hb hby at_133) rfl (l' := #[.val (.int p1), .val (.long q1), .second, .val (.long q2), .second, .val (.long q3), .second, .val (.int (1 : Int32)), .val (.int (0 : Int32)), .val (.ref bb1), .val (.ref bb3), .val (.ref bb6), .val (.ref b7), .val (.ref b41), .val (.long (own_step (1 : Int64) (own_vals q1))), .second, .val (.long (own_vals q1)), .second, .val (.long (1 : Int64)), .second, .val (.long (1 : Int64)), .second]) rfl k_) ?_
      refine GoOn.st (fun t_ k_ => XS.lload X54.here hx rfl (hb hby at_135) rfl k_) ?_
      refine GoOn.st (fun t_ k_ => XS.lload X54.here hx rfl (hb hby at_137) rfl k_) ?_
      show GoOn _ _ _ _ (T54.setTop (mkF m 139 #[.val (.int p1), .val (.long q1), .second, .val (.long q2), .second, .val (.long q3), .second, .val (.int (1 : Int32)), .val (.int (0 : Int32)), .val (.ref bb1), .val (.ref bb3), .val (.ref bb6), .val (.ref b7), .val (.ref b41), .val (.long (own_step (1 : Int64) (own_vals q1))), .second, .val (.long (own_vals q1)), .second, .val (.long (1 : Int64)), .second, .val (.long (1 : Int64)), .second] [(.long (own_vals q1)), (.long (own_step (1 : Int64) (own_vals q1)))]))
      refine GoOn.st (fun t_ k_ => XS.lload X54.here hx rfl (hb hby at_139) rfl k_) ?_
      refine GoOn.st (fun t_ k_ => XS.lload X54.here hx rfl (hb hby at_141) rfl k_) ?_
      show GoOn _ _ _ _ (T54.setTop (mkF m 143 #[.val (.int p1), .val (.long q1), .second, .val (.long q2), .second, .val (.long q3), .second, .val (.int (1 : Int32)), .val (.int (0 : Int32)), .val (.ref bb1), .val (.ref bb3), .val (.ref bb6), .val (.ref b7), .val (.ref b41), .val (.long (own_step (1 : Int64) (own_vals q1))), .second, .val (.long (own_vals q1)), .second, .val (.long (1 : Int64)), .second, .val (.long (1 : Int64)), .second] [(.long (1 : Int64)), (.long (1 : Int64)), (.long (own_vals q1)), (.long (own_step (1 : Int64) (own_vals q1)))]))
      refine GoOn.callS (W := 2) (argsL := [(.long (own_vals q1)), (.long (1 : Int64)), (.long (1 : Int64))]) (rest := [(.long (own_step (1 : Int64) (own_vals q1)))]) X54 hx hZ6 hown6 (hw _ (List.mem_of_getElem? (i := 107) rfl)) (hw _ (List.mem_of_getElem? (i := 108) rfl)) (hw _ (List.mem_of_getElem? (i := 2) rfl)) (hw _ (List.mem_of_getElem? (i := 109) rfl)) (by decide) (rm_sat l Z a0 hw (own_vals q1) (1 : Int64) (1 : Int64) T49.heap own_in_one) e54 (by decide) (by decide) (by rw [hml]; rfl) pd_14 rfl rfl (Nat.le_of_eq rfl) (hb hby at_143) (by decide) (by decide) ?_
      rintro _ T55 L55 X55 ⟨rfl, rfl, e55⟩
      rw [List.append_nil] at X55
      refine GoOn.st (fun t_ k_ => XS.lcmp X55.here hx rfl (hb hby at_146) rfl k_) ?_
      refine GoOn.st (fun t_ k_ => XS.ifNo X55.here hx rfl (hb hby at_147) rfl ((if0 _ _).trans (teq ((lw_eq (own_step (1 : Int64) (own_vals q1)) (own_sat (own_vals q1) (1 : Int64) (1 : Int64))).mpr (by have e := own_law (own_in_vals q1) own_in_one own_in_one; simp only [own_step_first own_in_one, own_step_one _ (own_in_one).1, own_step_first (own_in_vals q1), own_step_one _ (own_in_vals q1).1, own_step_first (own_in_vals q2), own_step_one _ (own_in_vals q2).1, own_step_first (own_in_vals q3), own_step_one _ (own_in_vals q3).1, own_step_one _ (own_step_pos (own_in_vals q2) (own_in_vals q1).1)] at e ⊢; exact e))).2) k_) ?_
      refine GoOn.st (fun t_ k_ => XS.iconst X55.here hx rfl (hb hby at_150)  k_) ?_
      show GoOn _ _ _ _ (T55.setTop (mkF m 151 #[.val (.int p1), .val (.long q1), .second, .val (.long q2), .second, .val (.long q3), .second, .val (.int (1 : Int32)), .val (.int (0 : Int32)), .val (.ref bb1), .val (.ref bb3), .val (.ref bb6), .val (.ref b7), .val (.ref b41), .val (.long (own_step (1 : Int64) (own_vals q1))), .second, .val (.long (own_vals q1)), .second, .val (.long (1 : Int64)), .second, .val (.long (1 : Int64)), .second] [(.int (1 : Int32))]))
      refine GoOn.st (fun t_ k_ => XS.goto X55.here hx rfl (pc0 := 151) (pc' := 155) rfl (hb hby at_151) (by decide) (by decide) k_) ?_
      show GoOn _ _ _ _ (T55.setTop (mkF m 155 #[.val (.int p1), .val (.long q1), .second, .val (.long q2), .second, .val (.long q3), .second, .val (.int (1 : Int32)), .val (.int (0 : Int32)), .val (.ref bb1), .val (.ref bb3), .val (.ref bb6), .val (.ref b7), .val (.ref b41), .val (.long (own_step (1 : Int64) (own_vals q1))), .second, .val (.long (own_vals q1)), .second, .val (.long (1 : Int64)), .second, .val (.long (1 : Int64)), .second] [(.int (1 : Int32))]))
      exact GoOn.retWZ X55 hS6 (by rw [e55]; exact (Nat.le_trans (Nat.le_trans (Nat.le_trans (Nat.le_trans (Nat.le_trans (Nat.le_refl _) E7.1) K9.1) K40.1) E41.1) K49.1)) hx hlk hret (by simp) rfl (hb hby at_155) ⟨rfl, N49⟩ (by decide) (by decide)
    · rw [hk50]
      refine GoOn.st (fun t_ k_ => XS.aload X49.here hx rfl (hb hby at_92) rfl rfl k_) ?_
      refine GoOn.st (fun t_ k_ => XS.iload X49.here hx rfl (hb hby at_94) rfl k_) ?_
      show GoOn _ _ _ _ (T49.setTop (mkF m 96 #[.val (.int p1), .val (.long q1), .second, .val (.long q2), .second, .val (.long q3), .second, .val (.int (1 : Int32)), .val (.int (1 : Int32)), .val (.ref bb1), .val (.ref bb3), .val (.ref bb6), .val (.ref b7), .val (.ref b41), .unset, .unset, .unset, .unset, .unset, .unset, .unset, .unset] [(.int (1 : Int32)), (.ref b41)]))
      refine GoOn.callV (W := 0) (argsL := [(.int (1 : Int32))]) (rest := []) (a := b41) X49 hx hZ6 hown6 (hw _ (List.mem_of_getElem? (i := 99) rfl)) (hw _ (List.mem_of_getElem? (i := 100) rfl)) (notFace_of_selects (args := #[]) (mvT hZ6 (hw _ (List.mem_of_getElem? (i := 102) rfl)))) (hw _ (List.mem_of_getElem? (i := 102) rfl)) (hw _ (List.mem_of_getElem? (i := 101) rfl)) (hw _ (List.mem_of_getElem? (i := 78) rfl)) (hw _ (List.mem_of_getElem? (i := 103) rfl)) (by decide) (rm_val11 l Z a0 hw b41 bl49 bh49 kl49 kh49 q1 T49.heap f49_1 f49_2 f49_3 f49_4) rfl f49_0 (by decide) (by decide) (by rw [hml]; rfl) pd_12 rfl rfl (Nat.le_of_eq rfl) (hb hby at_96) (by decide) (by decide) ?_
      rintro _ T56 L56 X56 ⟨rfl, rfl, e56⟩
      rw [List.append_nil] at X56
      refine GoOn.st (fun t_ k_ => XS.lstore X56.here hx rfl (hb hby at_99) rfl (l' := #[.val (.int p1), .val (.long q1), .second, .val (.long q2), .second, .val (.long q3), .second, .val (.int (1 : Int32)), .val (.int (1 : Int32)), .val (.ref bb1), .val (.ref bb3), .val (.ref bb6), .val (.ref b7), .val (.ref b41), .val (.long (1 : Int64)), .second, .unset, .unset, .unset, .unset, .unset, .unset]) rfl k_) ?_
      refine GoOn.st (fun t_ k_ => XS.lloadN X56.here hx rfl (hb hby at_101) rfl k_) ?_
      refine GoOn.st (fun t_ k_ => XS.iconst X56.here hx rfl (hb hby at_102)  k_) ?_
      show GoOn _ _ _ _ (T56.setTop (mkF m 103 #[.val (.int p1), .val (.long q1), .second, .val (.long q2), .second, .val (.long q3), .second, .val (.int (1 : Int32)), .val (.int (1 : Int32)), .val (.ref bb1), .val (.ref bb3), .val (.ref bb6), .val (.ref b7), .val (.ref b41), .val (.long (1 : Int64)), .second, .unset, .unset, .unset, .unset, .unset, .unset] [(.int (0 : Int32)), (.long q1)]))
      refine GoOn.st (fun t_ k_ => XS.iload X56.here hx rfl (hb hby at_103) rfl k_) ?_
      refine GoOn.st (fun t_ k_ => XS.iload X56.here hx rfl (hb hby at_105) rfl k_) ?_
      show GoOn _ _ _ _ (T56.setTop (mkF m 107 #[.val (.int p1), .val (.long q1), .second, .val (.long q2), .second, .val (.long q3), .second, .val (.int (1 : Int32)), .val (.int (1 : Int32)), .val (.ref bb1), .val (.ref bb3), .val (.ref bb6), .val (.ref b7), .val (.ref b41), .val (.long (1 : Int64)), .second, .unset, .unset, .unset, .unset, .unset, .unset] [(.int (1 : Int32)), (.int (1 : Int32)), (.int (0 : Int32)), (.long q1)]))
      refine GoOn.callS (W := 0) (argsL := [(.long q1), (.int (0 : Int32)), (.int (1 : Int32)), (.int (1 : Int32))]) (rest := []) X56 hx hZ6 hown6 (hw _ (List.mem_of_getElem? (i := 104) rfl)) (hw _ (List.mem_of_getElem? (i := 105) rfl)) (hw _ (List.mem_of_getElem? (i := 2) rfl)) (hw _ (List.mem_of_getElem? (i := 106) rfl)) (by decide) (rm_facM l Z a0 hw q1 (0 : Int32) (1 : Int32) (1 : Int32) T49.heap (by decide)) e56 (by decide) (by decide) (by rw [hml]; rfl) pd_13 rfl rfl (Nat.le_of_eq rfl) (hb hby at_107) (by decide) (by decide) ?_
      rintro _ T57 L57 X57 ⟨rfl, rfl, e57⟩
      rw [List.append_nil] at X57
      refine GoOn.st (fun t_ k_ => XS.lstore X57.here hx rfl (hb hby at_110) rfl (l' := #[.val (.int p1), .val (.long q1), .second, .val (.long q2), .second, .val (.long q3), .second, .val (.int (1 : Int32)), .val (.int (1 : Int32)), .val (.ref bb1), .val (.ref bb3), .val (.ref bb6), .val (.ref b7), .val (.ref b41), .val (.long (1 : Int64)), .second, .val (.long (1 : Int64)), .second, .unset, .unset, .unset, .unset]) rfl k_) ?_
      refine GoOn.st (fun t_ k_ => XS.lloadN X57.here hx rfl (hb hby at_112) rfl k_) ?_
      refine GoOn.st (fun t_ k_ => XS.iconst X57.here hx rfl (hb hby at_113)  k_) ?_
      show GoOn _ _ _ _ (T57.setTop (mkF m 114 #[.val (.int p1), .val (.long q1), .second, .val (.long q2), .second, .val (.long q3), .second, .val (.int (1 : Int32)), .val (.int (1 : Int32)), .val (.ref bb1), .val (.ref bb3), .val (.ref bb6), .val (.ref b7), .val (.ref b41), .val (.long (1 : Int64)), .second, .val (.long (1 : Int64)), .second, .unset, .unset, .unset, .unset] [(.int (1 : Int32)), (.long q2)]))
      refine GoOn.st (fun t_ k_ => XS.iload X57.here hx rfl (hb hby at_114) rfl k_) ?_
      refine GoOn.st (fun t_ k_ => XS.iload X57.here hx rfl (hb hby at_116) rfl k_) ?_
      show GoOn _ _ _ _ (T57.setTop (mkF m 118 #[.val (.int p1), .val (.long q1), .second, .val (.long q2), .second, .val (.long q3), .second, .val (.int (1 : Int32)), .val (.int (1 : Int32)), .val (.ref bb1), .val (.ref bb3), .val (.ref bb6), .val (.ref b7), .val (.ref b41), .val (.long (1 : Int64)), .second, .val (.long (1 : Int64)), .second, .unset, .unset, .unset, .unset] [(.int (1 : Int32)), (.int (1 : Int32)), (.int (1 : Int32)), (.long q2)]))
      refine GoOn.callS (W := 0) (argsL := [(.long q2), (.int (1 : Int32)), (.int (1 : Int32)), (.int (1 : Int32))]) (rest := []) X57 hx hZ6 hown6 (hw _ (List.mem_of_getElem? (i := 104) rfl)) (hw _ (List.mem_of_getElem? (i := 105) rfl)) (hw _ (List.mem_of_getElem? (i := 2) rfl)) (hw _ (List.mem_of_getElem? (i := 106) rfl)) (by decide) (rm_facN l Z a0 hw q2 (1 : Int32) (1 : Int32) (1 : Int32) T49.heap (by decide) (by decide)) e57 (by decide) (by decide) (by rw [hml]; rfl) pd_13 rfl rfl (Nat.le_of_eq rfl) (hb hby at_118) (by decide) (by decide) ?_
      rintro _ T58 L58 X58 ⟨rfl, rfl, e58⟩
      rw [List.append_nil] at X58
      refine GoOn.st (fun t_ k_ => XS.lstore X58.here hx rfl (hb hby at_121) rfl (l' := #[.val (.int p1), .val (.long q1), .second, .val (.long q2), .second, .val (.long q3), .second, .val (.int (1 : Int32)), .val (.int (1 : Int32)), .val (.ref bb1), .val (.ref bb3), .val (.ref bb6), .val (.ref b7), .val (.ref b41), .val (.long (1 : Int64)), .second, .val (.long (1 : Int64)), .second, .val (.long (1 : Int64)), .second, .unset, .unset]) rfl k_) ?_
      refine GoOn.st (fun t_ k_ => XS.lload X58.here hx rfl (hb hby at_123) rfl k_) ?_
      refine GoOn.st (fun t_ k_ => XS.iconst X58.here hx rfl (hb hby at_125)  k_) ?_
      show GoOn _ _ _ _ (T58.setTop (mkF m 126 #[.val (.int p1), .val (.long q1), .second, .val (.long q2), .second, .val (.long q3), .second, .val (.int (1 : Int32)), .val (.int (1 : Int32)), .val (.ref bb1), .val (.ref bb3), .val (.ref bb6), .val (.ref b7), .val (.ref b41), .val (.long (1 : Int64)), .second, .val (.long (1 : Int64)), .second, .val (.long (1 : Int64)), .second, .unset, .unset] [(.int (2 : Int32)), (.long q3)]))
      refine GoOn.st (fun t_ k_ => XS.iload X58.here hx rfl (hb hby at_126) rfl k_) ?_
      refine GoOn.st (fun t_ k_ => XS.iload X58.here hx rfl (hb hby at_128) rfl k_) ?_
      show GoOn _ _ _ _ (T58.setTop (mkF m 130 #[.val (.int p1), .val (.long q1), .second, .val (.long q2), .second, .val (.long q3), .second, .val (.int (1 : Int32)), .val (.int (1 : Int32)), .val (.ref bb1), .val (.ref bb3), .val (.ref bb6), .val (.ref b7), .val (.ref b41), .val (.long (1 : Int64)), .second, .val (.long (1 : Int64)), .second, .val (.long (1 : Int64)), .second, .unset, .unset] [(.int (1 : Int32)), (.int (1 : Int32)), (.int (2 : Int32)), (.long q3)]))
      refine GoOn.callS (W := 0) (argsL := [(.long q3), (.int (2 : Int32)), (.int (1 : Int32)), (.int (1 : Int32))]) (rest := []) X58 hx hZ6 hown6 (hw _ (List.mem_of_getElem? (i := 104) rfl)) (hw _ (List.mem_of_getElem? (i := 105) rfl)) (hw _ (List.mem_of_getElem? (i := 2) rfl)) (hw _ (List.mem_of_getElem? (i := 106) rfl)) (by decide) (rm_facN l Z a0 hw q3 (2 : Int32) (1 : Int32) (1 : Int32) T49.heap (by decide) (by decide)) e58 (by decide) (by decide) (by rw [hml]; rfl) pd_13 rfl rfl (Nat.le_of_eq rfl) (hb hby at_130) (by decide) (by decide) ?_
      rintro _ T59 L59 X59 ⟨rfl, rfl, e59⟩
      rw [List.append_nil] at X59
      refine GoOn.st (fun t_ k_ => XS.lstore X59.here hx rfl (hb hby at_133) rfl (l' := #[.val (.int p1), .val (.long q1), .second, .val (.long q2), .second, .val (.long q3), .second, .val (.int (1 : Int32)), .val (.int (1 : Int32)), .val (.ref bb1), .val (.ref bb3), .val (.ref bb6), .val (.ref b7), .val (.ref b41), .val (.long (1 : Int64)), .second, .val (.long (1 : Int64)), .second, .val (.long (1 : Int64)), .second, .val (.long (1 : Int64)), .second]) rfl k_) ?_
      refine GoOn.st (fun t_ k_ => XS.lload X59.here hx rfl (hb hby at_135) rfl k_) ?_
      refine GoOn.st (fun t_ k_ => XS.lload X59.here hx rfl (hb hby at_137) rfl k_) ?_
      show GoOn _ _ _ _ (T59.setTop (mkF m 139 #[.val (.int p1), .val (.long q1), .second, .val (.long q2), .second, .val (.long q3), .second, .val (.int (1 : Int32)), .val (.int (1 : Int32)), .val (.ref bb1), .val (.ref bb3), .val (.ref bb6), .val (.ref b7), .val (.ref b41), .val (.long (1 : Int64)), .second, .val (.long (1 : Int64)), .second, .val (.long (1 : Int64)), .second, .val (.long (1 : Int64)), .second] [(.long (1 : Int64)), (.long (1 : Int64))]))
      refine GoOn.st (fun t_ k_ => XS.lload X59.here hx rfl (hb hby at_139) rfl k_) ?_
      refine GoOn.st (fun t_ k_ => XS.lload X59.here hx rfl (hb hby at_141) rfl k_) ?_
      show GoOn _ _ _ _ (T59.setTop (mkF m 143 #[.val (.int p1), .val (.long q1), .second, .val (.long q2), .second, .val (.long q3), .second, .val (.int (1 : Int32)), .val (.int (1 : Int32)), .val (.ref bb1), .val (.ref bb3), .val (.ref bb6), .val (.ref b7), .val (.ref b41), .val (.long (1 : Int64)), .second, .val (.long (1 : Int64)), .second, .val (.long (1 : Int64)), .second, .val (.long (1 : Int64)), .second] [(.long (1 : Int64)), (.long (1 : Int64)), (.long (1 : Int64)), (.long (1 : Int64))]))
      refine GoOn.callS (W := 2) (argsL := [(.long (1 : Int64)), (.long (1 : Int64)), (.long (1 : Int64))]) (rest := [(.long (1 : Int64))]) X59 hx hZ6 hown6 (hw _ (List.mem_of_getElem? (i := 107) rfl)) (hw _ (List.mem_of_getElem? (i := 108) rfl)) (hw _ (List.mem_of_getElem? (i := 2) rfl)) (hw _ (List.mem_of_getElem? (i := 109) rfl)) (by decide) (rm_sat l Z a0 hw (1 : Int64) (1 : Int64) (1 : Int64) T49.heap own_in_one) e59 (by decide) (by decide) (by rw [hml]; rfl) pd_14 rfl rfl (Nat.le_of_eq rfl) (hb hby at_143) (by decide) (by decide) ?_
      rintro _ T60 L60 X60 ⟨rfl, rfl, e60⟩
      rw [List.append_nil] at X60
      refine GoOn.st (fun t_ k_ => XS.lcmp X60.here hx rfl (hb hby at_146) rfl k_) ?_
      refine GoOn.st (fun t_ k_ => XS.ifNo X60.here hx rfl (hb hby at_147) rfl ((if0 _ _).trans (teq ((lw_eq (1 : Int64) (own_sat (1 : Int64) (1 : Int64) (1 : Int64))).mpr (by have e := own_law own_in_one own_in_one own_in_one; simp only [own_step_first own_in_one, own_step_one _ (own_in_one).1, own_step_first (own_in_vals q1), own_step_one _ (own_in_vals q1).1, own_step_first (own_in_vals q2), own_step_one _ (own_in_vals q2).1, own_step_first (own_in_vals q3), own_step_one _ (own_in_vals q3).1, own_step_one _ (own_step_pos (own_in_vals q2) (own_in_vals q1).1)] at e ⊢; exact e))).2) k_) ?_
      refine GoOn.st (fun t_ k_ => XS.iconst X60.here hx rfl (hb hby at_150)  k_) ?_
      show GoOn _ _ _ _ (T60.setTop (mkF m 151 #[.val (.int p1), .val (.long q1), .second, .val (.long q2), .second, .val (.long q3), .second, .val (.int (1 : Int32)), .val (.int (1 : Int32)), .val (.ref bb1), .val (.ref bb3), .val (.ref bb6), .val (.ref b7), .val (.ref b41), .val (.long (1 : Int64)), .second, .val (.long (1 : Int64)), .second, .val (.long (1 : Int64)), .second, .val (.long (1 : Int64)), .second] [(.int (1 : Int32))]))
      refine GoOn.st (fun t_ k_ => XS.goto X60.here hx rfl (pc0 := 151) (pc' := 155) rfl (hb hby at_151) (by decide) (by decide) k_) ?_
      show GoOn _ _ _ _ (T60.setTop (mkF m 155 #[.val (.int p1), .val (.long q1), .second, .val (.long q2), .second, .val (.long q3), .second, .val (.int (1 : Int32)), .val (.int (1 : Int32)), .val (.ref bb1), .val (.ref bb3), .val (.ref bb6), .val (.ref b7), .val (.ref b41), .val (.long (1 : Int64)), .second, .val (.long (1 : Int64)), .second, .val (.long (1 : Int64)), .second, .val (.long (1 : Int64)), .second] [(.int (1 : Int32))]))
      exact GoOn.retWZ X60 hS6 (by rw [e60]; exact (Nat.le_trans (Nat.le_trans (Nat.le_trans (Nat.le_trans (Nat.le_trans (Nat.le_refl _) E7.1) K9.1) K40.1) E41.1) K49.1)) hx hlk hret (by simp) rfl (hb hby at_155) ⟨rfl, N49⟩ (by decide) (by decide)
    · rw [hk50]
      refine GoOn.st (fun t_ k_ => XS.aload X49.here hx rfl (hb hby at_92) rfl rfl k_) ?_
      refine GoOn.st (fun t_ k_ => XS.iload X49.here hx rfl (hb hby at_94) rfl k_) ?_
      show GoOn _ _ _ _ (T49.setTop (mkF m 96 #[.val (.int p1), .val (.long q1), .second, .val (.long q2), .second, .val (.long q3), .second, .val (.int (1 : Int32)), .val (.int (2 : Int32)), .val (.ref bb1), .val (.ref bb3), .val (.ref bb6), .val (.ref b7), .val (.ref b41), .unset, .unset, .unset, .unset, .unset, .unset, .unset, .unset] [(.int (2 : Int32)), (.ref b41)]))
      refine GoOn.callV (W := 0) (argsL := [(.int (2 : Int32))]) (rest := []) (a := b41) X49 hx hZ6 hown6 (hw _ (List.mem_of_getElem? (i := 99) rfl)) (hw _ (List.mem_of_getElem? (i := 100) rfl)) (notFace_of_selects (args := #[]) (mvT hZ6 (hw _ (List.mem_of_getElem? (i := 102) rfl)))) (hw _ (List.mem_of_getElem? (i := 102) rfl)) (hw _ (List.mem_of_getElem? (i := 101) rfl)) (hw _ (List.mem_of_getElem? (i := 78) rfl)) (hw _ (List.mem_of_getElem? (i := 103) rfl)) (by decide) (rm_val12 l Z a0 hw b41 bl49 bh49 kl49 kh49 q1 T49.heap f49_1 f49_2 f49_3 f49_4) rfl f49_0 (by decide) (by decide) (by rw [hml]; rfl) pd_12 rfl rfl (Nat.le_of_eq rfl) (hb hby at_96) (by decide) (by decide) ?_
      rintro _ T61 L61 X61 ⟨rfl, rfl, e61⟩
      rw [List.append_nil] at X61
      refine GoOn.st (fun t_ k_ => XS.lstore X61.here hx rfl (hb hby at_99) rfl (l' := #[.val (.int p1), .val (.long q1), .second, .val (.long q2), .second, .val (.long q3), .second, .val (.int (1 : Int32)), .val (.int (2 : Int32)), .val (.ref bb1), .val (.ref bb3), .val (.ref bb6), .val (.ref b7), .val (.ref b41), .val (.long (1 : Int64)), .second, .unset, .unset, .unset, .unset, .unset, .unset]) rfl k_) ?_
      refine GoOn.st (fun t_ k_ => XS.lloadN X61.here hx rfl (hb hby at_101) rfl k_) ?_
      refine GoOn.st (fun t_ k_ => XS.iconst X61.here hx rfl (hb hby at_102)  k_) ?_
      show GoOn _ _ _ _ (T61.setTop (mkF m 103 #[.val (.int p1), .val (.long q1), .second, .val (.long q2), .second, .val (.long q3), .second, .val (.int (1 : Int32)), .val (.int (2 : Int32)), .val (.ref bb1), .val (.ref bb3), .val (.ref bb6), .val (.ref b7), .val (.ref b41), .val (.long (1 : Int64)), .second, .unset, .unset, .unset, .unset, .unset, .unset] [(.int (0 : Int32)), (.long q1)]))
      refine GoOn.st (fun t_ k_ => XS.iload X61.here hx rfl (hb hby at_103) rfl k_) ?_
      refine GoOn.st (fun t_ k_ => XS.iload X61.here hx rfl (hb hby at_105) rfl k_) ?_
      show GoOn _ _ _ _ (T61.setTop (mkF m 107 #[.val (.int p1), .val (.long q1), .second, .val (.long q2), .second, .val (.long q3), .second, .val (.int (1 : Int32)), .val (.int (2 : Int32)), .val (.ref bb1), .val (.ref bb3), .val (.ref bb6), .val (.ref b7), .val (.ref b41), .val (.long (1 : Int64)), .second, .unset, .unset, .unset, .unset, .unset, .unset] [(.int (1 : Int32)), (.int (2 : Int32)), (.int (0 : Int32)), (.long q1)]))
      refine GoOn.callS (W := 0) (argsL := [(.long q1), (.int (0 : Int32)), (.int (2 : Int32)), (.int (1 : Int32))]) (rest := []) X61 hx hZ6 hown6 (hw _ (List.mem_of_getElem? (i := 104) rfl)) (hw _ (List.mem_of_getElem? (i := 105) rfl)) (hw _ (List.mem_of_getElem? (i := 2) rfl)) (hw _ (List.mem_of_getElem? (i := 106) rfl)) (by decide) (rm_facM l Z a0 hw q1 (0 : Int32) (2 : Int32) (1 : Int32) T49.heap (by decide)) e61 (by decide) (by decide) (by rw [hml]; rfl) pd_13 rfl rfl (Nat.le_of_eq rfl) (hb hby at_107) (by decide) (by decide) ?_
      rintro _ T62 L62 X62 ⟨rfl, rfl, e62⟩
      rw [List.append_nil] at X62
      refine GoOn.st (fun t_ k_ => XS.lstore X62.here hx rfl (hb hby at_110) rfl (l' := #[.val (.int p1), .val (.long q1), .second, .val (.long q2), .second, .val (.long q3), .second, .val (.int (1 : Int32)), .val (.int (2 : Int32)), .val (.ref bb1), .val (.ref bb3), .val (.ref bb6), .val (.ref b7), .val (.ref b41), .val (.long (1 : Int64)), .second, .val (.long (1 : Int64)), .second, .unset, .unset, .unset, .unset]) rfl k_) ?_
      refine GoOn.st (fun t_ k_ => XS.lloadN X62.here hx rfl (hb hby at_112) rfl k_) ?_
      refine GoOn.st (fun t_ k_ => XS.iconst X62.here hx rfl (hb hby at_113)  k_) ?_
      show GoOn _ _ _ _ (T62.setTop (mkF m 114 #[.val (.int p1), .val (.long q1), .second, .val (.long q2), .second, .val (.long q3), .second, .val (.int (1 : Int32)), .val (.int (2 : Int32)), .val (.ref bb1), .val (.ref bb3), .val (.ref bb6), .val (.ref b7), .val (.ref b41), .val (.long (1 : Int64)), .second, .val (.long (1 : Int64)), .second, .unset, .unset, .unset, .unset] [(.int (1 : Int32)), (.long q2)]))
      refine GoOn.st (fun t_ k_ => XS.iload X62.here hx rfl (hb hby at_114) rfl k_) ?_
      refine GoOn.st (fun t_ k_ => XS.iload X62.here hx rfl (hb hby at_116) rfl k_) ?_
      show GoOn _ _ _ _ (T62.setTop (mkF m 118 #[.val (.int p1), .val (.long q1), .second, .val (.long q2), .second, .val (.long q3), .second, .val (.int (1 : Int32)), .val (.int (2 : Int32)), .val (.ref bb1), .val (.ref bb3), .val (.ref bb6), .val (.ref b7), .val (.ref b41), .val (.long (1 : Int64)), .second, .val (.long (1 : Int64)), .second, .unset, .unset, .unset, .unset] [(.int (1 : Int32)), (.int (2 : Int32)), (.int (1 : Int32)), (.long q2)]))
      refine GoOn.callS (W := 0) (argsL := [(.long q2), (.int (1 : Int32)), (.int (2 : Int32)), (.int (1 : Int32))]) (rest := []) X62 hx hZ6 hown6 (hw _ (List.mem_of_getElem? (i := 104) rfl)) (hw _ (List.mem_of_getElem? (i := 105) rfl)) (hw _ (List.mem_of_getElem? (i := 2) rfl)) (hw _ (List.mem_of_getElem? (i := 106) rfl)) (by decide) (rm_facM l Z a0 hw q2 (1 : Int32) (2 : Int32) (1 : Int32) T49.heap (by decide)) e62 (by decide) (by decide) (by rw [hml]; rfl) pd_13 rfl rfl (Nat.le_of_eq rfl) (hb hby at_118) (by decide) (by decide) ?_
      rintro _ T63 L63 X63 ⟨rfl, rfl, e63⟩
      rw [List.append_nil] at X63
      refine GoOn.st (fun t_ k_ => XS.lstore X63.here hx rfl (hb hby at_121) rfl (l' := #[.val (.int p1), .val (.long q1), .second, .val (.long q2), .second, .val (.long q3), .second, .val (.int (1 : Int32)), .val (.int (2 : Int32)), .val (.ref bb1), .val (.ref bb3), .val (.ref bb6), .val (.ref b7), .val (.ref b41), .val (.long (1 : Int64)), .second, .val (.long (1 : Int64)), .second, .val (.long (1 : Int64)), .second, .unset, .unset]) rfl k_) ?_
      refine GoOn.st (fun t_ k_ => XS.lload X63.here hx rfl (hb hby at_123) rfl k_) ?_
      refine GoOn.st (fun t_ k_ => XS.iconst X63.here hx rfl (hb hby at_125)  k_) ?_
      show GoOn _ _ _ _ (T63.setTop (mkF m 126 #[.val (.int p1), .val (.long q1), .second, .val (.long q2), .second, .val (.long q3), .second, .val (.int (1 : Int32)), .val (.int (2 : Int32)), .val (.ref bb1), .val (.ref bb3), .val (.ref bb6), .val (.ref b7), .val (.ref b41), .val (.long (1 : Int64)), .second, .val (.long (1 : Int64)), .second, .val (.long (1 : Int64)), .second, .unset, .unset] [(.int (2 : Int32)), (.long q3)]))
      refine GoOn.st (fun t_ k_ => XS.iload X63.here hx rfl (hb hby at_126) rfl k_) ?_
      refine GoOn.st (fun t_ k_ => XS.iload X63.here hx rfl (hb hby at_128) rfl k_) ?_
      show GoOn _ _ _ _ (T63.setTop (mkF m 130 #[.val (.int p1), .val (.long q1), .second, .val (.long q2), .second, .val (.long q3), .second, .val (.int (1 : Int32)), .val (.int (2 : Int32)), .val (.ref bb1), .val (.ref bb3), .val (.ref bb6), .val (.ref b7), .val (.ref b41), .val (.long (1 : Int64)), .second, .val (.long (1 : Int64)), .second, .val (.long (1 : Int64)), .second, .unset, .unset] [(.int (1 : Int32)), (.int (2 : Int32)), (.int (2 : Int32)), (.long q3)]))
      refine GoOn.callS (W := 0) (argsL := [(.long q3), (.int (2 : Int32)), (.int (2 : Int32)), (.int (1 : Int32))]) (rest := []) X63 hx hZ6 hown6 (hw _ (List.mem_of_getElem? (i := 104) rfl)) (hw _ (List.mem_of_getElem? (i := 105) rfl)) (hw _ (List.mem_of_getElem? (i := 2) rfl)) (hw _ (List.mem_of_getElem? (i := 106) rfl)) (by decide) (rm_facN l Z a0 hw q3 (2 : Int32) (2 : Int32) (1 : Int32) T49.heap (by decide) (by decide)) e63 (by decide) (by decide) (by rw [hml]; rfl) pd_13 rfl rfl (Nat.le_of_eq rfl) (hb hby at_130) (by decide) (by decide) ?_
      rintro _ T64 L64 X64 ⟨rfl, rfl, e64⟩
      rw [List.append_nil] at X64
      refine GoOn.st (fun t_ k_ => XS.lstore X64.here hx rfl (hb hby at_133) rfl (l' := #[.val (.int p1), .val (.long q1), .second, .val (.long q2), .second, .val (.long q3), .second, .val (.int (1 : Int32)), .val (.int (2 : Int32)), .val (.ref bb1), .val (.ref bb3), .val (.ref bb6), .val (.ref b7), .val (.ref b41), .val (.long (1 : Int64)), .second, .val (.long (1 : Int64)), .second, .val (.long (1 : Int64)), .second, .val (.long (1 : Int64)), .second]) rfl k_) ?_
      refine GoOn.st (fun t_ k_ => XS.lload X64.here hx rfl (hb hby at_135) rfl k_) ?_
      refine GoOn.st (fun t_ k_ => XS.lload X64.here hx rfl (hb hby at_137) rfl k_) ?_
      show GoOn _ _ _ _ (T64.setTop (mkF m 139 #[.val (.int p1), .val (.long q1), .second, .val (.long q2), .second, .val (.long q3), .second, .val (.int (1 : Int32)), .val (.int (2 : Int32)), .val (.ref bb1), .val (.ref bb3), .val (.ref bb6), .val (.ref b7), .val (.ref b41), .val (.long (1 : Int64)), .second, .val (.long (1 : Int64)), .second, .val (.long (1 : Int64)), .second, .val (.long (1 : Int64)), .second] [(.long (1 : Int64)), (.long (1 : Int64))]))
      refine GoOn.st (fun t_ k_ => XS.lload X64.here hx rfl (hb hby at_139) rfl k_) ?_
      refine GoOn.st (fun t_ k_ => XS.lload X64.here hx rfl (hb hby at_141) rfl k_) ?_
      show GoOn _ _ _ _ (T64.setTop (mkF m 143 #[.val (.int p1), .val (.long q1), .second, .val (.long q2), .second, .val (.long q3), .second, .val (.int (1 : Int32)), .val (.int (2 : Int32)), .val (.ref bb1), .val (.ref bb3), .val (.ref bb6), .val (.ref b7), .val (.ref b41), .val (.long (1 : Int64)), .second, .val (.long (1 : Int64)), .second, .val (.long (1 : Int64)), .second, .val (.long (1 : Int64)), .second] [(.long (1 : Int64)), (.long (1 : Int64)), (.long (1 : Int64)), (.long (1 : Int64))]))
      refine GoOn.callS (W := 2) (argsL := [(.long (1 : Int64)), (.long (1 : Int64)), (.long (1 : Int64))]) (rest := [(.long (1 : Int64))]) X64 hx hZ6 hown6 (hw _ (List.mem_of_getElem? (i := 107) rfl)) (hw _ (List.mem_of_getElem? (i := 108) rfl)) (hw _ (List.mem_of_getElem? (i := 2) rfl)) (hw _ (List.mem_of_getElem? (i := 109) rfl)) (by decide) (rm_sat l Z a0 hw (1 : Int64) (1 : Int64) (1 : Int64) T49.heap own_in_one) e64 (by decide) (by decide) (by rw [hml]; rfl) pd_14 rfl rfl (Nat.le_of_eq rfl) (hb hby at_143) (by decide) (by decide) ?_
      rintro _ T65 L65 X65 ⟨rfl, rfl, e65⟩
      rw [List.append_nil] at X65
      refine GoOn.st (fun t_ k_ => XS.lcmp X65.here hx rfl (hb hby at_146) rfl k_) ?_
      refine GoOn.st (fun t_ k_ => XS.ifNo X65.here hx rfl (hb hby at_147) rfl ((if0 _ _).trans (teq ((lw_eq (1 : Int64) (own_sat (1 : Int64) (1 : Int64) (1 : Int64))).mpr (by have e := own_law own_in_one own_in_one own_in_one; simp only [own_step_first own_in_one, own_step_one _ (own_in_one).1, own_step_first (own_in_vals q1), own_step_one _ (own_in_vals q1).1, own_step_first (own_in_vals q2), own_step_one _ (own_in_vals q2).1, own_step_first (own_in_vals q3), own_step_one _ (own_in_vals q3).1, own_step_one _ (own_step_pos (own_in_vals q2) (own_in_vals q1).1)] at e ⊢; exact e))).2) k_) ?_
      refine GoOn.st (fun t_ k_ => XS.iconst X65.here hx rfl (hb hby at_150)  k_) ?_
      show GoOn _ _ _ _ (T65.setTop (mkF m 151 #[.val (.int p1), .val (.long q1), .second, .val (.long q2), .second, .val (.long q3), .second, .val (.int (1 : Int32)), .val (.int (2 : Int32)), .val (.ref bb1), .val (.ref bb3), .val (.ref bb6), .val (.ref b7), .val (.ref b41), .val (.long (1 : Int64)), .second, .val (.long (1 : Int64)), .second, .val (.long (1 : Int64)), .second, .val (.long (1 : Int64)), .second] [(.int (1 : Int32))]))
      refine GoOn.st (fun t_ k_ => XS.goto X65.here hx rfl (pc0 := 151) (pc' := 155) rfl (hb hby at_151) (by decide) (by decide) k_) ?_
      show GoOn _ _ _ _ (T65.setTop (mkF m 155 #[.val (.int p1), .val (.long q1), .second, .val (.long q2), .second, .val (.long q3), .second, .val (.int (1 : Int32)), .val (.int (2 : Int32)), .val (.ref bb1), .val (.ref bb3), .val (.ref bb6), .val (.ref b7), .val (.ref b41), .val (.long (1 : Int64)), .second, .val (.long (1 : Int64)), .second, .val (.long (1 : Int64)), .second, .val (.long (1 : Int64)), .second] [(.int (1 : Int32))]))
      exact GoOn.retWZ X65 hS6 (by rw [e65]; exact (Nat.le_trans (Nat.le_trans (Nat.le_trans (Nat.le_trans (Nat.le_trans (Nat.le_refl _) E7.1) K9.1) K40.1) E41.1) K49.1)) hx hlk hret (by simp) rfl (hb hby at_155) ⟨rfl, N49⟩ (by decide) (by decide)
    · rw [hk50]
      refine GoOn.st (fun t_ k_ => XS.aload X49.here hx rfl (hb hby at_92) rfl rfl k_) ?_
      refine GoOn.st (fun t_ k_ => XS.iload X49.here hx rfl (hb hby at_94) rfl k_) ?_
      show GoOn _ _ _ _ (T49.setTop (mkF m 96 #[.val (.int p1), .val (.long q1), .second, .val (.long q2), .second, .val (.long q3), .second, .val (.int (1 : Int32)), .val (.int (3 : Int32)), .val (.ref bb1), .val (.ref bb3), .val (.ref bb6), .val (.ref b7), .val (.ref b41), .unset, .unset, .unset, .unset, .unset, .unset, .unset, .unset] [(.int (3 : Int32)), (.ref b41)]))
      refine GoOn.callV (W := 0) (argsL := [(.int (3 : Int32))]) (rest := []) (a := b41) X49 hx hZ6 hown6 (hw _ (List.mem_of_getElem? (i := 99) rfl)) (hw _ (List.mem_of_getElem? (i := 100) rfl)) (notFace_of_selects (args := #[]) (mvT hZ6 (hw _ (List.mem_of_getElem? (i := 102) rfl)))) (hw _ (List.mem_of_getElem? (i := 102) rfl)) (hw _ (List.mem_of_getElem? (i := 101) rfl)) (hw _ (List.mem_of_getElem? (i := 78) rfl)) (hw _ (List.mem_of_getElem? (i := 103) rfl)) (by decide) (rm_val13 l Z a0 hw b41 bl49 bh49 kl49 kh49 q1 T49.heap f49_1 f49_2 f49_3 f49_4) rfl f49_0 (by decide) (by decide) (by rw [hml]; rfl) pd_12 rfl rfl (Nat.le_of_eq rfl) (hb hby at_96) (by decide) (by decide) ?_
      rintro _ T66 L66 X66 ⟨rfl, rfl, e66⟩
      rw [List.append_nil] at X66
      refine GoOn.st (fun t_ k_ => XS.lstore X66.here hx rfl (hb hby at_99) rfl (l' := #[.val (.int p1), .val (.long q1), .second, .val (.long q2), .second, .val (.long q3), .second, .val (.int (1 : Int32)), .val (.int (3 : Int32)), .val (.ref bb1), .val (.ref bb3), .val (.ref bb6), .val (.ref b7), .val (.ref b41), .val (.long (1 : Int64)), .second, .unset, .unset, .unset, .unset, .unset, .unset]) rfl k_) ?_
      refine GoOn.st (fun t_ k_ => XS.lloadN X66.here hx rfl (hb hby at_101) rfl k_) ?_
      refine GoOn.st (fun t_ k_ => XS.iconst X66.here hx rfl (hb hby at_102)  k_) ?_
      show GoOn _ _ _ _ (T66.setTop (mkF m 103 #[.val (.int p1), .val (.long q1), .second, .val (.long q2), .second, .val (.long q3), .second, .val (.int (1 : Int32)), .val (.int (3 : Int32)), .val (.ref bb1), .val (.ref bb3), .val (.ref bb6), .val (.ref b7), .val (.ref b41), .val (.long (1 : Int64)), .second, .unset, .unset, .unset, .unset, .unset, .unset] [(.int (0 : Int32)), (.long q1)]))
      refine GoOn.st (fun t_ k_ => XS.iload X66.here hx rfl (hb hby at_103) rfl k_) ?_
      refine GoOn.st (fun t_ k_ => XS.iload X66.here hx rfl (hb hby at_105) rfl k_) ?_
      show GoOn _ _ _ _ (T66.setTop (mkF m 107 #[.val (.int p1), .val (.long q1), .second, .val (.long q2), .second, .val (.long q3), .second, .val (.int (1 : Int32)), .val (.int (3 : Int32)), .val (.ref bb1), .val (.ref bb3), .val (.ref bb6), .val (.ref b7), .val (.ref b41), .val (.long (1 : Int64)), .second, .unset, .unset, .unset, .unset, .unset, .unset] [(.int (1 : Int32)), (.int (3 : Int32)), (.int (0 : Int32)), (.long q1)]))
      refine GoOn.callS (W := 0) (argsL := [(.long q1), (.int (0 : Int32)), (.int (3 : Int32)), (.int (1 : Int32))]) (rest := []) X66 hx hZ6 hown6 (hw _ (List.mem_of_getElem? (i := 104) rfl)) (hw _ (List.mem_of_getElem? (i := 105) rfl)) (hw _ (List.mem_of_getElem? (i := 2) rfl)) (hw _ (List.mem_of_getElem? (i := 106) rfl)) (by decide) (rm_facM l Z a0 hw q1 (0 : Int32) (3 : Int32) (1 : Int32) T49.heap (by decide)) e66 (by decide) (by decide) (by rw [hml]; rfl) pd_13 rfl rfl (Nat.le_of_eq rfl) (hb hby at_107) (by decide) (by decide) ?_
      rintro _ T67 L67 X67 ⟨rfl, rfl, e67⟩
      rw [List.append_nil] at X67
      refine GoOn.st (fun t_ k_ => XS.lstore X67.here hx rfl (hb hby at_110) rfl (l' := #[.val (.int p1), .val (.long q1), .second, .val (.long q2), .second, .val (.long q3), .second, .val (.int (1 : Int32)), .val (.int (3 : Int32)), .val (.ref bb1), .val (.ref bb3), .val (.ref bb6), .val (.ref b7), .val (.ref b41), .val (.long (1 : Int64)), .second, .val (.long (1 : Int64)), .second, .unset, .unset, .unset, .unset]) rfl k_) ?_
      refine GoOn.st (fun t_ k_ => XS.lloadN X67.here hx rfl (hb hby at_112) rfl k_) ?_
      refine GoOn.st (fun t_ k_ => XS.iconst X67.here hx rfl (hb hby at_113)  k_) ?_
      show GoOn _ _ _ _ (T67.setTop (mkF m 114 #[.val (.int p1), .val (.long q1), .second, .val (.long q2), .second, .val (.long q3), .second, .val (.int (1 : Int32)), .val (.int (3 : Int32)), .val (.ref bb1), .val (.ref bb3), .val (.ref bb6), .val (.ref b7), .val (.ref b41), .val (.long (1 : Int64)), .second, .val (.long (1 : Int64)), .second, .unset, .unset, .unset, .unset] [(.int (1 : Int32)), (.long q2)]))
      refine GoOn.st (fun t_ k_ => XS.iload X67.here hx rfl (hb hby at_114) rfl k_) ?_
      refine GoOn.st (fun t_ k_ => XS.iload X67.here hx rfl (hb hby at_116) rfl k_) ?_
      show GoOn _ _ _ _ (T67.setTop (mkF m 118 #[.val (.int p1), .val (.long q1), .second, .val (.long q2), .second, .val (.long q3), .second, .val (.int (1 : Int32)), .val (.int (3 : Int32)), .val (.ref bb1), .val (.ref bb3), .val (.ref bb6), .val (.ref b7), .val (.ref b41), .val (.long (1 : Int64)), .second, .val (.long (1 : Int64)), .second, .unset, .unset, .unset, .unset] [(.int (1 : Int32)), (.int (3 : Int32)), (.int (1 : Int32)), (.long q2)]))
      refine GoOn.callS (W := 0) (argsL := [(.long q2), (.int (1 : Int32)), (.int (3 : Int32)), (.int (1 : Int32))]) (rest := []) X67 hx hZ6 hown6 (hw _ (List.mem_of_getElem? (i := 104) rfl)) (hw _ (List.mem_of_getElem? (i := 105) rfl)) (hw _ (List.mem_of_getElem? (i := 2) rfl)) (hw _ (List.mem_of_getElem? (i := 106) rfl)) (by decide) (rm_facM l Z a0 hw q2 (1 : Int32) (3 : Int32) (1 : Int32) T49.heap (by decide)) e67 (by decide) (by decide) (by rw [hml]; rfl) pd_13 rfl rfl (Nat.le_of_eq rfl) (hb hby at_118) (by decide) (by decide) ?_
      rintro _ T68 L68 X68 ⟨rfl, rfl, e68⟩
      rw [List.append_nil] at X68
      refine GoOn.st (fun t_ k_ => XS.lstore X68.here hx rfl (hb hby at_121) rfl (l' := #[.val (.int p1), .val (.long q1), .second, .val (.long q2), .second, .val (.long q3), .second, .val (.int (1 : Int32)), .val (.int (3 : Int32)), .val (.ref bb1), .val (.ref bb3), .val (.ref bb6), .val (.ref b7), .val (.ref b41), .val (.long (1 : Int64)), .second, .val (.long (1 : Int64)), .second, .val (.long (1 : Int64)), .second, .unset, .unset]) rfl k_) ?_
      refine GoOn.st (fun t_ k_ => XS.lload X68.here hx rfl (hb hby at_123) rfl k_) ?_
      refine GoOn.st (fun t_ k_ => XS.iconst X68.here hx rfl (hb hby at_125)  k_) ?_
      show GoOn _ _ _ _ (T68.setTop (mkF m 126 #[.val (.int p1), .val (.long q1), .second, .val (.long q2), .second, .val (.long q3), .second, .val (.int (1 : Int32)), .val (.int (3 : Int32)), .val (.ref bb1), .val (.ref bb3), .val (.ref bb6), .val (.ref b7), .val (.ref b41), .val (.long (1 : Int64)), .second, .val (.long (1 : Int64)), .second, .val (.long (1 : Int64)), .second, .unset, .unset] [(.int (2 : Int32)), (.long q3)]))
      refine GoOn.st (fun t_ k_ => XS.iload X68.here hx rfl (hb hby at_126) rfl k_) ?_
      refine GoOn.st (fun t_ k_ => XS.iload X68.here hx rfl (hb hby at_128) rfl k_) ?_
      show GoOn _ _ _ _ (T68.setTop (mkF m 130 #[.val (.int p1), .val (.long q1), .second, .val (.long q2), .second, .val (.long q3), .second, .val (.int (1 : Int32)), .val (.int (3 : Int32)), .val (.ref bb1), .val (.ref bb3), .val (.ref bb6), .val (.ref b7), .val (.ref b41), .val (.long (1 : Int64)), .second, .val (.long (1 : Int64)), .second, .val (.long (1 : Int64)), .second, .unset, .unset] [(.int (1 : Int32)), (.int (3 : Int32)), (.int (2 : Int32)), (.long q3)]))
      refine GoOn.callS (W := 0) (argsL := [(.long q3), (.int (2 : Int32)), (.int (3 : Int32)), (.int (1 : Int32))]) (rest := []) X68 hx hZ6 hown6 (hw _ (List.mem_of_getElem? (i := 104) rfl)) (hw _ (List.mem_of_getElem? (i := 105) rfl)) (hw _ (List.mem_of_getElem? (i := 2) rfl)) (hw _ (List.mem_of_getElem? (i := 106) rfl)) (by decide) (rm_facM l Z a0 hw q3 (2 : Int32) (3 : Int32) (1 : Int32) T49.heap (by decide)) e68 (by decide) (by decide) (by rw [hml]; rfl) pd_13 rfl rfl (Nat.le_of_eq rfl) (hb hby at_130) (by decide) (by decide) ?_
      rintro _ T69 L69 X69 ⟨rfl, rfl, e69⟩
      rw [List.append_nil] at X69
      refine GoOn.st (fun t_ k_ => XS.lstore X69.here hx rfl (hb hby at_133) rfl (l' := #[.val (.int p1), .val (.long q1), .second, .val (.long q2), .second, .val (.long q3), .second, .val (.int (1 : Int32)), .val (.int (3 : Int32)), .val (.ref bb1), .val (.ref bb3), .val (.ref bb6), .val (.ref b7), .val (.ref b41), .val (.long (1 : Int64)), .second, .val (.long (1 : Int64)), .second, .val (.long (1 : Int64)), .second, .val (.long (1 : Int64)), .second]) rfl k_) ?_
      refine GoOn.st (fun t_ k_ => XS.lload X69.here hx rfl (hb hby at_135) rfl k_) ?_
      refine GoOn.st (fun t_ k_ => XS.lload X69.here hx rfl (hb hby at_137) rfl k_) ?_
      show GoOn _ _ _ _ (T69.setTop (mkF m 139 #[.val (.int p1), .val (.long q1), .second, .val (.long q2), .second, .val (.long q3), .second, .val (.int (1 : Int32)), .val (.int (3 : Int32)), .val (.ref bb1), .val (.ref bb3), .val (.ref bb6), .val (.ref b7), .val (.ref b41), .val (.long (1 : Int64)), .second, .val (.long (1 : Int64)), .second, .val (.long (1 : Int64)), .second, .val (.long (1 : Int64)), .second] [(.long (1 : Int64)), (.long (1 : Int64))]))
      refine GoOn.st (fun t_ k_ => XS.lload X69.here hx rfl (hb hby at_139) rfl k_) ?_
      refine GoOn.st (fun t_ k_ => XS.lload X69.here hx rfl (hb hby at_141) rfl k_) ?_
      show GoOn _ _ _ _ (T69.setTop (mkF m 143 #[.val (.int p1), .val (.long q1), .second, .val (.long q2), .second, .val (.long q3), .second, .val (.int (1 : Int32)), .val (.int (3 : Int32)), .val (.ref bb1), .val (.ref bb3), .val (.ref bb6), .val (.ref b7), .val (.ref b41), .val (.long (1 : Int64)), .second, .val (.long (1 : Int64)), .second, .val (.long (1 : Int64)), .second, .val (.long (1 : Int64)), .second] [(.long (1 : Int64)), (.long (1 : Int64)), (.long (1 : Int64)), (.long (1 : Int64))]))
      refine GoOn.callS (W := 2) (argsL := [(.long (1 : Int64)), (.long (1 : Int64)), (.long (1 : Int64))]) (rest := [(.long (1 : Int64))]) X69 hx hZ6 hown6 (hw _ (List.mem_of_getElem? (i := 107) rfl)) (hw _ (List.mem_of_getElem? (i := 108) rfl)) (hw _ (List.mem_of_getElem? (i := 2) rfl)) (hw _ (List.mem_of_getElem? (i := 109) rfl)) (by decide) (rm_sat l Z a0 hw (1 : Int64) (1 : Int64) (1 : Int64) T49.heap own_in_one) e69 (by decide) (by decide) (by rw [hml]; rfl) pd_14 rfl rfl (Nat.le_of_eq rfl) (hb hby at_143) (by decide) (by decide) ?_
      rintro _ T70 L70 X70 ⟨rfl, rfl, e70⟩
      rw [List.append_nil] at X70
      refine GoOn.st (fun t_ k_ => XS.lcmp X70.here hx rfl (hb hby at_146) rfl k_) ?_
      refine GoOn.st (fun t_ k_ => XS.ifNo X70.here hx rfl (hb hby at_147) rfl ((if0 _ _).trans (teq ((lw_eq (1 : Int64) (own_sat (1 : Int64) (1 : Int64) (1 : Int64))).mpr (by have e := own_law own_in_one own_in_one own_in_one; simp only [own_step_first own_in_one, own_step_one _ (own_in_one).1, own_step_first (own_in_vals q1), own_step_one _ (own_in_vals q1).1, own_step_first (own_in_vals q2), own_step_one _ (own_in_vals q2).1, own_step_first (own_in_vals q3), own_step_one _ (own_in_vals q3).1, own_step_one _ (own_step_pos (own_in_vals q2) (own_in_vals q1).1)] at e ⊢; exact e))).2) k_) ?_
      refine GoOn.st (fun t_ k_ => XS.iconst X70.here hx rfl (hb hby at_150)  k_) ?_
      show GoOn _ _ _ _ (T70.setTop (mkF m 151 #[.val (.int p1), .val (.long q1), .second, .val (.long q2), .second, .val (.long q3), .second, .val (.int (1 : Int32)), .val (.int (3 : Int32)), .val (.ref bb1), .val (.ref bb3), .val (.ref bb6), .val (.ref b7), .val (.ref b41), .val (.long (1 : Int64)), .second, .val (.long (1 : Int64)), .second, .val (.long (1 : Int64)), .second, .val (.long (1 : Int64)), .second] [(.int (1 : Int32))]))
      refine GoOn.st (fun t_ k_ => XS.goto X70.here hx rfl (pc0 := 151) (pc' := 155) rfl (hb hby at_151) (by decide) (by decide) k_) ?_
      show GoOn _ _ _ _ (T70.setTop (mkF m 155 #[.val (.int p1), .val (.long q1), .second, .val (.long q2), .second, .val (.long q3), .second, .val (.int (1 : Int32)), .val (.int (3 : Int32)), .val (.ref bb1), .val (.ref bb3), .val (.ref bb6), .val (.ref b7), .val (.ref b41), .val (.long (1 : Int64)), .second, .val (.long (1 : Int64)), .second, .val (.long (1 : Int64)), .second, .val (.long (1 : Int64)), .second] [(.int (1 : Int32))]))
      exact GoOn.retWZ X70 hS6 (by rw [e70]; exact (Nat.le_trans (Nat.le_trans (Nat.le_trans (Nat.le_trans (Nat.le_trans (Nat.le_refl _) E7.1) K9.1) K40.1) E41.1) K49.1)) hx hlk hret (by simp) rfl (hb hby at_155) ⟨rfl, N49⟩ (by decide) (by decide)
  · rw [hk10]
    refine GoOn.st (fun t_ k_ => XS.iload X9.here hx rfl (hb hby at_40) rfl k_) ?_
    refine GoOn.st (fun t_ k_ => XS.ifNo X9.here hx rfl (hb hby at_42) rfl ((if0 _ _).trans (tlt (by decide : (0 : Int32) < (2 : Int32))).2.2.2) k_) ?_
    refine GoOn.st (fun t_ k_ => XS.aload X9.here hx rfl (hb hby at_45) rfl rfl k_) ?_
    show GoOn _ _ _ _ (T9.setTop (mkF m 47 #[.val (.int p1), .val (.long q1), .second, .val (.long q2), .second, .val (.long q3), .second, .val (.int (2 : Int32)), .val (.int ((((p1).toUInt32 >>> ((2 : Int32) &&& 31).toUInt32).toInt32) &&& (3 : Int32))), .val (.ref bb1), .val (.ref bb3), .val (.ref bb6), .val (.ref b7), .unset, .unset, .unset, .unset, .unset, .unset, .unset, .unset, .unset] [(.ref b7)]))
    refine GoOn.st (fun t_ k_ => XS.aload X9.here hx rfl (hb hby at_47) rfl rfl k_) ?_
    show GoOn _ _ _ _ (T9.setTop (mkF m 49 #[.val (.int p1), .val (.long q1), .second, .val (.long q2), .second, .val (.long q3), .second, .val (.int (2 : Int32)), .val (.int ((((p1).toUInt32 >>> ((2 : Int32) &&& 31).toUInt32).toInt32) &&& (3 : Int32))), .val (.ref bb1), .val (.ref bb3), .val (.ref bb6), .val (.ref b7), .unset, .unset, .unset, .unset, .unset, .unset, .unset, .unset, .unset] [(.ref bb1), (.ref b7)]))
    have F71 := (((F4.keep K6).ext E7).keep K9)
    have F72 := (((f3_0.keep K6).ext E7).keep K9)
    have F73 := ((f6_0.ext E7).keep K9)
    have Od74 := (Od8.keep K9 (allS g_b7 all0))
    refine GoOn.callV (W := 0) (argsL := [(.ref bb1)]) (rest := []) (a := b7) X9 hx hZ6 hown6 (hw _ (List.mem_of_getElem? (i := 111) rfl)) (hw _ (List.mem_of_getElem? (i := 112) rfl)) (notFace_of_selects (args := #[]) (mvT hZ6 (hw _ (List.mem_of_getElem? (i := 114) rfl)))) (hw _ (List.mem_of_getElem? (i := 114) rfl)) (hw _ (List.mem_of_getElem? (i := 113) rfl)) (hw _ (List.mem_of_getElem? (i := 54) rfl)) (hw _ (List.mem_of_getElem? (i := 115) rfl)) (by decide) (rm_add10 l Z a0 hw b7 bb1 aD kD T9.heap n0 (Nat.le_trans (Nat.le_trans (Nat.le_trans (Nat.le_trans (Nat.le_trans Z0 K1.1) K3.1) K6.1) E7.1) K9.1) Od74 SD VD f9_0 f9_1 f9_2 f9_3 g_b7 F71 ne_bb1_b7) rfl f9_0 (by decide) (by decide) (by rw [hml]; rfl) pd_15 rfl rfl (Nat.le_of_eq rfl) (hb hby at_49) (by decide) (by decide) ?_
    rintro _ T75 L75 X75 ⟨bb75, kb75, rfl, N75q, K75, gb75, sb75, O75, V75, f75_0, f75_1, f75_2, f75_3⟩
    have N75 := Fr.app N9 N75q
    have ne_bb1_bb75 : bb1 ≠ bb75 := Nat.ne_of_lt (Nat.lt_of_lt_of_le F71.lt sb75)
    have ne_bb3_bb75 : bb3 ≠ bb75 := Nat.ne_of_lt (Nat.lt_of_lt_of_le F72.lt sb75)
    have ne_bb6_bb75 : bb6 ≠ bb75 := Nat.ne_of_lt (Nat.lt_of_lt_of_le F73.lt sb75)
    have ne_b7_bb75 : b7 ≠ bb75 := Nat.ne_of_lt (Nat.lt_of_lt_of_le f9_0.lt sb75)
    have g_bb75 := gb75
    refine GoOn.st (fun t_ k_ => XS.pop X75.here hx rfl (hb hby at_52) rfl rfl k_) ?_
    refine GoOn.st (fun t_ k_ => XS.iload X75.here hx rfl (hb hby at_53) rfl k_) ?_
    refine GoOn.st (fun t_ k_ => XS.iconst X75.here hx rfl (hb hby at_55)  k_) ?_
    show GoOn _ _ _ _ (T75.setTop (mkF m 56 #[.val (.int p1), .val (.long q1), .second, .val (.long q2), .second, .val (.long q3), .second, .val (.int (2 : Int32)), .val (.int ((((p1).toUInt32 >>> ((2 : Int32) &&& 31).toUInt32).toInt32) &&& (3 : Int32))), .val (.ref bb1), .val (.ref bb3), .val (.ref bb6), .val (.ref b7), .unset, .unset, .unset, .unset, .unset, .unset, .unset, .unset, .unset] [(.int (1 : Int32)), (.int (2 : Int32))]))
    refine GoOn.st (fun t_ k_ => XS.icmpNo X75.here hx rfl (hb hby at_56) rfl (tlt (by decide : (1 : Int32) < (2 : Int32))).2.2.2 k_) ?_
    refine GoOn.st (fun t_ k_ => XS.aload X75.here hx rfl (hb hby at_59) rfl rfl k_) ?_
    refine GoOn.st (fun t_ k_ => XS.aload X75.here hx rfl (hb hby at_61) rfl rfl k_) ?_
    show GoOn _ _ _ _ (T75.setTop (mkF m 63 #[.val (.int p1), .val (.long q1), .second, .val (.long q2), .second, .val (.long q3), .second, .val (.int (2 : Int32)), .val (.int ((((p1).toUInt32 >>> ((2 : Int32) &&& 31).toUInt32).toInt32) &&& (3 : Int32))), .val (.ref bb1), .val (.ref bb3), .val (.ref bb6), .val (.ref b7), .unset, .unset, .unset, .unset, .unset, .unset, .unset, .unset, .unset] [(.ref bb3), (.ref b7)]))
    have F76 := (F72.keep K75)
    refine GoOn.callV (W := 0) (argsL := [(.ref bb3)]) (rest := []) (a := b7) X75 hx hZ6 hown6 (hw _ (List.mem_of_getElem? (i := 111) rfl)) (hw _ (List.mem_of_getElem? (i := 112) rfl)) (notFace_of_selects (args := #[]) (mvT hZ6 (hw _ (List.mem_of_getElem? (i := 114) rfl)))) (hw _ (List.mem_of_getElem? (i := 114) rfl)) (hw _ (List.mem_of_getElem? (i := 113) rfl)) (hw _ (List.mem_of_getElem? (i := 54) rfl)) (hw _ (List.mem_of_getElem? (i := 115) rfl)) (by decide) (rm_add11 l Z a0 hw b7 bb3 bb75 bb1 kb75 T75.heap n0 f75_0 f75_1 f75_2 f75_3 V75 O75 g_b7 g_bb75 ne_b7_bb75 F76 ne_bb3_b7 ne_bb3_bb75) rfl f75_0 (by decide) (by decide) (by rw [hml]; rfl) pd_15 rfl rfl (Nat.le_of_eq rfl) (hb hby at_63) (by decide) (by decide) ?_
    rintro _ T77 L77 X77 ⟨rfl, N77q, K77, f77_0, f77_1, f77_2, f77_3, f77_4⟩
    have N77 := Fr.app N75 N77q
    refine GoOn.st (fun t_ k_ => XS.pop X77.here hx rfl (hb hby at_66) rfl rfl k_) ?_
    refine GoOn.st (fun t_ k_ => XS.iload X77.here hx rfl (hb hby at_67) rfl k_) ?_
    refine GoOn.st (fun t_ k_ => XS.iconst X77.here hx rfl (hb hby at_69)  k_) ?_
    show GoOn _ _ _ _ (T77.setTop (mkF m 70 #[.val (.int p1), .val (.long q1), .second, .val (.long q2), .second, .val (.long q3), .second, .val (.int (2 : Int32)), .val (.int ((((p1).toUInt32 >>> ((2 : Int32) &&& 31).toUInt32).toInt32) &&& (3 : Int32))), .val (.ref bb1), .val (.ref bb3), .val (.ref bb6), .val (.ref b7), .unset, .unset, .unset, .unset, .unset, .unset, .unset, .unset, .unset] [(.int (2 : Int32)), (.int (2 : Int32))]))
    refine GoOn.st (fun t_ k_ => XS.icmpYes X77.here hx rfl (pc0 := 70) (pc' := 81) rfl (hb hby at_70) rfl (flt (by decide : ¬ ((2 : Int32) < (2 : Int32)))).2.2.2 (by decide) (by decide) k_) ?_
    obtain ⟨T78, h78, X78, e78, E78, A78, D78, -, st78⟩ := newO X77 hx hZ6 hown6 (hw _ (List.mem_of_getElem? (i := 76) rfl)) (hw _ (List.mem_of_getElem? (i := 77) rfl)) (hw _ (List.mem_of_getElem? (i := 78) rfl)) rfl (g := (mkF m 81 #[.val (.int p1), .val (.long q1), .second, .val (.long q2), .second, .val (.long q3), .second, .val (.int (2 : Int32)), .val (.int ((((p1).toUInt32 >>> ((2 : Int32) &&& 31).toUInt32).toInt32) &&& (3 : Int32))), .val (.ref bb1), .val (.ref bb3), .val (.ref bb6), .val (.ref b7), .unset, .unset, .unset, .unset, .unset, .unset, .unset, .unset, .unset] [])) rfl (hb hby at_81) (by decide) (by decide)
    obtain ⟨b78, g78⟩ : ∃ z, z = T77.heap.size := ⟨_, rfl⟩
    rw [← g78] at A78 D78 st78
    have ne_bb1_b78 : bb1 ≠ b78 := Nat.ne_of_lt (Nat.lt_of_lt_of_le ((F71.keep K75).keep K77).lt (Nat.le_of_eq g78.symm))
    have ne_bb3_b78 : bb3 ≠ b78 := Nat.ne_of_lt (Nat.lt_of_lt_of_le (F76.keep K77).lt (Nat.le_of_eq g78.symm))
    have ne_bb6_b78 : bb6 ≠ b78 := Nat.ne_of_lt (Nat.lt_of_lt_of_le ((F73.keep K75).keep K77).lt (Nat.le_of_eq g78.symm))
    have ne_b7_b78 : b7 ≠ b78 := Nat.ne_of_lt (Nat.lt_of_lt_of_le f77_1.lt (Nat.le_of_eq g78.symm))
    have ne_bb75_b78 : bb75 ≠ b78 := Nat.ne_of_lt (Nat.lt_of_lt_of_le f77_0.lt (Nat.le_of_eq g78.symm))
    have g_b78 : n0 ≤ b78 := Nat.le_trans (Nat.le_trans (Nat.le_trans (Nat.le_trans (Nat.le_trans (Nat.le_trans (Nat.le_trans (Nat.le_trans Z0 K1.1) K3.1) K6.1) E7.1) K9.1) K75.1) K77.1) (Nat.le_of_eq g78.symm)
    have F_low_b78 : Fld Z h78 b78 "com/example/tributary/tributary/semantics/Ranges" "low" "[I" .null := D78 (Or.inr (hw _ (List.mem_of_getElem? (i := 96) rfl))) (ty := (.array .int)) (by decide)
    have F_high_b78 : Fld Z h78 b78 "com/example/tributary/tributary/semantics/Ranges" "high" "[I" .null := D78 (Or.inr (hw _ (List.mem_of_getElem? (i := 98) rfl))) (ty := (.array .int)) (by decide)
    refine GoOn.st st78 ?_
    refine GoOn.st (fun t_ k_ => XS.dup X78.here hx rfl (hb hby at_84) rfl rfl k_) ?_
    refine GoOn.st (fun t_ k_ => XS.aload X78.here hx rfl (hb hby at_85) rfl rfl k_) ?_
    show GoOn _ _ _ _ (T78.setTop (mkF m 87 #[.val (.int p1), .val (.long q1), .second, .val (.long q2), .second, .val (.long q3), .second, .val (.int (2 : Int32)), .val (.int ((((p1).toUInt32 >>> ((2 : Int32) &&& 31).toUInt32).toInt32) &&& (3 : Int32))), .val (.ref bb1), .val (.ref bb3), .val (.ref bb6), .val (.ref b7), .unset, .unset, .unset, .unset, .unset, .unset, .unset, .unset, .unset] [(.ref b7), (.ref b78), (.ref b78)]))
    have F79 := (f77_1.ext E78)
    have F80 := (f77_4.ext E78)
    have F81 := (f77_3.ext E78)
    have F82 := (f77_0.ext E78)
    have F83 := (((F71.keep K75).keep K77).ext E78)
    have F84 := (((((((f1_1.keep K3 nin0).keep K6 nin0).ext E7).keep K9 (ninS ne_bb1_b7 nin0)).keep K75 (ninS ne_bb1_b7 nin0)).keep K77 (ninS ne_bb1_b7 (ninS ne_bb1_bb75 nin0))).ext E78)
    have F85 := (((((((f1_2.keep K3 nin0).keep K6 nin0).ext E7).keep K9 (ninS ne_bb1_b7 nin0)).keep K75 (ninS ne_bb1_b7 nin0)).keep K77 (ninS ne_bb1_b7 (ninS ne_bb1_bb75 nin0))).ext E78)
    have F86 := ((F76.keep K77).ext E78)
    have F87 := ((((((f3_1.keep K6 nin0).ext E7).keep K9 (ninS ne_bb3_b7 nin0)).keep K75 (ninS ne_bb3_b7 nin0)).keep K77 (ninS ne_bb3_b7 (ninS ne_bb3_bb75 nin0))).ext E78)
    have F88 := ((((((f3_2.keep K6 nin0).ext E7).keep K9 (ninS ne_bb3_b7 nin0)).keep K75 (ninS ne_bb3_b7 nin0)).keep K77 (ninS ne_bb3_b7 (ninS ne_bb3_bb75 nin0))).ext E78)
    refine GoOn.callC (W := 1) (argsL := [(.ref b7)]) (rest := [(.ref b78)]) (a := b78) X78 hx hZ6 hown6 rfl (hw _ (List.mem_of_getElem? (i := 79) rfl)) (hw _ (List.mem_of_getElem? (i := 80) rfl)) (hw _ (List.mem_of_getElem? (i := 78) rfl)) (hw _ (List.mem_of_getElem? (i := 81) rfl)) (by decide) (rm_rinit2 l Z a0 hw b78 b7 bb75 bb1 bb3 kb75 q1 q2 h78 n0 (Nat.le_trans (Nat.le_trans (Nat.le_trans (Nat.le_trans (Nat.le_trans (Nat.le_trans (Nat.le_trans (Nat.le_trans Z0 K1.1) K3.1) K6.1) E7.1) K9.1) K75.1) K77.1) E78.1) A78 F_low_b78 F_high_b78 F79 F80 ne_b7_b78 g_b78 F81 F82 ne_bb75_b78 F83 F84 F85 ne_bb1_b78 F86 F87 F88 ne_bb3_b78) e78 (by decide) (by decide) (by rw [hml]; rfl) pd_11 rfl rfl (Nat.le_of_eq rfl) (hb hby at_87) (by decide) (by decide) ?_
    rintro _ T89 L89 X89 ⟨bl89, bh89, kl89, kh89, rfl, N89q, K89, f89_0, f89_1, f89_2, f89_3, f89_4⟩
    have N89 := Fr.app N77 N89q
    refine GoOn.st (fun t_ k_ => XS.astore X89.here hx rfl (hb hby at_90) rfl rfl (l' := #[.val (.int p1), .val (.long q1), .second, .val (.long q2), .second, .val (.long q3), .second, .val (.int (2 : Int32)), .val (.int ((((p1).toUInt32 >>> ((2 : Int32) &&& 31).toUInt32).toInt32) &&& (3 : Int32))), .val (.ref bb1), .val (.ref bb3), .val (.ref bb6), .val (.ref b7), .val (.ref b78), .unset, .unset, .unset, .unset, .unset, .unset, .unset, .unset]) rfl k_) ?_
    show GoOn _ _ _ _ (T89.setTop (mkF m 92 #[.val (.int p1), .val (.long q1), .second, .val (.long q2), .second, .val (.long q3), .second, .val (.int (2 : Int32)), .val (.int ((((p1).toUInt32 >>> ((2 : Int32) &&& 31).toUInt32).toInt32) &&& (3 : Int32))), .val (.ref bb1), .val (.ref bb3), .val (.ref bb6), .val (.ref b7), .val (.ref b78), .unset, .unset, .unset, .unset, .unset, .unset, .unset, .unset] []))
    rcases own_and3 (((p1).toUInt32 >>> ((2 : Int32) &&& 31).toUInt32).toInt32) with hk90 | hk90 | hk90 | hk90
    · rw [hk90]
      refine GoOn.st (fun t_ k_ => XS.aload X89.here hx rfl (hb hby at_92) rfl rfl k_) ?_
      refine GoOn.st (fun t_ k_ => XS.iload X89.here hx rfl (hb hby at_94) rfl k_) ?_
      show GoOn _ _ _ _ (T89.setTop (mkF m 96 #[.val (.int p1), .val (.long q1), .second, .val (.long q2), .second, .val (.long q3), .second, .val (.int (2 : Int32)), .val (.int (0 : Int32)), .val (.ref bb1), .val (.ref bb3), .val (.ref bb6), .val (.ref b7), .val (.ref b78), .unset, .unset, .unset, .unset, .unset, .unset, .unset, .unset] [(.int (0 : Int32)), (.ref b78)]))
      refine GoOn.callV (W := 0) (argsL := [(.int (0 : Int32))]) (rest := []) (a := b78) X89 hx hZ6 hown6 (hw _ (List.mem_of_getElem? (i := 99) rfl)) (hw _ (List.mem_of_getElem? (i := 100) rfl)) (notFace_of_selects (args := #[]) (mvT hZ6 (hw _ (List.mem_of_getElem? (i := 102) rfl)))) (hw _ (List.mem_of_getElem? (i := 102) rfl)) (hw _ (List.mem_of_getElem? (i := 101) rfl)) (hw _ (List.mem_of_getElem? (i := 78) rfl)) (hw _ (List.mem_of_getElem? (i := 103) rfl)) (by decide) (rm_val20 l Z a0 hw b78 bl89 bh89 kl89 kh89 q1 q2 T89.heap f89_1 f89_2 f89_3 f89_4) rfl f89_0 (by decide) (by decide) (by rw [hml]; rfl) pd_12 rfl rfl (Nat.le_of_eq rfl) (hb hby at_96) (by decide) (by decide) ?_
      rintro _ T91 L91 X91 ⟨rfl, rfl, e91⟩
      rw [List.append_nil] at X91
      refine GoOn.st (fun t_ k_ => XS.lstore X91.here hx rfl (hb hby at_99) rfl (l' := #[.val (.int p1), .val (.long q1), .second, .val (.long q2), .second, .val (.long q3), .second, .val (.int (2 : Int32)), .val (.int (0 : Int32)), .val (.ref bb1), .val (.ref bb3), .val (.ref bb6), .val (.ref b7), .val (.ref b78), .val (.long (own_step (own_step (1 : Int64) (own_vals q1)) (own_vals q2))), .second, .unset, .unset, .unset, .unset, .unset, .unset]) rfl k_) ?_
      refine GoOn.st (fun t_ k_ => XS.lloadN X91.here hx rfl (hb hby at_101) rfl k_) ?_
      refine GoOn.st (fun t_ k_ => XS.iconst X91.here hx rfl (hb hby at_102)  k_) ?_
      show GoOn _ _ _ _ (T91.setTop (mkF m 103 #[.val (.int p1), .val (.long q1), .second, .val (.long q2), .second, .val (.long q3), .second, .val (.int (2 : Int32)), .val (.int (0 : Int32)), .val (.ref bb1), .val (.ref bb3), .val (.ref bb6), .val (.ref b7), .val (.ref b78), .val (.long (own_step (own_step (1 : Int64) (own_vals q1)) (own_vals q2))), .second, .unset, .unset, .unset, .unset, .unset, .unset] [(.int (0 : Int32)), (.long q1)]))
      refine GoOn.st (fun t_ k_ => XS.iload X91.here hx rfl (hb hby at_103) rfl k_) ?_
      refine GoOn.st (fun t_ k_ => XS.iload X91.here hx rfl (hb hby at_105) rfl k_) ?_
      show GoOn _ _ _ _ (T91.setTop (mkF m 107 #[.val (.int p1), .val (.long q1), .second, .val (.long q2), .second, .val (.long q3), .second, .val (.int (2 : Int32)), .val (.int (0 : Int32)), .val (.ref bb1), .val (.ref bb3), .val (.ref bb6), .val (.ref b7), .val (.ref b78), .val (.long (own_step (own_step (1 : Int64) (own_vals q1)) (own_vals q2))), .second, .unset, .unset, .unset, .unset, .unset, .unset] [(.int (2 : Int32)), (.int (0 : Int32)), (.int (0 : Int32)), (.long q1)]))
      refine GoOn.callS (W := 0) (argsL := [(.long q1), (.int (0 : Int32)), (.int (0 : Int32)), (.int (2 : Int32))]) (rest := []) X91 hx hZ6 hown6 (hw _ (List.mem_of_getElem? (i := 104) rfl)) (hw _ (List.mem_of_getElem? (i := 105) rfl)) (hw _ (List.mem_of_getElem? (i := 2) rfl)) (hw _ (List.mem_of_getElem? (i := 106) rfl)) (by decide) (rm_facY l Z a0 hw q1 (0 : Int32) (0 : Int32) (2 : Int32) T89.heap (by decide) (by decide)) e91 (by decide) (by decide) (by rw [hml]; rfl) pd_13 rfl rfl (Nat.le_of_eq rfl) (hb hby at_107) (by decide) (by decide) ?_
      rintro _ T92 L92 X92 ⟨rfl, rfl, e92⟩
      rw [List.append_nil] at X92
      refine GoOn.st (fun t_ k_ => XS.lstore X92.here hx rfl (hb hby at_110) rfl (l' := #[.val (.int p1), .val (.long q1), .second, .val (.long q2), .second, .val (.long q3), .second, .val (.int (2 : Int32)), .val (.int (0 : Int32)), .val (.ref bb1), .val (.ref bb3), .val (.ref bb6), .val (.ref b7), .val (.ref b78), .val (.long (own_step (own_step (1 : Int64) (own_vals q1)) (own_vals q2))), .second, .val (.long (own_vals q1)), .second, .unset, .unset, .unset, .unset]) rfl k_) ?_
      refine GoOn.st (fun t_ k_ => XS.lloadN X92.here hx rfl (hb hby at_112) rfl k_) ?_
      refine GoOn.st (fun t_ k_ => XS.iconst X92.here hx rfl (hb hby at_113)  k_) ?_
      show GoOn _ _ _ _ (T92.setTop (mkF m 114 #[.val (.int p1), .val (.long q1), .second, .val (.long q2), .second, .val (.long q3), .second, .val (.int (2 : Int32)), .val (.int (0 : Int32)), .val (.ref bb1), .val (.ref bb3), .val (.ref bb6), .val (.ref b7), .val (.ref b78), .val (.long (own_step (own_step (1 : Int64) (own_vals q1)) (own_vals q2))), .second, .val (.long (own_vals q1)), .second, .unset, .unset, .unset, .unset] [(.int (1 : Int32)), (.long q2)]))
      refine GoOn.st (fun t_ k_ => XS.iload X92.here hx rfl (hb hby at_114) rfl k_) ?_
      refine GoOn.st (fun t_ k_ => XS.iload X92.here hx rfl (hb hby at_116) rfl k_) ?_
      show GoOn _ _ _ _ (T92.setTop (mkF m 118 #[.val (.int p1), .val (.long q1), .second, .val (.long q2), .second, .val (.long q3), .second, .val (.int (2 : Int32)), .val (.int (0 : Int32)), .val (.ref bb1), .val (.ref bb3), .val (.ref bb6), .val (.ref b7), .val (.ref b78), .val (.long (own_step (own_step (1 : Int64) (own_vals q1)) (own_vals q2))), .second, .val (.long (own_vals q1)), .second, .unset, .unset, .unset, .unset] [(.int (2 : Int32)), (.int (0 : Int32)), (.int (1 : Int32)), (.long q2)]))
      refine GoOn.callS (W := 0) (argsL := [(.long q2), (.int (1 : Int32)), (.int (0 : Int32)), (.int (2 : Int32))]) (rest := []) X92 hx hZ6 hown6 (hw _ (List.mem_of_getElem? (i := 104) rfl)) (hw _ (List.mem_of_getElem? (i := 105) rfl)) (hw _ (List.mem_of_getElem? (i := 2) rfl)) (hw _ (List.mem_of_getElem? (i := 106) rfl)) (by decide) (rm_facY l Z a0 hw q2 (1 : Int32) (0 : Int32) (2 : Int32) T89.heap (by decide) (by decide)) e92 (by decide) (by decide) (by rw [hml]; rfl) pd_13 rfl rfl (Nat.le_of_eq rfl) (hb hby at_118) (by decide) (by decide) ?_
      rintro _ T93 L93 X93 ⟨rfl, rfl, e93⟩
      rw [List.append_nil] at X93
      refine GoOn.st (fun t_ k_ => XS.lstore X93.here hx rfl (hb hby at_121) rfl (l' := #[.val (.int p1), .val (.long q1), .second, .val (.long q2), .second, .val (.long q3), .second, .val (.int (2 : Int32)), .val (.int (0 : Int32)), .val (.ref bb1), .val (.ref bb3), .val (.ref bb6), .val (.ref b7), .val (.ref b78), .val (.long (own_step (own_step (1 : Int64) (own_vals q1)) (own_vals q2))), .second, .val (.long (own_vals q1)), .second, .val (.long (own_vals q2)), .second, .unset, .unset]) rfl k_) ?_
      refine GoOn.st (fun t_ k_ => XS.lload X93.here hx rfl (hb hby at_123) rfl k_) ?_
      refine GoOn.st (fun t_ k_ => XS.iconst X93.here hx rfl (hb hby at_125)  k_) ?_
      show GoOn _ _ _ _ (T93.setTop (mkF m 126 #[.val (.int p1), .val (.long q1), .second, .val (.long q2), .second, .val (.long q3), .second, .val (.int (2 : Int32)), .val (.int (0 : Int32)), .val (.ref bb1), .val (.ref bb3), .val (.ref bb6), .val (.ref b7), .val (.ref b78), .val (.long (own_step (own_step (1 : Int64) (own_vals q1)) (own_vals q2))), .second, .val (.long (own_vals q1)), .second, .val (.long (own_vals q2)), .second, .unset, .unset] [(.int (2 : Int32)), (.long q3)]))
      refine GoOn.st (fun t_ k_ => XS.iload X93.here hx rfl (hb hby at_126) rfl k_) ?_
      refine GoOn.st (fun t_ k_ => XS.iload X93.here hx rfl (hb hby at_128) rfl k_) ?_
      show GoOn _ _ _ _ (T93.setTop (mkF m 130 #[.val (.int p1), .val (.long q1), .second, .val (.long q2), .second, .val (.long q3), .second, .val (.int (2 : Int32)), .val (.int (0 : Int32)), .val (.ref bb1), .val (.ref bb3), .val (.ref bb6), .val (.ref b7), .val (.ref b78), .val (.long (own_step (own_step (1 : Int64) (own_vals q1)) (own_vals q2))), .second, .val (.long (own_vals q1)), .second, .val (.long (own_vals q2)), .second, .unset, .unset] [(.int (2 : Int32)), (.int (0 : Int32)), (.int (2 : Int32)), (.long q3)]))
      refine GoOn.callS (W := 0) (argsL := [(.long q3), (.int (2 : Int32)), (.int (0 : Int32)), (.int (2 : Int32))]) (rest := []) X93 hx hZ6 hown6 (hw _ (List.mem_of_getElem? (i := 104) rfl)) (hw _ (List.mem_of_getElem? (i := 105) rfl)) (hw _ (List.mem_of_getElem? (i := 2) rfl)) (hw _ (List.mem_of_getElem? (i := 106) rfl)) (by decide) (rm_facN l Z a0 hw q3 (2 : Int32) (0 : Int32) (2 : Int32) T89.heap (by decide) (by decide)) e93 (by decide) (by decide) (by rw [hml]; rfl) pd_13 rfl rfl (Nat.le_of_eq rfl) (hb hby at_130) (by decide) (by decide) ?_
      rintro _ T94 L94 X94 ⟨rfl, rfl, e94⟩
      rw [List.append_nil] at X94
      refine GoOn.st (fun t_ k_ => XS.lstore X94.here hx rfl (hb hby at_133) rfl (l' := #[.val (.int p1), .val (.long q1), .second, .val (.long q2), .second, .val (.long q3), .second, .val (.int (2 : Int32)), .val (.int (0 : Int32)), .val (.ref bb1), .val (.ref bb3), .val (.ref bb6), .val (.ref b7), .val (.ref b78), .val (.long (own_step (own_step (1 : Int64) (own_vals q1)) (own_vals q2))), .second, .val (.long (own_vals q1)), .second, .val (.long (own_vals q2)), .second, .val (.long (1 : Int64)), .second]) rfl k_) ?_
      refine GoOn.st (fun t_ k_ => XS.lload X94.here hx rfl (hb hby at_135) rfl k_) ?_
      refine GoOn.st (fun t_ k_ => XS.lload X94.here hx rfl (hb hby at_137) rfl k_) ?_
      show GoOn _ _ _ _ (T94.setTop (mkF m 139 #[.val (.int p1), .val (.long q1), .second, .val (.long q2), .second, .val (.long q3), .second, .val (.int (2 : Int32)), .val (.int (0 : Int32)), .val (.ref bb1), .val (.ref bb3), .val (.ref bb6), .val (.ref b7), .val (.ref b78), .val (.long (own_step (own_step (1 : Int64) (own_vals q1)) (own_vals q2))), .second, .val (.long (own_vals q1)), .second, .val (.long (own_vals q2)), .second, .val (.long (1 : Int64)), .second] [(.long (own_vals q1)), (.long (own_step (own_step (1 : Int64) (own_vals q1)) (own_vals q2)))]))
      refine GoOn.st (fun t_ k_ => XS.lload X94.here hx rfl (hb hby at_139) rfl k_) ?_
      refine GoOn.st (fun t_ k_ => XS.lload X94.here hx rfl (hb hby at_141) rfl k_) ?_
      show GoOn _ _ _ _ (T94.setTop (mkF m 143 #[.val (.int p1), .val (.long q1), .second, .val (.long q2), .second, .val (.long q3), .second, .val (.int (2 : Int32)), .val (.int (0 : Int32)), .val (.ref bb1), .val (.ref bb3), .val (.ref bb6), .val (.ref b7), .val (.ref b78), .val (.long (own_step (own_step (1 : Int64) (own_vals q1)) (own_vals q2))), .second, .val (.long (own_vals q1)), .second, .val (.long (own_vals q2)), .second, .val (.long (1 : Int64)), .second] [(.long (1 : Int64)), (.long (own_vals q2)), (.long (own_vals q1)), (.long (own_step (own_step (1 : Int64) (own_vals q1)) (own_vals q2)))]))
      refine GoOn.callS (W := 2) (argsL := [(.long (own_vals q1)), (.long (own_vals q2)), (.long (1 : Int64))]) (rest := [(.long (own_step (own_step (1 : Int64) (own_vals q1)) (own_vals q2)))]) X94 hx hZ6 hown6 (hw _ (List.mem_of_getElem? (i := 107) rfl)) (hw _ (List.mem_of_getElem? (i := 108) rfl)) (hw _ (List.mem_of_getElem? (i := 2) rfl)) (hw _ (List.mem_of_getElem? (i := 109) rfl)) (by decide) (rm_sat l Z a0 hw (own_vals q1) (own_vals q2) (1 : Int64) T89.heap own_in_one) e94 (by decide) (by decide) (by rw [hml]; rfl) pd_14 rfl rfl (Nat.le_of_eq rfl) (hb hby at_143) (by decide) (by decide) ?_
      rintro _ T95 L95 X95 ⟨rfl, rfl, e95⟩
      rw [List.append_nil] at X95
      refine GoOn.st (fun t_ k_ => XS.lcmp X95.here hx rfl (hb hby at_146) rfl k_) ?_
      refine GoOn.st (fun t_ k_ => XS.ifNo X95.here hx rfl (hb hby at_147) rfl ((if0 _ _).trans (teq ((lw_eq (own_step (own_step (1 : Int64) (own_vals q1)) (own_vals q2)) (own_sat (own_vals q1) (own_vals q2) (1 : Int64))).mpr (by have e := own_law (own_in_vals q1) (own_in_vals q2) own_in_one; simp only [own_step_first own_in_one, own_step_one _ (own_in_one).1, own_step_first (own_in_vals q1), own_step_one _ (own_in_vals q1).1, own_step_first (own_in_vals q2), own_step_one _ (own_in_vals q2).1, own_step_first (own_in_vals q3), own_step_one _ (own_in_vals q3).1, own_step_one _ (own_step_pos (own_in_vals q2) (own_in_vals q1).1)] at e ⊢; exact e))).2) k_) ?_
      refine GoOn.st (fun t_ k_ => XS.iconst X95.here hx rfl (hb hby at_150)  k_) ?_
      show GoOn _ _ _ _ (T95.setTop (mkF m 151 #[.val (.int p1), .val (.long q1), .second, .val (.long q2), .second, .val (.long q3), .second, .val (.int (2 : Int32)), .val (.int (0 : Int32)), .val (.ref bb1), .val (.ref bb3), .val (.ref bb6), .val (.ref b7), .val (.ref b78), .val (.long (own_step (own_step (1 : Int64) (own_vals q1)) (own_vals q2))), .second, .val (.long (own_vals q1)), .second, .val (.long (own_vals q2)), .second, .val (.long (1 : Int64)), .second] [(.int (1 : Int32))]))
      refine GoOn.st (fun t_ k_ => XS.goto X95.here hx rfl (pc0 := 151) (pc' := 155) rfl (hb hby at_151) (by decide) (by decide) k_) ?_
      show GoOn _ _ _ _ (T95.setTop (mkF m 155 #[.val (.int p1), .val (.long q1), .second, .val (.long q2), .second, .val (.long q3), .second, .val (.int (2 : Int32)), .val (.int (0 : Int32)), .val (.ref bb1), .val (.ref bb3), .val (.ref bb6), .val (.ref b7), .val (.ref b78), .val (.long (own_step (own_step (1 : Int64) (own_vals q1)) (own_vals q2))), .second, .val (.long (own_vals q1)), .second, .val (.long (own_vals q2)), .second, .val (.long (1 : Int64)), .second] [(.int (1 : Int32))]))
      exact GoOn.retWZ X95 hS6 (by rw [e95]; exact (Nat.le_trans (Nat.le_trans (Nat.le_trans (Nat.le_trans (Nat.le_trans (Nat.le_trans (Nat.le_refl _) E7.1) K9.1) K75.1) K77.1) E78.1) K89.1)) hx hlk hret (by simp) rfl (hb hby at_155) ⟨rfl, N89⟩ (by decide) (by decide)
    · rw [hk90]
      refine GoOn.st (fun t_ k_ => XS.aload X89.here hx rfl (hb hby at_92) rfl rfl k_) ?_
      refine GoOn.st (fun t_ k_ => XS.iload X89.here hx rfl (hb hby at_94) rfl k_) ?_
      show GoOn _ _ _ _ (T89.setTop (mkF m 96 #[.val (.int p1), .val (.long q1), .second, .val (.long q2), .second, .val (.long q3), .second, .val (.int (2 : Int32)), .val (.int (1 : Int32)), .val (.ref bb1), .val (.ref bb3), .val (.ref bb6), .val (.ref b7), .val (.ref b78), .unset, .unset, .unset, .unset, .unset, .unset, .unset, .unset] [(.int (1 : Int32)), (.ref b78)]))
      refine GoOn.callV (W := 0) (argsL := [(.int (1 : Int32))]) (rest := []) (a := b78) X89 hx hZ6 hown6 (hw _ (List.mem_of_getElem? (i := 99) rfl)) (hw _ (List.mem_of_getElem? (i := 100) rfl)) (notFace_of_selects (args := #[]) (mvT hZ6 (hw _ (List.mem_of_getElem? (i := 102) rfl)))) (hw _ (List.mem_of_getElem? (i := 102) rfl)) (hw _ (List.mem_of_getElem? (i := 101) rfl)) (hw _ (List.mem_of_getElem? (i := 78) rfl)) (hw _ (List.mem_of_getElem? (i := 103) rfl)) (by decide) (rm_val21 l Z a0 hw b78 bl89 bh89 kl89 kh89 q1 q2 T89.heap f89_1 f89_2 f89_3 f89_4) rfl f89_0 (by decide) (by decide) (by rw [hml]; rfl) pd_12 rfl rfl (Nat.le_of_eq rfl) (hb hby at_96) (by decide) (by decide) ?_
      rintro _ T96 L96 X96 ⟨rfl, rfl, e96⟩
      rw [List.append_nil] at X96
      refine GoOn.st (fun t_ k_ => XS.lstore X96.here hx rfl (hb hby at_99) rfl (l' := #[.val (.int p1), .val (.long q1), .second, .val (.long q2), .second, .val (.long q3), .second, .val (.int (2 : Int32)), .val (.int (1 : Int32)), .val (.ref bb1), .val (.ref bb3), .val (.ref bb6), .val (.ref b7), .val (.ref b78), .val (.long (own_step (1 : Int64) (own_vals q2))), .second, .unset, .unset, .unset, .unset, .unset, .unset]) rfl k_) ?_
      refine GoOn.st (fun t_ k_ => XS.lloadN X96.here hx rfl (hb hby at_101) rfl k_) ?_
      refine GoOn.st (fun t_ k_ => XS.iconst X96.here hx rfl (hb hby at_102)  k_) ?_
      show GoOn _ _ _ _ (T96.setTop (mkF m 103 #[.val (.int p1), .val (.long q1), .second, .val (.long q2), .second, .val (.long q3), .second, .val (.int (2 : Int32)), .val (.int (1 : Int32)), .val (.ref bb1), .val (.ref bb3), .val (.ref bb6), .val (.ref b7), .val (.ref b78), .val (.long (own_step (1 : Int64) (own_vals q2))), .second, .unset, .unset, .unset, .unset, .unset, .unset] [(.int (0 : Int32)), (.long q1)]))
      refine GoOn.st (fun t_ k_ => XS.iload X96.here hx rfl (hb hby at_103) rfl k_) ?_
      refine GoOn.st (fun t_ k_ => XS.iload X96.here hx rfl (hb hby at_105) rfl k_) ?_
      show GoOn _ _ _ _ (T96.setTop (mkF m 107 #[.val (.int p1), .val (.long q1), .second, .val (.long q2), .second, .val (.long q3), .second, .val (.int (2 : Int32)), .val (.int (1 : Int32)), .val (.ref bb1), .val (.ref bb3), .val (.ref bb6), .val (.ref b7), .val (.ref b78), .val (.long (own_step (1 : Int64) (own_vals q2))), .second, .unset, .unset, .unset, .unset, .unset, .unset] [(.int (2 : Int32)), (.int (1 : Int32)), (.int (0 : Int32)), (.long q1)]))
      refine GoOn.callS (W := 0) (argsL := [(.long q1), (.int (0 : Int32)), (.int (1 : Int32)), (.int (2 : Int32))]) (rest := []) X96 hx hZ6 hown6 (hw _ (List.mem_of_getElem? (i := 104) rfl)) (hw _ (List.mem_of_getElem? (i := 105) rfl)) (hw _ (List.mem_of_getElem? (i := 2) rfl)) (hw _ (List.mem_of_getElem? (i := 106) rfl)) (by decide) (rm_facM l Z a0 hw q1 (0 : Int32) (1 : Int32) (2 : Int32) T89.heap (by decide)) e96 (by decide) (by decide) (by rw [hml]; rfl) pd_13 rfl rfl (Nat.le_of_eq rfl) (hb hby at_107) (by decide) (by decide) ?_
      rintro _ T97 L97 X97 ⟨rfl, rfl, e97⟩
      rw [List.append_nil] at X97
      refine GoOn.st (fun t_ k_ => XS.lstore X97.here hx rfl (hb hby at_110) rfl (l' := #[.val (.int p1), .val (.long q1), .second, .val (.long q2), .second, .val (.long q3), .second, .val (.int (2 : Int32)), .val (.int (1 : Int32)), .val (.ref bb1), .val (.ref bb3), .val (.ref bb6), .val (.ref b7), .val (.ref b78), .val (.long (own_step (1 : Int64) (own_vals q2))), .second, .val (.long (1 : Int64)), .second, .unset, .unset, .unset, .unset]) rfl k_) ?_
      refine GoOn.st (fun t_ k_ => XS.lloadN X97.here hx rfl (hb hby at_112) rfl k_) ?_
      refine GoOn.st (fun t_ k_ => XS.iconst X97.here hx rfl (hb hby at_113)  k_) ?_
      show GoOn _ _ _ _ (T97.setTop (mkF m 114 #[.val (.int p1), .val (.long q1), .second, .val (.long q2), .second, .val (.long q3), .second, .val (.int (2 : Int32)), .val (.int (1 : Int32)), .val (.ref bb1), .val (.ref bb3), .val (.ref bb6), .val (.ref b7), .val (.ref b78), .val (.long (own_step (1 : Int64) (own_vals q2))), .second, .val (.long (1 : Int64)), .second, .unset, .unset, .unset, .unset] [(.int (1 : Int32)), (.long q2)]))
      refine GoOn.st (fun t_ k_ => XS.iload X97.here hx rfl (hb hby at_114) rfl k_) ?_
      refine GoOn.st (fun t_ k_ => XS.iload X97.here hx rfl (hb hby at_116) rfl k_) ?_
      show GoOn _ _ _ _ (T97.setTop (mkF m 118 #[.val (.int p1), .val (.long q1), .second, .val (.long q2), .second, .val (.long q3), .second, .val (.int (2 : Int32)), .val (.int (1 : Int32)), .val (.ref bb1), .val (.ref bb3), .val (.ref bb6), .val (.ref b7), .val (.ref b78), .val (.long (own_step (1 : Int64) (own_vals q2))), .second, .val (.long (1 : Int64)), .second, .unset, .unset, .unset, .unset] [(.int (2 : Int32)), (.int (1 : Int32)), (.int (1 : Int32)), (.long q2)]))
      refine GoOn.callS (W := 0) (argsL := [(.long q2), (.int (1 : Int32)), (.int (1 : Int32)), (.int (2 : Int32))]) (rest := []) X97 hx hZ6 hown6 (hw _ (List.mem_of_getElem? (i := 104) rfl)) (hw _ (List.mem_of_getElem? (i := 105) rfl)) (hw _ (List.mem_of_getElem? (i := 2) rfl)) (hw _ (List.mem_of_getElem? (i := 106) rfl)) (by decide) (rm_facY l Z a0 hw q2 (1 : Int32) (1 : Int32) (2 : Int32) T89.heap (by decide) (by decide)) e97 (by decide) (by decide) (by rw [hml]; rfl) pd_13 rfl rfl (Nat.le_of_eq rfl) (hb hby at_118) (by decide) (by decide) ?_
      rintro _ T98 L98 X98 ⟨rfl, rfl, e98⟩
      rw [List.append_nil] at X98
      refine GoOn.st (fun t_ k_ => XS.lstore X98.here hx rfl (hb hby at_121) rfl (l' := #[.val (.int p1), .val (.long q1), .second, .val (.long q2), .second, .val (.long q3), .second, .val (.int (2 : Int32)), .val (.int (1 : Int32)), .val (.ref bb1), .val (.ref bb3), .val (.ref bb6), .val (.ref b7), .val (.ref b78), .val (.long (own_step (1 : Int64) (own_vals q2))), .second, .val (.long (1 : Int64)), .second, .val (.long (own_vals q2)), .second, .unset, .unset]) rfl k_) ?_
      refine GoOn.st (fun t_ k_ => XS.lload X98.here hx rfl (hb hby at_123) rfl k_) ?_
      refine GoOn.st (fun t_ k_ => XS.iconst X98.here hx rfl (hb hby at_125)  k_) ?_
      show GoOn _ _ _ _ (T98.setTop (mkF m 126 #[.val (.int p1), .val (.long q1), .second, .val (.long q2), .second, .val (.long q3), .second, .val (.int (2 : Int32)), .val (.int (1 : Int32)), .val (.ref bb1), .val (.ref bb3), .val (.ref bb6), .val (.ref b7), .val (.ref b78), .val (.long (own_step (1 : Int64) (own_vals q2))), .second, .val (.long (1 : Int64)), .second, .val (.long (own_vals q2)), .second, .unset, .unset] [(.int (2 : Int32)), (.long q3)]))
      refine GoOn.st (fun t_ k_ => XS.iload X98.here hx rfl (hb hby at_126) rfl k_) ?_
      refine GoOn.st (fun t_ k_ => XS.iload X98.here hx rfl (hb hby at_128) rfl k_) ?_
      show GoOn _ _ _ _ (T98.setTop (mkF m 130 #[.val (.int p1), .val (.long q1), .second, .val (.long q2), .second, .val (.long q3), .second, .val (.int (2 : Int32)), .val (.int (1 : Int32)), .val (.ref bb1), .val (.ref bb3), .val (.ref bb6), .val (.ref b7), .val (.ref b78), .val (.long (own_step (1 : Int64) (own_vals q2))), .second, .val (.long (1 : Int64)), .second, .val (.long (own_vals q2)), .second, .unset, .unset] [(.int (2 : Int32)), (.int (1 : Int32)), (.int (2 : Int32)), (.long q3)]))
      refine GoOn.callS (W := 0) (argsL := [(.long q3), (.int (2 : Int32)), (.int (1 : Int32)), (.int (2 : Int32))]) (rest := []) X98 hx hZ6 hown6 (hw _ (List.mem_of_getElem? (i := 104) rfl)) (hw _ (List.mem_of_getElem? (i := 105) rfl)) (hw _ (List.mem_of_getElem? (i := 2) rfl)) (hw _ (List.mem_of_getElem? (i := 106) rfl)) (by decide) (rm_facN l Z a0 hw q3 (2 : Int32) (1 : Int32) (2 : Int32) T89.heap (by decide) (by decide)) e98 (by decide) (by decide) (by rw [hml]; rfl) pd_13 rfl rfl (Nat.le_of_eq rfl) (hb hby at_130) (by decide) (by decide) ?_
      rintro _ T99 L99 X99 ⟨rfl, rfl, e99⟩
      rw [List.append_nil] at X99
      refine GoOn.st (fun t_ k_ => XS.lstore X99.here hx rfl (hb hby at_133) rfl (l' := #[.val (.int p1), .val (.long q1), .second, .val (.long q2), .second, .val (.long q3), .second, .val (.int (2 : Int32)), .val (.int (1 : Int32)), .val (.ref bb1), .val (.ref bb3), .val (.ref bb6), .val (.ref b7), .val (.ref b78), .val (.long (own_step (1 : Int64) (own_vals q2))), .second, .val (.long (1 : Int64)), .second, .val (.long (own_vals q2)), .second, .val (.long (1 : Int64)), .second]) rfl k_) ?_
      refine GoOn.st (fun t_ k_ => XS.lload X99.here hx rfl (hb hby at_135) rfl k_) ?_
      refine GoOn.st (fun t_ k_ => XS.lload X99.here hx rfl (hb hby at_137) rfl k_) ?_
      show GoOn _ _ _ _ (T99.setTop (mkF m 139 #[.val (.int p1), .val (.long q1), .second, .val (.long q2), .second, .val (.long q3), .second, .val (.int (2 : Int32)), .val (.int (1 : Int32)), .val (.ref bb1), .val (.ref bb3), .val (.ref bb6), .val (.ref b7), .val (.ref b78), .val (.long (own_step (1 : Int64) (own_vals q2))), .second, .val (.long (1 : Int64)), .second, .val (.long (own_vals q2)), .second, .val (.long (1 : Int64)), .second] [(.long (1 : Int64)), (.long (own_step (1 : Int64) (own_vals q2)))]))
      refine GoOn.st (fun t_ k_ => XS.lload X99.here hx rfl (hb hby at_139) rfl k_) ?_
      refine GoOn.st (fun t_ k_ => XS.lload X99.here hx rfl (hb hby at_141) rfl k_) ?_
      show GoOn _ _ _ _ (T99.setTop (mkF m 143 #[.val (.int p1), .val (.long q1), .second, .val (.long q2), .second, .val (.long q3), .second, .val (.int (2 : Int32)), .val (.int (1 : Int32)), .val (.ref bb1), .val (.ref bb3), .val (.ref bb6), .val (.ref b7), .val (.ref b78), .val (.long (own_step (1 : Int64) (own_vals q2))), .second, .val (.long (1 : Int64)), .second, .val (.long (own_vals q2)), .second, .val (.long (1 : Int64)), .second] [(.long (1 : Int64)), (.long (own_vals q2)), (.long (1 : Int64)), (.long (own_step (1 : Int64) (own_vals q2)))]))
      refine GoOn.callS (W := 2) (argsL := [(.long (1 : Int64)), (.long (own_vals q2)), (.long (1 : Int64))]) (rest := [(.long (own_step (1 : Int64) (own_vals q2)))]) X99 hx hZ6 hown6 (hw _ (List.mem_of_getElem? (i := 107) rfl)) (hw _ (List.mem_of_getElem? (i := 108) rfl)) (hw _ (List.mem_of_getElem? (i := 2) rfl)) (hw _ (List.mem_of_getElem? (i := 109) rfl)) (by decide) (rm_sat l Z a0 hw (1 : Int64) (own_vals q2) (1 : Int64) T89.heap own_in_one) e99 (by decide) (by decide) (by rw [hml]; rfl) pd_14 rfl rfl (Nat.le_of_eq rfl) (hb hby at_143) (by decide) (by decide) ?_
      rintro _ T100 L100 X100 ⟨rfl, rfl, e100⟩
      rw [List.append_nil] at X100
      refine GoOn.st (fun t_ k_ => XS.lcmp X100.here hx rfl (hb hby at_146) rfl k_) ?_
      refine GoOn.st (fun t_ k_ => XS.ifNo X100.here hx rfl (hb hby at_147) rfl ((if0 _ _).trans (teq ((lw_eq (own_step (1 : Int64) (own_vals q2)) (own_sat (1 : Int64) (own_vals q2) (1 : Int64))).mpr (by have e := own_law own_in_one (own_in_vals q2) own_in_one; simp only [own_step_first own_in_one, own_step_one _ (own_in_one).1, own_step_first (own_in_vals q1), own_step_one _ (own_in_vals q1).1, own_step_first (own_in_vals q2), own_step_one _ (own_in_vals q2).1, own_step_first (own_in_vals q3), own_step_one _ (own_in_vals q3).1, own_step_one _ (own_step_pos (own_in_vals q2) (own_in_vals q1).1)] at e ⊢; exact e))).2) k_) ?_
      refine GoOn.st (fun t_ k_ => XS.iconst X100.here hx rfl (hb hby at_150)  k_) ?_
      show GoOn _ _ _ _ (T100.setTop (mkF m 151 #[.val (.int p1), .val (.long q1), .second, .val (.long q2), .second, .val (.long q3), .second, .val (.int (2 : Int32)), .val (.int (1 : Int32)), .val (.ref bb1), .val (.ref bb3), .val (.ref bb6), .val (.ref b7), .val (.ref b78), .val (.long (own_step (1 : Int64) (own_vals q2))), .second, .val (.long (1 : Int64)), .second, .val (.long (own_vals q2)), .second, .val (.long (1 : Int64)), .second] [(.int (1 : Int32))]))
      refine GoOn.st (fun t_ k_ => XS.goto X100.here hx rfl (pc0 := 151) (pc' := 155) rfl (hb hby at_151) (by decide) (by decide) k_) ?_
      show GoOn _ _ _ _ (T100.setTop (mkF m 155 #[.val (.int p1), .val (.long q1), .second, .val (.long q2), .second, .val (.long q3), .second, .val (.int (2 : Int32)), .val (.int (1 : Int32)), .val (.ref bb1), .val (.ref bb3), .val (.ref bb6), .val (.ref b7), .val (.ref b78), .val (.long (own_step (1 : Int64) (own_vals q2))), .second, .val (.long (1 : Int64)), .second, .val (.long (own_vals q2)), .second, .val (.long (1 : Int64)), .second] [(.int (1 : Int32))]))
      exact GoOn.retWZ X100 hS6 (by rw [e100]; exact (Nat.le_trans (Nat.le_trans (Nat.le_trans (Nat.le_trans (Nat.le_trans (Nat.le_trans (Nat.le_refl _) E7.1) K9.1) K75.1) K77.1) E78.1) K89.1)) hx hlk hret (by simp) rfl (hb hby at_155) ⟨rfl, N89⟩ (by decide) (by decide)
    · rw [hk90]
      refine GoOn.st (fun t_ k_ => XS.aload X89.here hx rfl (hb hby at_92) rfl rfl k_) ?_
      refine GoOn.st (fun t_ k_ => XS.iload X89.here hx rfl (hb hby at_94) rfl k_) ?_
      show GoOn _ _ _ _ (T89.setTop (mkF m 96 #[.val (.int p1), .val (.long q1), .second, .val (.long q2), .second, .val (.long q3), .second, .val (.int (2 : Int32)), .val (.int (2 : Int32)), .val (.ref bb1), .val (.ref bb3), .val (.ref bb6), .val (.ref b7), .val (.ref b78), .unset, .unset, .unset, .unset, .unset, .unset, .unset, .unset] [(.int (2 : Int32)), (.ref b78)]))
      refine GoOn.callV (W := 0) (argsL := [(.int (2 : Int32))]) (rest := []) (a := b78) X89 hx hZ6 hown6 (hw _ (List.mem_of_getElem? (i := 99) rfl)) (hw _ (List.mem_of_getElem? (i := 100) rfl)) (notFace_of_selects (args := #[]) (mvT hZ6 (hw _ (List.mem_of_getElem? (i := 102) rfl)))) (hw _ (List.mem_of_getElem? (i := 102) rfl)) (hw _ (List.mem_of_getElem? (i := 101) rfl)) (hw _ (List.mem_of_getElem? (i := 78) rfl)) (hw _ (List.mem_of_getElem? (i := 103) rfl)) (by decide) (rm_val22 l Z a0 hw b78 bl89 bh89 kl89 kh89 q1 q2 T89.heap f89_1 f89_2 f89_3 f89_4) rfl f89_0 (by decide) (by decide) (by rw [hml]; rfl) pd_12 rfl rfl (Nat.le_of_eq rfl) (hb hby at_96) (by decide) (by decide) ?_
      rintro _ T101 L101 X101 ⟨rfl, rfl, e101⟩
      rw [List.append_nil] at X101
      refine GoOn.st (fun t_ k_ => XS.lstore X101.here hx rfl (hb hby at_99) rfl (l' := #[.val (.int p1), .val (.long q1), .second, .val (.long q2), .second, .val (.long q3), .second, .val (.int (2 : Int32)), .val (.int (2 : Int32)), .val (.ref bb1), .val (.ref bb3), .val (.ref bb6), .val (.ref b7), .val (.ref b78), .val (.long (1 : Int64)), .second, .unset, .unset, .unset, .unset, .unset, .unset]) rfl k_) ?_
      refine GoOn.st (fun t_ k_ => XS.lloadN X101.here hx rfl (hb hby at_101) rfl k_) ?_
      refine GoOn.st (fun t_ k_ => XS.iconst X101.here hx rfl (hb hby at_102)  k_) ?_
      show GoOn _ _ _ _ (T101.setTop (mkF m 103 #[.val (.int p1), .val (.long q1), .second, .val (.long q2), .second, .val (.long q3), .second, .val (.int (2 : Int32)), .val (.int (2 : Int32)), .val (.ref bb1), .val (.ref bb3), .val (.ref bb6), .val (.ref b7), .val (.ref b78), .val (.long (1 : Int64)), .second, .unset, .unset, .unset, .unset, .unset, .unset] [(.int (0 : Int32)), (.long q1)]))
      refine GoOn.st (fun t_ k_ => XS.iload X101.here hx rfl (hb hby at_103) rfl k_) ?_
      refine GoOn.st (fun t_ k_ => XS.iload X101.here hx rfl (hb hby at_105) rfl k_) ?_
      show GoOn _ _ _ _ (T101.setTop (mkF m 107 #[.val (.int p1), .val (.long q1), .second, .val (.long q2), .second, .val (.long q3), .second, .val (.int (2 : Int32)), .val (.int (2 : Int32)), .val (.ref bb1), .val (.ref bb3), .val (.ref bb6), .val (.ref b7), .val (.ref b78), .val (.long (1 : Int64)), .second, .unset, .unset, .unset, .unset, .unset, .unset] [(.int (2 : Int32)), (.int (2 : Int32)), (.int (0 : Int32)), (.long q1)]))
      refine GoOn.callS (W := 0) (argsL := [(.long q1), (.int (0 : Int32)), (.int (2 : Int32)), (.int (2 : Int32))]) (rest := []) X101 hx hZ6 hown6 (hw _ (List.mem_of_getElem? (i := 104) rfl)) (hw _ (List.mem_of_getElem? (i := 105) rfl)) (hw _ (List.mem_of_getElem? (i := 2) rfl)) (hw _ (List.mem_of_getElem? (i := 106) rfl)) (by decide) (rm_facM l Z a0 hw q1 (0 : Int32) (2 : Int32) (2 : Int32) T89.heap (by decide)) e101 (by decide) (by decide) (by rw [hml]; rfl) pd_13 rfl rfl (Nat.le_of_eq rfl) (hb hby at_107) (by decide) (by decide) ?_
      rintro _ T102 L102 X102 ⟨rfl, rfl, e102⟩
      rw [List.append_nil] at X102
      refine GoOn.st (fun t_ k_ => XS.lstore X102.here hx rfl (hb hby at_110) rfl (l' := #[.val (.int p1), .val (.long q1), .second, .val (.long q2), .second, .val (.long q3), .second, .val (.int (2 : Int32)), .val (.int (2 : Int32)), .val (.ref bb1), .val (.ref bb3), .val (.ref bb6), .val (.ref b7), .val (.ref b78), .val (.long (1 : Int64)), .second, .val (.long (1 : Int64)), .second, .unset, .unset, .unset, .unset]) rfl k_) ?_
      refine GoOn.st (fun t_ k_ => XS.lloadN X102.here hx rfl (hb hby at_112) rfl k_) ?_
      refine GoOn.st (fun t_ k_ => XS.iconst X102.here hx rfl (hb hby at_113)  k_) ?_
      show GoOn _ _ _ _ (T102.setTop (mkF m 114 #[.val (.int p1), .val (.long q1), .second, .val (.long q2), .second, .val (.long q3), .second, .val (.int (2 : Int32)), .val (.int (2 : Int32)), .val (.ref bb1), .val (.ref bb3), .val (.ref bb6), .val (.ref b7), .val (.ref b78), .val (.long (1 : Int64)), .second, .val (.long (1 : Int64)), .second, .unset, .unset, .unset, .unset] [(.int (1 : Int32)), (.long q2)]))
      refine GoOn.st (fun t_ k_ => XS.iload X102.here hx rfl (hb hby at_114) rfl k_) ?_
      refine GoOn.st (fun t_ k_ => XS.iload X102.here hx rfl (hb hby at_116) rfl k_) ?_
      show GoOn _ _ _ _ (T102.setTop (mkF m 118 #[.val (.int p1), .val (.long q1), .second, .val (.long q2), .second, .val (.long q3), .second, .val (.int (2 : Int32)), .val (.int (2 : Int32)), .val (.ref bb1), .val (.ref bb3), .val (.ref bb6), .val (.ref b7), .val (.ref b78), .val (.long (1 : Int64)), .second, .val (.long (1 : Int64)), .second, .unset, .unset, .unset, .unset] [(.int (2 : Int32)), (.int (2 : Int32)), (.int (1 : Int32)), (.long q2)]))
      refine GoOn.callS (W := 0) (argsL := [(.long q2), (.int (1 : Int32)), (.int (2 : Int32)), (.int (2 : Int32))]) (rest := []) X102 hx hZ6 hown6 (hw _ (List.mem_of_getElem? (i := 104) rfl)) (hw _ (List.mem_of_getElem? (i := 105) rfl)) (hw _ (List.mem_of_getElem? (i := 2) rfl)) (hw _ (List.mem_of_getElem? (i := 106) rfl)) (by decide) (rm_facM l Z a0 hw q2 (1 : Int32) (2 : Int32) (2 : Int32) T89.heap (by decide)) e102 (by decide) (by decide) (by rw [hml]; rfl) pd_13 rfl rfl (Nat.le_of_eq rfl) (hb hby at_118) (by decide) (by decide) ?_
      rintro _ T103 L103 X103 ⟨rfl, rfl, e103⟩
      rw [List.append_nil] at X103
      refine GoOn.st (fun t_ k_ => XS.lstore X103.here hx rfl (hb hby at_121) rfl (l' := #[.val (.int p1), .val (.long q1), .second, .val (.long q2), .second, .val (.long q3), .second, .val (.int (2 : Int32)), .val (.int (2 : Int32)), .val (.ref bb1), .val (.ref bb3), .val (.ref bb6), .val (.ref b7), .val (.ref b78), .val (.long (1 : Int64)), .second, .val (.long (1 : Int64)), .second, .val (.long (1 : Int64)), .second, .unset, .unset]) rfl k_) ?_
      refine GoOn.st (fun t_ k_ => XS.lload X103.here hx rfl (hb hby at_123) rfl k_) ?_
      refine GoOn.st (fun t_ k_ => XS.iconst X103.here hx rfl (hb hby at_125)  k_) ?_
      show GoOn _ _ _ _ (T103.setTop (mkF m 126 #[.val (.int p1), .val (.long q1), .second, .val (.long q2), .second, .val (.long q3), .second, .val (.int (2 : Int32)), .val (.int (2 : Int32)), .val (.ref bb1), .val (.ref bb3), .val (.ref bb6), .val (.ref b7), .val (.ref b78), .val (.long (1 : Int64)), .second, .val (.long (1 : Int64)), .second, .val (.long (1 : Int64)), .second, .unset, .unset] [(.int (2 : Int32)), (.long q3)]))
      refine GoOn.st (fun t_ k_ => XS.iload X103.here hx rfl (hb hby at_126) rfl k_) ?_
      refine GoOn.st (fun t_ k_ => XS.iload X103.here hx rfl (hb hby at_128) rfl k_) ?_
      show GoOn _ _ _ _ (T103.setTop (mkF m 130 #[.val (.int p1), .val (.long q1), .second, .val (.long q2), .second, .val (.long q3), .second, .val (.int (2 : Int32)), .val (.int (2 : Int32)), .val (.ref bb1), .val (.ref bb3), .val (.ref bb6), .val (.ref b7), .val (.ref b78), .val (.long (1 : Int64)), .second, .val (.long (1 : Int64)), .second, .val (.long (1 : Int64)), .second, .unset, .unset] [(.int (2 : Int32)), (.int (2 : Int32)), (.int (2 : Int32)), (.long q3)]))
      refine GoOn.callS (W := 0) (argsL := [(.long q3), (.int (2 : Int32)), (.int (2 : Int32)), (.int (2 : Int32))]) (rest := []) X103 hx hZ6 hown6 (hw _ (List.mem_of_getElem? (i := 104) rfl)) (hw _ (List.mem_of_getElem? (i := 105) rfl)) (hw _ (List.mem_of_getElem? (i := 2) rfl)) (hw _ (List.mem_of_getElem? (i := 106) rfl)) (by decide) (rm_facN l Z a0 hw q3 (2 : Int32) (2 : Int32) (2 : Int32) T89.heap (by decide) (by decide)) e103 (by decide) (by decide) (by rw [hml]; rfl) pd_13 rfl rfl (Nat.le_of_eq rfl) (hb hby at_130) (by decide) (by decide) ?_
      rintro _ T104 L104 X104 ⟨rfl, rfl, e104⟩
      rw [List.append_nil] at X104
      refine GoOn.st (fun t_ k_ => XS.lstore X104.here hx rfl (hb hby at_133) rfl (l' := #[.val (.int p1), .val (.long q1), .second, .val (.long q2), .second, .val (.long q3), .second, .val (.int (2 : Int32)), .val (.int (2 : Int32)), .val (.ref bb1), .val (.ref bb3), .val (.ref bb6), .val (.ref b7), .val (.ref b78), .val (.long (1 : Int64)), .second, .val (.long (1 : Int64)), .second, .val (.long (1 : Int64)), .second, .val (.long (1 : Int64)), .second]) rfl k_) ?_
      refine GoOn.st (fun t_ k_ => XS.lload X104.here hx rfl (hb hby at_135) rfl k_) ?_
      refine GoOn.st (fun t_ k_ => XS.lload X104.here hx rfl (hb hby at_137) rfl k_) ?_
      show GoOn _ _ _ _ (T104.setTop (mkF m 139 #[.val (.int p1), .val (.long q1), .second, .val (.long q2), .second, .val (.long q3), .second, .val (.int (2 : Int32)), .val (.int (2 : Int32)), .val (.ref bb1), .val (.ref bb3), .val (.ref bb6), .val (.ref b7), .val (.ref b78), .val (.long (1 : Int64)), .second, .val (.long (1 : Int64)), .second, .val (.long (1 : Int64)), .second, .val (.long (1 : Int64)), .second] [(.long (1 : Int64)), (.long (1 : Int64))]))
      refine GoOn.st (fun t_ k_ => XS.lload X104.here hx rfl (hb hby at_139) rfl k_) ?_
      refine GoOn.st (fun t_ k_ => XS.lload X104.here hx rfl (hb hby at_141) rfl k_) ?_
      show GoOn _ _ _ _ (T104.setTop (mkF m 143 #[.val (.int p1), .val (.long q1), .second, .val (.long q2), .second, .val (.long q3), .second, .val (.int (2 : Int32)), .val (.int (2 : Int32)), .val (.ref bb1), .val (.ref bb3), .val (.ref bb6), .val (.ref b7), .val (.ref b78), .val (.long (1 : Int64)), .second, .val (.long (1 : Int64)), .second, .val (.long (1 : Int64)), .second, .val (.long (1 : Int64)), .second] [(.long (1 : Int64)), (.long (1 : Int64)), (.long (1 : Int64)), (.long (1 : Int64))]))
      refine GoOn.callS (W := 2) (argsL := [(.long (1 : Int64)), (.long (1 : Int64)), (.long (1 : Int64))]) (rest := [(.long (1 : Int64))]) X104 hx hZ6 hown6 (hw _ (List.mem_of_getElem? (i := 107) rfl)) (hw _ (List.mem_of_getElem? (i := 108) rfl)) (hw _ (List.mem_of_getElem? (i := 2) rfl)) (hw _ (List.mem_of_getElem? (i := 109) rfl)) (by decide) (rm_sat l Z a0 hw (1 : Int64) (1 : Int64) (1 : Int64) T89.heap own_in_one) e104 (by decide) (by decide) (by rw [hml]; rfl) pd_14 rfl rfl (Nat.le_of_eq rfl) (hb hby at_143) (by decide) (by decide) ?_
      rintro _ T105 L105 X105 ⟨rfl, rfl, e105⟩
      rw [List.append_nil] at X105
      refine GoOn.st (fun t_ k_ => XS.lcmp X105.here hx rfl (hb hby at_146) rfl k_) ?_
      refine GoOn.st (fun t_ k_ => XS.ifNo X105.here hx rfl (hb hby at_147) rfl ((if0 _ _).trans (teq ((lw_eq (1 : Int64) (own_sat (1 : Int64) (1 : Int64) (1 : Int64))).mpr (by have e := own_law own_in_one own_in_one own_in_one; simp only [own_step_first own_in_one, own_step_one _ (own_in_one).1, own_step_first (own_in_vals q1), own_step_one _ (own_in_vals q1).1, own_step_first (own_in_vals q2), own_step_one _ (own_in_vals q2).1, own_step_first (own_in_vals q3), own_step_one _ (own_in_vals q3).1, own_step_one _ (own_step_pos (own_in_vals q2) (own_in_vals q1).1)] at e ⊢; exact e))).2) k_) ?_
      refine GoOn.st (fun t_ k_ => XS.iconst X105.here hx rfl (hb hby at_150)  k_) ?_
      show GoOn _ _ _ _ (T105.setTop (mkF m 151 #[.val (.int p1), .val (.long q1), .second, .val (.long q2), .second, .val (.long q3), .second, .val (.int (2 : Int32)), .val (.int (2 : Int32)), .val (.ref bb1), .val (.ref bb3), .val (.ref bb6), .val (.ref b7), .val (.ref b78), .val (.long (1 : Int64)), .second, .val (.long (1 : Int64)), .second, .val (.long (1 : Int64)), .second, .val (.long (1 : Int64)), .second] [(.int (1 : Int32))]))
      refine GoOn.st (fun t_ k_ => XS.goto X105.here hx rfl (pc0 := 151) (pc' := 155) rfl (hb hby at_151) (by decide) (by decide) k_) ?_
      show GoOn _ _ _ _ (T105.setTop (mkF m 155 #[.val (.int p1), .val (.long q1), .second, .val (.long q2), .second, .val (.long q3), .second, .val (.int (2 : Int32)), .val (.int (2 : Int32)), .val (.ref bb1), .val (.ref bb3), .val (.ref bb6), .val (.ref b7), .val (.ref b78), .val (.long (1 : Int64)), .second, .val (.long (1 : Int64)), .second, .val (.long (1 : Int64)), .second, .val (.long (1 : Int64)), .second] [(.int (1 : Int32))]))
      exact GoOn.retWZ X105 hS6 (by rw [e105]; exact (Nat.le_trans (Nat.le_trans (Nat.le_trans (Nat.le_trans (Nat.le_trans (Nat.le_trans (Nat.le_refl _) E7.1) K9.1) K75.1) K77.1) E78.1) K89.1)) hx hlk hret (by simp) rfl (hb hby at_155) ⟨rfl, N89⟩ (by decide) (by decide)
    · rw [hk90]
      refine GoOn.st (fun t_ k_ => XS.aload X89.here hx rfl (hb hby at_92) rfl rfl k_) ?_
      refine GoOn.st (fun t_ k_ => XS.iload X89.here hx rfl (hb hby at_94) rfl k_) ?_
      show GoOn _ _ _ _ (T89.setTop (mkF m 96 #[.val (.int p1), .val (.long q1), .second, .val (.long q2), .second, .val (.long q3), .second, .val (.int (2 : Int32)), .val (.int (3 : Int32)), .val (.ref bb1), .val (.ref bb3), .val (.ref bb6), .val (.ref b7), .val (.ref b78), .unset, .unset, .unset, .unset, .unset, .unset, .unset, .unset] [(.int (3 : Int32)), (.ref b78)]))
      refine GoOn.callV (W := 0) (argsL := [(.int (3 : Int32))]) (rest := []) (a := b78) X89 hx hZ6 hown6 (hw _ (List.mem_of_getElem? (i := 99) rfl)) (hw _ (List.mem_of_getElem? (i := 100) rfl)) (notFace_of_selects (args := #[]) (mvT hZ6 (hw _ (List.mem_of_getElem? (i := 102) rfl)))) (hw _ (List.mem_of_getElem? (i := 102) rfl)) (hw _ (List.mem_of_getElem? (i := 101) rfl)) (hw _ (List.mem_of_getElem? (i := 78) rfl)) (hw _ (List.mem_of_getElem? (i := 103) rfl)) (by decide) (rm_val23 l Z a0 hw b78 bl89 bh89 kl89 kh89 q1 q2 T89.heap f89_1 f89_2 f89_3 f89_4) rfl f89_0 (by decide) (by decide) (by rw [hml]; rfl) pd_12 rfl rfl (Nat.le_of_eq rfl) (hb hby at_96) (by decide) (by decide) ?_
      rintro _ T106 L106 X106 ⟨rfl, rfl, e106⟩
      rw [List.append_nil] at X106
      refine GoOn.st (fun t_ k_ => XS.lstore X106.here hx rfl (hb hby at_99) rfl (l' := #[.val (.int p1), .val (.long q1), .second, .val (.long q2), .second, .val (.long q3), .second, .val (.int (2 : Int32)), .val (.int (3 : Int32)), .val (.ref bb1), .val (.ref bb3), .val (.ref bb6), .val (.ref b7), .val (.ref b78), .val (.long (1 : Int64)), .second, .unset, .unset, .unset, .unset, .unset, .unset]) rfl k_) ?_
      refine GoOn.st (fun t_ k_ => XS.lloadN X106.here hx rfl (hb hby at_101) rfl k_) ?_
      refine GoOn.st (fun t_ k_ => XS.iconst X106.here hx rfl (hb hby at_102)  k_) ?_
      show GoOn _ _ _ _ (T106.setTop (mkF m 103 #[.val (.int p1), .val (.long q1), .second, .val (.long q2), .second, .val (.long q3), .second, .val (.int (2 : Int32)), .val (.int (3 : Int32)), .val (.ref bb1), .val (.ref bb3), .val (.ref bb6), .val (.ref b7), .val (.ref b78), .val (.long (1 : Int64)), .second, .unset, .unset, .unset, .unset, .unset, .unset] [(.int (0 : Int32)), (.long q1)]))
      refine GoOn.st (fun t_ k_ => XS.iload X106.here hx rfl (hb hby at_103) rfl k_) ?_
      refine GoOn.st (fun t_ k_ => XS.iload X106.here hx rfl (hb hby at_105) rfl k_) ?_
      show GoOn _ _ _ _ (T106.setTop (mkF m 107 #[.val (.int p1), .val (.long q1), .second, .val (.long q2), .second, .val (.long q3), .second, .val (.int (2 : Int32)), .val (.int (3 : Int32)), .val (.ref bb1), .val (.ref bb3), .val (.ref bb6), .val (.ref b7), .val (.ref b78), .val (.long (1 : Int64)), .second, .unset, .unset, .unset, .unset, .unset, .unset] [(.int (2 : Int32)), (.int (3 : Int32)), (.int (0 : Int32)), (.long q1)]))
      refine GoOn.callS (W := 0) (argsL := [(.long q1), (.int (0 : Int32)), (.int (3 : Int32)), (.int (2 : Int32))]) (rest := []) X106 hx hZ6 hown6 (hw _ (List.mem_of_getElem? (i := 104) rfl)) (hw _ (List.mem_of_getElem? (i := 105) rfl)) (hw _ (List.mem_of_getElem? (i := 2) rfl)) (hw _ (List.mem_of_getElem? (i := 106) rfl)) (by decide) (rm_facM l Z a0 hw q1 (0 : Int32) (3 : Int32) (2 : Int32) T89.heap (by decide)) e106 (by decide) (by decide) (by rw [hml]; rfl) pd_13 rfl rfl (Nat.le_of_eq rfl) (hb hby at_107) (by decide) (by decide) ?_
      rintro _ T107 L107 X107 ⟨rfl, rfl, e107⟩
      rw [List.append_nil] at X107
      refine GoOn.st (fun t_ k_ => XS.lstore X107.here hx rfl (hb hby at_110) rfl (l' := #[.val (.int p1), .val (.long q1), .second, .val (.long q2), .second, .val (.long q3), .second, .val (.int (2 : Int32)), .val (.int (3 : Int32)), .val (.ref bb1), .val (.ref bb3), .val (.ref bb6), .val (.ref b7), .val (.ref b78), .val (.long (1 : Int64)), .second, .val (.long (1 : Int64)), .second, .unset, .unset, .unset, .unset]) rfl k_) ?_
      refine GoOn.st (fun t_ k_ => XS.lloadN X107.here hx rfl (hb hby at_112) rfl k_) ?_
      refine GoOn.st (fun t_ k_ => XS.iconst X107.here hx rfl (hb hby at_113)  k_) ?_
      show GoOn _ _ _ _ (T107.setTop (mkF m 114 #[.val (.int p1), .val (.long q1), .second, .val (.long q2), .second, .val (.long q3), .second, .val (.int (2 : Int32)), .val (.int (3 : Int32)), .val (.ref bb1), .val (.ref bb3), .val (.ref bb6), .val (.ref b7), .val (.ref b78), .val (.long (1 : Int64)), .second, .val (.long (1 : Int64)), .second, .unset, .unset, .unset, .unset] [(.int (1 : Int32)), (.long q2)]))
      refine GoOn.st (fun t_ k_ => XS.iload X107.here hx rfl (hb hby at_114) rfl k_) ?_
      refine GoOn.st (fun t_ k_ => XS.iload X107.here hx rfl (hb hby at_116) rfl k_) ?_
      show GoOn _ _ _ _ (T107.setTop (mkF m 118 #[.val (.int p1), .val (.long q1), .second, .val (.long q2), .second, .val (.long q3), .second, .val (.int (2 : Int32)), .val (.int (3 : Int32)), .val (.ref bb1), .val (.ref bb3), .val (.ref bb6), .val (.ref b7), .val (.ref b78), .val (.long (1 : Int64)), .second, .val (.long (1 : Int64)), .second, .unset, .unset, .unset, .unset] [(.int (2 : Int32)), (.int (3 : Int32)), (.int (1 : Int32)), (.long q2)]))
      refine GoOn.callS (W := 0) (argsL := [(.long q2), (.int (1 : Int32)), (.int (3 : Int32)), (.int (2 : Int32))]) (rest := []) X107 hx hZ6 hown6 (hw _ (List.mem_of_getElem? (i := 104) rfl)) (hw _ (List.mem_of_getElem? (i := 105) rfl)) (hw _ (List.mem_of_getElem? (i := 2) rfl)) (hw _ (List.mem_of_getElem? (i := 106) rfl)) (by decide) (rm_facM l Z a0 hw q2 (1 : Int32) (3 : Int32) (2 : Int32) T89.heap (by decide)) e107 (by decide) (by decide) (by rw [hml]; rfl) pd_13 rfl rfl (Nat.le_of_eq rfl) (hb hby at_118) (by decide) (by decide) ?_
      rintro _ T108 L108 X108 ⟨rfl, rfl, e108⟩
      rw [List.append_nil] at X108
      refine GoOn.st (fun t_ k_ => XS.lstore X108.here hx rfl (hb hby at_121) rfl (l' := #[.val (.int p1), .val (.long q1), .second, .val (.long q2), .second, .val (.long q3), .second, .val (.int (2 : Int32)), .val (.int (3 : Int32)), .val (.ref bb1), .val (.ref bb3), .val (.ref bb6), .val (.ref b7), .val (.ref b78), .val (.long (1 : Int64)), .second, .val (.long (1 : Int64)), .second, .val (.long (1 : Int64)), .second, .unset, .unset]) rfl k_) ?_
      refine GoOn.st (fun t_ k_ => XS.lload X108.here hx rfl (hb hby at_123) rfl k_) ?_
      refine GoOn.st (fun t_ k_ => XS.iconst X108.here hx rfl (hb hby at_125)  k_) ?_
      show GoOn _ _ _ _ (T108.setTop (mkF m 126 #[.val (.int p1), .val (.long q1), .second, .val (.long q2), .second, .val (.long q3), .second, .val (.int (2 : Int32)), .val (.int (3 : Int32)), .val (.ref bb1), .val (.ref bb3), .val (.ref bb6), .val (.ref b7), .val (.ref b78), .val (.long (1 : Int64)), .second, .val (.long (1 : Int64)), .second, .val (.long (1 : Int64)), .second, .unset, .unset] [(.int (2 : Int32)), (.long q3)]))
      refine GoOn.st (fun t_ k_ => XS.iload X108.here hx rfl (hb hby at_126) rfl k_) ?_
      refine GoOn.st (fun t_ k_ => XS.iload X108.here hx rfl (hb hby at_128) rfl k_) ?_
      show GoOn _ _ _ _ (T108.setTop (mkF m 130 #[.val (.int p1), .val (.long q1), .second, .val (.long q2), .second, .val (.long q3), .second, .val (.int (2 : Int32)), .val (.int (3 : Int32)), .val (.ref bb1), .val (.ref bb3), .val (.ref bb6), .val (.ref b7), .val (.ref b78), .val (.long (1 : Int64)), .second, .val (.long (1 : Int64)), .second, .val (.long (1 : Int64)), .second, .unset, .unset] [(.int (2 : Int32)), (.int (3 : Int32)), (.int (2 : Int32)), (.long q3)]))
      refine GoOn.callS (W := 0) (argsL := [(.long q3), (.int (2 : Int32)), (.int (3 : Int32)), (.int (2 : Int32))]) (rest := []) X108 hx hZ6 hown6 (hw _ (List.mem_of_getElem? (i := 104) rfl)) (hw _ (List.mem_of_getElem? (i := 105) rfl)) (hw _ (List.mem_of_getElem? (i := 2) rfl)) (hw _ (List.mem_of_getElem? (i := 106) rfl)) (by decide) (rm_facM l Z a0 hw q3 (2 : Int32) (3 : Int32) (2 : Int32) T89.heap (by decide)) e108 (by decide) (by decide) (by rw [hml]; rfl) pd_13 rfl rfl (Nat.le_of_eq rfl) (hb hby at_130) (by decide) (by decide) ?_
      rintro _ T109 L109 X109 ⟨rfl, rfl, e109⟩
      rw [List.append_nil] at X109
      refine GoOn.st (fun t_ k_ => XS.lstore X109.here hx rfl (hb hby at_133) rfl (l' := #[.val (.int p1), .val (.long q1), .second, .val (.long q2), .second, .val (.long q3), .second, .val (.int (2 : Int32)), .val (.int (3 : Int32)), .val (.ref bb1), .val (.ref bb3), .val (.ref bb6), .val (.ref b7), .val (.ref b78), .val (.long (1 : Int64)), .second, .val (.long (1 : Int64)), .second, .val (.long (1 : Int64)), .second, .val (.long (1 : Int64)), .second]) rfl k_) ?_
      refine GoOn.st (fun t_ k_ => XS.lload X109.here hx rfl (hb hby at_135) rfl k_) ?_
      refine GoOn.st (fun t_ k_ => XS.lload X109.here hx rfl (hb hby at_137) rfl k_) ?_
      show GoOn _ _ _ _ (T109.setTop (mkF m 139 #[.val (.int p1), .val (.long q1), .second, .val (.long q2), .second, .val (.long q3), .second, .val (.int (2 : Int32)), .val (.int (3 : Int32)), .val (.ref bb1), .val (.ref bb3), .val (.ref bb6), .val (.ref b7), .val (.ref b78), .val (.long (1 : Int64)), .second, .val (.long (1 : Int64)), .second, .val (.long (1 : Int64)), .second, .val (.long (1 : Int64)), .second] [(.long (1 : Int64)), (.long (1 : Int64))]))
      refine GoOn.st (fun t_ k_ => XS.lload X109.here hx rfl (hb hby at_139) rfl k_) ?_
      refine GoOn.st (fun t_ k_ => XS.lload X109.here hx rfl (hb hby at_141) rfl k_) ?_
      show GoOn _ _ _ _ (T109.setTop (mkF m 143 #[.val (.int p1), .val (.long q1), .second, .val (.long q2), .second, .val (.long q3), .second, .val (.int (2 : Int32)), .val (.int (3 : Int32)), .val (.ref bb1), .val (.ref bb3), .val (.ref bb6), .val (.ref b7), .val (.ref b78), .val (.long (1 : Int64)), .second, .val (.long (1 : Int64)), .second, .val (.long (1 : Int64)), .second, .val (.long (1 : Int64)), .second] [(.long (1 : Int64)), (.long (1 : Int64)), (.long (1 : Int64)), (.long (1 : Int64))]))
      refine GoOn.callS (W := 2) (argsL := [(.long (1 : Int64)), (.long (1 : Int64)), (.long (1 : Int64))]) (rest := [(.long (1 : Int64))]) X109 hx hZ6 hown6 (hw _ (List.mem_of_getElem? (i := 107) rfl)) (hw _ (List.mem_of_getElem? (i := 108) rfl)) (hw _ (List.mem_of_getElem? (i := 2) rfl)) (hw _ (List.mem_of_getElem? (i := 109) rfl)) (by decide) (rm_sat l Z a0 hw (1 : Int64) (1 : Int64) (1 : Int64) T89.heap own_in_one) e109 (by decide) (by decide) (by rw [hml]; rfl) pd_14 rfl rfl (Nat.le_of_eq rfl) (hb hby at_143) (by decide) (by decide) ?_
      rintro _ T110 L110 X110 ⟨rfl, rfl, e110⟩
      rw [List.append_nil] at X110
      refine GoOn.st (fun t_ k_ => XS.lcmp X110.here hx rfl (hb hby at_146) rfl k_) ?_
      refine GoOn.st (fun t_ k_ => XS.ifNo X110.here hx rfl (hb hby at_147) rfl ((if0 _ _).trans (teq ((lw_eq (1 : Int64) (own_sat (1 : Int64) (1 : Int64) (1 : Int64))).mpr (by have e := own_law own_in_one own_in_one own_in_one; simp only [own_step_first own_in_one, own_step_one _ (own_in_one).1, own_step_first (own_in_vals q1), own_step_one _ (own_in_vals q1).1, own_step_first (own_in_vals q2), own_step_one _ (own_in_vals q2).1, own_step_first (own_in_vals q3), own_step_one _ (own_in_vals q3).1, own_step_one _ (own_step_pos (own_in_vals q2) (own_in_vals q1).1)] at e ⊢; exact e))).2) k_) ?_
      refine GoOn.st (fun t_ k_ => XS.iconst X110.here hx rfl (hb hby at_150)  k_) ?_
      show GoOn _ _ _ _ (T110.setTop (mkF m 151 #[.val (.int p1), .val (.long q1), .second, .val (.long q2), .second, .val (.long q3), .second, .val (.int (2 : Int32)), .val (.int (3 : Int32)), .val (.ref bb1), .val (.ref bb3), .val (.ref bb6), .val (.ref b7), .val (.ref b78), .val (.long (1 : Int64)), .second, .val (.long (1 : Int64)), .second, .val (.long (1 : Int64)), .second, .val (.long (1 : Int64)), .second] [(.int (1 : Int32))]))
      refine GoOn.st (fun t_ k_ => XS.goto X110.here hx rfl (pc0 := 151) (pc' := 155) rfl (hb hby at_151) (by decide) (by decide) k_) ?_
      show GoOn _ _ _ _ (T110.setTop (mkF m 155 #[.val (.int p1), .val (.long q1), .second, .val (.long q2), .second, .val (.long q3), .second, .val (.int (2 : Int32)), .val (.int (3 : Int32)), .val (.ref bb1), .val (.ref bb3), .val (.ref bb6), .val (.ref b7), .val (.ref b78), .val (.long (1 : Int64)), .second, .val (.long (1 : Int64)), .second, .val (.long (1 : Int64)), .second, .val (.long (1 : Int64)), .second] [(.int (1 : Int32))]))
      exact GoOn.retWZ X110 hS6 (by rw [e110]; exact (Nat.le_trans (Nat.le_trans (Nat.le_trans (Nat.le_trans (Nat.le_trans (Nat.le_trans (Nat.le_refl _) E7.1) K9.1) K75.1) K77.1) E78.1) K89.1)) hx hlk hret (by simp) rfl (hb hby at_155) ⟨rfl, N89⟩ (by decide) (by decide)
  · rw [hk10]
    refine GoOn.st (fun t_ k_ => XS.iload X9.here hx rfl (hb hby at_40) rfl k_) ?_
    refine GoOn.st (fun t_ k_ => XS.ifNo X9.here hx rfl (hb hby at_42) rfl ((if0 _ _).trans (tlt (by decide : (0 : Int32) < (3 : Int32))).2.2.2) k_) ?_
    refine GoOn.st (fun t_ k_ => XS.aload X9.here hx rfl (hb hby at_45) rfl rfl k_) ?_
    show GoOn _ _ _ _ (T9.setTop (mkF m 47 #[.val (.int p1), .val (.long q1), .second, .val (.long q2), .second, .val (.long q3), .second, .val (.int (3 : Int32)), .val (.int ((((p1).toUInt32 >>> ((2 : Int32) &&& 31).toUInt32).toInt32) &&& (3 : Int32))), .val (.ref bb1), .val (.ref bb3), .val (.ref bb6), .val (.ref b7), .unset, .unset, .unset, .unset, .unset, .unset, .unset, .unset, .unset] [(.ref b7)]))
    refine GoOn.st (fun t_ k_ => XS.aload X9.here hx rfl (hb hby at_47) rfl rfl k_) ?_
    show GoOn _ _ _ _ (T9.setTop (mkF m 49 #[.val (.int p1), .val (.long q1), .second, .val (.long q2), .second, .val (.long q3), .second, .val (.int (3 : Int32)), .val (.int ((((p1).toUInt32 >>> ((2 : Int32) &&& 31).toUInt32).toInt32) &&& (3 : Int32))), .val (.ref bb1), .val (.ref bb3), .val (.ref bb6), .val (.ref b7), .unset, .unset, .unset, .unset, .unset, .unset, .unset, .unset, .unset] [(.ref bb1), (.ref b7)]))
    have F111 := (((F4.keep K6).ext E7).keep K9)
    have F112 := (((f3_0.keep K6).ext E7).keep K9)
    have F113 := ((f6_0.ext E7).keep K9)
    have Od114 := (Od8.keep K9 (allS g_b7 all0))
    refine GoOn.callV (W := 0) (argsL := [(.ref bb1)]) (rest := []) (a := b7) X9 hx hZ6 hown6 (hw _ (List.mem_of_getElem? (i := 111) rfl)) (hw _ (List.mem_of_getElem? (i := 112) rfl)) (notFace_of_selects (args := #[]) (mvT hZ6 (hw _ (List.mem_of_getElem? (i := 114) rfl)))) (hw _ (List.mem_of_getElem? (i := 114) rfl)) (hw _ (List.mem_of_getElem? (i := 113) rfl)) (hw _ (List.mem_of_getElem? (i := 54) rfl)) (hw _ (List.mem_of_getElem? (i := 115) rfl)) (by decide) (rm_add10 l Z a0 hw b7 bb1 aD kD T9.heap n0 (Nat.le_trans (Nat.le_trans (Nat.le_trans (Nat.le_trans (Nat.le_trans Z0 K1.1) K3.1) K6.1) E7.1) K9.1) Od114 SD VD f9_0 f9_1 f9_2 f9_3 g_b7 F111 ne_bb1_b7) rfl f9_0 (by decide) (by decide) (by rw [hml]; rfl) pd_15 rfl rfl (Nat.le_of_eq rfl) (hb hby at_49) (by decide) (by decide) ?_
    rintro _ T115 L115 X115 ⟨bb115, kb115, rfl, N115q, K115, gb115, sb115, O115, V115, f115_0, f115_1, f115_2, f115_3⟩
    have N115 := Fr.app N9 N115q
    have ne_bb1_bb115 : bb1 ≠ bb115 := Nat.ne_of_lt (Nat.lt_of_lt_of_le F111.lt sb115)
    have ne_bb3_bb115 : bb3 ≠ bb115 := Nat.ne_of_lt (Nat.lt_of_lt_of_le F112.lt sb115)
    have ne_bb6_bb115 : bb6 ≠ bb115 := Nat.ne_of_lt (Nat.lt_of_lt_of_le F113.lt sb115)
    have ne_b7_bb115 : b7 ≠ bb115 := Nat.ne_of_lt (Nat.lt_of_lt_of_le f9_0.lt sb115)
    have g_bb115 := gb115
    refine GoOn.st (fun t_ k_ => XS.pop X115.here hx rfl (hb hby at_52) rfl rfl k_) ?_
    refine GoOn.st (fun t_ k_ => XS.iload X115.here hx rfl (hb hby at_53) rfl k_) ?_
    refine GoOn.st (fun t_ k_ => XS.iconst X115.here hx rfl (hb hby at_55)  k_) ?_
    show GoOn _ _ _ _ (T115.setTop (mkF m 56 #[.val (.int p1), .val (.long q1), .second, .val (.long q2), .second, .val (.long q3), .second, .val (.int (3 : Int32)), .val (.int ((((p1).toUInt32 >>> ((2 : Int32) &&& 31).toUInt32).toInt32) &&& (3 : Int32))), .val (.ref bb1), .val (.ref bb3), .val (.ref bb6), .val (.ref b7), .unset, .unset, .unset, .unset, .unset, .unset, .unset, .unset, .unset] [(.int (1 : Int32)), (.int (3 : Int32))]))
    refine GoOn.st (fun t_ k_ => XS.icmpNo X115.here hx rfl (hb hby at_56) rfl (tlt (by decide : (1 : Int32) < (3 : Int32))).2.2.2 k_) ?_
    refine GoOn.st (fun t_ k_ => XS.aload X115.here hx rfl (hb hby at_59) rfl rfl k_) ?_
    refine GoOn.st (fun t_ k_ => XS.aload X115.here hx rfl (hb hby at_61) rfl rfl k_) ?_
    show GoOn _ _ _ _ (T115.setTop (mkF m 63 #[.val (.int p1), .val (.long q1), .second, .val (.long q2), .second, .val (.long q3), .second, .val (.int (3 : Int32)), .val (.int ((((p1).toUInt32 >>> ((2 : Int32) &&& 31).toUInt32).toInt32) &&& (3 : Int32))), .val (.ref bb1), .val (.ref bb3), .val (.ref bb6), .val (.ref b7), .unset, .unset, .unset, .unset, .unset, .unset, .unset, .unset, .unset] [(.ref bb3), (.ref b7)]))
    have F116 := (F112.keep K115)
    refine GoOn.callV (W := 0) (argsL := [(.ref bb3)]) (rest := []) (a := b7) X115 hx hZ6 hown6 (hw _ (List.mem_of_getElem? (i := 111) rfl)) (hw _ (List.mem_of_getElem? (i := 112) rfl)) (notFace_of_selects (args := #[]) (mvT hZ6 (hw _ (List.mem_of_getElem? (i := 114) rfl)))) (hw _ (List.mem_of_getElem? (i := 114) rfl)) (hw _ (List.mem_of_getElem? (i := 113) rfl)) (hw _ (List.mem_of_getElem? (i := 54) rfl)) (hw _ (List.mem_of_getElem? (i := 115) rfl)) (by decide) (rm_add11 l Z a0 hw b7 bb3 bb115 bb1 kb115 T115.heap n0 f115_0 f115_1 f115_2 f115_3 V115 O115 g_b7 g_bb115 ne_b7_bb115 F116 ne_bb3_b7 ne_bb3_bb115) rfl f115_0 (by decide) (by decide) (by rw [hml]; rfl) pd_15 rfl rfl (Nat.le_of_eq rfl) (hb hby at_63) (by decide) (by decide) ?_
    rintro _ T117 L117 X117 ⟨rfl, N117q, K117, f117_0, f117_1, f117_2, f117_3, f117_4⟩
    have N117 := Fr.app N115 N117q
    refine GoOn.st (fun t_ k_ => XS.pop X117.here hx rfl (hb hby at_66) rfl rfl k_) ?_
    refine GoOn.st (fun t_ k_ => XS.iload X117.here hx rfl (hb hby at_67) rfl k_) ?_
    refine GoOn.st (fun t_ k_ => XS.iconst X117.here hx rfl (hb hby at_69)  k_) ?_
    show GoOn _ _ _ _ (T117.setTop (mkF m 70 #[.val (.int p1), .val (.long q1), .second, .val (.long q2), .second, .val (.long q3), .second, .val (.int (3 : Int32)), .val (.int ((((p1).toUInt32 >>> ((2 : Int32) &&& 31).toUInt32).toInt32) &&& (3 : Int32))), .val (.ref bb1), .val (.ref bb3), .val (.ref bb6), .val (.ref b7), .unset, .unset, .unset, .unset, .unset, .unset, .unset, .unset, .unset] [(.int (2 : Int32)), (.int (3 : Int32))]))
    refine GoOn.st (fun t_ k_ => XS.icmpNo X117.here hx rfl (hb hby at_70) rfl (tlt (by decide : (2 : Int32) < (3 : Int32))).2.2.2 k_) ?_
    refine GoOn.st (fun t_ k_ => XS.aload X117.here hx rfl (hb hby at_73) rfl rfl k_) ?_
    refine GoOn.st (fun t_ k_ => XS.aload X117.here hx rfl (hb hby at_75) rfl rfl k_) ?_
    show GoOn _ _ _ _ (T117.setTop (mkF m 77 #[.val (.int p1), .val (.long q1), .second, .val (.long q2), .second, .val (.long q3), .second, .val (.int (3 : Int32)), .val (.int ((((p1).toUInt32 >>> ((2 : Int32) &&& 31).toUInt32).toInt32) &&& (3 : Int32))), .val (.ref bb1), .val (.ref bb3), .val (.ref bb6), .val (.ref b7), .unset, .unset, .unset, .unset, .unset, .unset, .unset, .unset, .unset] [(.ref bb6), (.ref b7)]))
    have F118 := ((F113.keep K115).keep K117)
    refine GoOn.callV (W := 0) (argsL := [(.ref bb6)]) (rest := []) (a := b7) X117 hx hZ6 hown6 (hw _ (List.mem_of_getElem? (i := 111) rfl)) (hw _ (List.mem_of_getElem? (i := 112) rfl)) (notFace_of_selects (args := #[]) (mvT hZ6 (hw _ (List.mem_of_getElem? (i := 114) rfl)))) (hw _ (List.mem_of_getElem? (i := 114) rfl)) (hw _ (List.mem_of_getElem? (i := 113) rfl)) (hw _ (List.mem_of_getElem? (i := 54) rfl)) (hw _ (List.mem_of_getElem? (i := 115) rfl)) (by decide) (rm_add12 l Z a0 hw b7 bb6 bb115 bb1 bb3 kb115 T117.heap n0 f117_1 f117_2 f117_3 f117_4 f117_0 O115 g_b7 g_bb115 ne_b7_bb115 F118 ne_bb6_b7 ne_bb6_bb115) rfl f117_1 (by decide) (by decide) (by rw [hml]; rfl) pd_15 rfl rfl (Nat.le_of_eq rfl) (hb hby at_77) (by decide) (by decide) ?_
    rintro _ T119 L119 X119 ⟨rfl, N119q, K119, f119_0, f119_1, f119_2, f119_3, f119_4⟩
    have N119 := Fr.app N117 N119q
    refine GoOn.st (fun t_ k_ => XS.pop X119.here hx rfl (hb hby at_80) rfl rfl k_) ?_
    obtain ⟨T120, h120, X120, e120, E120, A120, D120, -, st120⟩ := newO X119 hx hZ6 hown6 (hw _ (List.mem_of_getElem? (i := 76) rfl)) (hw _ (List.mem_of_getElem? (i := 77) rfl)) (hw _ (List.mem_of_getElem? (i := 78) rfl)) rfl (g := (mkF m 81 #[.val (.int p1), .val (.long q1), .second, .val (.long q2), .second, .val (.long q3), .second, .val (.int (3 : Int32)), .val (.int ((((p1).toUInt32 >>> ((2 : Int32) &&& 31).toUInt32).toInt32) &&& (3 : Int32))), .val (.ref bb1), .val (.ref bb3), .val (.ref bb6), .val (.ref b7), .unset, .unset, .unset, .unset, .unset, .unset, .unset, .unset, .unset] [])) rfl (hb hby at_81) (by decide) (by decide)
    obtain ⟨b120, g120⟩ : ∃ z, z = T119.heap.size := ⟨_, rfl⟩
    rw [← g120] at A120 D120 st120
    have ne_bb1_b120 : bb1 ≠ b120 := Nat.ne_of_lt (Nat.lt_of_lt_of_le (((F111.keep K115).keep K117).keep K119).lt (Nat.le_of_eq g120.symm))
    have ne_bb3_b120 : bb3 ≠ b120 := Nat.ne_of_lt (Nat.lt_of_lt_of_le ((F116.keep K117).keep K119).lt (Nat.le_of_eq g120.symm))
    have ne_bb6_b120 : bb6 ≠ b120 := Nat.ne_of_lt (Nat.lt_of_lt_of_le (F118.keep K119).lt (Nat.le_of_eq g120.symm))
    have ne_b7_b120 : b7 ≠ b120 := Nat.ne_of_lt (Nat.lt_of_lt_of_le f119_1.lt (Nat.le_of_eq g120.symm))
    have ne_bb115_b120 : bb115 ≠ b120 := Nat.ne_of_lt (Nat.lt_of_lt_of_le f119_0.lt (Nat.le_of_eq g120.symm))
    have g_b120 : n0 ≤ b120 := Nat.le_trans (Nat.le_trans (Nat.le_trans (Nat.le_trans (Nat.le_trans (Nat.le_trans (Nat.le_trans (Nat.le_trans (Nat.le_trans Z0 K1.1) K3.1) K6.1) E7.1) K9.1) K115.1) K117.1) K119.1) (Nat.le_of_eq g120.symm)
    have F_low_b120 : Fld Z h120 b120 "com/example/tributary/tributary/semantics/Ranges" "low" "[I" .null := D120 (Or.inr (hw _ (List.mem_of_getElem? (i := 96) rfl))) (ty := (.array .int)) (by decide)
    have F_high_b120 : Fld Z h120 b120 "com/example/tributary/tributary/semantics/Ranges" "high" "[I" .null := D120 (Or.inr (hw _ (List.mem_of_getElem? (i := 98) rfl))) (ty := (.array .int)) (by decide)
    refine GoOn.st st120 ?_
    refine GoOn.st (fun t_ k_ => XS.dup X120.here hx rfl (hb hby at_84) rfl rfl k_) ?_
    show GoOn _ _ _ _ (T120.setTop (mkF m 85 #[.val (.int p1), .val (.long q1), .second, .val (.long q2), .second, .val (.long q3), .second, .val (.int (3 : Int32)), .val (.int ((((p1).toUInt32 >>> ((2 : Int32) &&& 31).toUInt32).toInt32) &&& (3 : Int32))), .val (.ref bb1), .val (.ref bb3), .val (.ref bb6), .val (.ref b7), .unset, .unset, .unset, .unset, .unset, .unset, .unset, .unset, .unset] [(.ref b120), (.ref b120)]))
    refine GoOn.st (fun t_ k_ => XS.aload X120.here hx rfl (hb hby at_85) rfl rfl k_) ?_
    show GoOn _ _ _ _ (T120.setTop (mkF m 87 #[.val (.int p1), .val (.long q1), .second, .val (.long q2), .second, .val (.long q3), .second, .val (.int (3 : Int32)), .val (.int ((((p1).toUInt32 >>> ((2 : Int32) &&& 31).toUInt32).toInt32) &&& (3 : Int32))), .val (.ref bb1), .val (.ref bb3), .val (.ref bb6), .val (.ref b7), .unset, .unset, .unset, .unset, .unset, .unset, .unset, .unset, .unset] [(.ref b7), (.ref b120), (.ref b120)]))
    have F121 := (f119_1.ext E120)
    have F122 := (f119_4.ext E120)
    have F123 := (f119_3.ext E120)
    have F124 := (f119_0.ext E120)
    have F125 := ((((F111.keep K115).keep K117).keep K119).ext E120)
    have F126 := ((((((((f1_1.keep K3 nin0).keep K6 nin0).ext E7).keep K9 (ninS ne_bb1_b7 nin0)).keep K115 (ninS ne_bb1_b7 nin0)).keep K117 (ninS ne_bb1_b7 (ninS ne_bb1_bb115 nin0))).keep K119 (ninS ne_bb1_b7 (ninS ne_bb1_bb115 nin0))).ext E120)
    have F127 := ((((((((f1_2.keep K3 nin0).keep K6 nin0).ext E7).keep K9 (ninS ne_bb1_b7 nin0)).keep K115 (ninS ne_bb1_b7 nin0)).keep K117 (ninS ne_bb1_b7 (ninS ne_bb1_bb115 nin0))).keep K119 (ninS ne_bb1_b7 (ninS ne_bb1_bb115 nin0))).ext E120)
    have F128 := (((F116.keep K117).keep K119).ext E120)
    have F129 := (((((((f3_1.keep K6 nin0).ext E7).keep K9 (ninS ne_bb3_b7 nin0)).keep K115 (ninS ne_bb3_b7 nin0)).keep K117 (ninS ne_bb3_b7 (ninS ne_bb3_bb115 nin0))).keep K119 (ninS ne_bb3_b7 (ninS ne_bb3_bb115 nin0))).ext E120)
    have F130 := (((((((f3_2.keep K6 nin0).ext E7).keep K9 (ninS ne_bb3_b7 nin0)).keep K115 (ninS ne_bb3_b7 nin0)).keep K117 (ninS ne_bb3_b7 (ninS ne_bb3_bb115 nin0))).keep K119 (ninS ne_bb3_b7 (ninS ne_bb3_bb115 nin0))).ext E120)
    have F131 := ((F118.keep K119).ext E120)
    have F132 := ((((((f6_1.ext E7).keep K9 (ninS ne_bb6_b7 nin0)).keep K115 (ninS ne_bb6_b7 nin0)).keep K117 (ninS ne_bb6_b7 (ninS ne_bb6_bb115 nin0))).keep K119 (ninS ne_bb6_b7 (ninS ne_bb6_bb115 nin0))).ext E120)
    have F133 := ((((((f6_2.ext E7).keep K9 (ninS ne_bb6_b7 nin0)).keep K115 (ninS ne_bb6_b7 nin0)).keep K117 (ninS ne_bb6_b7 (ninS ne_bb6_bb115 nin0))).keep K119 (ninS ne_bb6_b7 (ninS ne_bb6_bb115 nin0))).ext E120)
    refine GoOn.callC (W := 1) (argsL := [(.ref b7)]) (rest := [(.ref b120)]) (a := b120) X120 hx hZ6 hown6 rfl (hw _ (List.mem_of_getElem? (i := 79) rfl)) (hw _ (List.mem_of_getElem? (i := 80) rfl)) (hw _ (List.mem_of_getElem? (i := 78) rfl)) (hw _ (List.mem_of_getElem? (i := 81) rfl)) (by decide) (rm_rinit3 l Z a0 hw b120 b7 bb115 bb1 bb3 bb6 kb115 q1 q2 q3 h120 n0 (Nat.le_trans (Nat.le_trans (Nat.le_trans (Nat.le_trans (Nat.le_trans (Nat.le_trans (Nat.le_trans (Nat.le_trans (Nat.le_trans Z0 K1.1) K3.1) K6.1) E7.1) K9.1) K115.1) K117.1) K119.1) E120.1) A120 F_low_b120 F_high_b120 F121 F122 ne_b7_b120 g_b120 F123 F124 ne_bb115_b120 F125 F126 F127 ne_bb1_b120 F128 F129 F130 ne_bb3_b120 F131 F132 F133 ne_bb6_b120) e120 (by decide) (by decide) (by rw [hml]; rfl) pd_11 rfl rfl (Nat.le_of_eq rfl) (hb hby at_87) (by decide) (by decide) ?_
    rintro _ T134 L134 X134 ⟨bl134, bh134, kl134, kh134, rfl, N134q, K134, f134_0, f134_1, f134_2, f134_3, f134_4⟩
    have N134 := Fr.app N119 N134q
    refine GoOn.st (fun t_ k_ => XS.astore X134.here hx rfl (hb hby at_90) rfl rfl (l' := #[.val (.int p1), .val (.long q1), .second, .val (.long q2), .second, .val (.long q3), .second, .val (.int (3 : Int32)), .val (.int ((((p1).toUInt32 >>> ((2 : Int32) &&& 31).toUInt32).toInt32) &&& (3 : Int32))), .val (.ref bb1), .val (.ref bb3), .val (.ref bb6), .val (.ref b7), .val (.ref b120), .unset, .unset, .unset, .unset, .unset, .unset, .unset, .unset]) rfl k_) ?_
    show GoOn _ _ _ _ (T134.setTop (mkF m 92 #[.val (.int p1), .val (.long q1), .second, .val (.long q2), .second, .val (.long q3), .second, .val (.int (3 : Int32)), .val (.int ((((p1).toUInt32 >>> ((2 : Int32) &&& 31).toUInt32).toInt32) &&& (3 : Int32))), .val (.ref bb1), .val (.ref bb3), .val (.ref bb6), .val (.ref b7), .val (.ref b120), .unset, .unset, .unset, .unset, .unset, .unset, .unset, .unset] []))
    rcases own_and3 (((p1).toUInt32 >>> ((2 : Int32) &&& 31).toUInt32).toInt32) with hk135 | hk135 | hk135 | hk135
    · rw [hk135]
      refine GoOn.st (fun t_ k_ => XS.aload X134.here hx rfl (hb hby at_92) rfl rfl k_) ?_
      refine GoOn.st (fun t_ k_ => XS.iload X134.here hx rfl (hb hby at_94) rfl k_) ?_
      show GoOn _ _ _ _ (T134.setTop (mkF m 96 #[.val (.int p1), .val (.long q1), .second, .val (.long q2), .second, .val (.long q3), .second, .val (.int (3 : Int32)), .val (.int (0 : Int32)), .val (.ref bb1), .val (.ref bb3), .val (.ref bb6), .val (.ref b7), .val (.ref b120), .unset, .unset, .unset, .unset, .unset, .unset, .unset, .unset] [(.int (0 : Int32)), (.ref b120)]))
      refine GoOn.callV (W := 0) (argsL := [(.int (0 : Int32))]) (rest := []) (a := b120) X134 hx hZ6 hown6 (hw _ (List.mem_of_getElem? (i := 99) rfl)) (hw _ (List.mem_of_getElem? (i := 100) rfl)) (notFace_of_selects (args := #[]) (mvT hZ6 (hw _ (List.mem_of_getElem? (i := 102) rfl)))) (hw _ (List.mem_of_getElem? (i := 102) rfl)) (hw _ (List.mem_of_getElem? (i := 101) rfl)) (hw _ (List.mem_of_getElem? (i := 78) rfl)) (hw _ (List.mem_of_getElem? (i := 103) rfl)) (by decide) (rm_val30 l Z a0 hw b120 bl134 bh134 kl134 kh134 q1 q2 q3 T134.heap f134_1 f134_2 f134_3 f134_4) rfl f134_0 (by decide) (by decide) (by rw [hml]; rfl) pd_12 rfl rfl (Nat.le_of_eq rfl) (hb hby at_96) (by decide) (by decide) ?_
      rintro _ T136 L136 X136 ⟨rfl, rfl, e136⟩
      rw [List.append_nil] at X136
      refine GoOn.st (fun t_ k_ => XS.lstore X136.here hx rfl (hb hby at_99) rfl (l' := #[.val (.int p1), .val (.long q1), .second, .val (.long q2), .second, .val (.long q3), .second, .val (.int (3 : Int32)), .val (.int (0 : Int32)), .val (.ref bb1), .val (.ref bb3), .val (.ref bb6), .val (.ref b7), .val (.ref b120), .val (.long (own_step (own_step (own_step (1 : Int64) (own_vals q1)) (own_vals q2)) (own_vals q3))), .second, .unset, .unset, .unset, .unset, .unset, .unset]) rfl k_) ?_
      refine GoOn.st (fun t_ k_ => XS.lloadN X136.here hx rfl (hb hby at_101) rfl k_) ?_
      refine GoOn.st (fun t_ k_ => XS.iconst X136.here hx rfl (hb hby at_102)  k_) ?_
      show GoOn _ _ _ _ (T136.setTop (mkF m 103 #[.val (.int p1), .val (.long q1), .second, .val (.long q2), .second, .val (.long q3), .second, .val (.int (3 : Int32)), .val (.int (0 : Int32)), .val (.ref bb1), .val (.ref bb3), .val (.ref bb6), .val (.ref b7), .val (.ref b120), .val (.long (own_step (own_step (own_step (1 : Int64) (own_vals q1)) (own_vals q2)) (own_vals q3))), .second, .unset, .unset, .unset, .unset, .unset, .unset] [(.int (0 : Int32)), (.long q1)]))
      refine GoOn.st (fun t_ k_ => XS.iload X136.here hx rfl (hb hby at_103) rfl k_) ?_
      refine GoOn.st (fun t_ k_ => XS.iload X136.here hx rfl (hb hby at_105) rfl k_) ?_
      show GoOn _ _ _ _ (T136.setTop (mkF m 107 #[.val (.int p1), .val (.long q1), .second, .val (.long q2), .second, .val (.long q3), .second, .val (.int (3 : Int32)), .val (.int (0 : Int32)), .val (.ref bb1), .val (.ref bb3), .val (.ref bb6), .val (.ref b7), .val (.ref b120), .val (.long (own_step (own_step (own_step (1 : Int64) (own_vals q1)) (own_vals q2)) (own_vals q3))), .second, .unset, .unset, .unset, .unset, .unset, .unset] [(.int (3 : Int32)), (.int (0 : Int32)), (.int (0 : Int32)), (.long q1)]))
      refine GoOn.callS (W := 0) (argsL := [(.long q1), (.int (0 : Int32)), (.int (0 : Int32)), (.int (3 : Int32))]) (rest := []) X136 hx hZ6 hown6 (hw _ (List.mem_of_getElem? (i := 104) rfl)) (hw _ (List.mem_of_getElem? (i := 105) rfl)) (hw _ (List.mem_of_getElem? (i := 2) rfl)) (hw _ (List.mem_of_getElem? (i := 106) rfl)) (by decide) (rm_facY l Z a0 hw q1 (0 : Int32) (0 : Int32) (3 : Int32) T134.heap (by decide) (by decide)) e136 (by decide) (by decide) (by rw [hml]; rfl) pd_13 rfl rfl (Nat.le_of_eq rfl) (hb hby at_107) (by decide) (by decide) ?_
      rintro _ T137 L137 X137 ⟨rfl, rfl, e137⟩
      rw [List.append_nil] at X137
      refine GoOn.st (fun t_ k_ => XS.lstore X137.here hx rfl (hb hby at_110) rfl (l' := #[.val (.int p1), .val (.long q1), .second, .val (.long q2), .second, .val (.long q3), .second, .val (.int (3 : Int32)), .val (.int (0 : Int32)), .val (.ref bb1), .val (.ref bb3), .val (.ref bb6), .val (.ref b7), .val (.ref b120), .val (.long (own_step (own_step (own_step (1 : Int64) (own_vals q1)) (own_vals q2)) (own_vals q3))), .second, .val (.long (own_vals q1)), .second, .unset, .unset, .unset, .unset]) rfl k_) ?_
      refine GoOn.st (fun t_ k_ => XS.lloadN X137.here hx rfl (hb hby at_112) rfl k_) ?_
      refine GoOn.st (fun t_ k_ => XS.iconst X137.here hx rfl (hb hby at_113)  k_) ?_
      show GoOn _ _ _ _ (T137.setTop (mkF m 114 #[.val (.int p1), .val (.long q1), .second, .val (.long q2), .second, .val (.long q3), .second, .val (.int (3 : Int32)), .val (.int (0 : Int32)), .val (.ref bb1), .val (.ref bb3), .val (.ref bb6), .val (.ref b7), .val (.ref b120), .val (.long (own_step (own_step (own_step (1 : Int64) (own_vals q1)) (own_vals q2)) (own_vals q3))), .second, .val (.long (own_vals q1)), .second, .unset, .unset, .unset, .unset] [(.int (1 : Int32)), (.long q2)]))
      refine GoOn.st (fun t_ k_ => XS.iload X137.here hx rfl (hb hby at_114) rfl k_) ?_
      refine GoOn.st (fun t_ k_ => XS.iload X137.here hx rfl (hb hby at_116) rfl k_) ?_
      show GoOn _ _ _ _ (T137.setTop (mkF m 118 #[.val (.int p1), .val (.long q1), .second, .val (.long q2), .second, .val (.long q3), .second, .val (.int (3 : Int32)), .val (.int (0 : Int32)), .val (.ref bb1), .val (.ref bb3), .val (.ref bb6), .val (.ref b7), .val (.ref b120), .val (.long (own_step (own_step (own_step (1 : Int64) (own_vals q1)) (own_vals q2)) (own_vals q3))), .second, .val (.long (own_vals q1)), .second, .unset, .unset, .unset, .unset] [(.int (3 : Int32)), (.int (0 : Int32)), (.int (1 : Int32)), (.long q2)]))
      refine GoOn.callS (W := 0) (argsL := [(.long q2), (.int (1 : Int32)), (.int (0 : Int32)), (.int (3 : Int32))]) (rest := []) X137 hx hZ6 hown6 (hw _ (List.mem_of_getElem? (i := 104) rfl)) (hw _ (List.mem_of_getElem? (i := 105) rfl)) (hw _ (List.mem_of_getElem? (i := 2) rfl)) (hw _ (List.mem_of_getElem? (i := 106) rfl)) (by decide) (rm_facY l Z a0 hw q2 (1 : Int32) (0 : Int32) (3 : Int32) T134.heap (by decide) (by decide)) e137 (by decide) (by decide) (by rw [hml]; rfl) pd_13 rfl rfl (Nat.le_of_eq rfl) (hb hby at_118) (by decide) (by decide) ?_
      rintro _ T138 L138 X138 ⟨rfl, rfl, e138⟩
      rw [List.append_nil] at X138
      refine GoOn.st (fun t_ k_ => XS.lstore X138.here hx rfl (hb hby at_121) rfl (l' := #[.val (.int p1), .val (.long q1), .second, .val (.long q2), .second, .val (.long q3), .second, .val (.int (3 : Int32)), .val (.int (0 : Int32)), .val (.ref bb1), .val (.ref bb3), .val (.ref bb6), .val (.ref b7), .val (.ref b120), .val (.long (own_step (own_step (own_step (1 : Int64) (own_vals q1)) (own_vals q2)) (own_vals q3))), .second, .val (.long (own_vals q1)), .second, .val (.long (own_vals q2)), .second, .unset, .unset]) rfl k_) ?_
      refine GoOn.st (fun t_ k_ => XS.lload X138.here hx rfl (hb hby at_123) rfl k_) ?_
      refine GoOn.st (fun t_ k_ => XS.iconst X138.here hx rfl (hb hby at_125)  k_) ?_
      show GoOn _ _ _ _ (T138.setTop (mkF m 126 #[.val (.int p1), .val (.long q1), .second, .val (.long q2), .second, .val (.long q3), .second, .val (.int (3 : Int32)), .val (.int (0 : Int32)), .val (.ref bb1), .val (.ref bb3), .val (.ref bb6), .val (.ref b7), .val (.ref b120), .val (.long (own_step (own_step (own_step (1 : Int64) (own_vals q1)) (own_vals q2)) (own_vals q3))), .second, .val (.long (own_vals q1)), .second, .val (.long (own_vals q2)), .second, .unset, .unset] [(.int (2 : Int32)), (.long q3)]))
      refine GoOn.st (fun t_ k_ => XS.iload X138.here hx rfl (hb hby at_126) rfl k_) ?_
      refine GoOn.st (fun t_ k_ => XS.iload X138.here hx rfl (hb hby at_128) rfl k_) ?_
      show GoOn _ _ _ _ (T138.setTop (mkF m 130 #[.val (.int p1), .val (.long q1), .second, .val (.long q2), .second, .val (.long q3), .second, .val (.int (3 : Int32)), .val (.int (0 : Int32)), .val (.ref bb1), .val (.ref bb3), .val (.ref bb6), .val (.ref b7), .val (.ref b120), .val (.long (own_step (own_step (own_step (1 : Int64) (own_vals q1)) (own_vals q2)) (own_vals q3))), .second, .val (.long (own_vals q1)), .second, .val (.long (own_vals q2)), .second, .unset, .unset] [(.int (3 : Int32)), (.int (0 : Int32)), (.int (2 : Int32)), (.long q3)]))
      refine GoOn.callS (W := 0) (argsL := [(.long q3), (.int (2 : Int32)), (.int (0 : Int32)), (.int (3 : Int32))]) (rest := []) X138 hx hZ6 hown6 (hw _ (List.mem_of_getElem? (i := 104) rfl)) (hw _ (List.mem_of_getElem? (i := 105) rfl)) (hw _ (List.mem_of_getElem? (i := 2) rfl)) (hw _ (List.mem_of_getElem? (i := 106) rfl)) (by decide) (rm_facY l Z a0 hw q3 (2 : Int32) (0 : Int32) (3 : Int32) T134.heap (by decide) (by decide)) e138 (by decide) (by decide) (by rw [hml]; rfl) pd_13 rfl rfl (Nat.le_of_eq rfl) (hb hby at_130) (by decide) (by decide) ?_
      rintro _ T139 L139 X139 ⟨rfl, rfl, e139⟩
      rw [List.append_nil] at X139
      refine GoOn.st (fun t_ k_ => XS.lstore X139.here hx rfl (hb hby at_133) rfl (l' := #[.val (.int p1), .val (.long q1), .second, .val (.long q2), .second, .val (.long q3), .second, .val (.int (3 : Int32)), .val (.int (0 : Int32)), .val (.ref bb1), .val (.ref bb3), .val (.ref bb6), .val (.ref b7), .val (.ref b120), .val (.long (own_step (own_step (own_step (1 : Int64) (own_vals q1)) (own_vals q2)) (own_vals q3))), .second, .val (.long (own_vals q1)), .second, .val (.long (own_vals q2)), .second, .val (.long (own_vals q3)), .second]) rfl k_) ?_
      refine GoOn.st (fun t_ k_ => XS.lload X139.here hx rfl (hb hby at_135) rfl k_) ?_
      refine GoOn.st (fun t_ k_ => XS.lload X139.here hx rfl (hb hby at_137) rfl k_) ?_
      show GoOn _ _ _ _ (T139.setTop (mkF m 139 #[.val (.int p1), .val (.long q1), .second, .val (.long q2), .second, .val (.long q3), .second, .val (.int (3 : Int32)), .val (.int (0 : Int32)), .val (.ref bb1), .val (.ref bb3), .val (.ref bb6), .val (.ref b7), .val (.ref b120), .val (.long (own_step (own_step (own_step (1 : Int64) (own_vals q1)) (own_vals q2)) (own_vals q3))), .second, .val (.long (own_vals q1)), .second, .val (.long (own_vals q2)), .second, .val (.long (own_vals q3)), .second] [(.long (own_vals q1)), (.long (own_step (own_step (own_step (1 : Int64) (own_vals q1)) (own_vals q2)) (own_vals q3)))]))
      refine GoOn.st (fun t_ k_ => XS.lload X139.here hx rfl (hb hby at_139) rfl k_) ?_
      refine GoOn.st (fun t_ k_ => XS.lload X139.here hx rfl (hb hby at_141) rfl k_) ?_
      show GoOn _ _ _ _ (T139.setTop (mkF m 143 #[.val (.int p1), .val (.long q1), .second, .val (.long q2), .second, .val (.long q3), .second, .val (.int (3 : Int32)), .val (.int (0 : Int32)), .val (.ref bb1), .val (.ref bb3), .val (.ref bb6), .val (.ref b7), .val (.ref b120), .val (.long (own_step (own_step (own_step (1 : Int64) (own_vals q1)) (own_vals q2)) (own_vals q3))), .second, .val (.long (own_vals q1)), .second, .val (.long (own_vals q2)), .second, .val (.long (own_vals q3)), .second] [(.long (own_vals q3)), (.long (own_vals q2)), (.long (own_vals q1)), (.long (own_step (own_step (own_step (1 : Int64) (own_vals q1)) (own_vals q2)) (own_vals q3)))]))
      refine GoOn.callS (W := 2) (argsL := [(.long (own_vals q1)), (.long (own_vals q2)), (.long (own_vals q3))]) (rest := [(.long (own_step (own_step (own_step (1 : Int64) (own_vals q1)) (own_vals q2)) (own_vals q3)))]) X139 hx hZ6 hown6 (hw _ (List.mem_of_getElem? (i := 107) rfl)) (hw _ (List.mem_of_getElem? (i := 108) rfl)) (hw _ (List.mem_of_getElem? (i := 2) rfl)) (hw _ (List.mem_of_getElem? (i := 109) rfl)) (by decide) (rm_sat l Z a0 hw (own_vals q1) (own_vals q2) (own_vals q3) T134.heap (own_in_vals q3)) e139 (by decide) (by decide) (by rw [hml]; rfl) pd_14 rfl rfl (Nat.le_of_eq rfl) (hb hby at_143) (by decide) (by decide) ?_
      rintro _ T140 L140 X140 ⟨rfl, rfl, e140⟩
      rw [List.append_nil] at X140
      refine GoOn.st (fun t_ k_ => XS.lcmp X140.here hx rfl (hb hby at_146) rfl k_) ?_
      refine GoOn.st (fun t_ k_ => XS.ifNo X140.here hx rfl (hb hby at_147) rfl ((if0 _ _).trans (teq ((lw_eq (own_step (own_step (own_step (1 : Int64) (own_vals q1)) (own_vals q2)) (own_vals q3)) (own_sat (own_vals q1) (own_vals q2) (own_vals q3))).mpr (by have e := own_law (own_in_vals q1) (own_in_vals q2) (own_in_vals q3); simp only [own_step_first own_in_one, own_step_one _ (own_in_one).1, own_step_first (own_in_vals q1), own_step_one _ (own_in_vals q1).1, own_step_first (own_in_vals q2), own_step_one _ (own_in_vals q2).1, own_step_first (own_in_vals q3), own_step_one _ (own_in_vals q3).1, own_step_one _ (own_step_pos (own_in_vals q2) (own_in_vals q1).1)] at e ⊢; exact e))).2) k_) ?_
      refine GoOn.st (fun t_ k_ => XS.iconst X140.here hx rfl (hb hby at_150)  k_) ?_
      show GoOn _ _ _ _ (T140.setTop (mkF m 151 #[.val (.int p1), .val (.long q1), .second, .val (.long q2), .second, .val (.long q3), .second, .val (.int (3 : Int32)), .val (.int (0 : Int32)), .val (.ref bb1), .val (.ref bb3), .val (.ref bb6), .val (.ref b7), .val (.ref b120), .val (.long (own_step (own_step (own_step (1 : Int64) (own_vals q1)) (own_vals q2)) (own_vals q3))), .second, .val (.long (own_vals q1)), .second, .val (.long (own_vals q2)), .second, .val (.long (own_vals q3)), .second] [(.int (1 : Int32))]))
      refine GoOn.st (fun t_ k_ => XS.goto X140.here hx rfl (pc0 := 151) (pc' := 155) rfl (hb hby at_151) (by decide) (by decide) k_) ?_
      show GoOn _ _ _ _ (T140.setTop (mkF m 155 #[.val (.int p1), .val (.long q1), .second, .val (.long q2), .second, .val (.long q3), .second, .val (.int (3 : Int32)), .val (.int (0 : Int32)), .val (.ref bb1), .val (.ref bb3), .val (.ref bb6), .val (.ref b7), .val (.ref b120), .val (.long (own_step (own_step (own_step (1 : Int64) (own_vals q1)) (own_vals q2)) (own_vals q3))), .second, .val (.long (own_vals q1)), .second, .val (.long (own_vals q2)), .second, .val (.long (own_vals q3)), .second] [(.int (1 : Int32))]))
      exact GoOn.retWZ X140 hS6 (by rw [e140]; exact (Nat.le_trans (Nat.le_trans (Nat.le_trans (Nat.le_trans (Nat.le_trans (Nat.le_trans (Nat.le_trans (Nat.le_refl _) E7.1) K9.1) K115.1) K117.1) K119.1) E120.1) K134.1)) hx hlk hret (by simp) rfl (hb hby at_155) ⟨rfl, N134⟩ (by decide) (by decide)
    · rw [hk135]
      refine GoOn.st (fun t_ k_ => XS.aload X134.here hx rfl (hb hby at_92) rfl rfl k_) ?_
      refine GoOn.st (fun t_ k_ => XS.iload X134.here hx rfl (hb hby at_94) rfl k_) ?_
      show GoOn _ _ _ _ (T134.setTop (mkF m 96 #[.val (.int p1), .val (.long q1), .second, .val (.long q2), .second, .val (.long q3), .second, .val (.int (3 : Int32)), .val (.int (1 : Int32)), .val (.ref bb1), .val (.ref bb3), .val (.ref bb6), .val (.ref b7), .val (.ref b120), .unset, .unset, .unset, .unset, .unset, .unset, .unset, .unset] [(.int (1 : Int32)), (.ref b120)]))
      refine GoOn.callV (W := 0) (argsL := [(.int (1 : Int32))]) (rest := []) (a := b120) X134 hx hZ6 hown6 (hw _ (List.mem_of_getElem? (i := 99) rfl)) (hw _ (List.mem_of_getElem? (i := 100) rfl)) (notFace_of_selects (args := #[]) (mvT hZ6 (hw _ (List.mem_of_getElem? (i := 102) rfl)))) (hw _ (List.mem_of_getElem? (i := 102) rfl)) (hw _ (List.mem_of_getElem? (i := 101) rfl)) (hw _ (List.mem_of_getElem? (i := 78) rfl)) (hw _ (List.mem_of_getElem? (i := 103) rfl)) (by decide) (rm_val31 l Z a0 hw b120 bl134 bh134 kl134 kh134 q1 q2 q3 T134.heap f134_1 f134_2 f134_3 f134_4) rfl f134_0 (by decide) (by decide) (by rw [hml]; rfl) pd_12 rfl rfl (Nat.le_of_eq rfl) (hb hby at_96) (by decide) (by decide) ?_
      rintro _ T141 L141 X141 ⟨rfl, rfl, e141⟩
      rw [List.append_nil] at X141
      refine GoOn.st (fun t_ k_ => XS.lstore X141.here hx rfl (hb hby at_99) rfl (l' := #[.val (.int p1), .val (.long q1), .second, .val (.long q2), .second, .val (.long q3), .second, .val (.int (3 : Int32)), .val (.int (1 : Int32)), .val (.ref bb1), .val (.ref bb3), .val (.ref bb6), .val (.ref b7), .val (.ref b120), .val (.long (own_step (own_step (1 : Int64) (own_vals q2)) (own_vals q3))), .second, .unset, .unset, .unset, .unset, .unset, .unset]) rfl k_) ?_
      refine GoOn.st (fun t_ k_ => XS.lloadN X141.here hx rfl (hb hby at_101) rfl k_) ?_
      refine GoOn.st (fun t_ k_ => XS.iconst X141.here hx rfl (hb hby at_102)  k_) ?_
      show GoOn _ _ _ _ (T141.setTop (mkF m 103 #[.val (.int p1), .val (.long q1), .second, .val (.long q2), .second, .val (.long q3), .second, .val (.int (3 : Int32)), .val (.int (1 : Int32)), .val (.ref bb1), .val (.ref bb3), .val (.ref bb6), .val (.ref b7), .val (.ref b120), .val (.long (own_step (own_step (1 : Int64) (own_vals q2)) (own_vals q3))), .second, .unset, .unset, .unset, .unset, .unset, .unset] [(.int (0 : Int32)), (.long q1)]))
      refine GoOn.st (fun t_ k_ => XS.iload X141.here hx rfl (hb hby at_103) rfl k_) ?_
      refine GoOn.st (fun t_ k_ => XS.iload X141.here hx rfl (hb hby at_105) rfl k_) ?_
      show GoOn _ _ _ _ (T141.setTop (mkF m 107 #[.val (.int p1), .val (.long q1), .second, .val (.long q2), .second, .val (.long q3), .second, .val (.int (3 : Int32)), .val (.int (1 : Int32)), .val (.ref bb1), .val (.ref bb3), .val (.ref bb6), .val (.ref b7), .val (.ref b120), .val (.long (own_step (own_step (1 : Int64) (own_vals q2)) (own_vals q3))), .second, .unset, .unset, .unset, .unset, .unset, .unset] [(.int (3 : Int32)), (.int (1 : Int32)), (.int (0 : Int32)), (.long q1)]))
      refine GoOn.callS (W := 0) (argsL := [(.long q1), (.int (0 : Int32)), (.int (1 : Int32)), (.int (3 : Int32))]) (rest := []) X141 hx hZ6 hown6 (hw _ (List.mem_of_getElem? (i := 104) rfl)) (hw _ (List.mem_of_getElem? (i := 105) rfl)) (hw _ (List.mem_of_getElem? (i := 2) rfl)) (hw _ (List.mem_of_getElem? (i := 106) rfl)) (by decide) (rm_facM l Z a0 hw q1 (0 : Int32) (1 : Int32) (3 : Int32) T134.heap (by decide)) e141 (by decide) (by decide) (by rw [hml]; rfl) pd_13 rfl rfl (Nat.le_of_eq rfl) (hb hby at_107) (by decide) (by decide) ?_
      rintro _ T142 L142 X142 ⟨rfl, rfl, e142⟩
      rw [List.append_nil] at X142
      refine GoOn.st (fun t_ k_ => XS.lstore X142.here hx rfl (hb hby at_110) rfl (l' := #[.val (.int p1), .val (.long q1), .second, .val (.long q2), .second, .val (.long q3), .second, .val (.int (3 : Int32)), .val (.int (1 : Int32)), .val (.ref bb1), .val (.ref bb3), .val (.ref bb6), .val (.ref b7), .val (.ref b120), .val (.long (own_step (own_step (1 : Int64) (own_vals q2)) (own_vals q3))), .second, .val (.long (1 : Int64)), .second, .unset, .unset, .unset, .unset]) rfl k_) ?_
      refine GoOn.st (fun t_ k_ => XS.lloadN X142.here hx rfl (hb hby at_112) rfl k_) ?_
      refine GoOn.st (fun t_ k_ => XS.iconst X142.here hx rfl (hb hby at_113)  k_) ?_
      show GoOn _ _ _ _ (T142.setTop (mkF m 114 #[.val (.int p1), .val (.long q1), .second, .val (.long q2), .second, .val (.long q3), .second, .val (.int (3 : Int32)), .val (.int (1 : Int32)), .val (.ref bb1), .val (.ref bb3), .val (.ref bb6), .val (.ref b7), .val (.ref b120), .val (.long (own_step (own_step (1 : Int64) (own_vals q2)) (own_vals q3))), .second, .val (.long (1 : Int64)), .second, .unset, .unset, .unset, .unset] [(.int (1 : Int32)), (.long q2)]))
      refine GoOn.st (fun t_ k_ => XS.iload X142.here hx rfl (hb hby at_114) rfl k_) ?_
      refine GoOn.st (fun t_ k_ => XS.iload X142.here hx rfl (hb hby at_116) rfl k_) ?_
      show GoOn _ _ _ _ (T142.setTop (mkF m 118 #[.val (.int p1), .val (.long q1), .second, .val (.long q2), .second, .val (.long q3), .second, .val (.int (3 : Int32)), .val (.int (1 : Int32)), .val (.ref bb1), .val (.ref bb3), .val (.ref bb6), .val (.ref b7), .val (.ref b120), .val (.long (own_step (own_step (1 : Int64) (own_vals q2)) (own_vals q3))), .second, .val (.long (1 : Int64)), .second, .unset, .unset, .unset, .unset] [(.int (3 : Int32)), (.int (1 : Int32)), (.int (1 : Int32)), (.long q2)]))
      refine GoOn.callS (W := 0) (argsL := [(.long q2), (.int (1 : Int32)), (.int (1 : Int32)), (.int (3 : Int32))]) (rest := []) X142 hx hZ6 hown6 (hw _ (List.mem_of_getElem? (i := 104) rfl)) (hw _ (List.mem_of_getElem? (i := 105) rfl)) (hw _ (List.mem_of_getElem? (i := 2) rfl)) (hw _ (List.mem_of_getElem? (i := 106) rfl)) (by decide) (rm_facY l Z a0 hw q2 (1 : Int32) (1 : Int32) (3 : Int32) T134.heap (by decide) (by decide)) e142 (by decide) (by decide) (by rw [hml]; rfl) pd_13 rfl rfl (Nat.le_of_eq rfl) (hb hby at_118) (by decide) (by decide) ?_
      rintro _ T143 L143 X143 ⟨rfl, rfl, e143⟩
      rw [List.append_nil] at X143
      refine GoOn.st (fun t_ k_ => XS.lstore X143.here hx rfl (hb hby at_121) rfl (l' := #[.val (.int p1), .val (.long q1), .second, .val (.long q2), .second, .val (.long q3), .second, .val (.int (3 : Int32)), .val (.int (1 : Int32)), .val (.ref bb1), .val (.ref bb3), .val (.ref bb6), .val (.ref b7), .val (.ref b120), .val (.long (own_step (own_step (1 : Int64) (own_vals q2)) (own_vals q3))), .second, .val (.long (1 : Int64)), .second, .val (.long (own_vals q2)), .second, .unset, .unset]) rfl k_) ?_
      refine GoOn.st (fun t_ k_ => XS.lload X143.here hx rfl (hb hby at_123) rfl k_) ?_
      refine GoOn.st (fun t_ k_ => XS.iconst X143.here hx rfl (hb hby at_125)  k_) ?_
      show GoOn _ _ _ _ (T143.setTop (mkF m 126 #[.val (.int p1), .val (.long q1), .second, .val (.long q2), .second, .val (.long q3), .second, .val (.int (3 : Int32)), .val (.int (1 : Int32)), .val (.ref bb1), .val (.ref bb3), .val (.ref bb6), .val (.ref b7), .val (.ref b120), .val (.long (own_step (own_step (1 : Int64) (own_vals q2)) (own_vals q3))), .second, .val (.long (1 : Int64)), .second, .val (.long (own_vals q2)), .second, .unset, .unset] [(.int (2 : Int32)), (.long q3)]))
      refine GoOn.st (fun t_ k_ => XS.iload X143.here hx rfl (hb hby at_126) rfl k_) ?_
      refine GoOn.st (fun t_ k_ => XS.iload X143.here hx rfl (hb hby at_128) rfl k_) ?_
      show GoOn _ _ _ _ (T143.setTop (mkF m 130 #[.val (.int p1), .val (.long q1), .second, .val (.long q2), .second, .val (.long q3), .second, .val (.int (3 : Int32)), .val (.int (1 : Int32)), .val (.ref bb1), .val (.ref bb3), .val (.ref bb6), .val (.ref b7), .val (.ref b120), .val (.long (own_step (own_step (1 : Int64) (own_vals q2)) (own_vals q3))), .second, .val (.long (1 : Int64)), .second, .val (.long (own_vals q2)), .second, .unset, .unset] [(.int (3 : Int32)), (.int (1 : Int32)), (.int (2 : Int32)), (.long q3)]))
      refine GoOn.callS (W := 0) (argsL := [(.long q3), (.int (2 : Int32)), (.int (1 : Int32)), (.int (3 : Int32))]) (rest := []) X143 hx hZ6 hown6 (hw _ (List.mem_of_getElem? (i := 104) rfl)) (hw _ (List.mem_of_getElem? (i := 105) rfl)) (hw _ (List.mem_of_getElem? (i := 2) rfl)) (hw _ (List.mem_of_getElem? (i := 106) rfl)) (by decide) (rm_facY l Z a0 hw q3 (2 : Int32) (1 : Int32) (3 : Int32) T134.heap (by decide) (by decide)) e143 (by decide) (by decide) (by rw [hml]; rfl) pd_13 rfl rfl (Nat.le_of_eq rfl) (hb hby at_130) (by decide) (by decide) ?_
      rintro _ T144 L144 X144 ⟨rfl, rfl, e144⟩
      rw [List.append_nil] at X144
      refine GoOn.st (fun t_ k_ => XS.lstore X144.here hx rfl (hb hby at_133) rfl (l' := #[.val (.int p1), .val (.long q1), .second, .val (.long q2), .second, .val (.long q3), .second, .val (.int (3 : Int32)), .val (.int (1 : Int32)), .val (.ref bb1), .val (.ref bb3), .val (.ref bb6), .val (.ref b7), .val (.ref b120), .val (.long (own_step (own_step (1 : Int64) (own_vals q2)) (own_vals q3))), .second, .val (.long (1 : Int64)), .second, .val (.long (own_vals q2)), .second, .val (.long (own_vals q3)), .second]) rfl k_) ?_
      refine GoOn.st (fun t_ k_ => XS.lload X144.here hx rfl (hb hby at_135) rfl k_) ?_
      refine GoOn.st (fun t_ k_ => XS.lload X144.here hx rfl (hb hby at_137) rfl k_) ?_
      show GoOn _ _ _ _ (T144.setTop (mkF m 139 #[.val (.int p1), .val (.long q1), .second, .val (.long q2), .second, .val (.long q3), .second, .val (.int (3 : Int32)), .val (.int (1 : Int32)), .val (.ref bb1), .val (.ref bb3), .val (.ref bb6), .val (.ref b7), .val (.ref b120), .val (.long (own_step (own_step (1 : Int64) (own_vals q2)) (own_vals q3))), .second, .val (.long (1 : Int64)), .second, .val (.long (own_vals q2)), .second, .val (.long (own_vals q3)), .second] [(.long (1 : Int64)), (.long (own_step (own_step (1 : Int64) (own_vals q2)) (own_vals q3)))]))
      refine GoOn.st (fun t_ k_ => XS.lload X144.here hx rfl (hb hby at_139) rfl k_) ?_
      refine GoOn.st (fun t_ k_ => XS.lload X144.here hx rfl (hb hby at_141) rfl k_) ?_
      show GoOn _ _ _ _ (T144.setTop (mkF m 143 #[.val (.int p1), .val (.long q1), .second, .val (.long q2), .second, .val (.long q3), .second, .val (.int (3 : Int32)), .val (.int (1 : Int32)), .val (.ref bb1), .val (.ref bb3), .val (.ref bb6), .val (.ref b7), .val (.ref b120), .val (.long (own_step (own_step (1 : Int64) (own_vals q2)) (own_vals q3))), .second, .val (.long (1 : Int64)), .second, .val (.long (own_vals q2)), .second, .val (.long (own_vals q3)), .second] [(.long (own_vals q3)), (.long (own_vals q2)), (.long (1 : Int64)), (.long (own_step (own_step (1 : Int64) (own_vals q2)) (own_vals q3)))]))
      refine GoOn.callS (W := 2) (argsL := [(.long (1 : Int64)), (.long (own_vals q2)), (.long (own_vals q3))]) (rest := [(.long (own_step (own_step (1 : Int64) (own_vals q2)) (own_vals q3)))]) X144 hx hZ6 hown6 (hw _ (List.mem_of_getElem? (i := 107) rfl)) (hw _ (List.mem_of_getElem? (i := 108) rfl)) (hw _ (List.mem_of_getElem? (i := 2) rfl)) (hw _ (List.mem_of_getElem? (i := 109) rfl)) (by decide) (rm_sat l Z a0 hw (1 : Int64) (own_vals q2) (own_vals q3) T134.heap (own_in_vals q3)) e144 (by decide) (by decide) (by rw [hml]; rfl) pd_14 rfl rfl (Nat.le_of_eq rfl) (hb hby at_143) (by decide) (by decide) ?_
      rintro _ T145 L145 X145 ⟨rfl, rfl, e145⟩
      rw [List.append_nil] at X145
      refine GoOn.st (fun t_ k_ => XS.lcmp X145.here hx rfl (hb hby at_146) rfl k_) ?_
      refine GoOn.st (fun t_ k_ => XS.ifNo X145.here hx rfl (hb hby at_147) rfl ((if0 _ _).trans (teq ((lw_eq (own_step (own_step (1 : Int64) (own_vals q2)) (own_vals q3)) (own_sat (1 : Int64) (own_vals q2) (own_vals q3))).mpr (by have e := own_law own_in_one (own_in_vals q2) (own_in_vals q3); simp only [own_step_first own_in_one, own_step_one _ (own_in_one).1, own_step_first (own_in_vals q1), own_step_one _ (own_in_vals q1).1, own_step_first (own_in_vals q2), own_step_one _ (own_in_vals q2).1, own_step_first (own_in_vals q3), own_step_one _ (own_in_vals q3).1, own_step_one _ (own_step_pos (own_in_vals q2) (own_in_vals q1).1)] at e ⊢; exact e))).2) k_) ?_
      refine GoOn.st (fun t_ k_ => XS.iconst X145.here hx rfl (hb hby at_150)  k_) ?_
      show GoOn _ _ _ _ (T145.setTop (mkF m 151 #[.val (.int p1), .val (.long q1), .second, .val (.long q2), .second, .val (.long q3), .second, .val (.int (3 : Int32)), .val (.int (1 : Int32)), .val (.ref bb1), .val (.ref bb3), .val (.ref bb6), .val (.ref b7), .val (.ref b120), .val (.long (own_step (own_step (1 : Int64) (own_vals q2)) (own_vals q3))), .second, .val (.long (1 : Int64)), .second, .val (.long (own_vals q2)), .second, .val (.long (own_vals q3)), .second] [(.int (1 : Int32))]))
      refine GoOn.st (fun t_ k_ => XS.goto X145.here hx rfl (pc0 := 151) (pc' := 155) rfl (hb hby at_151) (by decide) (by decide) k_) ?_
      show GoOn _ _ _ _ (T145.setTop (mkF m 155 #[.val (.int p1), .val (.long q1), .second, .val (.long q2), .second, .val (.long q3), .second, .val (.int (3 : Int32)), .val (.int (1 : Int32)), .val (.ref bb1), .val (.ref bb3), .val (.ref bb6), .val (.ref b7), .val (.ref b120), .val (.long (own_step (own_step (1 : Int64) (own_vals q2)) (own_vals q3))), .second, .val (.long (1 : Int64)), .second, .val (.long (own_vals q2)), .second, .val (.long (own_vals q3)), .second] [(.int (1 : Int32))]))
      exact GoOn.retWZ X145 hS6 (by rw [e145]; exact (Nat.le_trans (Nat.le_trans (Nat.le_trans (Nat.le_trans (Nat.le_trans (Nat.le_trans (Nat.le_trans (Nat.le_refl _) E7.1) K9.1) K115.1) K117.1) K119.1) E120.1) K134.1)) hx hlk hret (by simp) rfl (hb hby at_155) ⟨rfl, N134⟩ (by decide) (by decide)
    · rw [hk135]
      refine GoOn.st (fun t_ k_ => XS.aload X134.here hx rfl (hb hby at_92) rfl rfl k_) ?_
      refine GoOn.st (fun t_ k_ => XS.iload X134.here hx rfl (hb hby at_94) rfl k_) ?_
      show GoOn _ _ _ _ (T134.setTop (mkF m 96 #[.val (.int p1), .val (.long q1), .second, .val (.long q2), .second, .val (.long q3), .second, .val (.int (3 : Int32)), .val (.int (2 : Int32)), .val (.ref bb1), .val (.ref bb3), .val (.ref bb6), .val (.ref b7), .val (.ref b120), .unset, .unset, .unset, .unset, .unset, .unset, .unset, .unset] [(.int (2 : Int32)), (.ref b120)]))
      refine GoOn.callV (W := 0) (argsL := [(.int (2 : Int32))]) (rest := []) (a := b120) X134 hx hZ6 hown6 (hw _ (List.mem_of_getElem? (i := 99) rfl)) (hw _ (List.mem_of_getElem? (i := 100) rfl)) (notFace_of_selects (args := #[]) (mvT hZ6 (hw _ (List.mem_of_getElem? (i := 102) rfl)))) (hw _ (List.mem_of_getElem? (i := 102) rfl)) (hw _ (List.mem_of_getElem? (i := 101) rfl)) (hw _ (List.mem_of_getElem? (i := 78) rfl)) (hw _ (List.mem_of_getElem? (i := 103) rfl)) (by decide) (rm_val32 l Z a0 hw b120 bl134 bh134 kl134 kh134 q1 q2 q3 T134.heap f134_1 f134_2 f134_3 f134_4) rfl f134_0 (by decide) (by decide) (by rw [hml]; rfl) pd_12 rfl rfl (Nat.le_of_eq rfl) (hb hby at_96) (by decide) (by decide) ?_
      rintro _ T146 L146 X146 ⟨rfl, rfl, e146⟩
      rw [List.append_nil] at X146
      refine GoOn.st (fun t_ k_ => XS.lstore X146.here hx rfl (hb hby at_99) rfl (l' := #[.val (.int p1), .val (.long q1), .second, .val (.long q2), .second, .val (.long q3), .second, .val (.int (3 : Int32)), .val (.int (2 : Int32)), .val (.ref bb1), .val (.ref bb3), .val (.ref bb6), .val (.ref b7), .val (.ref b120), .val (.long (own_step (1 : Int64) (own_vals q3))), .second, .unset, .unset, .unset, .unset, .unset, .unset]) rfl k_) ?_
      refine GoOn.st (fun t_ k_ => XS.lloadN X146.here hx rfl (hb hby at_101) rfl k_) ?_
      refine GoOn.st (fun t_ k_ => XS.iconst X146.here hx rfl (hb hby at_102)  k_) ?_
      show GoOn _ _ _ _ (T146.setTop (mkF m 103 #[.val (.int p1), .val (.long q1), .second, .val (.long q2), .second, .val (.long q3), .second, .val (.int (3 : Int32)), .val (.int (2 : Int32)), .val (.ref bb1), .val (.ref bb3), .val (.ref bb6), .val (.ref b7), .val (.ref b120), .val (.long (own_step (1 : Int64) (own_vals q3))), .second, .unset, .unset, .unset, .unset, .unset, .unset] [(.int (0 : Int32)), (.long q1)]))
      refine GoOn.st (fun t_ k_ => XS.iload X146.here hx rfl (hb hby at_103) rfl k_) ?_
      refine GoOn.st (fun t_ k_ => XS.iload X146.here hx rfl (hb hby at_105) rfl k_) ?_
      show GoOn _ _ _ _ (T146.setTop (mkF m 107 #[.val (.int p1), .val (.long q1), .second, .val (.long q2), .second, .val (.long q3), .second, .val (.int (3 : Int32)), .val (.int (2 : Int32)), .val (.ref bb1), .val (.ref bb3), .val (.ref bb6), .val (.ref b7), .val (.ref b120), .val (.long (own_step (1 : Int64) (own_vals q3))), .second, .unset, .unset, .unset, .unset, .unset, .unset] [(.int (3 : Int32)), (.int (2 : Int32)), (.int (0 : Int32)), (.long q1)]))
      refine GoOn.callS (W := 0) (argsL := [(.long q1), (.int (0 : Int32)), (.int (2 : Int32)), (.int (3 : Int32))]) (rest := []) X146 hx hZ6 hown6 (hw _ (List.mem_of_getElem? (i := 104) rfl)) (hw _ (List.mem_of_getElem? (i := 105) rfl)) (hw _ (List.mem_of_getElem? (i := 2) rfl)) (hw _ (List.mem_of_getElem? (i := 106) rfl)) (by decide) (rm_facM l Z a0 hw q1 (0 : Int32) (2 : Int32) (3 : Int32) T134.heap (by decide)) e146 (by decide) (by decide) (by rw [hml]; rfl) pd_13 rfl rfl (Nat.le_of_eq rfl) (hb hby at_107) (by decide) (by decide) ?_
      rintro _ T147 L147 X147 ⟨rfl, rfl, e147⟩
      rw [List.append_nil] at X147
      refine GoOn.st (fun t_ k_ => XS.lstore X147.here hx rfl (hb hby at_110) rfl (l' := #[.val (.int p1), .val (.long q1), .second, .val (.long q2), .second, .val (.long q3), .second, .val (.int (3 : Int32)), .val (.int (2 : Int32)), .val (.ref bb1), .val (.ref bb3), .val (.ref bb6), .val (.ref b7), .val (.ref b120), .val (.long (own_step (1 : Int64) (own_vals q3))), .second, .val (.long (1 : Int64)), .second, .unset, .unset, .unset, .unset]) rfl k_) ?_
      refine GoOn.st (fun t_ k_ => XS.lloadN X147.here hx rfl (hb hby at_112) rfl k_) ?_
      refine GoOn.st (fun t_ k_ => XS.iconst X147.here hx rfl (hb hby at_113)  k_) ?_
      show GoOn _ _ _ _ (T147.setTop (mkF m 114 #[.val (.int p1), .val (.long q1), .second, .val (.long q2), .second, .val (.long q3), .second, .val (.int (3 : Int32)), .val (.int (2 : Int32)), .val (.ref bb1), .val (.ref bb3), .val (.ref bb6), .val (.ref b7), .val (.ref b120), .val (.long (own_step (1 : Int64) (own_vals q3))), .second, .val (.long (1 : Int64)), .second, .unset, .unset, .unset, .unset] [(.int (1 : Int32)), (.long q2)]))
      refine GoOn.st (fun t_ k_ => XS.iload X147.here hx rfl (hb hby at_114) rfl k_) ?_
      refine GoOn.st (fun t_ k_ => XS.iload X147.here hx rfl (hb hby at_116) rfl k_) ?_
      show GoOn _ _ _ _ (T147.setTop (mkF m 118 #[.val (.int p1), .val (.long q1), .second, .val (.long q2), .second, .val (.long q3), .second, .val (.int (3 : Int32)), .val (.int (2 : Int32)), .val (.ref bb1), .val (.ref bb3), .val (.ref bb6), .val (.ref b7), .val (.ref b120), .val (.long (own_step (1 : Int64) (own_vals q3))), .second, .val (.long (1 : Int64)), .second, .unset, .unset, .unset, .unset] [(.int (3 : Int32)), (.int (2 : Int32)), (.int (1 : Int32)), (.long q2)]))
      refine GoOn.callS (W := 0) (argsL := [(.long q2), (.int (1 : Int32)), (.int (2 : Int32)), (.int (3 : Int32))]) (rest := []) X147 hx hZ6 hown6 (hw _ (List.mem_of_getElem? (i := 104) rfl)) (hw _ (List.mem_of_getElem? (i := 105) rfl)) (hw _ (List.mem_of_getElem? (i := 2) rfl)) (hw _ (List.mem_of_getElem? (i := 106) rfl)) (by decide) (rm_facM l Z a0 hw q2 (1 : Int32) (2 : Int32) (3 : Int32) T134.heap (by decide)) e147 (by decide) (by decide) (by rw [hml]; rfl) pd_13 rfl rfl (Nat.le_of_eq rfl) (hb hby at_118) (by decide) (by decide) ?_
      rintro _ T148 L148 X148 ⟨rfl, rfl, e148⟩
      rw [List.append_nil] at X148
      refine GoOn.st (fun t_ k_ => XS.lstore X148.here hx rfl (hb hby at_121) rfl (l' := #[.val (.int p1), .val (.long q1), .second, .val (.long q2), .second, .val (.long q3), .second, .val (.int (3 : Int32)), .val (.int (2 : Int32)), .val (.ref bb1), .val (.ref bb3), .val (.ref bb6), .val (.ref b7), .val (.ref b120), .val (.long (own_step (1 : Int64) (own_vals q3))), .second, .val (.long (1 : Int64)), .second, .val (.long (1 : Int64)), .second, .unset, .unset]) rfl k_) ?_
      refine GoOn.st (fun t_ k_ => XS.lload X148.here hx rfl (hb hby at_123) rfl k_) ?_
      refine GoOn.st (fun t_ k_ => XS.iconst X148.here hx rfl (hb hby at_125)  k_) ?_
      show GoOn _ _ _ _ (T148.setTop (mkF m 126 #[.val (.int p1), .val (.long q1), .second, .val (.long q2), .second, .val (.long q3), .second, .val (.int (3 : Int32)), .val (.int (2 : Int32)), .val (.ref bb1), .val (.ref bb3), .val (.ref bb6), .val (.ref b7), .val (.ref b120), .val (.long (own_step (1 : Int64) (own_vals q3))), .second, .val (.long (1 : Int64)), .second, .val (.long (1 : Int64)), .second, .unset, .unset] [(.int (2 : Int32)), (.long q3)]))
      refine GoOn.st (fun t_ k_ => XS.iload X148.here hx rfl (hb hby at_126) rfl k_) ?_
      refine GoOn.st (fun t_ k_ => XS.iload X148.here hx rfl (hb hby at_128) rfl k_) ?_
      show GoOn _ _ _ _ (T148.setTop (mkF m 130 #[.val (.int p1), .val (.long q1), .second, .val (.long q2), .second, .val (.long q3), .second, .val (.int (3 : Int32)), .val (.int (2 : Int32)), .val (.ref bb1), .val (.ref bb3), .val (.ref bb6), .val (.ref b7), .val (.ref b120), .val (.long (own_step (1 : Int64) (own_vals q3))), .second, .val (.long (1 : Int64)), .second, .val (.long (1 : Int64)), .second, .unset, .unset] [(.int (3 : Int32)), (.int (2 : Int32)), (.int (2 : Int32)), (.long q3)]))
      refine GoOn.callS (W := 0) (argsL := [(.long q3), (.int (2 : Int32)), (.int (2 : Int32)), (.int (3 : Int32))]) (rest := []) X148 hx hZ6 hown6 (hw _ (List.mem_of_getElem? (i := 104) rfl)) (hw _ (List.mem_of_getElem? (i := 105) rfl)) (hw _ (List.mem_of_getElem? (i := 2) rfl)) (hw _ (List.mem_of_getElem? (i := 106) rfl)) (by decide) (rm_facY l Z a0 hw q3 (2 : Int32) (2 : Int32) (3 : Int32) T134.heap (by decide) (by decide)) e148 (by decide) (by decide) (by rw [hml]; rfl) pd_13 rfl rfl (Nat.le_of_eq rfl) (hb hby at_130) (by decide) (by decide) ?_
      rintro _ T149 L149 X149 ⟨rfl, rfl, e149⟩
      rw [List.append_nil] at X149
      refine GoOn.st (fun t_ k_ => XS.lstore X149.here hx rfl (hb hby at_133) rfl (l' := #[.val (.int p1), .val (.long q1), .second, .val (.long q2), .second, .val (.long q3), .second, .val (.int (3 : Int32)), .val (.int (2 : Int32)), .val (.ref bb1), .val (.ref bb3), .val (.ref bb6), .val (.ref b7), .val (.ref b120), .val (.long (own_step (1 : Int64) (own_vals q3))), .second, .val (.long (1 : Int64)), .second, .val (.long (1 : Int64)), .second, .val (.long (own_vals q3)), .second]) rfl k_) ?_
      refine GoOn.st (fun t_ k_ => XS.lload X149.here hx rfl (hb hby at_135) rfl k_) ?_
      refine GoOn.st (fun t_ k_ => XS.lload X149.here hx rfl (hb hby at_137) rfl k_) ?_
      show GoOn _ _ _ _ (T149.setTop (mkF m 139 #[.val (.int p1), .val (.long q1), .second, .val (.long q2), .second, .val (.long q3), .second, .val (.int (3 : Int32)), .val (.int (2 : Int32)), .val (.ref bb1), .val (.ref bb3), .val (.ref bb6), .val (.ref b7), .val (.ref b120), .val (.long (own_step (1 : Int64) (own_vals q3))), .second, .val (.long (1 : Int64)), .second, .val (.long (1 : Int64)), .second, .val (.long (own_vals q3)), .second] [(.long (1 : Int64)), (.long (own_step (1 : Int64) (own_vals q3)))]))
      refine GoOn.st (fun t_ k_ => XS.lload X149.here hx rfl (hb hby at_139) rfl k_) ?_
      refine GoOn.st (fun t_ k_ => XS.lload X149.here hx rfl (hb hby at_141) rfl k_) ?_
      show GoOn _ _ _ _ (T149.setTop (mkF m 143 #[.val (.int p1), .val (.long q1), .second, .val (.long q2), .second, .val (.long q3), .second, .val (.int (3 : Int32)), .val (.int (2 : Int32)), .val (.ref bb1), .val (.ref bb3), .val (.ref bb6), .val (.ref b7), .val (.ref b120), .val (.long (own_step (1 : Int64) (own_vals q3))), .second, .val (.long (1 : Int64)), .second, .val (.long (1 : Int64)), .second, .val (.long (own_vals q3)), .second] [(.long (own_vals q3)), (.long (1 : Int64)), (.long (1 : Int64)), (.long (own_step (1 : Int64) (own_vals q3)))]))
      refine GoOn.callS (W := 2) (argsL := [(.long (1 : Int64)), (.long (1 : Int64)), (.long (own_vals q3))]) (rest := [(.long (own_step (1 : Int64) (own_vals q3)))]) X149 hx hZ6 hown6 (hw _ (List.mem_of_getElem? (i := 107) rfl)) (hw _ (List.mem_of_getElem? (i := 108) rfl)) (hw _ (List.mem_of_getElem? (i := 2) rfl)) (hw _ (List.mem_of_getElem? (i := 109) rfl)) (by decide) (rm_sat l Z a0 hw (1 : Int64) (1 : Int64) (own_vals q3) T134.heap (own_in_vals q3)) e149 (by decide) (by decide) (by rw [hml]; rfl) pd_14 rfl rfl (Nat.le_of_eq rfl) (hb hby at_143) (by decide) (by decide) ?_
      rintro _ T150 L150 X150 ⟨rfl, rfl, e150⟩
      rw [List.append_nil] at X150
      refine GoOn.st (fun t_ k_ => XS.lcmp X150.here hx rfl (hb hby at_146) rfl k_) ?_
      refine GoOn.st (fun t_ k_ => XS.ifNo X150.here hx rfl (hb hby at_147) rfl ((if0 _ _).trans (teq ((lw_eq (own_step (1 : Int64) (own_vals q3)) (own_sat (1 : Int64) (1 : Int64) (own_vals q3))).mpr (by have e := own_law own_in_one own_in_one (own_in_vals q3); simp only [own_step_first own_in_one, own_step_one _ (own_in_one).1, own_step_first (own_in_vals q1), own_step_one _ (own_in_vals q1).1, own_step_first (own_in_vals q2), own_step_one _ (own_in_vals q2).1, own_step_first (own_in_vals q3), own_step_one _ (own_in_vals q3).1, own_step_one _ (own_step_pos (own_in_vals q2) (own_in_vals q1).1)] at e ⊢; exact e))).2) k_) ?_
      refine GoOn.st (fun t_ k_ => XS.iconst X150.here hx rfl (hb hby at_150)  k_) ?_
      show GoOn _ _ _ _ (T150.setTop (mkF m 151 #[.val (.int p1), .val (.long q1), .second, .val (.long q2), .second, .val (.long q3), .second, .val (.int (3 : Int32)), .val (.int (2 : Int32)), .val (.ref bb1), .val (.ref bb3), .val (.ref bb6), .val (.ref b7), .val (.ref b120), .val (.long (own_step (1 : Int64) (own_vals q3))), .second, .val (.long (1 : Int64)), .second, .val (.long (1 : Int64)), .second, .val (.long (own_vals q3)), .second] [(.int (1 : Int32))]))
      refine GoOn.st (fun t_ k_ => XS.goto X150.here hx rfl (pc0 := 151) (pc' := 155) rfl (hb hby at_151) (by decide) (by decide) k_) ?_
      show GoOn _ _ _ _ (T150.setTop (mkF m 155 #[.val (.int p1), .val (.long q1), .second, .val (.long q2), .second, .val (.long q3), .second, .val (.int (3 : Int32)), .val (.int (2 : Int32)), .val (.ref bb1), .val (.ref bb3), .val (.ref bb6), .val (.ref b7), .val (.ref b120), .val (.long (own_step (1 : Int64) (own_vals q3))), .second, .val (.long (1 : Int64)), .second, .val (.long (1 : Int64)), .second, .val (.long (own_vals q3)), .second] [(.int (1 : Int32))]))
      exact GoOn.retWZ X150 hS6 (by rw [e150]; exact (Nat.le_trans (Nat.le_trans (Nat.le_trans (Nat.le_trans (Nat.le_trans (Nat.le_trans (Nat.le_trans (Nat.le_refl _) E7.1) K9.1) K115.1) K117.1) K119.1) E120.1) K134.1)) hx hlk hret (by simp) rfl (hb hby at_155) ⟨rfl, N134⟩ (by decide) (by decide)
    · rw [hk135]
      refine GoOn.st (fun t_ k_ => XS.aload X134.here hx rfl (hb hby at_92) rfl rfl k_) ?_
      refine GoOn.st (fun t_ k_ => XS.iload X134.here hx rfl (hb hby at_94) rfl k_) ?_
      show GoOn _ _ _ _ (T134.setTop (mkF m 96 #[.val (.int p1), .val (.long q1), .second, .val (.long q2), .second, .val (.long q3), .second, .val (.int (3 : Int32)), .val (.int (3 : Int32)), .val (.ref bb1), .val (.ref bb3), .val (.ref bb6), .val (.ref b7), .val (.ref b120), .unset, .unset, .unset, .unset, .unset, .unset, .unset, .unset] [(.int (3 : Int32)), (.ref b120)]))
      refine GoOn.callV (W := 0) (argsL := [(.int (3 : Int32))]) (rest := []) (a := b120) X134 hx hZ6 hown6 (hw _ (List.mem_of_getElem? (i := 99) rfl)) (hw _ (List.mem_of_getElem? (i := 100) rfl)) (notFace_of_selects (args := #[]) (mvT hZ6 (hw _ (List.mem_of_getElem? (i := 102) rfl)))) (hw _ (List.mem_of_getElem? (i := 102) rfl)) (hw _ (List.mem_of_getElem? (i := 101) rfl)) (hw _ (List.mem_of_getElem? (i := 78) rfl)) (hw _ (List.mem_of_getElem? (i := 103) rfl)) (by decide) (rm_val33 l Z a0 hw b120 bl134 bh134 kl134 kh134 q1 q2 q3 T134.heap f134_1 f134_2 f134_3 f134_4) rfl f134_0 (by decide) (by decide) (by rw [hml]; rfl) pd_12 rfl rfl (Nat.le_of_eq rfl) (hb hby at_96) (by decide) (by decide) ?_
      rintro _ T151 L151 X151 ⟨rfl, rfl, e151⟩
      rw [List.append_nil] at X151
      refine GoOn.st (fun t_ k_ => XS.lstore X151.here hx rfl (hb hby at_99) rfl (l' := #[.val (.int p1), .val (.long q1), .second, .val (.long q2), .second, .val (.long q3), .second, .val (.int (3 : Int32)), .val (.int (3 : Int32)), .val (.ref bb1), .val (.ref bb3), .val (.ref bb6), .val (.ref b7), .val (.ref b120), .val (.long (1 : Int64)), .second, .unset, .unset, .unset, .unset, .unset, .unset]) rfl k_) ?_
      refine GoOn.st (fun t_ k_ => XS.lloadN X151.here hx rfl (hb hby at_101) rfl k_) ?_
      refine GoOn.st (fun t_ k_ => XS.iconst X151.here hx rfl (hb hby at_102)  k_) ?_
      show GoOn _ _ _ _ (T151.setTop (mkF m 103 #[.val (.int p1), .val (.long q1), .second, .val (.long q2), .second, .val (.long q3), .second, .val (.int (3 : Int32)), .val (.int (3 : Int32)), .val (.ref bb1), .val (.ref bb3), .val (.ref bb6), .val (.ref b7), .val (.ref b120), .val (.long (1 : Int64)), .second, .unset, .unset, .unset, .unset, .unset, .unset] [(.int (0 : Int32)), (.long q1)]))
      refine GoOn.st (fun t_ k_ => XS.iload X151.here hx rfl (hb hby at_103) rfl k_) ?_
      refine GoOn.st (fun t_ k_ => XS.iload X151.here hx rfl (hb hby at_105) rfl k_) ?_
      show GoOn _ _ _ _ (T151.setTop (mkF m 107 #[.val (.int p1), .val (.long q1), .second, .val (.long q2), .second, .val (.long q3), .second, .val (.int (3 : Int32)), .val (.int (3 : Int32)), .val (.ref bb1), .val (.ref bb3), .val (.ref bb6), .val (.ref b7), .val (.ref b120), .val (.long (1 : Int64)), .second, .unset, .unset, .unset, .unset, .unset, .unset] [(.int (3 : Int32)), (.int (3 : Int32)), (.int (0 : Int32)), (.long q1)]))
      refine GoOn.callS (W := 0) (argsL := [(.long q1), (.int (0 : Int32)), (.int (3 : Int32)), (.int (3 : Int32))]) (rest := []) X151 hx hZ6 hown6 (hw _ (List.mem_of_getElem? (i := 104) rfl)) (hw _ (List.mem_of_getElem? (i := 105) rfl)) (hw _ (List.mem_of_getElem? (i := 2) rfl)) (hw _ (List.mem_of_getElem? (i := 106) rfl)) (by decide) (rm_facM l Z a0 hw q1 (0 : Int32) (3 : Int32) (3 : Int32) T134.heap (by decide)) e151 (by decide) (by decide) (by rw [hml]; rfl) pd_13 rfl rfl (Nat.le_of_eq rfl) (hb hby at_107) (by decide) (by decide) ?_
      rintro _ T152 L152 X152 ⟨rfl, rfl, e152⟩
      rw [List.append_nil] at X152
      refine GoOn.st (fun t_ k_ => XS.lstore X152.here hx rfl (hb hby at_110) rfl (l' := #[.val (.int p1), .val (.long q1), .second, .val (.long q2), .second, .val (.long q3), .second, .val (.int (3 : Int32)), .val (.int (3 : Int32)), .val (.ref bb1), .val (.ref bb3), .val (.ref bb6), .val (.ref b7), .val (.ref b120), .val (.long (1 : Int64)), .second, .val (.long (1 : Int64)), .second, .unset, .unset, .unset, .unset]) rfl k_) ?_
      refine GoOn.st (fun t_ k_ => XS.lloadN X152.here hx rfl (hb hby at_112) rfl k_) ?_
      refine GoOn.st (fun t_ k_ => XS.iconst X152.here hx rfl (hb hby at_113)  k_) ?_
      show GoOn _ _ _ _ (T152.setTop (mkF m 114 #[.val (.int p1), .val (.long q1), .second, .val (.long q2), .second, .val (.long q3), .second, .val (.int (3 : Int32)), .val (.int (3 : Int32)), .val (.ref bb1), .val (.ref bb3), .val (.ref bb6), .val (.ref b7), .val (.ref b120), .val (.long (1 : Int64)), .second, .val (.long (1 : Int64)), .second, .unset, .unset, .unset, .unset] [(.int (1 : Int32)), (.long q2)]))
      refine GoOn.st (fun t_ k_ => XS.iload X152.here hx rfl (hb hby at_114) rfl k_) ?_
      refine GoOn.st (fun t_ k_ => XS.iload X152.here hx rfl (hb hby at_116) rfl k_) ?_
      show GoOn _ _ _ _ (T152.setTop (mkF m 118 #[.val (.int p1), .val (.long q1), .second, .val (.long q2), .second, .val (.long q3), .second, .val (.int (3 : Int32)), .val (.int (3 : Int32)), .val (.ref bb1), .val (.ref bb3), .val (.ref bb6), .val (.ref b7), .val (.ref b120), .val (.long (1 : Int64)), .second, .val (.long (1 : Int64)), .second, .unset, .unset, .unset, .unset] [(.int (3 : Int32)), (.int (3 : Int32)), (.int (1 : Int32)), (.long q2)]))
      refine GoOn.callS (W := 0) (argsL := [(.long q2), (.int (1 : Int32)), (.int (3 : Int32)), (.int (3 : Int32))]) (rest := []) X152 hx hZ6 hown6 (hw _ (List.mem_of_getElem? (i := 104) rfl)) (hw _ (List.mem_of_getElem? (i := 105) rfl)) (hw _ (List.mem_of_getElem? (i := 2) rfl)) (hw _ (List.mem_of_getElem? (i := 106) rfl)) (by decide) (rm_facM l Z a0 hw q2 (1 : Int32) (3 : Int32) (3 : Int32) T134.heap (by decide)) e152 (by decide) (by decide) (by rw [hml]; rfl) pd_13 rfl rfl (Nat.le_of_eq rfl) (hb hby at_118) (by decide) (by decide) ?_
      rintro _ T153 L153 X153 ⟨rfl, rfl, e153⟩
      rw [List.append_nil] at X153
      refine GoOn.st (fun t_ k_ => XS.lstore X153.here hx rfl (hb hby at_121) rfl (l' := #[.val (.int p1), .val (.long q1), .second, .val (.long q2), .second, .val (.long q3), .second, .val (.int (3 : Int32)), .val (.int (3 : Int32)), .val (.ref bb1), .val (.ref bb3), .val (.ref bb6), .val (.ref b7), .val (.ref b120), .val (.long (1 : Int64)), .second, .val (.long (1 : Int64)), .second, .val (.long (1 : Int64)), .second, .unset, .unset]) rfl k_) ?_
      refine GoOn.st (fun t_ k_ => XS.lload X153.here hx rfl (hb hby at_123) rfl k_) ?_
      refine GoOn.st (fun t_ k_ => XS.iconst X153.here hx rfl (hb hby at_125)  k_) ?_
      show GoOn _ _ _ _ (T153.setTop (mkF m 126 #[.val (.int p1), .val (.long q1), .second, .val (.long q2), .second, .val (.long q3), .second, .val (.int (3 : Int32)), .val (.int (3 : Int32)), .val (.ref bb1), .val (.ref bb3), .val (.ref bb6), .val (.ref b7), .val (.ref b120), .val (.long (1 : Int64)), .second, .val (.long (1 : Int64)), .second, .val (.long (1 : Int64)), .second, .unset, .unset] [(.int (2 : Int32)), (.long q3)]))
      refine GoOn.st (fun t_ k_ => XS.iload X153.here hx rfl (hb hby at_126) rfl k_) ?_
      refine GoOn.st (fun t_ k_ => XS.iload X153.here hx rfl (hb hby at_128) rfl k_) ?_
      show GoOn _ _ _ _ (T153.setTop (mkF m 130 #[.val (.int p1), .val (.long q1), .second, .val (.long q2), .second, .val (.long q3), .second, .val (.int (3 : Int32)), .val (.int (3 : Int32)), .val (.ref bb1), .val (.ref bb3), .val (.ref bb6), .val (.ref b7), .val (.ref b120), .val (.long (1 : Int64)), .second, .val (.long (1 : Int64)), .second, .val (.long (1 : Int64)), .second, .unset, .unset] [(.int (3 : Int32)), (.int (3 : Int32)), (.int (2 : Int32)), (.long q3)]))
      refine GoOn.callS (W := 0) (argsL := [(.long q3), (.int (2 : Int32)), (.int (3 : Int32)), (.int (3 : Int32))]) (rest := []) X153 hx hZ6 hown6 (hw _ (List.mem_of_getElem? (i := 104) rfl)) (hw _ (List.mem_of_getElem? (i := 105) rfl)) (hw _ (List.mem_of_getElem? (i := 2) rfl)) (hw _ (List.mem_of_getElem? (i := 106) rfl)) (by decide) (rm_facM l Z a0 hw q3 (2 : Int32) (3 : Int32) (3 : Int32) T134.heap (by decide)) e153 (by decide) (by decide) (by rw [hml]; rfl) pd_13 rfl rfl (Nat.le_of_eq rfl) (hb hby at_130) (by decide) (by decide) ?_
      rintro _ T154 L154 X154 ⟨rfl, rfl, e154⟩
      rw [List.append_nil] at X154
      refine GoOn.st (fun t_ k_ => XS.lstore X154.here hx rfl (hb hby at_133) rfl (l' := #[.val (.int p1), .val (.long q1), .second, .val (.long q2), .second, .val (.long q3), .second, .val (.int (3 : Int32)), .val (.int (3 : Int32)), .val (.ref bb1), .val (.ref bb3), .val (.ref bb6), .val (.ref b7), .val (.ref b120), .val (.long (1 : Int64)), .second, .val (.long (1 : Int64)), .second, .val (.long (1 : Int64)), .second, .val (.long (1 : Int64)), .second]) rfl k_) ?_
      refine GoOn.st (fun t_ k_ => XS.lload X154.here hx rfl (hb hby at_135) rfl k_) ?_
      refine GoOn.st (fun t_ k_ => XS.lload X154.here hx rfl (hb hby at_137) rfl k_) ?_
      show GoOn _ _ _ _ (T154.setTop (mkF m 139 #[.val (.int p1), .val (.long q1), .second, .val (.long q2), .second, .val (.long q3), .second, .val (.int (3 : Int32)), .val (.int (3 : Int32)), .val (.ref bb1), .val (.ref bb3), .val (.ref bb6), .val (.ref b7), .val (.ref b120), .val (.long (1 : Int64)), .second, .val (.long (1 : Int64)), .second, .val (.long (1 : Int64)), .second, .val (.long (1 : Int64)), .second] [(.long (1 : Int64)), (.long (1 : Int64))]))
      refine GoOn.st (fun t_ k_ => XS.lload X154.here hx rfl (hb hby at_139) rfl k_) ?_
      refine GoOn.st (fun t_ k_ => XS.lload X154.here hx rfl (hb hby at_141) rfl k_) ?_
      show GoOn _ _ _ _ (T154.setTop (mkF m 143 #[.val (.int p1), .val (.long q1), .second, .val (.long q2), .second, .val (.long q3), .second, .val (.int (3 : Int32)), .val (.int (3 : Int32)), .val (.ref bb1), .val (.ref bb3), .val (.ref bb6), .val (.ref b7), .val (.ref b120), .val (.long (1 : Int64)), .second, .val (.long (1 : Int64)), .second, .val (.long (1 : Int64)), .second, .val (.long (1 : Int64)), .second] [(.long (1 : Int64)), (.long (1 : Int64)), (.long (1 : Int64)), (.long (1 : Int64))]))
      refine GoOn.callS (W := 2) (argsL := [(.long (1 : Int64)), (.long (1 : Int64)), (.long (1 : Int64))]) (rest := [(.long (1 : Int64))]) X154 hx hZ6 hown6 (hw _ (List.mem_of_getElem? (i := 107) rfl)) (hw _ (List.mem_of_getElem? (i := 108) rfl)) (hw _ (List.mem_of_getElem? (i := 2) rfl)) (hw _ (List.mem_of_getElem? (i := 109) rfl)) (by decide) (rm_sat l Z a0 hw (1 : Int64) (1 : Int64) (1 : Int64) T134.heap own_in_one) e154 (by decide) (by decide) (by rw [hml]; rfl) pd_14 rfl rfl (Nat.le_of_eq rfl) (hb hby at_143) (by decide) (by decide) ?_
      rintro _ T155 L155 X155 ⟨rfl, rfl, e155⟩
      rw [List.append_nil] at X155
      refine GoOn.st (fun t_ k_ => XS.lcmp X155.here hx rfl (hb hby at_146) rfl k_) ?_
      refine GoOn.st (fun t_ k_ => XS.ifNo X155.here hx rfl (hb hby at_147) rfl ((if0 _ _).trans (teq ((lw_eq (1 : Int64) (own_sat (1 : Int64) (1 : Int64) (1 : Int64))).mpr (by have e := own_law own_in_one own_in_one own_in_one; simp only [own_step_first own_in_one, own_step_one _ (own_in_one).1, own_step_first (own_in_vals q1), own_step_one _ (own_in_vals q1).1, own_step_first (own_in_vals q2), own_step_one _ (own_in_vals q2).1, own_step_first (own_in_vals q3), own_step_one _ (own_in_vals q3).1, own_step_one _ (own_step_pos (own_in_vals q2) (own_in_vals q1).1)] at e ⊢; exact e))).2) k_) ?_
      refine GoOn.st (fun t_ k_ => XS.iconst X155.here hx rfl (hb hby at_150)  k_) ?_
      show GoOn _ _ _ _ (T155.setTop (mkF m 151 #[.val (.int p1), .val (.long q1), .second, .val (.long q2), .second, .val (.long q3), .second, .val (.int (3 : Int32)), .val (.int (3 : Int32)), .val (.ref bb1), .val (.ref bb3), .val (.ref bb6), .val (.ref b7), .val (.ref b120), .val (.long (1 : Int64)), .second, .val (.long (1 : Int64)), .second, .val (.long (1 : Int64)), .second, .val (.long (1 : Int64)), .second] [(.int (1 : Int32))]))
      refine GoOn.st (fun t_ k_ => XS.goto X155.here hx rfl (pc0 := 151) (pc' := 155) rfl (hb hby at_151) (by decide) (by decide) k_) ?_
      show GoOn _ _ _ _ (T155.setTop (mkF m 155 #[.val (.int p1), .val (.long q1), .second, .val (.long q2), .second, .val (.long q3), .second, .val (.int (3 : Int32)), .val (.int (3 : Int32)), .val (.ref bb1), .val (.ref bb3), .val (.ref bb6), .val (.ref b7), .val (.ref b120), .val (.long (1 : Int64)), .second, .val (.long (1 : Int64)), .second, .val (.long (1 : Int64)), .second, .val (.long (1 : Int64)), .second] [(.int (1 : Int32))]))
      exact GoOn.retWZ X155 hS6 (by rw [e155]; exact (Nat.le_trans (Nat.le_trans (Nat.le_trans (Nat.le_trans (Nat.le_trans (Nat.le_trans (Nat.le_trans (Nat.le_refl _) E7.1) K9.1) K115.1) K117.1) K119.1) E120.1) K134.1)) hx hlk hret (by simp) rfl (hb hby at_155) ⟨rfl, N134⟩ (by decide) (by decide)
set_option maxRecDepth 65536 in
set_option maxHeartbeats 40000000 in
theorem comes_1 {Post : Tables → Env → Array Value → State → Outcome → State → Prop} (hpost : ∀ tb e args s v u, (limb_1_1.after args s (.returned v) u = true ∧ limb_1_2.after args s (.returned v) u = true ∧ True) → ReturnedEndW s (.returned v) u (Jvm.fieldLocs frame_1_writes args s ++ Jvm.arrayLocs frame_1_arrays args s ++ Jvm.staticLocs frame_1_statics s) 32 1216 → Post tb e args s (.returned v) u) :
    ArmFor flags0 classFile x code maxLocals ret World_1 tables_1 room_1 Calls_1 rest_1 Pre_1 Post := by
  intro l hfl _ _ p e ha hc hk s m args below hf hA hF happ hP
  obtain ⟨hcalls, hrest, hpre⟩ := hP
  obtain ⟨-, -, -, hnamed, -, -, -, hat⟩ := (Spec.applies_iff hf).mp happ
  obtain ⟨hg, hn⟩ := and_e (Cond.before_iff.mp (show (Jvm.Cond.and given_1 narrow_1).before args s = true from hpre))
  obtain ⟨hcount, hk0⟩ := and_e hg
  obtain ⟨ha0, hk1⟩ := and_e hk0
  obtain ⟨ha1, hk2⟩ := and_e hk1
  obtain ⟨ha2, hk3⟩ := and_e hk2
  obtain ⟨w0, w1, w2, w3, rfl⟩ : ∃ w0 w1 w2 w3 : Value, args = #[w0, w1, w2, w3] := by
    have hs : args.size = 4 := by simpa [Cond.value, given_1] using hcount
    obtain ⟨L⟩ := args
    match L, hs with
    | [w0, w1, w2, w3], _ => exact ⟨w0, w1, w2, w3, rfl⟩
  have hw := fun d (hd : d ∈ tables_1) => atoms_spec (ws := Jvm.Cond.code x code maxLocals ret :: tables_1) hat d (List.mem_cons_of_mem _ hd)
  have hfit : Fit s := fun {y c} hc i hi => by
    obtain ⟨ha, rfl⟩ := Array.getElem?_eq_some_iff.mp hc
    have q := List.all_eq_true.mp ((Array.all_eq_true_iff_forall_mem.mp hF) _ (Array.getElem_mem ha)) i (List.mem_range.mpr hi)
    simpa [Array.getElem?_eq_getElem hi] using q
  obtain ⟨i0, ei0⟩ := is_v ha0
  obtain rfl : w0 = (.int i0) := Option.some.inj ei0
  obtain ⟨i1, ei1⟩ := isL_v ha1
  obtain rfl : w1 = (.long i1) := Option.some.inj ei1
  obtain ⟨i2, ei2⟩ := isL_v ha2
  obtain rfl : w2 = (.long i2) := Option.some.inj ei2
  obtain ⟨i3, ei3⟩ := isL_v hk3
  obtain rfl : w3 = (.long i3) := Option.some.inj ei3
  obtain ⟨aI, eI⟩ := exa_v hn
  have SI := Sta.start eI (Or.inr ⟨(hw _ (List.mem_of_getElem? (i := 16) rfl)), (hw _ (List.mem_of_getElem? (i := 17) rfl))⟩)
  have hr := Cond.before_iff.mp (show rest_1_c.before _ s = true from hrest)
  obtain ⟨r1, hr⟩ := and_e hr
  obtain ⟨r2, hr⟩ := and_e hr
  obtain ⟨r3, hr⟩ := and_e hr
  obtain ⟨r4, hr⟩ := and_e hr
  obtain ⟨r5, hr⟩ := and_e hr
  obtain ⟨r6, hr⟩ := and_e hr
  obtain ⟨r7, hr⟩ := and_e hr
  obtain ⟨r8, hr⟩ := and_e hr
  obtain ⟨r9, -⟩ := and_e hr
  obtain ⟨aD, eD⟩ := arr_v r7
  have SD := Sta.start eD (Or.inr ⟨(hw _ (List.mem_of_getElem? (i := 54) rfl)), Cond.before_iff.mpr r3⟩)
  obtain ⟨kD, VD⟩ := own_empty hfit eD r7 (Cond.before_iff.mpr r9)
  obtain ⟨n, o, h1, h2, h3, _, L, rfl, ⟨rfl, N⟩, hq⟩ := rm_law l s _ hw tables_1 i0 i1 i2 i3 s.heap s.heap.size (Nat.le_refl _) aI aD kD (Old.start s) SI SD VD p e ha hc hk s m _ below hf ((Spec.applies_iff_loose hf).mp happ).1 ⟨rfl, State.Warmed39.refl s, rfl⟩ trivial
  refine ⟨n, _, h1, h2, h3, hpost _ _ _ _ _ _ ⟨Cond.after_iff.mpr rfl, Cond.after_iff.mpr (eq_i res_at (Term.int_eval (1)) rfl), trivial⟩ ⟨hq.1, hq.2.1, hq.2.2.1, (hq.2.2.2.sift fun y hy => Or.inr (N y hy)).mono (by decide) (by decide)⟩⟩
theorem main_1_1 : Claimed_1_1 := comes_1 fun _ _ _ _ _ _ h hF => ⟨h.1, hF⟩
theorem main_1_2 : Claimed_1_2 := comes_1 fun _ _ _ _ _ _ h hF => ⟨h.2.1, hF⟩
end Jvm.Pilot.@@N@@
namespace Jvm.Pilot.@@N@@
open Jvm Jvm.ClassFile Sem Op Lib Jvm.Free Jvm.Stand Jvm.Pilot.@@N@@.Jvm.D
/-! MADE BY PROGRAM (witnessworld.py) out of the Statement's table words and the real class files: 30 classes; the members and pool entries that the words name. The judged class is class 1, her method 1. -/
namespace start1
open Jvm.ClassFile
def u (s : String) : CpInfo := .utf8 (stringToUtf16 s)
/-- a pool by its gaps: so many unusable entries, then the entry; so many at the end -/
def gap : Nat → List CpInfo → List CpInfo
  | 0, r => r
  | n + 1, r => .unusable :: gap n r
def poolList (es : List (Nat × CpInfo)) (last : Nat) : List CpInfo := es.foldr (fun e r => gap e.1 (e.2 :: r)) (gap last [])
def pool (es : List (Nat × CpInfo)) (last : Nat) : Array CpInfo := ⟨poolList es last⟩
def fileOf (pool : Array CpInfo) (this : Nat) (attrs : Array Attribute := #[]) (ms : Array MethodInfo := #[]) (fl : Nat := 33) (sup : Nat := 0) (ifs : Array Nat := #[]) (fds : Array FieldInfo := #[]) : ClassFile where
  minorVersion := 0
  majorVersion := 65
  constantPool := pool
  accessFlags := fl
  thisClass := this
  superClass := sup
  interfaces := ifs
  fields := fds
  methods := ms
  attributes := attrs
def plain (name : String) (sup : Option ClassId) : Class where
  name := name
  kind := .ordinary
  loader := none
  accessFlags := 33
  super := sup
  interfaces := #[]
  cf := none
  fields := #[]
  methods := #[]
  instanceTypes := #[]
  staticTypes := #[]
  resolved := #[]
  callSites := []
  init := .initialized
  statics := none
  mirror := none

def pool0 : Array CpInfo := pool [(5, u "<init>"), (0, u "()V"), (1, .class_ 10), (1, u "java/lang/Object")] 113

def k0c0 : Code := { maxStack := 0, maxLocals := 1, code := object_method_1_code, exceptionTable := #[], attributes := #[] }
def k0m0 : Method := { name := "<init>", desc := "()V", sig := { parameters := [], returnType := none }, accessFlags := 1, code := some k0c0 }
/-- java/lang/Object -/
def k0 : Class := { plain "java/lang/Object" none with
  accessFlags := 33
  interfaces := #[]
  cf := some (fileOf pool0 8 #[] #[{ accessFlags := 1, nameIndex := 5, descriptorIndex := 6, attributes := #[] }] 33 0 #[] #[])
  fields := #[]
  methods := #[k0m0]
  instanceTypes := #[]
  staticTypes := #[]
  resolved := Array.replicate 124 none
  statics := none }

def pool1 : Array CpInfo := pool [(2, .class_ 4), (0, .nameAndType 5 6), (0, u "java/lang/Object"), (0, u "<init>"), (0, u "()V"), (0, .methodref 8 9), (0, .class_ 10), (0, .nameAndType 11 12), (0, u "com/example/tributary/tributary/semantics/RangesValuationsPinLaw"), (0, u "variable"), (0, u "(J)Lcom/example/tributary/tributary/semantics/Variable;"), (0, .class_ 14), (0, u "java/util/ArrayList"), (0, .methodref 13 3), (0, .methodref 13 17), (0, .nameAndType 18 19), (0, u "add"), (0, u "(Ljava/lang/Object;)Z"), (0, .class_ 21), (0, u "com/example/tributary/tributary/semantics/Ranges"), (0, .methodref 20 23), (0, .nameAndType 5 24), (0, u "(Ljava/util/List;)V"), (0, .methodref 20 26), (0, .nameAndType 27 28), (0, u "valuations"), (0, u "(I)J"), (0, .methodref 8 30), (0, .nameAndType 31 32), (0, u "factor"), (0, u "(JIII)J"), (0, .methodref 8 34), (0, .nameAndType 35 36), (0, u "saturated"), (0, u "(JJJ)J"), (0, .class_ 38), (0, u "com/example/tributary/tributary/semantics/Variable"), (0, .string 40), (0, u "v"), (0, .fieldref 42 43), (0, .class_ 44), (0, .nameAndType 45 46), (0, u "com/example/tributary/tributary/language/Type"), (0, u "INT"), (0, u "Lcom/example/tributary/tributary/language/Type;"), (0, .methodref 8 48), (0, .nameAndType 49 50), (0, u "lowOf"), (0, u "(J)I"), (0, .methodref 8 52), (0, .nameAndType 53 50), (0, u "highOf"), (0, .methodref 37 55), (0, .nameAndType 5 56), (0, u "(Ljava/lang/String;Lcom/example/tributary/tributary/language/Type;III)V"), (0, .methodref 58 59), (0, .class_ 60), (0, .nameAndType 61 62), (0, u "java/lang/Math"), (0, u "min"), (0, u "(II)I"), (0, .methodref 58 64), (0, .nameAndType 65 62), (0, u "max"), (2, .long 9223372036854775807), (3, u "law"), (0, u "(IJJJ)Z")] 3

def k1m0 : Method := { name := "<init>", desc := "()V", sig := { parameters := [], returnType := none }, accessFlags := 2, code := none }
def k1c1 : Code := { maxStack := 8, maxLocals := 22, code := code, exceptionTable := #[], attributes := #[] }
def k1m1 : Method := { name := "law", desc := "(IJJJ)Z", sig := { parameters := [.int, .long, .long, .long], returnType := some .boolean }, accessFlags := 9, code := some k1c1 }
def k1c2 : Code := { maxStack := 7, maxLocals := 2, code := method_3_code, exceptionTable := #[], attributes := #[] }
def k1m2 : Method := { name := "variable", desc := "(J)Lcom/example/tributary/tributary/semantics/Variable;", sig := { parameters := [.long], returnType := some (.object "com/example/tributary/tributary/semantics/Variable") }, accessFlags := 10, code := some k1c2 }
def k1c3 : Code := { maxStack := 3, maxLocals := 2, code := method_4_code, exceptionTable := #[], attributes := #[] }
def k1m3 : Method := { name := "lowOf", desc := "(J)I", sig := { parameters := [.long], returnType := some .int }, accessFlags := 10, code := some k1c3 }
def k1c4 : Code := { maxStack := 3, maxLocals := 2, code := method_5_code, exceptionTable := #[], attributes := #[] }
def k1m4 : Method := { name := "highOf", desc := "(J)I", sig := { parameters := [.long], returnType := some .int }, accessFlags := 10, code := some k1c4 }
def k1c5 : Code := { maxStack := 4, maxLocals := 5, code := method_6_code, exceptionTable := #[], attributes := #[] }
def k1m5 : Method := { name := "factor", desc := "(JIII)J", sig := { parameters := [.long, .int, .int, .int], returnType := some .long }, accessFlags := 10, code := some k1c5 }
def k1c6 : Code := { maxStack := 6, maxLocals := 8, code := method_7_code, exceptionTable := #[], attributes := #[] }
def k1m6 : Method := { name := "saturated", desc := "(JJJ)J", sig := { parameters := [.long, .long, .long], returnType := some .long }, accessFlags := 10, code := some k1c6 }
/-- com/example/tributary/tributary/semantics/RangesValuationsPinLaw -/
def k1 : Class := { plain "com/example/tributary/tributary/semantics/RangesValuationsPinLaw" (some 0) with
  accessFlags := 49
  interfaces := #[]
  cf := some (fileOf pool1 8 #[] #[{ accessFlags := 2, nameIndex := 5, descriptorIndex := 6, attributes := #[] }, { accessFlags := 9, nameIndex := 72, descriptorIndex := 73, attributes := #[] }, { accessFlags := 10, nameIndex := 11, descriptorIndex := 12, attributes := #[] }, { accessFlags := 10, nameIndex := 49, descriptorIndex := 50, attributes := #[] }, { accessFlags := 10, nameIndex := 53, descriptorIndex := 50, attributes := #[] }, { accessFlags := 10, nameIndex := 31, descriptorIndex := 32, attributes := #[] }, { accessFlags := 10, nameIndex := 35, descriptorIndex := 36, attributes := #[] }] 49 2 #[] #[])
  fields := #[]
  methods := #[k1m0, k1m1, k1m2, k1m3, k1m4, k1m5, k1m6]
  instanceTypes := #[]
  staticTypes := #[]
  resolved := Array.replicate 77 none
  statics := none }

def pool2 : Array CpInfo := pool [(1, .methodref 2 3), (0, .class_ 4), (0, .nameAndType 5 6), (0, u "java/lang/Object"), (0, u "<init>"), (0, u "()V"), (0, .class_ 8), (0, u "java/lang/Record")] 13

def k2c0 : Code := { maxStack := 1, maxLocals := 1, code := jdk_30_method_1_code, exceptionTable := #[], attributes := #[] }
def k2m0 : Method := { name := "<init>", desc := "()V", sig := { parameters := [], returnType := none }, accessFlags := 4, code := some k2c0 }
/-- java/lang/Record -/
def k2 : Class := { plain "java/lang/Record" (some 0) with
  accessFlags := 1057
  interfaces := #[]
  cf := some (fileOf pool2 7 #[] #[{ accessFlags := 4, nameIndex := 5, descriptorIndex := 6, attributes := #[] }] 1057 2 #[] #[])
  fields := #[]
  methods := #[k2m0]
  instanceTypes := #[]
  staticTypes := #[]
  resolved := Array.replicate 22 none
  statics := none }

def pool3 : Array CpInfo := pool [(1, .methodref 2 3), (0, .class_ 4), (0, .nameAndType 5 6), (0, u "java/lang/Record"), (0, u "<init>"), (0, u "()V"), (0, .fieldref 8 9), (0, .class_ 10), (0, .nameAndType 11 12), (0, u "com/example/tributary/tributary/semantics/Variable"), (0, u "name"), (0, u "Ljava/lang/String;"), (0, .fieldref 8 14), (0, .nameAndType 15 16), (0, u "type"), (0, u "Lcom/example/tributary/tributary/language/Type;"), (0, .fieldref 8 18), (0, .nameAndType 19 20), (0, u "low"), (0, u "I"), (0, .fieldref 8 22), (0, .nameAndType 23 20), (0, u "high"), (0, .fieldref 8 25), (0, .nameAndType 26 20), (0, u "owner"), (30, u "GLOBAL"), (2, u "(Ljava/lang/String;Lcom/example/tributary/tributary/language/Type;III)V"), (11, u "()I")] 34

def k3c0 : Code := { maxStack := 2, maxLocals := 6, code := prog_221_method_1_code, exceptionTable := #[], attributes := #[] }
def k3m0 : Method := { name := "<init>", desc := "(Ljava/lang/String;Lcom/example/tributary/tributary/language/Type;III)V", sig := { parameters := [(.object "java/lang/String"), (.object "com/example/tributary/tributary/language/Type"), .int, .int, .int], returnType := none }, accessFlags := 0, code := some k3c0 }
def k3c1 : Code := { maxStack := 1, maxLocals := 1, code := prog_221_method_10_code, exceptionTable := #[], attributes := #[] }
def k3m1 : Method := { name := "low", desc := "()I", sig := { parameters := [], returnType := some .int }, accessFlags := 1, code := some k3c1 }
def k3c2 : Code := { maxStack := 1, maxLocals := 1, code := prog_221_method_11_code, exceptionTable := #[], attributes := #[] }
def k3m2 : Method := { name := "high", desc := "()I", sig := { parameters := [], returnType := some .int }, accessFlags := 1, code := some k3c2 }
/-- com/example/tributary/tributary/semantics/Variable -/
def k3 : Class := { plain "com/example/tributary/tributary/semantics/Variable" (some 2) with
  accessFlags := 48
  interfaces := #[]
  cf := some (fileOf pool3 8 #[] #[{ accessFlags := 0, nameIndex := 5, descriptorIndex := 60, attributes := #[] }, { accessFlags := 1, nameIndex := 19, descriptorIndex := 72, attributes := #[] }, { accessFlags := 1, nameIndex := 23, descriptorIndex := 72, attributes := #[] }] 48 2 #[] #[{ accessFlags := 18, nameIndex := 11, descriptorIndex := 12, attributes := #[] }, { accessFlags := 18, nameIndex := 15, descriptorIndex := 16, attributes := #[] }, { accessFlags := 18, nameIndex := 19, descriptorIndex := 20, attributes := #[] }, { accessFlags := 18, nameIndex := 23, descriptorIndex := 20, attributes := #[] }, { accessFlags := 18, nameIndex := 26, descriptorIndex := 20, attributes := #[] }, { accessFlags := 24, nameIndex := 57, descriptorIndex := 20, attributes := #[] }])
  fields := #[{ name := "name", type := (.object "java/lang/String"), accessFlags := 18, slot := 0, constantValue := 0 }, { name := "type", type := (.object "com/example/tributary/tributary/language/Type"), accessFlags := 18, slot := 1, constantValue := 0 }, { name := "low", type := .int, accessFlags := 18, slot := 2, constantValue := 0 }, { name := "high", type := .int, accessFlags := 18, slot := 3, constantValue := 0 }, { name := "owner", type := .int, accessFlags := 18, slot := 4, constantValue := 0 }, { name := "GLOBAL", type := .int, accessFlags := 24, slot := 0, constantValue := 0 }]
  methods := #[k3m0, k3m1, k3m2]
  instanceTypes := #[(.object "java/lang/String"), (.object "com/example/tributary/tributary/language/Type"), .int, .int, .int]
  staticTypes := #[.int]
  resolved := Array.replicate 107 none
  statics := none }

def pool4 : Array CpInfo := pool [(1, .class_ 2), (0, u "java/io/Serializable"), (0, .class_ 4), (0, u "java/lang/Object")] 2

/-- java/io/Serializable -/
def k4 : Class := { plain "java/io/Serializable" (some 0) with
  accessFlags := 1537
  interfaces := #[]
  cf := some (fileOf pool4 1 #[] #[] 1537 3 #[] #[])
  fields := #[]
  methods := #[]
  instanceTypes := #[]
  staticTypes := #[]
  resolved := Array.replicate 7 none
  statics := none }

def pool5 : Array CpInfo := pool [(1, .class_ 2), (0, u "java/lang/Comparable"), (0, .class_ 4), (0, u "java/lang/Object")] 7

/-- java/lang/Comparable -/
def k5 : Class := { plain "java/lang/Comparable" (some 0) with
  accessFlags := 1537
  interfaces := #[]
  cf := some (fileOf pool5 1 #[] #[] 1537 3 #[] #[])
  fields := #[]
  methods := #[]
  instanceTypes := #[]
  staticTypes := #[]
  resolved := Array.replicate 12 none
  statics := none }

def pool6 : Array CpInfo := pool [(2, .class_ 4), (1, u "java/lang/CharSequence"), (42, .class_ 48), (0, u "java/lang/CharSequence$1CodePointIterator"), (10, .class_ 60), (0, u "java/lang/CharSequence$1CharIterator"), (5, .class_ 67), (0, u "java/lang/Object")] 63

/-- java/lang/CharSequence -/
def k6 : Class := { plain "java/lang/CharSequence" (some 0) with
  accessFlags := 1537
  interfaces := #[]
  cf := some (fileOf pool6 2 #[.nestMembers #[47, 59]] #[] 1537 66 #[] #[])
  fields := #[]
  methods := #[]
  instanceTypes := #[]
  staticTypes := #[]
  resolved := Array.replicate 131 none
  statics := none }

def pool7 : Array CpInfo := pool [(1, .class_ 2), (0, u "java/lang/constant/Constable"), (0, .class_ 4), (0, u "java/lang/Object")] 6

/-- java/lang/constant/Constable -/
def k7 : Class := { plain "java/lang/constant/Constable" (some 0) with
  accessFlags := 1537
  interfaces := #[]
  cf := some (fileOf pool7 1 #[] #[] 1537 3 #[] #[])
  fields := #[]
  methods := #[]
  instanceTypes := #[]
  staticTypes := #[]
  resolved := Array.replicate 11 none
  statics := none }

def pool8 : Array CpInfo := pool [(1, .class_ 2), (0, u "java/lang/constant/ConstantDesc"), (0, .class_ 4), (0, u "java/lang/Object")] 32

/-- java/lang/constant/ConstantDesc -/
def k8 : Class := { plain "java/lang/constant/ConstantDesc" (some 0) with
  accessFlags := 1537
  interfaces := #[]
  cf := some (fileOf pool8 1 #[] #[] 1537 3 #[] #[])
  fields := #[]
  methods := #[]
  instanceTypes := #[]
  staticTypes := #[]
  resolved := Array.replicate 37 none
  statics := none }

def pool9 : Array CpInfo := pool [(2, .class_ 4), (1, u "java/lang/Object"), (0, u "<init>"), (0, u "()V"), (3, .class_ 12), (1, u "java/lang/String"), (0, u "value"), (0, u "[B"), (2, u "coder"), (0, u "B"), (2, u "hash"), (0, u "I"), (2, u "hashIsZero"), (0, u "Z"), (13, u "COMPACT_STRINGS"), (534, .class_ 576), (0, u "java/lang/CharSequence"), (22, u "CASE_INSENSITIVE_ORDER"), (0, u "Ljava/util/Comparator;"), (500, u "serialPersistentFields"), (0, u "[Ljava/io/ObjectStreamField;"), (0, .class_ 1104), (0, u "java/lang/String$CaseInsensitiveComparator"), (1, .class_ 1107), (0, u "java/io/Serializable"), (0, .class_ 1109), (0, u "java/lang/Comparable"), (0, .class_ 1111), (0, u "java/lang/constant/Constable"), (0, .class_ 1113), (0, u "java/lang/constant/ConstantDesc"), (2, u "serialVersionUID"), (0, u "J"), (3, u "REPL"), (0, u "C"), (2, u "LATIN1"), (1, u "UTF16")] 323

def k9m0 : Method := { name := "<init>", desc := "()V", sig := { parameters := [], returnType := none }, accessFlags := 1, code := none }
/-- java/lang/String -/
def k9 : Class := { plain "java/lang/String" (some 0) with
  accessFlags := 49
  interfaces := #[4, 5, 6, 7, 8]
  cf := some (fileOf pool9 10 #[.nestMembers #[1103]] #[{ accessFlags := 1, nameIndex := 5, descriptorIndex := 6, attributes := #[] }] 49 2 #[1106, 1108, 575, 1110, 1112] #[{ accessFlags := 18, nameIndex := 13, descriptorIndex := 14, attributes := #[] }, { accessFlags := 18, nameIndex := 17, descriptorIndex := 18, attributes := #[] }, { accessFlags := 2, nameIndex := 21, descriptorIndex := 22, attributes := #[] }, { accessFlags := 2, nameIndex := 25, descriptorIndex := 26, attributes := #[] }, { accessFlags := 26, nameIndex := 1116, descriptorIndex := 1117, attributes := #[] }, { accessFlags := 24, nameIndex := 40, descriptorIndex := 26, attributes := #[] }, { accessFlags := 26, nameIndex := 1101, descriptorIndex := 1102, attributes := #[] }, { accessFlags := 26, nameIndex := 1121, descriptorIndex := 1122, attributes := #[] }, { accessFlags := 25, nameIndex := 599, descriptorIndex := 600, attributes := #[] }, { accessFlags := 24, nameIndex := 1125, descriptorIndex := 18, attributes := #[] }, { accessFlags := 24, nameIndex := 1127, descriptorIndex := 18, attributes := #[] }])
  fields := #[{ name := "value", type := (.array .byte), accessFlags := 18, slot := 0, constantValue := 0 }, { name := "coder", type := .byte, accessFlags := 18, slot := 1, constantValue := 0 }, { name := "hash", type := .int, accessFlags := 2, slot := 2, constantValue := 0 }, { name := "hashIsZero", type := .boolean, accessFlags := 2, slot := 3, constantValue := 0 }, { name := "serialVersionUID", type := .long, accessFlags := 26, slot := 0, constantValue := 0 }, { name := "COMPACT_STRINGS", type := .boolean, accessFlags := 24, slot := 1, constantValue := 0 }, { name := "serialPersistentFields", type := (.array (.object "java/io/ObjectStreamField")), accessFlags := 26, slot := 2, constantValue := 0 }, { name := "REPL", type := .char, accessFlags := 26, slot := 3, constantValue := 0 }, { name := "CASE_INSENSITIVE_ORDER", type := (.object "java/util/Comparator"), accessFlags := 25, slot := 4, constantValue := 0 }, { name := "LATIN1", type := .byte, accessFlags := 24, slot := 5, constantValue := 0 }, { name := "UTF16", type := .byte, accessFlags := 24, slot := 6, constantValue := 0 }]
  methods := #[k9m0]
  instanceTypes := #[(.array .byte), .byte, .int, .boolean]
  staticTypes := #[.long, .boolean, (.array (.object "java/io/ObjectStreamField")), .char, (.object "java/util/Comparator"), .byte, .byte]
  resolved := Array.replicate 1451 none
  statics := none }

def pool10 : Array CpInfo := pool [(2, .class_ 4), (1, u "java/lang/Enum"), (0, u "name"), (0, u "Ljava/lang/String;"), (2, u "ordinal"), (0, u "I"), (1, .class_ 14), (1, u "java/lang/Object"), (4, u "hash"), (86, .class_ 108), (1, u "java/lang/Enum$EnumDesc"), (2, .class_ 112), (0, u "java/lang/constant/Constable"), (0, .class_ 114), (0, u "java/lang/Comparable"), (0, .class_ 116), (0, u "java/io/Serializable")] 87

/-- java/lang/Enum -/
def k10 : Class := { plain "java/lang/Enum" (some 0) with
  accessFlags := 1057
  interfaces := #[7, 5, 4]
  cf := some (fileOf pool10 2 #[.nestMembers #[106]] #[] 1057 12 #[111, 113, 115] #[{ accessFlags := 18, nameIndex := 5, descriptorIndex := 6, attributes := #[] }, { accessFlags := 18, nameIndex := 9, descriptorIndex := 10, attributes := #[] }, { accessFlags := 2, nameIndex := 19, descriptorIndex := 10, attributes := #[] }])
  fields := #[{ name := "name", type := (.object "java/lang/String"), accessFlags := 18, slot := 0, constantValue := 0 }, { name := "ordinal", type := .int, accessFlags := 18, slot := 1, constantValue := 0 }, { name := "hash", type := .int, accessFlags := 2, slot := 2, constantValue := 0 }]
  methods := #[]
  instanceTypes := #[(.object "java/lang/String"), .int, .int]
  staticTypes := #[]
  resolved := Array.replicate 204 none
  statics := none }

def pool11 : Array CpInfo := pool [(1, .class_ 2), (0, u "com/example/tributary/tributary/language/Type"), (2, u "INT"), (0, u "Lcom/example/tributary/tributary/language/Type;"), (2, u "DOUBLE"), (2, u "BOOL"), (2, u "$VALUES"), (0, u "[Lcom/example/tributary/tributary/language/Type;"), (6, .class_ 25), (1, u "java/lang/Enum")] 45

/-- com/example/tributary/tributary/language/Type -/
def k11 : Class := { plain "com/example/tributary/tributary/language/Type" (some 10) with
  accessFlags := 16433
  interfaces := #[]
  cf := some (fileOf pool11 1 #[] #[] 16433 23 #[] #[{ accessFlags := 16409, nameIndex := 5, descriptorIndex := 6, attributes := #[] }, { accessFlags := 16409, nameIndex := 9, descriptorIndex := 6, attributes := #[] }, { accessFlags := 16409, nameIndex := 12, descriptorIndex := 6, attributes := #[] }, { accessFlags := 4122, nameIndex := 15, descriptorIndex := 16, attributes := #[] }])
  fields := #[{ name := "INT", type := (.object "com/example/tributary/tributary/language/Type"), accessFlags := 16409, slot := 0, constantValue := 0 }, { name := "DOUBLE", type := (.object "com/example/tributary/tributary/language/Type"), accessFlags := 16409, slot := 1, constantValue := 0 }, { name := "BOOL", type := (.object "com/example/tributary/tributary/language/Type"), accessFlags := 16409, slot := 2, constantValue := 0 }, { name := "$VALUES", type := (.array (.object "com/example/tributary/tributary/language/Type")), accessFlags := 4122, slot := 3, constantValue := 0 }]
  methods := #[]
  instanceTypes := #[(.object "java/lang/String"), .int, .int]
  staticTypes := #[(.object "com/example/tributary/tributary/language/Type"), (.object "com/example/tributary/tributary/language/Type"), (.object "com/example/tributary/tributary/language/Type"), (.array (.object "com/example/tributary/tributary/language/Type"))]
  resolved := Array.replicate 71 none
  statics := some 0 }

def pool12 : Array CpInfo := pool [(1, .class_ 2), (0, u "java/lang/Math"), (1, .class_ 6), (1, u "java/lang/Object"), (0, u "<init>"), (0, u "()V"), (89, .class_ 100), (1, u "java/lang/Math$RandomNumberGeneratorHolder"), (71, u "negativeZeroFloatBits"), (0, u "J"), (2, u "negativeZeroDoubleBits"), (21, u "max"), (2, u "min"), (43, u "$assertionsDisabled"), (0, u "Z"), (88, u "(II)I"), (2, u "twoToTheDoubleScaleDown"), (0, u "D"), (4, u "twoToTheDoubleScaleUp"), (9, u "E"), (3, u "PI"), (2, u "TAU"), (2, u "DEGREES_TO_RADIANS"), (0, u "RADIANS_TO_DEGREES")] 94

def k12m0 : Method := { name := "<init>", desc := "()V", sig := { parameters := [], returnType := none }, accessFlags := 2, code := none }
def k12c1 : Code := { maxStack := 2, maxLocals := 2, code := jdk_29_method_65_code, exceptionTable := #[], attributes := #[] }
def k12m1 : Method := { name := "max", desc := "(II)I", sig := { parameters := [.int, .int], returnType := some .int }, accessFlags := 9, code := some k12c1 }
def k12c2 : Code := { maxStack := 2, maxLocals := 2, code := jdk_29_method_69_code, exceptionTable := #[], attributes := #[] }
def k12m2 : Method := { name := "min", desc := "(II)I", sig := { parameters := [.int, .int], returnType := some .int }, accessFlags := 9, code := some k12c2 }
/-- java/lang/Math -/
def k12 : Class := { plain "java/lang/Math" (some 0) with
  accessFlags := 49
  interfaces := #[]
  cf := some (fileOf pool12 1 #[.nestMembers #[98]] #[{ accessFlags := 2, nameIndex := 7, descriptorIndex := 8, attributes := #[] }, { accessFlags := 9, nameIndex := 198, descriptorIndex := 335, attributes := #[] }, { accessFlags := 9, nameIndex := 201, descriptorIndex := 335, attributes := #[] }] 49 4 #[] #[{ accessFlags := 25, nameIndex := 354, descriptorIndex := 339, attributes := #[] }, { accessFlags := 25, nameIndex := 358, descriptorIndex := 339, attributes := #[] }, { accessFlags := 25, nameIndex := 361, descriptorIndex := 339, attributes := #[] }, { accessFlags := 26, nameIndex := 364, descriptorIndex := 339, attributes := #[] }, { accessFlags := 26, nameIndex := 365, descriptorIndex := 339, attributes := #[] }, { accessFlags := 26, nameIndex := 172, descriptorIndex := 173, attributes := #[] }, { accessFlags := 26, nameIndex := 176, descriptorIndex := 173, attributes := #[] }, { accessFlags := 8, nameIndex := 344, descriptorIndex := 339, attributes := #[] }, { accessFlags := 8, nameIndex := 338, descriptorIndex := 339, attributes := #[] }, { accessFlags := 4120, nameIndex := 245, descriptorIndex := 246, attributes := #[] }])
  fields := #[{ name := "E", type := .double, accessFlags := 25, slot := 0, constantValue := 0 }, { name := "PI", type := .double, accessFlags := 25, slot := 1, constantValue := 0 }, { name := "TAU", type := .double, accessFlags := 25, slot := 2, constantValue := 0 }, { name := "DEGREES_TO_RADIANS", type := .double, accessFlags := 26, slot := 3, constantValue := 0 }, { name := "RADIANS_TO_DEGREES", type := .double, accessFlags := 26, slot := 4, constantValue := 0 }, { name := "negativeZeroFloatBits", type := .long, accessFlags := 26, slot := 5, constantValue := 0 }, { name := "negativeZeroDoubleBits", type := .long, accessFlags := 26, slot := 6, constantValue := 0 }, { name := "twoToTheDoubleScaleUp", type := .double, accessFlags := 8, slot := 7, constantValue := 0 }, { name := "twoToTheDoubleScaleDown", type := .double, accessFlags := 8, slot := 8, constantValue := 0 }, { name := "$assertionsDisabled", type := .boolean, accessFlags := 4120, slot := 9, constantValue := 0 }]
  methods := #[k12m0, k12m1, k12m2]
  instanceTypes := #[]
  staticTypes := #[.double, .double, .double, .double, .double, .long, .long, .double, .double, .boolean]
  resolved := Array.replicate 460 none
  statics := none }

def pool13 : Array CpInfo := pool [(8, .class_ 10), (1, u "java/lang/Iterable"), (24, .class_ 36), (0, u "java/lang/Object")] 25

/-- java/lang/Iterable -/
def k13 : Class := { plain "java/lang/Iterable" (some 0) with
  accessFlags := 1537
  interfaces := #[]
  cf := some (fileOf pool13 8 #[] #[] 1537 35 #[] #[])
  fields := #[]
  methods := #[]
  instanceTypes := #[]
  staticTypes := #[]
  resolved := Array.replicate 62 none
  statics := none }

def pool14 : Array CpInfo := pool [(10, .class_ 12), (1, u "java/util/Collection"), (47, .class_ 61), (0, u "java/lang/Object"), (0, .class_ 63), (0, u "java/lang/Iterable")] 51

/-- java/util/Collection -/
def k14 : Class := { plain "java/util/Collection" (some 0) with
  accessFlags := 1537
  interfaces := #[13]
  cf := some (fileOf pool14 10 #[] #[] 1537 60 #[62] #[])
  fields := #[]
  methods := #[]
  instanceTypes := #[]
  staticTypes := #[]
  resolved := Array.replicate 115 none
  statics := none }

def pool15 : Array CpInfo := pool [(1, .methodref 2 3), (0, .class_ 4), (0, .nameAndType 5 6), (0, u "java/lang/Object"), (0, u "<init>"), (0, u "()V"), (1, .class_ 10), (1, u "java/util/AbstractCollection"), (66, .class_ 78), (0, u "java/util/Collection")] 81

def k15c0 : Code := { maxStack := 1, maxLocals := 1, code := jdk_22_method_1_code, exceptionTable := #[], attributes := #[] }
def k15m0 : Method := { name := "<init>", desc := "()V", sig := { parameters := [], returnType := none }, accessFlags := 4, code := some k15c0 }
/-- java/util/AbstractCollection -/
def k15 : Class := { plain "java/util/AbstractCollection" (some 0) with
  accessFlags := 1057
  interfaces := #[14]
  cf := some (fileOf pool15 8 #[] #[{ accessFlags := 4, nameIndex := 5, descriptorIndex := 6, attributes := #[] }] 1057 2 #[77] #[])
  fields := #[]
  methods := #[k15m0]
  instanceTypes := #[]
  staticTypes := #[]
  resolved := Array.replicate 160 none
  statics := none }

def pool16 : Array CpInfo := pool [(8, .class_ 10), (1, u "java/util/SequencedCollection"), (15, .class_ 27), (0, u "java/lang/Object"), (0, .class_ 29), (0, u "java/util/Collection")] 27

/-- java/util/SequencedCollection -/
def k16 : Class := { plain "java/util/SequencedCollection" (some 0) with
  accessFlags := 1537
  interfaces := #[14]
  cf := some (fileOf pool16 8 #[] #[] 1537 26 #[28] #[])
  fields := #[]
  methods := #[]
  instanceTypes := #[]
  staticTypes := #[]
  resolved := Array.replicate 57 none
  statics := none }

def pool17 : Array CpInfo := pool [(8, .class_ 10), (1, u "java/util/List"), (64, u "get"), (0, u "(I)Ljava/lang/Object;"), (2, u "size"), (0, u "()I"), (22, .class_ 104), (0, u "java/lang/Object"), (15, .class_ 121), (0, u "java/util/SequencedCollection")] 129

def k17m0 : Method := { name := "size", desc := "()I", sig := { parameters := [], returnType := some .int }, accessFlags := 1025, code := none }
def k17m1 : Method := { name := "get", desc := "(I)Ljava/lang/Object;", sig := { parameters := [.int], returnType := some (.object "java/lang/Object") }, accessFlags := 1025, code := none }
/-- java/util/List -/
def k17 : Class := { plain "java/util/List" (some 0) with
  accessFlags := 1537
  interfaces := #[16]
  cf := some (fileOf pool17 8 #[] #[{ accessFlags := 1025, nameIndex := 79, descriptorIndex := 80, attributes := #[] }, { accessFlags := 1025, nameIndex := 75, descriptorIndex := 76, attributes := #[] }] 1537 103 #[120] #[])
  fields := #[]
  methods := #[k17m0, k17m1]
  instanceTypes := #[]
  staticTypes := #[]
  resolved := Array.replicate 251 none
  statics := none }

def pool18 : Array CpInfo := pool [(1, .methodref 2 3), (0, .class_ 4), (0, .nameAndType 5 6), (0, u "java/util/AbstractCollection"), (0, u "<init>"), (0, u "()V"), (0, .fieldref 8 9), (0, .class_ 10), (0, .nameAndType 11 12), (0, u "java/util/AbstractList"), (0, u "modCount"), (0, u "I"), (64, .class_ 78), (0, u "java/util/AbstractList$Itr"), (3, .class_ 83), (0, u "java/util/AbstractList$ListItr"), (9, .class_ 94), (0, u "java/util/AbstractList$RandomAccessSubList"), (3, .class_ 99), (0, u "java/util/AbstractList$SubList"), (33, .class_ 134), (0, u "java/util/List"), (73, .class_ 209), (0, u "java/util/AbstractList$SubList$1"), (0, .class_ 211), (0, u "java/util/AbstractList$RandomAccessSpliterator")] 6

def k18c0 : Code := { maxStack := 2, maxLocals := 1, code := jdk_39_method_1_code, exceptionTable := #[], attributes := #[] }
def k18m0 : Method := { name := "<init>", desc := "()V", sig := { parameters := [], returnType := none }, accessFlags := 4, code := some k18c0 }
/-- java/util/AbstractList -/
def k18 : Class := { plain "java/util/AbstractList" (some 15) with
  accessFlags := 1057
  interfaces := #[17]
  cf := some (fileOf pool18 8 #[.nestMembers #[93, 98, 208, 210, 82, 77]] #[{ accessFlags := 4, nameIndex := 5, descriptorIndex := 6, attributes := #[] }] 1057 2 #[133] #[{ accessFlags := 132, nameIndex := 11, descriptorIndex := 12, attributes := #[] }])
  fields := #[{ name := "modCount", type := .int, accessFlags := 132, slot := 0, constantValue := 0 }]
  methods := #[k18m0]
  instanceTypes := #[.int]
  staticTypes := #[]
  resolved := Array.replicate 218 none
  statics := none }

def pool19 : Array CpInfo := pool [(1, .class_ 2), (0, u "java/util/RandomAccess"), (0, .class_ 4), (0, u "java/lang/Object")] 2

/-- java/util/RandomAccess -/
def k19 : Class := { plain "java/util/RandomAccess" (some 0) with
  accessFlags := 1537
  interfaces := #[]
  cf := some (fileOf pool19 1 #[] #[] 1537 3 #[] #[])
  fields := #[]
  methods := #[]
  instanceTypes := #[]
  staticTypes := #[]
  resolved := Array.replicate 7 none
  statics := none }

def pool20 : Array CpInfo := pool [(1, .class_ 2), (0, u "java/lang/Cloneable"), (0, .class_ 4), (0, u "java/lang/Object")] 2

/-- java/lang/Cloneable -/
def k20 : Class := { plain "java/lang/Cloneable" (some 0) with
  accessFlags := 1537
  interfaces := #[]
  cf := some (fileOf pool20 1 #[] #[] 1537 3 #[] #[])
  fields := #[]
  methods := #[]
  instanceTypes := #[]
  staticTypes := #[]
  resolved := Array.replicate 7 none
  statics := none }

def pool21 : Array CpInfo := pool [(1, .methodref 2 3), (0, .class_ 4), (0, .nameAndType 5 6), (0, u "java/util/AbstractList"), (0, u "<init>"), (0, u "()V"), (0, .class_ 8), (0, u "java/lang/Object"), (0, .fieldref 10 11), (0, .class_ 12), (0, .nameAndType 13 14), (0, u "java/util/ArrayList"), (0, u "elementData"), (0, u "[Ljava/lang/Object;"), (2, u "EMPTY_ELEMENTDATA"), (21, .fieldref 10 40), (0, .nameAndType 41 14), (0, u "DEFAULTCAPACITY_EMPTY_ELEMENTDATA"), (5, u "()[Ljava/lang/Object;"), (0, .fieldref 10 49), (0, .nameAndType 50 51), (0, u "size"), (0, u "I"), (11, .fieldref 10 64), (0, .nameAndType 65 51), (0, u "modCount"), (3, .methodref 10 70), (0, .nameAndType 71 72), (0, u "grow"), (0, u "(I)[Ljava/lang/Object;"), (6, .methodref 80 81), (0, .class_ 82), (0, .nameAndType 83 84), (0, u "java/lang/Math"), (0, u "max"), (0, u "(II)I"), (11, u "(Ljava/lang/Object;)Z"), (21, .methodref 119 120), (0, .class_ 121), (0, .nameAndType 122 84), (0, u "java/util/Objects"), (0, u "checkIndex"), (0, .methodref 10 124), (0, .nameAndType 13 125), (0, u "(I)Ljava/lang/Object;"), (3, .methodref 10 130), (0, .nameAndType 71 47), (0, .methodref 10 132), (0, .nameAndType 133 134), (0, u "add"), (0, u "(Ljava/lang/Object;[Ljava/lang/Object;I)V"), (13, .class_ 149), (0, u "java/util/List"), (36, u "()I"), (75, .class_ 263), (0, u "java/util/ArrayList$ListItr"), (3, .class_ 268), (0, u "java/util/ArrayList$Itr"), (7, .class_ 277), (0, u "java/util/ArrayList$SubList"), (12, .class_ 291), (0, u "java/util/ArrayList$ArrayListSpliterator"), (37, .class_ 330), (0, u "java/util/RandomAccess"), (0, .class_ 332), (0, u "java/lang/Cloneable"), (0, .class_ 334), (0, u "java/io/Serializable"), (0, u "serialVersionUID"), (0, u "J"), (3, u "DEFAULT_CAPACITY"), (40, u "get"), (118, .class_ 501), (0, u "java/util/ArrayList$SubList$2"), (0, .class_ 503), (0, u "java/util/ArrayList$SubList$1")] 5

def k21c0 : Code := { maxStack := 2, maxLocals := 1, code := jdk_38_method_2_code, exceptionTable := #[], attributes := #[] }
def k21m0 : Method := { name := "<init>", desc := "()V", sig := { parameters := [], returnType := none }, accessFlags := 1, code := some k21c0 }
def k21c1 : Code := { maxStack := 4, maxLocals := 4, code := jdk_38_method_6_code, exceptionTable := #[], attributes := #[] }
def k21m1 : Method := { name := "grow", desc := "(I)[Ljava/lang/Object;", sig := { parameters := [.int], returnType := some (.array (.object "java/lang/Object")) }, accessFlags := 2, code := some k21c1 }
def k21c2 : Code := { maxStack := 3, maxLocals := 1, code := jdk_38_method_7_code, exceptionTable := #[], attributes := #[] }
def k21m2 : Method := { name := "grow", desc := "()[Ljava/lang/Object;", sig := { parameters := [], returnType := some (.array (.object "java/lang/Object")) }, accessFlags := 2, code := some k21c2 }
def k21c3 : Code := { maxStack := 1, maxLocals := 1, code := jdk_38_method_8_code, exceptionTable := #[], attributes := #[] }
def k21m3 : Method := { name := "size", desc := "()I", sig := { parameters := [], returnType := some .int }, accessFlags := 1, code := some k21c3 }
def k21c4 : Code := { maxStack := 2, maxLocals := 2, code := jdk_38_method_18_code, exceptionTable := #[], attributes := #[] }
def k21m4 : Method := { name := "elementData", desc := "(I)Ljava/lang/Object;", sig := { parameters := [.int], returnType := some (.object "java/lang/Object") }, accessFlags := 0, code := some k21c4 }
def k21c5 : Code := { maxStack := 2, maxLocals := 2, code := jdk_38_method_20_code, exceptionTable := #[], attributes := #[] }
def k21m5 : Method := { name := "get", desc := "(I)Ljava/lang/Object;", sig := { parameters := [.int], returnType := some (.object "java/lang/Object") }, accessFlags := 1, code := some k21c5 }
def k21c6 : Code := { maxStack := 3, maxLocals := 4, code := jdk_38_method_24_code, exceptionTable := #[], attributes := #[] }
def k21m6 : Method := { name := "add", desc := "(Ljava/lang/Object;[Ljava/lang/Object;I)V", sig := { parameters := [(.object "java/lang/Object"), (.array (.object "java/lang/Object")), .int], returnType := none }, accessFlags := 2, code := some k21c6 }
def k21c7 : Code := { maxStack := 4, maxLocals := 2, code := jdk_38_method_25_code, exceptionTable := #[], attributes := #[] }
def k21m7 : Method := { name := "add", desc := "(Ljava/lang/Object;)Z", sig := { parameters := [(.object "java/lang/Object")], returnType := some .boolean }, accessFlags := 1, code := some k21c7 }
/-- java/util/ArrayList -/
def k21 : Class := { plain "java/util/ArrayList" (some 18) with
  accessFlags := 33
  interfaces := #[17, 19, 20, 4]
  cf := some (fileOf pool21 10 #[.nestMembers #[290, 276, 500, 502, 262, 267]] #[{ accessFlags := 1, nameIndex := 5, descriptorIndex := 6, attributes := #[] }, { accessFlags := 2, nameIndex := 71, descriptorIndex := 72, attributes := #[] }, { accessFlags := 2, nameIndex := 71, descriptorIndex := 47, attributes := #[] }, { accessFlags := 1, nameIndex := 50, descriptorIndex := 186, attributes := #[] }, { accessFlags := 0, nameIndex := 13, descriptorIndex := 125, attributes := #[] }, { accessFlags := 1, nameIndex := 381, descriptorIndex := 125, attributes := #[] }, { accessFlags := 2, nameIndex := 133, descriptorIndex := 134, attributes := #[] }, { accessFlags := 1, nameIndex := 133, descriptorIndex := 96, attributes := #[] }] 33 2 #[148, 329, 331, 333] #[{ accessFlags := 26, nameIndex := 335, descriptorIndex := 336, attributes := #[] }, { accessFlags := 26, nameIndex := 340, descriptorIndex := 51, attributes := #[] }, { accessFlags := 26, nameIndex := 17, descriptorIndex := 14, attributes := #[] }, { accessFlags := 26, nameIndex := 41, descriptorIndex := 14, attributes := #[] }, { accessFlags := 128, nameIndex := 13, descriptorIndex := 14, attributes := #[] }, { accessFlags := 2, nameIndex := 50, descriptorIndex := 51, attributes := #[] }])
  fields := #[{ name := "serialVersionUID", type := .long, accessFlags := 26, slot := 0, constantValue := 0 }, { name := "DEFAULT_CAPACITY", type := .int, accessFlags := 26, slot := 1, constantValue := 0 }, { name := "EMPTY_ELEMENTDATA", type := (.array (.object "java/lang/Object")), accessFlags := 26, slot := 2, constantValue := 0 }, { name := "DEFAULTCAPACITY_EMPTY_ELEMENTDATA", type := (.array (.object "java/lang/Object")), accessFlags := 26, slot := 3, constantValue := 0 }, { name := "elementData", type := (.array (.object "java/lang/Object")), accessFlags := 128, slot := 1, constantValue := 0 }, { name := "size", type := .int, accessFlags := 2, slot := 2, constantValue := 0 }]
  methods := #[k21m0, k21m1, k21m2, k21m3, k21m4, k21m5, k21m6, k21m7]
  instanceTypes := #[.int, (.array (.object "java/lang/Object")), .int]
  staticTypes := #[.long, .int, (.array (.object "java/lang/Object")), (.array (.object "java/lang/Object"))]
  resolved := Array.replicate 509 none
  statics := some 1 }

def pool22 : Array CpInfo := pool [(1, .methodref 2 3), (0, .class_ 4), (0, .nameAndType 5 6), (0, u "java/lang/Object"), (0, u "<init>"), (0, u "()V"), (0, .interfaceMethodref 8 9), (0, .class_ 10), (0, .nameAndType 11 12), (0, u "java/util/List"), (0, u "size"), (0, u "()I"), (0, .fieldref 14 15), (0, .class_ 16), (0, .nameAndType 17 18), (0, u "com/example/tributary/tributary/semantics/Ranges"), (0, u "low"), (0, u "[I"), (0, .fieldref 14 20), (0, .nameAndType 21 18), (0, u "high"), (0, .interfaceMethodref 8 23), (0, .nameAndType 24 25), (0, u "get"), (0, u "(I)Ljava/lang/Object;"), (0, .class_ 27), (0, u "com/example/tributary/tributary/semantics/Variable"), (0, .methodref 26 29), (0, .nameAndType 17 12), (0, .methodref 26 31), (0, .nameAndType 21 12), (10, .long 9223372036854775807), (3, u "moves"), (0, u "J"), (39, u "ROUNDS"), (0, u "I"), (2, u "(Ljava/util/List;)V"), (8, u "valuations"), (0, u "(I)J")] 6

def k22c0 : Code := { maxStack := 4, maxLocals := 3, code := prog_175_method_1_code, exceptionTable := #[], attributes := #[] }
def k22m0 : Method := { name := "<init>", desc := "(Ljava/util/List;)V", sig := { parameters := [(.object "java/util/List")], returnType := none }, accessFlags := 0, code := some k22c0 }
def k22c1 : Code := { maxStack := 6, maxLocals := 7, code := prog_175_method_7_code, exceptionTable := #[], attributes := #[] }
def k22m1 : Method := { name := "valuations", desc := "(I)J", sig := { parameters := [.int], returnType := some .long }, accessFlags := 0, code := some k22c1 }
/-- com/example/tributary/tributary/semantics/Ranges -/
def k22 : Class := { plain "com/example/tributary/tributary/semantics/Ranges" (some 0) with
  accessFlags := 48
  interfaces := #[]
  cf := some (fileOf pool22 14 #[] #[{ accessFlags := 0, nameIndex := 5, descriptorIndex := 91, attributes := #[] }, { accessFlags := 0, nameIndex := 100, descriptorIndex := 101, attributes := #[] }] 48 2 #[] #[{ accessFlags := 26, nameIndex := 87, descriptorIndex := 88, attributes := #[] }, { accessFlags := 18, nameIndex := 17, descriptorIndex := 18, attributes := #[] }, { accessFlags := 18, nameIndex := 21, descriptorIndex := 18, attributes := #[] }, { accessFlags := 2, nameIndex := 46, descriptorIndex := 47, attributes := #[] }])
  fields := #[{ name := "ROUNDS", type := .int, accessFlags := 26, slot := 0, constantValue := 0 }, { name := "low", type := (.array .int), accessFlags := 18, slot := 0, constantValue := 0 }, { name := "high", type := (.array .int), accessFlags := 18, slot := 1, constantValue := 0 }, { name := "moves", type := .long, accessFlags := 2, slot := 2, constantValue := 0 }]
  methods := #[k22m0, k22m1]
  instanceTypes := #[(.array .int), (.array .int), .long]
  staticTypes := #[.int]
  resolved := Array.replicate 108 none
  statics := none }

def pool23 : Array CpInfo := pool [(2, .class_ 4), (1, u "java/lang/Object"), (0, u "<init>"), (0, u "()V"), (35, .class_ 44), (1, u "java/util/Objects"), (60, .methodref 106 107), (0, .class_ 108), (0, .nameAndType 109 110), (0, u "jdk/internal/util/Preconditions"), (0, u "checkIndex"), (0, u "(IILjava/util/function/BiFunction;)I"), (60, u "(II)I")] 12

def k23m0 : Method := { name := "<init>", desc := "()V", sig := { parameters := [], returnType := none }, accessFlags := 2, code := none }
def k23c1 : Code := { maxStack := 3, maxLocals := 2, code := jdk_31_method_17_code, exceptionTable := #[], attributes := #[] }
def k23m1 : Method := { name := "checkIndex", desc := "(II)I", sig := { parameters := [.int, .int], returnType := some .int }, accessFlags := 9, code := some k23c1 }
/-- java/util/Objects -/
def k23 : Class := { plain "java/util/Objects" (some 0) with
  accessFlags := 49
  interfaces := #[]
  cf := some (fileOf pool23 42 #[] #[{ accessFlags := 2, nameIndex := 5, descriptorIndex := 6, attributes := #[] }, { accessFlags := 9, nameIndex := 109, descriptorIndex := 171, attributes := #[] }] 49 2 #[] #[])
  fields := #[]
  methods := #[k23m0, k23m1]
  instanceTypes := #[]
  staticTypes := #[]
  resolved := Array.replicate 184 none
  statics := none }

def pool24 : Array CpInfo := pool [(2, .class_ 4), (1, u "java/lang/Object"), (0, u "<init>"), (0, u "()V"), (17, .class_ 26), (1, u "jdk/internal/util/Preconditions"), (6, u "checkIndex"), (21, .class_ 56), (0, u "jdk/internal/util/Preconditions$4"), (57, .class_ 115), (0, u "jdk/internal/util/Preconditions$1"), (7, u "SIOOBE_FORMATTER"), (0, u "Ljava/util/function/BiFunction;"), (0, .class_ 126), (0, u "jdk/internal/util/Preconditions$2"), (3, u "AIOOBE_FORMATTER"), (0, .class_ 132), (0, u "jdk/internal/util/Preconditions$3"), (3, u "IOOBE_FORMATTER"), (41, u "(IILjava/util/function/BiFunction;)I")] 15

def k24m0 : Method := { name := "<init>", desc := "()V", sig := { parameters := [], returnType := none }, accessFlags := 1, code := none }
def k24c1 : Code := { maxStack := 3, maxLocals := 3, code := jdk_41_method_11_code, exceptionTable := #[], attributes := #[] }
def k24m1 : Method := { name := "checkIndex", desc := "(IILjava/util/function/BiFunction;)I", sig := { parameters := [.int, .int, (.object "java/util/function/BiFunction")], returnType := some .int }, accessFlags := 9, code := some k24c1 }
/-- jdk/internal/util/Preconditions -/
def k24 : Class := { plain "jdk/internal/util/Preconditions" (some 0) with
  accessFlags := 33
  interfaces := #[]
  cf := some (fileOf pool24 24 #[.nestMembers #[55, 131, 125, 114]] #[{ accessFlags := 1, nameIndex := 5, descriptorIndex := 6, attributes := #[] }, { accessFlags := 9, nameIndex := 33, descriptorIndex := 178, attributes := #[] }] 33 2 #[] #[{ accessFlags := 25, nameIndex := 123, descriptorIndex := 124, attributes := #[] }, { accessFlags := 25, nameIndex := 130, descriptorIndex := 124, attributes := #[] }, { accessFlags := 25, nameIndex := 136, descriptorIndex := 124, attributes := #[] }])
  fields := #[{ name := "SIOOBE_FORMATTER", type := (.object "java/util/function/BiFunction"), accessFlags := 25, slot := 0, constantValue := 0 }, { name := "AIOOBE_FORMATTER", type := (.object "java/util/function/BiFunction"), accessFlags := 25, slot := 1, constantValue := 0 }, { name := "IOOBE_FORMATTER", type := (.object "java/util/function/BiFunction"), accessFlags := 25, slot := 2, constantValue := 0 }]
  methods := #[k24m0, k24m1]
  instanceTypes := #[]
  staticTypes := #[(.object "java/util/function/BiFunction"), (.object "java/util/function/BiFunction"), (.object "java/util/function/BiFunction")]
  resolved := Array.replicate 194 none
  statics := none }

/-- the primitive byte -/
def k25 : Class := { plain "byte" none with kind := .primitive 'B', accessFlags := 0x411 }
/-- [B -/
def k26 : Class := { plain "[B" (some 0) with kind := .array 25 .byte, interfaces := #[20, 4], accessFlags := 1041 }

/-- the primitive int -/
def k27 : Class := { plain "int" none with kind := .primitive 'I', accessFlags := 0x411 }
/-- [I -/
def k28 : Class := { plain "[I" (some 0) with kind := .array 27 .int, interfaces := #[20, 4], accessFlags := 1041 }

/-- [Ljava/lang/Object; -/
def k29 : Class := { plain "[Ljava/lang/Object;" (some 0) with kind := .array 0 (.object "java/lang/Object"), interfaces := #[20, 4], accessFlags := 1041 }

def heap : Heap := #[{ cls := 11, slots := #[.ref 2, .null, .null, .null], vm := .statics 11 },
  { cls := 21, slots := #[.long 0, .int 0, .ref 3, .ref 4], vm := .statics 21 },
  { cls := 11, slots := #[.null, .int 0, .int 0], vm := .none },
  { cls := 29, slots := #[], vm := .none },
  { cls := 29, slots := #[], vm := .none }]
def classes : Array Class := #[k0, k1, k2, k3, k4, k5, k6, k7, k8, k9, k10, k11, k12, k13, k14, k15, k16, k17, k18, k19, k20, k21, k22, k23, k24, k25, k26, k27, k28, k29]
def interned : List (Array UInt16 × Addr) := []
def slotsUsed : Nat := 11
def theMethod : MethodId := ⟨1, 1⟩
def args0 : Array Value := #[.int 6, .long 7, .long 9, .long 11]
def aboutOver (below : List Frame) : State where
  vm := { classes := classes, interned := interned.toArray }
  heap := heap
  slotsUsed := slotsUsed
  threads := #[{ frames := .invoking theMethod args0 :: below }]
def below0 : List Frame := [.native { method := ⟨0, 0⟩, args := #[] }]
def about1 : State := aboutOver below0
def p0 : Program := .bare "" "" ""
def e0 : Env := launch0.env 0 0 0
theorem w_frames : about1.frames = Frame.invoking theMethod args0 :: below0 := rfl
set_option maxRecDepth 65536 in
theorem w_args : argsFit about1.vm theMethod args0 = true := by decide +kernel
set_option maxRecDepth 65536 in
theorem w_heap : heapFits about1 = true := by decide +kernel
set_option maxRecDepth 65536 in
theorem w_runnable : about1.curStatus? = some .runnable := by decide +kernel
set_option maxRecDepth 65536 in
theorem w_alone : about1.alone = true := by decide +kernel
set_option maxRecDepth 65536 in
theorem w_named : about1.methodNamed? x = some theMethod := by decide +kernel
set_option maxRecDepth 65536 in
theorem w_hears : about1.hears theMethod below0 = true := by decide +kernel
set_option maxRecDepth 65536 in
theorem w_ripe : about1.ripe theMethod args0 below0 = true := by decide +kernel
theorem w_running : about1.status = .running := rfl
set_option maxRecDepth 65536 in
theorem w_room : about1.hasRoom e0.platform room_1 = true :=
  launch0.hasRoom_least _ room_1 (by decide +kernel) (by decide +kernel) (by decide +kernel) (by decide +kernel) (by decide +kernel) (by decide +kernel)
theorem allAtoms_all (ts : List Jvm.Cond) (a : Array Jvm.Value) (st : Jvm.State) : (allAtoms ts).before a st = ts.all (fun c => c.before a st) := by
  induction ts with
  | nil => rfl
  | cons c t ih =>
    show (Jvm.Cond.and c (allAtoms t)).before a st = _
    rw [Jvm.Cond.before_and, ih, List.all_cons]
def words1 : List Jvm.Cond := Jvm.Cond.code x code maxLocals ret :: tables_1
/-- a 'code' word, met by the world's own term for the bytes: nothing is compared byte by byte -/
theorem code_word {y : MethodName} {bytes : ByteArray} {mx : Nat} {rt : Option FieldType} {a : Array Value} {s : State} {m : MethodId} {meth : Method} {c : Code} (h1 : s.methodNamed? y = some m) (h2 : s.vm.method? m = some meth) (h3 : meth.code = some c) (h4 : c.code = bytes)
    (h5 : (c.maxLocals == mx && c.exceptionTable.isEmpty && decide (c.maxStack ≤ mostOperands) && decide (meth.sig.returnType = rt) && !meth.locks && decide (parseMethodDescriptor y.desc = some meth.sig)) = true) : (Jvm.Cond.code y bytes mx rt).before a s = true := by
  simp only [Bool.and_eq_true, beq_iff_eq, Bool.not_eq_true', decide_eq_true_eq] at h5
  obtain ⟨⟨⟨⟨⟨g1, g2⟩, g3⟩, g4⟩, g5⟩, g6⟩ := h5
  simp [Cond.before, Cond.holds, Cond.value, h1, h2, h3, h4, g1, g2, g3, g4, g5, g6]
def isCode : Jvm.Cond → Bool
  | .code _ _ _ _ => true
  | _ => false
theorem all_split {L : List Jvm.Cond} {P : Jvm.Cond → Bool} (h1 : L.all (fun c => isCode c || P c) = true) (h2 : ∀ c ∈ L.filter isCode, P c = true) : L.all P = true := by
  refine List.all_eq_true.mpr fun c hc => ?_
  have h := List.all_eq_true.mp h1 c hc
  rcases Bool.eq_false_or_eq_true (isCode c) with hi | hi
  · exact h2 c (List.mem_filter.mpr ⟨hc, hi⟩)
  · simpa [hi] using h
set_option maxRecDepth 65536 in
theorem w_c0 : (Jvm.Cond.code x code maxLocals ret).before args0 about1 = true := code_word (m := ⟨1, 1⟩) (meth := k1m1) (c := k1c1) (by decide +kernel) rfl rfl rfl (by decide +kernel)
set_option maxRecDepth 65536 in
theorem w_c1 : (Jvm.Cond.code ({ cls := "com/example/tributary/tributary/semantics/RangesValuationsPinLaw", name := "variable", desc := "(J)Lcom/example/tributary/tributary/semantics/Variable;" } : Jvm.MethodName) method_3_code (2 : Nat) (Option.some (Jvm.ClassFile.FieldType.object "com/example/tributary/tributary/semantics/Variable"))).before args0 about1 = true := code_word (m := ⟨1, 2⟩) (meth := k1m2) (c := k1c2) (by decide +kernel) rfl rfl rfl (by decide +kernel)
set_option maxRecDepth 65536 in
theorem w_c2 : (Jvm.Cond.code ({ cls := "com/example/tributary/tributary/semantics/RangesValuationsPinLaw", name := "lowOf", desc := "(J)I" } : Jvm.MethodName) method_4_code (2 : Nat) (Option.some Jvm.ClassFile.FieldType.int)).before args0 about1 = true := code_word (m := ⟨1, 3⟩) (meth := k1m3) (c := k1c3) (by decide +kernel) rfl rfl rfl (by decide +kernel)
set_option maxRecDepth 65536 in
theorem w_c3 : (Jvm.Cond.code ({ cls := "java/lang/Math", name := "min", desc := "(II)I" } : Jvm.MethodName) jdk_29_method_69_code (2 : Nat) (Option.some Jvm.ClassFile.FieldType.int)).before args0 about1 = true := code_word (m := ⟨12, 2⟩) (meth := k12m2) (c := k12c2) (by decide +kernel) rfl rfl rfl (by decide +kernel)
set_option maxRecDepth 65536 in
theorem w_c4 : (Jvm.Cond.code ({ cls := "com/example/tributary/tributary/semantics/RangesValuationsPinLaw", name := "highOf", desc := "(J)I" } : Jvm.MethodName) method_5_code (2 : Nat) (Option.some Jvm.ClassFile.FieldType.int)).before args0 about1 = true := code_word (m := ⟨1, 4⟩) (meth := k1m4) (c := k1c4) (by decide +kernel) rfl rfl rfl (by decide +kernel)
set_option maxRecDepth 65536 in
theorem w_c5 : (Jvm.Cond.code ({ cls := "java/lang/Math", name := "max", desc := "(II)I" } : Jvm.MethodName) jdk_29_method_65_code (2 : Nat) (Option.some Jvm.ClassFile.FieldType.int)).before args0 about1 = true := code_word (m := ⟨12, 1⟩) (meth := k12m1) (c := k12c1) (by decide +kernel) rfl rfl rfl (by decide +kernel)
set_option maxRecDepth 65536 in
theorem w_c6 : (Jvm.Cond.code ({ cls := "com/example/tributary/tributary/semantics/Variable", name := "<init>", desc := "(Ljava/lang/String;Lcom/example/tributary/tributary/language/Type;III)V" } : Jvm.MethodName) prog_221_method_1_code (6 : Nat) (Option.none : Option Jvm.ClassFile.FieldType)).before args0 about1 = true := code_word (m := ⟨3, 0⟩) (meth := k3m0) (c := k3c0) (by decide +kernel) rfl rfl rfl (by decide +kernel)
set_option maxRecDepth 65536 in
theorem w_c7 : (Jvm.Cond.code ({ cls := "java/lang/Record", name := "<init>", desc := "()V" } : Jvm.MethodName) jdk_30_method_1_code (1 : Nat) (Option.none : Option Jvm.ClassFile.FieldType)).before args0 about1 = true := code_word (m := ⟨2, 0⟩) (meth := k2m0) (c := k2c0) (by decide +kernel) rfl rfl rfl (by decide +kernel)
set_option maxRecDepth 65536 in
theorem w_c8 : (Jvm.Cond.code ({ cls := "java/lang/Object", name := "<init>", desc := "()V" } : Jvm.MethodName) object_method_1_code (1 : Nat) (Option.none : Option Jvm.ClassFile.FieldType)).before args0 about1 = true := code_word (m := ⟨0, 0⟩) (meth := k0m0) (c := k0c0) (by decide +kernel) rfl rfl rfl (by decide +kernel)
set_option maxRecDepth 65536 in
theorem w_c9 : (Jvm.Cond.code ({ cls := "java/util/ArrayList", name := "<init>", desc := "()V" } : Jvm.MethodName) jdk_38_method_2_code (1 : Nat) (Option.none : Option Jvm.ClassFile.FieldType)).before args0 about1 = true := code_word (m := ⟨21, 0⟩) (meth := k21m0) (c := k21c0) (by decide +kernel) rfl rfl rfl (by decide +kernel)
set_option maxRecDepth 65536 in
theorem w_c10 : (Jvm.Cond.code ({ cls := "java/util/AbstractList", name := "<init>", desc := "()V" } : Jvm.MethodName) jdk_39_method_1_code (1 : Nat) (Option.none : Option Jvm.ClassFile.FieldType)).before args0 about1 = true := code_word (m := ⟨18, 0⟩) (meth := k18m0) (c := k18c0) (by decide +kernel) rfl rfl rfl (by decide +kernel)
set_option maxRecDepth 65536 in
theorem w_c11 : (Jvm.Cond.code ({ cls := "java/util/AbstractCollection", name := "<init>", desc := "()V" } : Jvm.MethodName) jdk_22_method_1_code (1 : Nat) (Option.none : Option Jvm.ClassFile.FieldType)).before args0 about1 = true := code_word (m := ⟨15, 0⟩) (meth := k15m0) (c := k15c0) (by decide +kernel) rfl rfl rfl (by decide +kernel)
set_option maxRecDepth 65536 in
theorem w_c12 : (Jvm.Cond.code ({ cls := "com/example/tributary/tributary/semantics/Ranges", name := "<init>", desc := "(Ljava/util/List;)V" } : Jvm.MethodName) prog_175_method_1_code (3 : Nat) (Option.none : Option Jvm.ClassFile.FieldType)).before args0 about1 = true := code_word (m := ⟨22, 0⟩) (meth := k22m0) (c := k22c0) (by decide +kernel) rfl rfl rfl (by decide +kernel)
set_option maxRecDepth 65536 in
theorem w_c13 : (Jvm.Cond.code ({ cls := "java/util/ArrayList", name := "size", desc := "()I" } : Jvm.MethodName) jdk_38_method_8_code (1 : Nat) (Option.some Jvm.ClassFile.FieldType.int)).before args0 about1 = true := code_word (m := ⟨21, 3⟩) (meth := k21m3) (c := k21c3) (by decide +kernel) rfl rfl rfl (by decide +kernel)
set_option maxRecDepth 65536 in
theorem w_c14 : (Jvm.Cond.code ({ cls := "com/example/tributary/tributary/semantics/Ranges", name := "valuations", desc := "(I)J" } : Jvm.MethodName) prog_175_method_7_code (7 : Nat) (Option.some Jvm.ClassFile.FieldType.long)).before args0 about1 = true := code_word (m := ⟨22, 1⟩) (meth := k22m1) (c := k22c1) (by decide +kernel) rfl rfl rfl (by decide +kernel)
set_option maxRecDepth 65536 in
theorem w_c15 : (Jvm.Cond.code ({ cls := "com/example/tributary/tributary/semantics/RangesValuationsPinLaw", name := "factor", desc := "(JIII)J" } : Jvm.MethodName) method_6_code (5 : Nat) (Option.some Jvm.ClassFile.FieldType.long)).before args0 about1 = true := code_word (m := ⟨1, 5⟩) (meth := k1m5) (c := k1c5) (by decide +kernel) rfl rfl rfl (by decide +kernel)
set_option maxRecDepth 65536 in
theorem w_c16 : (Jvm.Cond.code ({ cls := "com/example/tributary/tributary/semantics/RangesValuationsPinLaw", name := "saturated", desc := "(JJJ)J" } : Jvm.MethodName) method_7_code (8 : Nat) (Option.some Jvm.ClassFile.FieldType.long)).before args0 about1 = true := code_word (m := ⟨1, 6⟩) (meth := k1m6) (c := k1c6) (by decide +kernel) rfl rfl rfl (by decide +kernel)
set_option maxRecDepth 65536 in
theorem w_c17 : (Jvm.Cond.code ({ cls := "java/util/ArrayList", name := "add", desc := "(Ljava/lang/Object;)Z" } : Jvm.MethodName) jdk_38_method_25_code (2 : Nat) (Option.some Jvm.ClassFile.FieldType.boolean)).before args0 about1 = true := code_word (m := ⟨21, 7⟩) (meth := k21m7) (c := k21c7) (by decide +kernel) rfl rfl rfl (by decide +kernel)
set_option maxRecDepth 65536 in
theorem w_c18 : (Jvm.Cond.code ({ cls := "java/util/ArrayList", name := "add", desc := "(Ljava/lang/Object;[Ljava/lang/Object;I)V" } : Jvm.MethodName) jdk_38_method_24_code (4 : Nat) (Option.none : Option Jvm.ClassFile.FieldType)).before args0 about1 = true := code_word (m := ⟨21, 6⟩) (meth := k21m6) (c := k21c6) (by decide +kernel) rfl rfl rfl (by decide +kernel)
set_option maxRecDepth 65536 in
theorem w_c19 : (Jvm.Cond.code ({ cls := "java/util/ArrayList", name := "grow", desc := "()[Ljava/lang/Object;" } : Jvm.MethodName) jdk_38_method_7_code (1 : Nat) (Option.some (Jvm.ClassFile.FieldType.array (Jvm.ClassFile.FieldType.object "java/lang/Object")))).before args0 about1 = true := code_word (m := ⟨21, 2⟩) (meth := k21m2) (c := k21c2) (by decide +kernel) rfl rfl rfl (by decide +kernel)
set_option maxRecDepth 65536 in
theorem w_c20 : (Jvm.Cond.code ({ cls := "java/util/ArrayList", name := "grow", desc := "(I)[Ljava/lang/Object;" } : Jvm.MethodName) jdk_38_method_6_code (4 : Nat) (Option.some (Jvm.ClassFile.FieldType.array (Jvm.ClassFile.FieldType.object "java/lang/Object")))).before args0 about1 = true := code_word (m := ⟨21, 1⟩) (meth := k21m1) (c := k21c1) (by decide +kernel) rfl rfl rfl (by decide +kernel)
set_option maxRecDepth 65536 in
theorem w_c21 : (Jvm.Cond.code ({ cls := "java/util/ArrayList", name := "get", desc := "(I)Ljava/lang/Object;" } : Jvm.MethodName) jdk_38_method_20_code (2 : Nat) (Option.some (Jvm.ClassFile.FieldType.object "java/lang/Object"))).before args0 about1 = true := code_word (m := ⟨21, 5⟩) (meth := k21m5) (c := k21c5) (by decide +kernel) rfl rfl rfl (by decide +kernel)
set_option maxRecDepth 65536 in
theorem w_c22 : (Jvm.Cond.code ({ cls := "java/util/Objects", name := "checkIndex", desc := "(II)I" } : Jvm.MethodName) jdk_31_method_17_code (2 : Nat) (Option.some Jvm.ClassFile.FieldType.int)).before args0 about1 = true := code_word (m := ⟨23, 1⟩) (meth := k23m1) (c := k23c1) (by decide +kernel) rfl rfl rfl (by decide +kernel)
set_option maxRecDepth 65536 in
theorem w_c23 : (Jvm.Cond.code ({ cls := "jdk/internal/util/Preconditions", name := "checkIndex", desc := "(IILjava/util/function/BiFunction;)I" } : Jvm.MethodName) jdk_41_method_11_code (3 : Nat) (Option.some Jvm.ClassFile.FieldType.int)).before args0 about1 = true := code_word (m := ⟨24, 1⟩) (meth := k24m1) (c := k24c1) (by decide +kernel) rfl rfl rfl (by decide +kernel)
set_option maxRecDepth 65536 in
theorem w_c24 : (Jvm.Cond.code ({ cls := "java/util/ArrayList", name := "elementData", desc := "(I)Ljava/lang/Object;" } : Jvm.MethodName) jdk_38_method_18_code (2 : Nat) (Option.some (Jvm.ClassFile.FieldType.object "java/lang/Object"))).before args0 about1 = true := code_word (m := ⟨21, 4⟩) (meth := k21m4) (c := k21c4) (by decide +kernel) rfl rfl rfl (by decide +kernel)
set_option maxRecDepth 65536 in
theorem w_c25 : (Jvm.Cond.code ({ cls := "com/example/tributary/tributary/semantics/Variable", name := "low", desc := "()I" } : Jvm.MethodName) prog_221_method_10_code (1 : Nat) (Option.some Jvm.ClassFile.FieldType.int)).before args0 about1 = true := code_word (m := ⟨3, 1⟩) (meth := k3m1) (c := k3c1) (by decide +kernel) rfl rfl rfl (by decide +kernel)
set_option maxRecDepth 65536 in
theorem w_c26 : (Jvm.Cond.code ({ cls := "com/example/tributary/tributary/semantics/Variable", name := "high", desc := "()I" } : Jvm.MethodName) prog_221_method_11_code (1 : Nat) (Option.some Jvm.ClassFile.FieldType.int)).before args0 about1 = true := code_word (m := ⟨3, 2⟩) (meth := k3m2) (c := k3c2) (by decide +kernel) rfl rfl rfl (by decide +kernel)
def codes1 : List Jvm.Cond := [Jvm.Cond.code x code maxLocals ret, Jvm.Cond.code ({ cls := "com/example/tributary/tributary/semantics/RangesValuationsPinLaw", name := "variable", desc := "(J)Lcom/example/tributary/tributary/semantics/Variable;" } : Jvm.MethodName) method_3_code (2 : Nat) (Option.some (Jvm.ClassFile.FieldType.object "com/example/tributary/tributary/semantics/Variable")), Jvm.Cond.code ({ cls := "com/example/tributary/tributary/semantics/RangesValuationsPinLaw", name := "lowOf", desc := "(J)I" } : Jvm.MethodName) method_4_code (2 : Nat) (Option.some Jvm.ClassFile.FieldType.int), Jvm.Cond.code ({ cls := "java/lang/Math", name := "min", desc := "(II)I" } : Jvm.MethodName) jdk_29_method_69_code (2 : Nat) (Option.some Jvm.ClassFile.FieldType.int), Jvm.Cond.code ({ cls := "com/example/tributary/tributary/semantics/RangesValuationsPinLaw", name := "highOf", desc := "(J)I" } : Jvm.MethodName) method_5_code (2 : Nat) (Option.some Jvm.ClassFile.FieldType.int), Jvm.Cond.code ({ cls := "java/lang/Math", name := "max", desc := "(II)I" } : Jvm.MethodName) jdk_29_method_65_code (2 : Nat) (Option.some Jvm.ClassFile.FieldType.int), Jvm.Cond.code ({ cls := "com/example/tributary/tributary/semantics/Variable", name := "<init>", desc := "(Ljava/lang/String;Lcom/example/tributary/tributary/language/Type;III)V" } : Jvm.MethodName) prog_221_method_1_code (6 : Nat) (Option.none : Option Jvm.ClassFile.FieldType), Jvm.Cond.code ({ cls := "java/lang/Record", name := "<init>", desc := "()V" } : Jvm.MethodName) jdk_30_method_1_code (1 : Nat) (Option.none : Option Jvm.ClassFile.FieldType), Jvm.Cond.code ({ cls := "java/lang/Object", name := "<init>", desc := "()V" } : Jvm.MethodName) object_method_1_code (1 : Nat) (Option.none : Option Jvm.ClassFile.FieldType), Jvm.Cond.code ({ cls := "java/util/ArrayList", name := "<init>", desc := "()V" } : Jvm.MethodName) jdk_38_method_2_code (1 : Nat) (Option.none : Option Jvm.ClassFile.FieldType), Jvm.Cond.code ({ cls := "java/util/AbstractList", name := "<init>", desc := "()V" } : Jvm.MethodName) jdk_39_method_1_code (1 : Nat) (Option.none : Option Jvm.ClassFile.FieldType), Jvm.Cond.code ({ cls := "java/util/AbstractCollection", name := "<init>", desc := "()V" } : Jvm.MethodName) jdk_22_method_1_code (1 : Nat) (Option.none : Option Jvm.ClassFile.FieldType), Jvm.Cond.code ({ cls := "com/example/tributary/tributary/semantics/Ranges", name := "<init>", desc := "(Ljava/util/List;)V" } : Jvm.MethodName) prog_175_method_1_code (3 : Nat) (Option.none : Option Jvm.ClassFile.FieldType), Jvm.Cond.code ({ cls := "java/util/ArrayList", name := "size", desc := "()I" } : Jvm.MethodName) jdk_38_method_8_code (1 : Nat) (Option.some Jvm.ClassFile.FieldType.int), Jvm.Cond.code ({ cls := "com/example/tributary/tributary/semantics/Ranges", name := "valuations", desc := "(I)J" } : Jvm.MethodName) prog_175_method_7_code (7 : Nat) (Option.some Jvm.ClassFile.FieldType.long), Jvm.Cond.code ({ cls := "com/example/tributary/tributary/semantics/RangesValuationsPinLaw", name := "factor", desc := "(JIII)J" } : Jvm.MethodName) method_6_code (5 : Nat) (Option.some Jvm.ClassFile.FieldType.long), Jvm.Cond.code ({ cls := "com/example/tributary/tributary/semantics/RangesValuationsPinLaw", name := "saturated", desc := "(JJJ)J" } : Jvm.MethodName) method_7_code (8 : Nat) (Option.some Jvm.ClassFile.FieldType.long), Jvm.Cond.code ({ cls := "java/util/ArrayList", name := "add", desc := "(Ljava/lang/Object;)Z" } : Jvm.MethodName) jdk_38_method_25_code (2 : Nat) (Option.some Jvm.ClassFile.FieldType.boolean), Jvm.Cond.code ({ cls := "java/util/ArrayList", name := "add", desc := "(Ljava/lang/Object;[Ljava/lang/Object;I)V" } : Jvm.MethodName) jdk_38_method_24_code (4 : Nat) (Option.none : Option Jvm.ClassFile.FieldType), Jvm.Cond.code ({ cls := "java/util/ArrayList", name := "grow", desc := "()[Ljava/lang/Object;" } : Jvm.MethodName) jdk_38_method_7_code (1 : Nat) (Option.some (Jvm.ClassFile.FieldType.array (Jvm.ClassFile.FieldType.object "java/lang/Object"))), Jvm.Cond.code ({ cls := "java/util/ArrayList", name := "grow", desc := "(I)[Ljava/lang/Object;" } : Jvm.MethodName) jdk_38_method_6_code (4 : Nat) (Option.some (Jvm.ClassFile.FieldType.array (Jvm.ClassFile.FieldType.object "java/lang/Object"))), Jvm.Cond.code ({ cls := "java/util/ArrayList", name := "get", desc := "(I)Ljava/lang/Object;" } : Jvm.MethodName) jdk_38_method_20_code (2 : Nat) (Option.some (Jvm.ClassFile.FieldType.object "java/lang/Object")), Jvm.Cond.code ({ cls := "java/util/Objects", name := "checkIndex", desc := "(II)I" } : Jvm.MethodName) jdk_31_method_17_code (2 : Nat) (Option.some Jvm.ClassFile.FieldType.int), Jvm.Cond.code ({ cls := "jdk/internal/util/Preconditions", name := "checkIndex", desc := "(IILjava/util/function/BiFunction;)I" } : Jvm.MethodName) jdk_41_method_11_code (3 : Nat) (Option.some Jvm.ClassFile.FieldType.int), Jvm.Cond.code ({ cls := "java/util/ArrayList", name := "elementData", desc := "(I)Ljava/lang/Object;" } : Jvm.MethodName) jdk_38_method_18_code (2 : Nat) (Option.some (Jvm.ClassFile.FieldType.object "java/lang/Object")), Jvm.Cond.code ({ cls := "com/example/tributary/tributary/semantics/Variable", name := "low", desc := "()I" } : Jvm.MethodName) prog_221_method_10_code (1 : Nat) (Option.some Jvm.ClassFile.FieldType.int), Jvm.Cond.code ({ cls := "com/example/tributary/tributary/semantics/Variable", name := "high", desc := "()I" } : Jvm.MethodName) prog_221_method_11_code (1 : Nat) (Option.some Jvm.ClassFile.FieldType.int)]
set_option maxRecDepth 65536 in
theorem codes_eq : words1.filter isCode = codes1 := rfl
theorem w_codes : ∀ c ∈ words1.filter isCode, c.before args0 about1 = true := by
  rw [codes_eq]
  intro c hc
  simp only [codes1, List.mem_cons, List.not_mem_nil, or_false] at hc
  rcases hc with rfl | rfl | rfl | rfl | rfl | rfl | rfl | rfl | rfl | rfl | rfl | rfl | rfl | rfl | rfl | rfl | rfl | rfl | rfl | rfl | rfl | rfl | rfl | rfl | rfl | rfl | rfl
  · exact w_c0
  · exact w_c1
  · exact w_c2
  · exact w_c3
  · exact w_c4
  · exact w_c5
  · exact w_c6
  · exact w_c7
  · exact w_c8
  · exact w_c9
  · exact w_c10
  · exact w_c11
  · exact w_c12
  · exact w_c13
  · exact w_c14
  · exact w_c15
  · exact w_c16
  · exact w_c17
  · exact w_c18
  · exact w_c19
  · exact w_c20
  · exact w_c21
  · exact w_c22
  · exact w_c23
  · exact w_c24
  · exact w_c25
  · exact w_c26
set_option maxRecDepth 65536 in
theorem w_t1 : (words1.take 24).all (fun c => isCode c || c.before args0 about1) = true := by decide +kernel
set_option maxRecDepth 65536 in
theorem w_t2 : ((words1.drop 24).take 24).all (fun c => isCode c || c.before args0 about1) = true := by decide +kernel
set_option maxRecDepth 65536 in
theorem w_t3 : (((words1.drop 24).drop 24).take 24).all (fun c => isCode c || c.before args0 about1) = true := by decide +kernel
set_option maxRecDepth 65536 in
theorem w_t4 : ((((words1.drop 24).drop 24).drop 24).take 24).all (fun c => isCode c || c.before args0 about1) = true := by decide +kernel
set_option maxRecDepth 65536 in
theorem w_t5 : (((((words1.drop 24).drop 24).drop 24).drop 24).take 24).all (fun c => isCode c || c.before args0 about1) = true := by decide +kernel
set_option maxRecDepth 65536 in
theorem w_t6 : ((((((words1.drop 24).drop 24).drop 24).drop 24).drop 24).take 24).all (fun c => isCode c || c.before args0 about1) = true := by decide +kernel
set_option maxRecDepth 65536 in
theorem w_t7 : (((((((words1.drop 24).drop 24).drop 24).drop 24).drop 24).drop 24).take 24).all (fun c => isCode c || c.before args0 about1) = true := by decide +kernel
set_option maxRecDepth 65536 in
theorem w_t8 : (((((((words1.drop 24).drop 24).drop 24).drop 24).drop 24).drop 24).drop 24).all (fun c => isCode c || c.before args0 about1) = true := by decide +kernel
theorem w_tables : (allAtoms (Jvm.Cond.code x code maxLocals ret :: tables_1)).before args0 about1 = true := by
  rw [allAtoms_all]
  show words1.all (fun c => c.before args0 about1) = true
  refine all_split ?_ w_codes
  rw [← List.take_append_drop 24 words1, List.all_append, w_t1, ← List.take_append_drop 24 (words1.drop 24), List.all_append, w_t2, ← List.take_append_drop 24 ((words1.drop 24).drop 24), List.all_append, w_t3, ← List.take_append_drop 24 (((words1.drop 24).drop 24).drop 24), List.all_append, w_t4, ← List.take_append_drop 24 ((((words1.drop 24).drop 24).drop 24).drop 24), List.all_append, w_t5, ← List.take_append_drop 24 (((((words1.drop 24).drop 24).drop 24).drop 24).drop 24), List.all_append, w_t6, ← List.take_append_drop 24 ((((((words1.drop 24).drop 24).drop 24).drop 24).drop 24).drop 24), List.all_append, w_t7, w_t8]
  rfl
set_option maxRecDepth 65536 in
theorem w_rest : rest_1_c.before args0 about1 = true := by decide +kernel
set_option maxRecDepth 65536 in
theorem w_case : (Jvm.Cond.and given_1 narrow_1).before args0 about1 = true := by decide +kernel
theorem w_applies : (headSpec (Jvm.Cond.code x code maxLocals ret :: tables_1) room_1).applies x e0.platform about1 = true :=
  (Spec.applies_iff w_frames).mpr ⟨w_running, w_runnable, w_alone, w_named, w_hears, w_ripe, w_room, w_tables⟩
theorem atStart : AtStart classFile x code maxLocals ret World_1 tables_1 room_1 Calls_1 rest_1 Pre_1 launch0 p0 e0 about1 theMethod args0 below0 :=
  ⟨lists_1, trivial, launch0.admits_env _ _ _, launch0.least_env, fairChoices_fair.cas, fairChoices_fair.clock, w_frames, w_args, w_heap, w_applies, trivial, w_rest, w_case⟩
end start1
theorem witness_1 : WitnessClaimed_1 := ⟨start1.p0, start1.e0, start1.about1, start1.theMethod, start1.args0, start1.below0, start1.atStart⟩
end Jvm.Pilot.@@N@@
