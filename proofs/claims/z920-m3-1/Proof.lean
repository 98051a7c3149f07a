import JvmDerived
import JvmDerived.Pilot.@@N@@Statement
import JvmDerived.Pilot.@@N@@Code
set_option linter.unusedVariables false
set_option linter.unusedSimpArgs false
@@BLOCK:HandJ.lean.txt@@
@@BLOCK:SymMore.lean.txt@@
namespace Jvm.OwnKit
open Sem ClassFile Op Lib Jvm.Stand Jvm.Free Jvm.LawKit Jvm.RoadKit
section Own
variable {p : Program} {l : Launch} {e : Env} {R : Room} {s : State} {m : MethodId} {args : Array Value} {below : List Frame} {meth : Method} {c : Code} {T : State} {locs : List Loc} {cells slots : Nat}
/-- from the state S the run ends, and P says how -/
def GoOn (p : Program) (e : Env) (below : List Frame) (P : Outcome → State → Prop) (S : State) : Prop := ∃ s₂ o, Steps p.tables e below S s₂ ∧ s₂.status = .running ∧ Ended s₂ below o ∧ P o s₂
theorem GoOn.st {P : Outcome → State → Prop} {S S' : State} (h : ∀ t, Steps p.tables e below S' t → Steps p.tables e below S t) (k : GoOn p e below P S') : GoOn p e below P S := by
  obtain ⟨s₂, o, h1, h2⟩ := k; exact ⟨s₂, o, h _ h1, h2⟩
theorem gs {P : Outcome → State → Prop} {S S' : State} (k : GoOn p e below P S') (h : ∀ t, Steps p.tables e below S' t → Steps p.tables e below S t) : GoOn p e below P S := GoOn.st h k
abbrev vi (n : Int32) : Slot := .val (.int n)
abbrev vr (a : Addr) : Slot := .val (.ref a)
abbrev vz : Slot := .val .null
abbrev vu : Slot := .unset
/-- the end as a contract says it: what is returned, the heap, the written places -/
def OwPost (Q : Option Value → Heap → List Loc → Prop) (s : State) (rc rs : Nat) : Outcome → State → Prop := fun o U' => ∃ v L, o = .returned v ∧ Q v U'.heap L ∧ FrameEnd s o U' L rc rs
/-- a contract: the body y, called with as at a heap h0, ends as Q says -/
def OwCon (l : Launch) (Z : State) (y : MethodName) (bytes : ByteArray) (maxL : Nat) (ret : Option FieldType) (ws : List Jvm.Cond) (rm : Room) (as : Array Value) (h0 : Heap) (Q : Option Value → Heap → List Loc → Prop) : Prop :=
  MetFree l y (head1 (Jvm.Cond.code y bytes maxL ret :: ws) rm) (fun a U => a = as ∧ Z.Warmed39 U.vm ∧ U.heap = h0) (fun _ _ _ _ _ => True) (fun _ U o U' => ∃ v L, o = .returned v ∧ Q v U'.heap L ∧ FrameEnd U o U' L rm.cells rm.slots)
theorem OwCon.of {Z : State} {y : MethodName} {bytes : ByteArray} {maxL : Nat} {ret : Option FieldType} {ws : List Jvm.Cond} {rm : Room} {as : Array Value} {h0 : Heap} {Q : Option Value → Heap → List Loc → Prop} (hpl : plainFor y = true)
    (body : ∀ (p : Program) (e : Env) (s : State) (m : MethodId) (below : List Frame) (meth : Method) (c : Code) (s₁ : State), Stand p l e rm s m as below meth c s₁ [] 0 0 → p.tables.exec = Jvm.exec → c.code = bytes → c.maxLocals = maxL → meth.sig.returnType = ret → meth.locks = false → s.vm.findClass y.cls = some m.cls → meth.name = y.name → Z.Warmed39 s.vm → s₁.heap = h0 →
      GoOn p e below (OwPost Q s rm.cells rm.slots) (s₁.setTop (entryFrame m as maxL))) : OwCon l Z y bytes maxL ret ws rm as h0 Q := by
  refine MetFree.of_bodySF hpl hisR ?_
  intro p e s m args below meth c s₁ Bd hml hP hK
  obtain ⟨rfl, hZ, hh⟩ := hP
  exact body p e s m below meth c s₁ (Stand.of_body Bd) Bd.exec Bd.bytes hml Bd.returns Bd.notSynchronized (findClass_of_methodNamed Bd.named) (name_of_methodNamed Bd.named Bd.method).1 hZ (by rw [← hh, Bd.state]; rfl)
theorem OwCon.mono {Z : State} {y : MethodName} {bytes : ByteArray} {maxL : Nat} {ret : Option FieldType} {ws : List Jvm.Cond} {rm : Room} {as : Array Value} {h0 : Heap} {Q Q' : Option Value → Heap → List Loc → Prop} (C : OwCon l Z y bytes maxL ret ws rm as h0 Q) (h : ∀ v u L, Q v u L → Q' v u L) : OwCon l Z y bytes maxL ret ws rm as h0 Q' := by
  intro p e ha hc hk s m args below hf happ hP hK
  obtain ⟨n, o, h1, h2, h3, v, L, h4, h5, h6⟩ := C p e ha hc hk s m args below hf happ hP hK
  exact ⟨n, o, h1, h2, h3, v, L, h4, h _ _ _ h5, h6⟩
theorem GoOn.out {Q : Option Value → Heap → List Loc → Prop} {rc rs : Nat} {S : State} (X : Stand p l e R s m args below meth c T locs cells slots) (hlk : meth.locks = false) {v : Option Value} (hv : meth.sig.returnType = none → v = none) (hq : Q v T.heap locs) (hc : cells ≤ rc) (hs : slots ≤ rs)
    (st : ∀ fs, (∀ (f : JFrame) (acts : List Action), f.method = m → f.locked = none → f.entered = [] → (doReturn e (T.setTop f) acts v).1 = T.setFrames fs) → Steps p.tables e below S (T.setFrames fs)) : GoOn p e below (OwPost Q s rc rs) S := by
  obtain ⟨fs, hr, hrun, hended, hW, hsame⟩ := X.leave (v := v) hv hlk
  exact ⟨_, _, st fs hr, hrun, hended, v, locs, rfl, hq, ⟨_, rfl⟩, hW, hsame.mono hc hs⟩
theorem GoOn.retI {Q : Option Value → Heap → List Loc → Prop} {rc rs : Nat} (X : Stand p l e R s m args below meth c T locs cells slots) (hx : p.tables.exec = Jvm.exec) (hlk : meth.locks = false) {pc : Nat} {Ls : Array Slot} {z : Int32} {rest : List Value} (hret : meth.sig.returnType = some .int) (hd : decode c.code pc = .ok (.ireturn, 1))
    (hq : Q (some (.int z)) T.heap locs) (hc : cells ≤ rc) (hs : slots ≤ rs) : GoOn p e below (OwPost Q s rc rs) (T.setTop (mkF m pc Ls (.int z :: rest))) :=
  GoOn.out X hlk (fun h => by rw [hret] at h; cases h) hq hc hs fun fs hr => retOut X hx hret rfl (Or.inl ⟨rfl, Or.inl rfl, _, rfl⟩) hd hr
theorem GoOn.retZ {Q : Option Value → Heap → List Loc → Prop} {rc rs : Nat} (X : Stand p l e R s m args below meth c T locs cells slots) (hx : p.tables.exec = Jvm.exec) (hlk : meth.locks = false) {pc : Nat} {Ls : Array Slot} {z : Int32} {rest : List Value} {t : FieldType} (hret : meth.sig.returnType = some t) (ht : t = .boolean ∨ t = .byte ∨ t = .char ∨ t = .short) (hn : narrow t (.int z) = .int z) (hd : decode c.code pc = .ok (.ireturn, 1))
    (hq : Q (some (.int z)) T.heap locs) (hc : cells ≤ rc) (hs : slots ≤ rs) : GoOn p e below (OwPost Q s rc rs) (T.setTop (mkF m pc Ls (.int z :: rest))) :=
  GoOn.out X hlk (fun h => by rw [hret] at h; cases h) hq hc hs fun fs hr => retOut X hx hret hn (Or.inl ⟨rfl, Or.inr ht, _, rfl⟩) hd hr
theorem GoOn.retJ {Q : Option Value → Heap → List Loc → Prop} {rc rs : Nat} (X : Stand p l e R s m args below meth c T locs cells slots) (hx : p.tables.exec = Jvm.exec) (hlk : meth.locks = false) {pc : Nat} {Ls : Array Slot} {z : Int64} {rest : List Value} (hret : meth.sig.returnType = some .long) (hd : decode c.code pc = .ok (.lreturn, 1))
    (hq : Q (some (.long z)) T.heap locs) (hc : cells ≤ rc) (hs : slots ≤ rs) : GoOn p e below (OwPost Q s rc rs) (T.setTop (mkF m pc Ls (.long z :: rest))) :=
  GoOn.out X hlk (fun h => by rw [hret] at h; cases h) hq hc hs fun fs hr => retOut X hx hret rfl (Or.inr (Or.inl ⟨rfl, rfl, _, rfl⟩)) hd hr
theorem GoOn.retA {Q : Option Value → Heap → List Loc → Prop} {rc rs : Nat} (X : Stand p l e R s m args below meth c T locs cells slots) (hx : p.tables.exec = Jvm.exec) (hlk : meth.locks = false) {pc : Nat} {Ls : Array Slot} {w : Value} {rest : List Value} {t : FieldType} (hret : meth.sig.returnType = some t) (ht : t.isReference = true) (hw : w.isRef = true) (hn : narrow t w = w) (hd : decode c.code pc = .ok (.areturn, 1))
    (hq : Q (some w) T.heap locs) (hc : cells ≤ rc) (hs : slots ≤ rs) : GoOn p e below (OwPost Q s rc rs) (T.setTop (mkF m pc Ls (w :: rest))) :=
  GoOn.out X hlk (fun h => by rw [hret] at h; cases h) hq hc hs fun fs hr => retOut X hx hret hn (Or.inr (Or.inr (Or.inr (Or.inr ⟨rfl, ht, hw⟩)))) hd hr
theorem GoOn.retV {Q : Option Value → Heap → List Loc → Prop} {rc rs : Nat} (X : Stand p l e R s m args below meth c T locs cells slots) (hx : p.tables.exec = Jvm.exec) (hlk : meth.locks = false) {pc : Nat} {Ls : Array Slot} (hret : meth.sig.returnType = none) (hd : decode c.code pc = .ok (.return_, 1))
    (hq : Q none T.heap locs) (hc : cells ≤ rc) (hs : slots ≤ rs) : GoOn p e below (OwPost Q s rc rs) (T.setTop (mkF m pc Ls [])) :=
  GoOn.out X hlk (fun _ => rfl) hq hc hs fun fs hr => X.returnOut hx hret hd hr
/-- nothing written, nothing made: v is returned -/
def OwRet (v : Option Value) (h0 : Heap) : Option Value → Heap → List Loc → Prop := fun v' h L => v' = v ∧ L = [] ∧ h = h0
variable {Z : State} {a0 : Array Value} {h : Heap} {own : String} {index : Nat} {y z : MethodName} {bytes : ByteArray} {maxL : Nat} {ret : Option FieldType} {rm : Room} {Q : Option Value → Heap → List Loc → Prop} {P : Outcome → State → Prop}
theorem GoOn.callS {W pc : Nat} {Ls : Array Slot} {argsL rest : List Value} {ps : List FieldType} {rt : Option FieldType} {st : List Value} (X : Stand p l e R s m args below meth c T locs cells slots) (hx : p.tables.exec = Jvm.exec) (hZ : Z.Warmed39 s.vm) (hown : s.vm.findClass own = some m.cls)
    (w1 : (Cond.methodLink own index y).before a0 Z = true) (w2 : (Cond.static y).before a0 Z = true) (w3 : (Cond.initialized y.cls).before a0 Z = true) (w4 : (Cond.code y bytes maxL ret).before a0 Z = true) (hy : y.cls ≠ "java/lang/invoke/MethodHandle" ∧ y.cls ≠ "java/lang/invoke/VarHandle")
    (C : OwCon l Z y bytes maxL ret [] rm argsL.toArray h Q) (eT : T.heap = h) (hfr : rm.frames + 1 ≤ R.frames) (hlo : W + (maxL + 11) + rm.locals ≤ R.locals) (hsize : Ls.size = c.maxLocals) (hd : parseMethodDescriptor y.desc = some ⟨ps, rt⟩) (hl : argsL.length = ps.length) (hst : st = argsL.reverse ++ rest)
    (hW : (rest.map fun v => v.category).sum ≤ W) (hdg : decode c.code pc = .ok (.invokestatic index, 3)) (hc : cells + rm.cells ≤ R.cells) (hs : slots + rm.slots ≤ R.slots)
    (k : ∀ (v : Option Value) (T' : State) (L : List Loc), Stand p l e R s m args below meth c T' (locs ++ L) (cells + rm.cells) (slots + rm.slots) → Q v T'.heap L → GoOn p e below P (T'.setTop (mkF m (pc + 3) Ls (v.toList ++ rest)))) : GoOn p e below P (T.setTop (mkF m pc Ls st)) := by
  obtain ⟨v, vm₁, ⟨T', L', c', s'⟩, -, X', ⟨Lc, hQ, l1, l2, l3⟩, stp⟩ := Jvm.LawKit.callS X hx (y := y) hown (mvT hZ w1) (mvT hZ w2) (mvT hZ w3) (mvT hZ w4) hy (backOf (W := W) C hZ w4 w3 hfr hlo) (g := mkF m pc Ls st) rfl hsize (argsL := argsL) (rest := rest) (lenOf hd hl) hst (by show 2 * 0 + _ ≤ _; omega) hdg (fun _ _ => ⟨rfl, eT, hc, hs⟩)
  dsimp only [Pt.U, Pt.locs, Pt.cells, Pt.slots] at X' l1 l2 l3 stp hQ
  subst l1 l2 l3
  exact GoOn.st stp (k _ _ _ X' hQ)
theorem GoOn.callC {W pc : Nat} {Ls : Array Slot} {a : Addr} {argsL rest : List Value} {ps : List FieldType} {rt : Option FieldType} {st : List Value} (X : Stand p l e R s m args below meth c T locs cells slots) (hx : p.tables.exec = Jvm.exec) (hZ : Z.Warmed39 s.vm) (hown : s.vm.findClass own = some m.cls) (hy1 : y.name = "<init>")
    (w1 : (Cond.methodLink own index y).before a0 Z = true) (w2 : (Cond.instanceMethod y).before a0 Z = true) (w3 : (Cond.initialized y.cls).before a0 Z = true) (w4 : (Cond.code y bytes maxL none).before a0 Z = true) (hy : y.cls ≠ "java/lang/invoke/MethodHandle" ∧ y.cls ≠ "java/lang/invoke/VarHandle")
    (C : OwCon l Z y bytes maxL none [] rm (.ref a :: argsL).toArray h Q) (eT : T.heap = h) (hfr : rm.frames + 1 ≤ R.frames) (hlo : W + (maxL + 11) + rm.locals ≤ R.locals) (hsize : Ls.size = c.maxLocals) (hd : parseMethodDescriptor y.desc = some ⟨ps, rt⟩) (hl : argsL.length = ps.length) (hst : st = argsL.reverse ++ .ref a :: rest)
    (hW : (rest.map fun v => v.category).sum ≤ W) (hdg : decode c.code pc = .ok (.invokespecial index, 3)) (hc : cells + rm.cells ≤ R.cells) (hs : slots + rm.slots ≤ R.slots)
    (k : ∀ (v : Option Value) (T' : State) (L : List Loc), Stand p l e R s m args below meth c T' (locs ++ L) (cells + rm.cells) (slots + rm.slots) → Q v T'.heap L → GoOn p e below P (T'.setTop (mkF m (pc + 3) Ls (v.toList ++ rest)))) : GoOn p e below P (T.setTop (mkF m pc Ls st)) := by
  obtain ⟨v, vm₁, ⟨T', L', c', s'⟩, -, X', ⟨Lc, hQ, l1, l2, l3⟩, stp⟩ := X.specialBack hx (y := y) hy1 hown (mvT hZ w1) (mvT hZ w2) (mvT hZ w4) hy (backOf (W := W) C hZ w4 w3 hfr hlo) (g := mkF m pc Ls st) rfl hsize (Steps.refl _) (a := a) (argsL := argsL) (rest := rest) (lenOf hd hl) hst (by show 2 * 0 + _ ≤ _; omega) hdg (fun _ _ => ⟨rfl, eT, hc, hs⟩)
  dsimp only [Pt.U, Pt.locs, Pt.cells, Pt.slots] at X' l1 l2 l3 stp hQ
  subst l1 l2 l3
  exact GoOn.st (fun _ q => stp.trans q) (k _ _ _ X' hQ)
theorem GoOn.callV {W pc : Nat} {Ls : Array Slot} {a : Addr} {K : String} {argsL rest : List Value} {ps : List FieldType} {rt : Option FieldType} {st : List Value} (X : Stand p l e R s m args below meth c T locs cells slots) (hx : p.tables.exec = Jvm.exec) (hZ : Z.Warmed39 s.vm) (hown : s.vm.findClass own = some m.cls)
    (w1 : (Cond.methodLink own index y).before a0 Z = true) (w5 : (Cond.declares y).before a0 Z = true) (nf : NotFace s y) (w6 : (Cond.selects K y z).before a0 Z = true) (w2 : (Cond.instanceMethod z).before a0 Z = true) (w3 : (Cond.initialized z.cls).before a0 Z = true) (w4 : (Cond.code z bytes maxL ret).before a0 Z = true) (hy : y.cls ≠ "java/lang/invoke/MethodHandle" ∧ y.cls ≠ "java/lang/invoke/VarHandle")
    (C : OwCon l Z z bytes maxL ret [] rm (.ref a :: argsL).toArray h Q) (eT : T.heap = h) (E : Exa Z h a K) (hfr : rm.frames + 1 ≤ R.frames) (hlo : W + (maxL + 11) + rm.locals ≤ R.locals) (hsize : Ls.size = c.maxLocals) (hd : parseMethodDescriptor y.desc = some ⟨ps, rt⟩) (hl : argsL.length = ps.length) (hst : st = argsL.reverse ++ .ref a :: rest)
    (hW : (rest.map fun v => v.category).sum ≤ W) (hdg : decode c.code pc = .ok (.invokevirtual index, 3)) (hc : cells + rm.cells ≤ R.cells) (hs : slots + rm.slots ≤ R.slots)
    (k : ∀ (v : Option Value) (T' : State) (L : List Loc), Stand p l e R s m args below meth c T' (locs ++ L) (cells + rm.cells) (slots + rm.slots) → Q v T'.heap L → GoOn p e below P (T'.setTop (mkF m (pc + 3) Ls (v.toList ++ rest)))) : GoOn p e below P (T.setTop (mkF m pc Ls st)) := by
  obtain ⟨cB, kB, q1, q2, q3⟩ := isOf hZ eT E
  obtain ⟨v, vm₁, ⟨T', L', c', s'⟩, -, X', ⟨Lc, hQ, l1, l2, l3⟩, stp⟩ := X.virtualBack hx (y := y) (z := z) hown (mvT hZ w1) (mvT hZ w5) nf (mvT hZ w6) (mvT hZ w2) hy (backOf (W := W) C hZ w4 w3 hfr hlo) q1 q3 (g := mkF m pc Ls st) rfl hsize (Steps.refl _) (argsL := argsL) (rest := rest) (lenOf hd hl) hst (by show 2 * 0 + _ ≤ _; omega) hdg (fun _ _ => ⟨rfl, eT, hc, hs⟩)
  dsimp only [Pt.U, Pt.locs, Pt.cells, Pt.slots] at X' l1 l2 l3 stp hQ
  subst l1 l2 l3
  exact GoOn.st (fun _ q => stp.trans q) (k _ _ _ X' hQ)
theorem GoOn.callP {W pc : Nat} {Ls : Array Slot} {a : Addr} {argsL rest : List Value} {ps : List FieldType} {rt : Option FieldType} {st : List Value} (X : Stand p l e R s m args below meth c T locs cells slots) (hx : p.tables.exec = Jvm.exec) (hZ : Z.Warmed39 s.vm) (hown : s.vm.findClass own = some m.cls)
    (w1 : (Cond.methodLink own index y).before a0 Z = true) (w2 : (Cond.instanceMethod y).before a0 Z = true) (w5 : (Cond.selects y.cls y y).before a0 Z = true) (w6 : (Cond.privateMethod y).before a0 Z = true) (w3 : (Cond.initialized y.cls).before a0 Z = true) (w4 : (Cond.code y bytes maxL ret).before a0 Z = true) (hy : y.cls ≠ "java/lang/invoke/MethodHandle" ∧ y.cls ≠ "java/lang/invoke/VarHandle")
    (C : OwCon l Z y bytes maxL ret [] rm (.ref a :: argsL).toArray h Q) (eT : T.heap = h) (hcl : ∃ cl : Cell, h[a]? = some cl ∧ ∀ q, cl.vm ≠ .statics q) (hfr : rm.frames + 1 ≤ R.frames) (hlo : W + (maxL + 11) + rm.locals ≤ R.locals) (hsize : Ls.size = c.maxLocals) (hd : parseMethodDescriptor y.desc = some ⟨ps, rt⟩) (hl : argsL.length = ps.length) (hst : st = argsL.reverse ++ .ref a :: rest)
    (hW : (rest.map fun v => v.category).sum ≤ W) (hdg : decode c.code pc = .ok (.invokevirtual index, 3)) (hc : cells + rm.cells ≤ R.cells) (hs : slots + rm.slots ≤ R.slots)
    (k : ∀ (v : Option Value) (T' : State) (L : List Loc), Stand p l e R s m args below meth c T' (locs ++ L) (cells + rm.cells) (slots + rm.slots) → Q v T'.heap L → GoOn p e below P (T'.setTop (mkF m (pc + 3) Ls (v.toList ++ rest)))) : GoOn p e below P (T.setTop (mkF m pc Ls st)) := by
  obtain ⟨cl, q1, q2⟩ := hcl
  obtain ⟨v, vm₁, ⟨T', L', c', s'⟩, -, X', ⟨Lc, hQ, l1, l2, l3⟩, stp⟩ := X.privateBack hx (y := y) hown (mvT hZ w1) (mvT hZ w2) (mvT hZ w5) (Cond.privateMethod_at (mvP hZ w6 (args := #[]))) (mvT hZ w4) hy (backOf (W := W) C hZ w4 w3 hfr hlo) (g := mkF m pc Ls st) rfl hsize (Steps.refl _) (a := a) (by rw [eT]; exact q1) q2 (argsL := argsL) (rest := rest) (lenOf hd hl) hst (by show 2 * 0 + _ ≤ _; omega) hdg (fun _ _ => ⟨rfl, eT, hc, hs⟩)
  dsimp only [Pt.U, Pt.locs, Pt.cells, Pt.slots] at X' l1 l2 l3 stp hQ
  subst l1 l2 l3
  exact GoOn.st (fun _ q => stp.trans q) (k _ _ _ X' hQ)
theorem GoOn.callI {W pc count : Nat} {Ls : Array Slot} {a : Addr} {K : String} {argsL rest : List Value} {ps : List FieldType} {rt : Option FieldType} {st : List Value} (X : Stand p l e R s m args below meth c T locs cells slots) (hx : p.tables.exec = Jvm.exec) (hZ : Z.Warmed39 s.vm) (hown : s.vm.findClass own = some m.cls)
    (w1 : (Cond.methodLink own index y).before a0 Z = true) (w5 : (Cond.declares y).before a0 Z = true) (w7 : (Cond.interfaceMethod y.cls y.cls y.name y.desc).before a0 Z = true) (w6 : (Cond.selects K y z).before a0 Z = true) (w2 : (Cond.instanceMethod z).before a0 Z = true) (w8 : (Cond.publicMethod z).before a0 Z = true) (w9 : (Cond.unhidden K y.name y.desc).before a0 Z = true) (w10 : (Cond.castable K y.cls).before a0 Z = true) (hfa : ((Cond.interfaceMethod y.cls y.cls y.name y.desc).onTables && (Cond.interfaceMethod y.cls y.cls y.name y.desc).keepsFace) = true) (w3 : (Cond.initialized z.cls).before a0 Z = true) (w4 : (Cond.code z bytes maxL ret).before a0 Z = true) (hy : y.cls ≠ "java/lang/invoke/MethodHandle" ∧ y.cls ≠ "java/lang/invoke/VarHandle")
    (C : OwCon l Z z bytes maxL ret [] rm (.ref a :: argsL).toArray h Q) (eT : T.heap = h) (E : Exa Z h a K) (hfr : rm.frames + 1 ≤ R.frames) (hlo : W + (maxL + 11) + rm.locals ≤ R.locals) (hsize : Ls.size = c.maxLocals) (hd : parseMethodDescriptor y.desc = some ⟨ps, rt⟩) (hl : argsL.length = ps.length) (hst : st = argsL.reverse ++ .ref a :: rest)
    (hW : (rest.map fun v => v.category).sum ≤ W) (hdg : decode c.code pc = .ok (.invokeinterface index count, 5)) (hc : cells + rm.cells ≤ R.cells) (hs : slots + rm.slots ≤ R.slots)
    (k : ∀ (v : Option Value) (T' : State) (L : List Loc), Stand p l e R s m args below meth c T' (locs ++ L) (cells + rm.cells) (slots + rm.slots) → Q v T'.heap L → GoOn p e below P (T'.setTop (mkF m (pc + 5) Ls (v.toList ++ rest)))) : GoOn p e below P (T.setTop (mkF m pc Ls st)) := by
  obtain ⟨cB, kB, q1, q2, q3⟩ := isOf hZ eT E
  obtain ⟨v, vm₁, ⟨T', L', c', s'⟩, -, X', ⟨Lc, hQ, l1, l2, l3⟩, stp⟩ := X.interfaceBack hx (xi := y) (y := z) hown (mvT hZ w1) (mvT hZ w5) (mvT hZ w7 hfa) (mvT hZ w6) (mvT hZ w2) (mvT hZ w8) (mvT hZ w9) (mvT hZ w10) hy (backOf (W := W) C hZ w4 w3 hfr hlo) q1 q2 q3 (g := mkF m pc Ls st) rfl hsize (Steps.refl _) (argsL := argsL) (rest := rest) (lenOf hd hl) hst (by show 2 * 0 + _ ≤ _; omega) hdg (fun _ _ => ⟨rfl, eT, hc, hs⟩)
  dsimp only [Pt.U, Pt.locs, Pt.cells, Pt.slots] at X' l1 l2 l3 stp hQ
  subst l1 l2 l3
  exact GoOn.st (fun _ q => stp.trans q) (k _ _ _ X' hQ)
theorem own_aaload {a : Addr} {kc : ClassId} {ty : FieldType} {zl j : Int32} {vs : List Value} {dv v : Value} (X : Stand p l e R s m args below meth c T locs cells slots) (hx : p.tables.exec = Jvm.exec) (hZ : Z.Warmed39 s.vm) (eT : T.heap = h) (V : Arv Z h a kc ty zl vs dv) (hty : ty.isReference = true) (hj : ¬ j < 0 ∧ j < zl) (hv : vs.getD j.toNatClampNeg dv = v) {pc : Nat} {Ls : Array Slot} {rest : List Value} (hd : decode c.code pc = .ok (.aaload, 1)) :
    ∀ t, Steps p.tables e below (T.setTop (mkF m (pc + 1) Ls (v :: rest))) t → Steps p.tables e below (T.setTop (mkF m pc Ls (.int j :: .ref a :: rest))) t := by
  obtain ⟨cl, A, -, S, N, H, -⟩ := V
  intro t k
  exact X.aaload hx (j := j) (v := v) (by rw [eT]; exact A.1) (State.isArrayOf_alike hZ.alike A.2.1) hty A.2.2 (inb_of S hj) (H.at (inb_of S hj) hv) (g := mkF m pc Ls (.int j :: .ref a :: rest)) rfl rfl hd _ k
theorem own_aastore {a b : Addr} {kc : ClassId} {C : String} {ty : FieldType} {zl j : Int32} {vs : List Value} {dv : Value} (X : Stand p l e R s m args below meth c T locs cells slots) (hx : p.tables.exec = Jvm.exec) (hZ : Z.Warmed39 s.vm) (eT : T.heap = h) (V : Arv Z h a kc ty zl vs dv) (hty : ty.isReference = true) (hfit : fits ty (.ref b) = true) (O : Ovr Z kc C) (I : Ins Z h b C true) (hj : ¬ j < 0 ∧ j < zl) (i : Nat) (hi : j.toNatClampNeg = i) (hl : i < vs.length) {pc : Nat} {Ls : Array Slot} {rest : List Value} (hd : decode c.code pc = .ok (.aastore, 1)) :
    ∃ T' h', Stand p l e R s m args below meth c T' (locs ++ [⟨a, j.toNatClampNeg⟩]) cells slots ∧ T'.heap = h' ∧ Wr h h' a j.toNatClampNeg (.ref b) ∧ Arv Z h' a kc ty zl (vs.set i (.ref b)) dv ∧ ∀ t, Steps p.tables e below (T'.setTop (mkF m (pc + 1) Ls rest)) t → Steps p.tables e below (T.setTop (mkF m pc Ls (.ref b :: .int j :: .ref a :: rest))) t := by
  obtain ⟨cl, A, q1, S, N, H, G⟩ := V
  obtain ⟨T', h', X', e', W, st⟩ := stR X hx hZ eT A (j := j) (inb_of S hj) hty (Sto.ofV A q1 O I) (g := mkF m pc Ls (.ref b :: .int j :: .ref a :: rest)) rfl rfl hd
  exact ⟨T', h', X', e', W, Arv.set A q1 S N H G hfit W i hi hl, st⟩
theorem own_aastoreN {a : Addr} {kc : ClassId} {ty : FieldType} {zl j : Int32} {vs : List Value} {dv : Value} (X : Stand p l e R s m args below meth c T locs cells slots) (hx : p.tables.exec = Jvm.exec) (hZ : Z.Warmed39 s.vm) (eT : T.heap = h) (V : Arv Z h a kc ty zl vs dv) (hty : ty.isReference = true) (hfit : fits ty .null = true) (hj : ¬ j < 0 ∧ j < zl) (i : Nat) (hi : j.toNatClampNeg = i) (hl : i < vs.length) {pc : Nat} {Ls : Array Slot} {rest : List Value} (hd : decode c.code pc = .ok (.aastore, 1)) :
    ∃ T' h', Stand p l e R s m args below meth c T' (locs ++ [⟨a, j.toNatClampNeg⟩]) cells slots ∧ T'.heap = h' ∧ Wr h h' a j.toNatClampNeg .null ∧ Arv Z h' a kc ty zl (vs.set i .null) dv ∧ ∀ t, Steps p.tables e below (T'.setTop (mkF m (pc + 1) Ls rest)) t → Steps p.tables e below (T.setTop (mkF m pc Ls (.null :: .int j :: .ref a :: rest))) t := by
  obtain ⟨cl, A, q1, S, N, H, G⟩ := V
  obtain ⟨T', h', X', e', W, st⟩ := stR X hx hZ eT A (j := j) (inb_of S hj) hty (Or.inl rfl) (g := mkF m pc Ls (.null :: .int j :: .ref a :: rest)) rfl rfl hd
  exact ⟨T', h', X', e', W, Arv.set A q1 S N H G hfit W i hi hl, st⟩
theorem own_arrlen {a : Addr} {kc : ClassId} {ty : FieldType} {zl : Int32} {vs : List Value} {dv : Value} (X : Stand p l e R s m args below meth c T locs cells slots) (hx : p.tables.exec = Jvm.exec) (hZ : Z.Warmed39 s.vm) (eT : T.heap = h) (V : Arv Z h a kc ty zl vs dv) {pc : Nat} {Ls : Array Slot} {rest : List Value} (hd : decode c.code pc = .ok (.arraylength, 1)) :
    ∀ t, Steps p.tables e below (T.setTop (mkF m (pc + 1) Ls (.int zl :: rest))) t → Steps p.tables e below (T.setTop (mkF m pc Ls (.ref a :: rest))) t := by
  obtain ⟨cl, A, -, S, N, -, -⟩ := V
  intro t k
  refine X.arraylength hx (by rw [eT]; exact A.1) (State.isArrayOf_alike hZ.alike A.2.1) (g := mkF m pc Ls (.ref a :: rest)) rfl rfl hd _ ?_
  rw [len_of S N]; exact k
theorem own_iaload {a : Addr} {kc : ClassId} {zl j : Int32} {vs : List Value} {dv v : Value} (X : Stand p l e R s m args below meth c T locs cells slots) (hx : p.tables.exec = Jvm.exec) (hZ : Z.Warmed39 s.vm) (eT : T.heap = h) (V : Arv Z h a kc .int zl vs dv) (hj : ¬ j < 0 ∧ j < zl) (hv : vs.getD j.toNatClampNeg dv = v) {pc : Nat} {Ls : Array Slot} {rest : List Value} (hd : decode c.code pc = .ok (.iaload, 1)) :
    ∀ t, Steps p.tables e below (T.setTop (mkF m (pc + 1) Ls (v :: rest))) t → Steps p.tables e below (T.setTop (mkF m pc Ls (.int j :: .ref a :: rest))) t := by
  obtain ⟨cl, A, -, S, N, H, -⟩ := V
  intro t k
  exact X.iaload hx (j := j) (v := v) (by rw [eT]; exact A.1) (State.isArrayOf_alike hZ.alike A.2.1) A.2.2 (inb_of S hj) (H.at (inb_of S hj) hv) (g := mkF m pc Ls (.int j :: .ref a :: rest)) rfl rfl hd _ k
theorem own_caload {a : Addr} {kc : ClassId} {zl j : Int32} {vs : List Value} {dv v : Value} (X : Stand p l e R s m args below meth c T locs cells slots) (hx : p.tables.exec = Jvm.exec) (hZ : Z.Warmed39 s.vm) (eT : T.heap = h) (V : Arv Z h a kc .char zl vs dv) (hj : ¬ j < 0 ∧ j < zl) (hv : vs.getD j.toNatClampNeg dv = v) {pc : Nat} {Ls : Array Slot} {rest : List Value} (hd : decode c.code pc = .ok (.caload, 1)) :
    ∀ t, Steps p.tables e below (T.setTop (mkF m (pc + 1) Ls (v :: rest))) t → Steps p.tables e below (T.setTop (mkF m pc Ls (.int j :: .ref a :: rest))) t := by
  obtain ⟨cl, A, -, S, N, H, -⟩ := V
  intro t k
  exact X.caload hx (j := j) (v := v) (by rw [eT]; exact A.1) (State.isArrayOf_alike hZ.alike A.2.1) A.2.2 (inb_of S hj) (H.at (inb_of S hj) hv) (g := mkF m pc Ls (.int j :: .ref a :: rest)) rfl rfl hd _ k
theorem own_baload {a : Addr} {kc : ClassId} {zl j : Int32} {vs : List Value} {dv v : Value} (X : Stand p l e R s m args below meth c T locs cells slots) (hx : p.tables.exec = Jvm.exec) (hZ : Z.Warmed39 s.vm) (eT : T.heap = h) (V : Arv Z h a kc .byte zl vs dv) (hj : ¬ j < 0 ∧ j < zl) (hv : vs.getD j.toNatClampNeg dv = v) {pc : Nat} {Ls : Array Slot} {rest : List Value} (hd : decode c.code pc = .ok (.baload, 1)) :
    ∀ t, Steps p.tables e below (T.setTop (mkF m (pc + 1) Ls (v :: rest))) t → Steps p.tables e below (T.setTop (mkF m pc Ls (.int j :: .ref a :: rest))) t := by
  obtain ⟨cl, A, -, S, N, H, -⟩ := V
  intro t k
  exact X.baloadBytes hx (j := j) (v := v) (by rw [eT]; exact A.1) (State.isArrayOf_alike hZ.alike A.2.1) A.2.2 (inb_of S hj) (H.at (inb_of S hj) hv) (g := mkF m pc Ls (.int j :: .ref a :: rest)) rfl rfl hd _ k
theorem own_zaload {a : Addr} {kc : ClassId} {zl j : Int32} {vs : List Value} {dv v : Value} (X : Stand p l e R s m args below meth c T locs cells slots) (hx : p.tables.exec = Jvm.exec) (hZ : Z.Warmed39 s.vm) (eT : T.heap = h) (V : Arv Z h a kc .boolean zl vs dv) (hj : ¬ j < 0 ∧ j < zl) (hv : vs.getD j.toNatClampNeg dv = v) {pc : Nat} {Ls : Array Slot} {rest : List Value} (hd : decode c.code pc = .ok (.baload, 1)) :
    ∀ t, Steps p.tables e below (T.setTop (mkF m (pc + 1) Ls (v :: rest))) t → Steps p.tables e below (T.setTop (mkF m pc Ls (.int j :: .ref a :: rest))) t := by
  obtain ⟨cl, A, -, S, N, H, -⟩ := V
  intro t k
  exact X.baloadBooleans hx (j := j) (v := v) (by rw [eT]; exact A.1) (State.isArrayOf_alike hZ.alike A.2.1) A.2.2 (inb_of S hj) (H.at (inb_of S hj) hv) (g := mkF m pc Ls (.int j :: .ref a :: rest)) rfl rfl hd _ k
theorem own_laload {a : Addr} {kc : ClassId} {zl j : Int32} {vs : List Value} {dv v : Value} (X : Stand p l e R s m args below meth c T locs cells slots) (hx : p.tables.exec = Jvm.exec) (hZ : Z.Warmed39 s.vm) (eT : T.heap = h) (V : Arv Z h a kc .long zl vs dv) (hj : ¬ j < 0 ∧ j < zl) (hv : vs.getD j.toNatClampNeg dv = v) {pc : Nat} {Ls : Array Slot} {rest : List Value} (hd : decode c.code pc = .ok (.laload, 1)) :
    ∀ t, Steps p.tables e below (T.setTop (mkF m (pc + 1) Ls (v :: rest))) t → Steps p.tables e below (T.setTop (mkF m pc Ls (.int j :: .ref a :: rest))) t := by
  obtain ⟨cl, A, -, S, N, H, -⟩ := V
  intro t k
  exact X.laload hx (j := j) (v := v) (by rw [eT]; exact A.1) (State.isArrayOf_alike hZ.alike A.2.1) A.2.2 (inb_of S hj) (H.at (inb_of S hj) hv) (g := mkF m pc Ls (.int j :: .ref a :: rest)) rfl rfl hd _ k
theorem own_iastore {a : Addr} {kc : ClassId} {zl j : Int32} {x : Int32} {vs : List Value} {dv : Value} (X : Stand p l e R s m args below meth c T locs cells slots) (hx : p.tables.exec = Jvm.exec) (hZ : Z.Warmed39 s.vm) (eT : T.heap = h) (V : Arv Z h a kc .int zl vs dv) (hj : ¬ j < 0 ∧ j < zl) (i : Nat) (hi : j.toNatClampNeg = i) (hl : i < vs.length) {pc : Nat} {Ls : Array Slot} {rest : List Value} (hd : decode c.code pc = .ok (.iastore, 1)) :
    ∃ T' h', Stand p l e R s m args below meth c T' (locs ++ [⟨a, j.toNatClampNeg⟩]) cells slots ∧ T'.heap = h' ∧ Wr h h' a j.toNatClampNeg (.int x) ∧ Arv Z h' a kc .int zl (vs.set i (.int x)) dv ∧ ∀ t, Steps p.tables e below (T'.setTop (mkF m (pc + 1) Ls rest)) t → Steps p.tables e below (T.setTop (mkF m pc Ls ((.int x) :: .int j :: .ref a :: rest))) t := by
  obtain ⟨cl, A, q1, S, N, H, G⟩ := V
  obtain ⟨T', h', X', e', W, st⟩ := stI X hx hZ eT A (j := j) (x := x) (inb_of S hj) (g := mkF m pc Ls ((.int x) :: .int j :: .ref a :: rest)) rfl rfl hd
  exact ⟨T', h', X', e', W, Arv.set A q1 S N H G rfl W i hi hl, st⟩
theorem own_castore {a : Addr} {kc : ClassId} {zl j : Int32} {x : Int32} {vs : List Value} {dv : Value} (X : Stand p l e R s m args below meth c T locs cells slots) (hx : p.tables.exec = Jvm.exec) (hZ : Z.Warmed39 s.vm) (eT : T.heap = h) (V : Arv Z h a kc .char zl vs dv) (hj : ¬ j < 0 ∧ j < zl) (i : Nat) (hi : j.toNatClampNeg = i) (hl : i < vs.length) {pc : Nat} {Ls : Array Slot} {rest : List Value} (hd : decode c.code pc = .ok (.castore, 1)) :
    ∃ T' h', Stand p l e R s m args below meth c T' (locs ++ [⟨a, j.toNatClampNeg⟩]) cells slots ∧ T'.heap = h' ∧ Wr h h' a j.toNatClampNeg (.int (nar .char x)) ∧ Arv Z h' a kc .char zl (vs.set i (.int (nar .char x))) dv ∧ ∀ t, Steps p.tables e below (T'.setTop (mkF m (pc + 1) Ls rest)) t → Steps p.tables e below (T.setTop (mkF m pc Ls ((.int x) :: .int j :: .ref a :: rest))) t := by
  obtain ⟨cl, A, q1, S, N, H, G⟩ := V
  obtain ⟨T', h', X', e', W, st⟩ := stC X hx hZ eT A (j := j) (x := x) (inb_of S hj) (g := mkF m pc Ls ((.int x) :: .int j :: .ref a :: rest)) rfl rfl hd
  exact ⟨T', h', X', e', W, Arv.set A q1 S N H G (fits_nar_char x) W i hi hl, st⟩
theorem own_bastore {a : Addr} {kc : ClassId} {zl j : Int32} {x : Int32} {vs : List Value} {dv : Value} (X : Stand p l e R s m args below meth c T locs cells slots) (hx : p.tables.exec = Jvm.exec) (hZ : Z.Warmed39 s.vm) (eT : T.heap = h) (V : Arv Z h a kc .byte zl vs dv) (hj : ¬ j < 0 ∧ j < zl) (i : Nat) (hi : j.toNatClampNeg = i) (hl : i < vs.length) {pc : Nat} {Ls : Array Slot} {rest : List Value} (hd : decode c.code pc = .ok (.bastore, 1)) :
    ∃ T' h', Stand p l e R s m args below meth c T' (locs ++ [⟨a, j.toNatClampNeg⟩]) cells slots ∧ T'.heap = h' ∧ Wr h h' a j.toNatClampNeg (.int (nar .byte x)) ∧ Arv Z h' a kc .byte zl (vs.set i (.int (nar .byte x))) dv ∧ ∀ t, Steps p.tables e below (T'.setTop (mkF m (pc + 1) Ls rest)) t → Steps p.tables e below (T.setTop (mkF m pc Ls ((.int x) :: .int j :: .ref a :: rest))) t := by
  obtain ⟨cl, A, q1, S, N, H, G⟩ := V
  obtain ⟨T', h', X', e', W, st⟩ := stB X hx hZ eT A (j := j) (x := x) (inb_of S hj) (g := mkF m pc Ls ((.int x) :: .int j :: .ref a :: rest)) rfl rfl hd
  exact ⟨T', h', X', e', W, Arv.set A q1 S N H G (fits_nar_byte x) W i hi hl, st⟩
theorem own_zastore {a : Addr} {kc : ClassId} {zl j : Int32} {x : Int32} {vs : List Value} {dv : Value} (X : Stand p l e R s m args below meth c T locs cells slots) (hx : p.tables.exec = Jvm.exec) (hZ : Z.Warmed39 s.vm) (eT : T.heap = h) (V : Arv Z h a kc .boolean zl vs dv) (hj : ¬ j < 0 ∧ j < zl) (i : Nat) (hi : j.toNatClampNeg = i) (hl : i < vs.length) {pc : Nat} {Ls : Array Slot} {rest : List Value} (hd : decode c.code pc = .ok (.bastore, 1)) :
    ∃ T' h', Stand p l e R s m args below meth c T' (locs ++ [⟨a, j.toNatClampNeg⟩]) cells slots ∧ T'.heap = h' ∧ Wr h h' a j.toNatClampNeg (.int (nar .boolean x)) ∧ Arv Z h' a kc .boolean zl (vs.set i (.int (nar .boolean x))) dv ∧ ∀ t, Steps p.tables e below (T'.setTop (mkF m (pc + 1) Ls rest)) t → Steps p.tables e below (T.setTop (mkF m pc Ls ((.int x) :: .int j :: .ref a :: rest))) t := by
  obtain ⟨cl, A, q1, S, N, H, G⟩ := V
  obtain ⟨T', h', X', e', W, st⟩ := stZ X hx hZ eT A (j := j) (x := x) (inb_of S hj) (g := mkF m pc Ls ((.int x) :: .int j :: .ref a :: rest)) rfl rfl hd
  exact ⟨T', h', X', e', W, Arv.set A q1 S N H G (fits_nar_bool x) W i hi hl, st⟩
theorem own_lastore {a : Addr} {kc : ClassId} {zl j : Int32} {x : Int64} {vs : List Value} {dv : Value} (X : Stand p l e R s m args below meth c T locs cells slots) (hx : p.tables.exec = Jvm.exec) (hZ : Z.Warmed39 s.vm) (eT : T.heap = h) (V : Arv Z h a kc .long zl vs dv) (hj : ¬ j < 0 ∧ j < zl) (i : Nat) (hi : j.toNatClampNeg = i) (hl : i < vs.length) {pc : Nat} {Ls : Array Slot} {rest : List Value} (hd : decode c.code pc = .ok (.lastore, 1)) :
    ∃ T' h', Stand p l e R s m args below meth c T' (locs ++ [⟨a, j.toNatClampNeg⟩]) cells slots ∧ T'.heap = h' ∧ Wr h h' a j.toNatClampNeg (.long x) ∧ Arv Z h' a kc .long zl (vs.set i (.long x)) dv ∧ ∀ t, Steps p.tables e below (T'.setTop (mkF m (pc + 1) Ls rest)) t → Steps p.tables e below (T.setTop (mkF m pc Ls ((.long x) :: .int j :: .ref a :: rest))) t := by
  obtain ⟨cl, A, q1, S, N, H, G⟩ := V
  obtain ⟨T', h', X', e', W, st⟩ := stJ X hx hZ eT A (j := j) (x := x) (inb_of S hj) (g := mkF m pc Ls ((.long x) :: .int j :: .ref a :: rest)) rfl rfl hd
  exact ⟨T', h', X', e', W, Arv.set A q1 S N H G rfl W i hi hl, st⟩
theorem own_if_pos {P : Prop} [Decidable P] {a b z : Int32} (h : P) (e : a = z) : (if P then a else b) = z := (if_pos h).trans e
theorem own_nar_ite {P : Prop} [Decidable P] : narrow .boolean (.int (if P then (1 : Int32) else (0 : Int32))) = .int (if P then (1 : Int32) else (0 : Int32)) := by split <;> rfl
theorem own_nar_ite' {P : Prop} [Decidable P] : narrow .boolean (.int (if P then (0 : Int32) else (1 : Int32))) = .int (if P then (0 : Int32) else (1 : Int32)) := by split <;> rfl
theorem own_nar_char (x : Int32) : nar .char x.toUInt32.toUInt16.toUInt32.toInt32 = x.toUInt32.toUInt16.toUInt32.toInt32 := by
  simp [nar]
  congr 1
  apply UInt32.toNat_inj.mp
  simp
theorem GoOn.retD {Q : Option Value → Heap → List Loc → Prop} {rc rs : Nat} (X : Stand p l e R s m args below meth c T locs cells slots) (hx : p.tables.exec = Jvm.exec) (hlk : meth.locks = false) {pc : Nat} {Ls : Array Slot} {z : UInt64} {rest : List Value} (hret : meth.sig.returnType = some .double) (hd : decode c.code pc = .ok (.dreturn, 1))
    (hq : Q (some (.double z)) T.heap locs) (hc : cells ≤ rc) (hs : slots ≤ rs) : GoOn p e below (OwPost Q s rc rs) (T.setTop (mkF m pc Ls (.double z :: rest))) :=
  GoOn.out X hlk (fun h => by rw [hret] at h; cases h) hq hc hs fun fs hr => retOut X hx hret rfl (Or.inr (Or.inr (Or.inl ⟨rfl, rfl, _, rfl⟩))) hd hr
theorem own_daload {a : Addr} {kc : ClassId} {zl j : Int32} {vs : List Value} {dv v : Value} (X : Stand p l e R s m args below meth c T locs cells slots) (hx : p.tables.exec = Jvm.exec) (hZ : Z.Warmed39 s.vm) (eT : T.heap = h) (V : Arv Z h a kc .double zl vs dv) (hj : ¬ j < 0 ∧ j < zl) (hv : vs.getD j.toNatClampNeg dv = v) {pc : Nat} {Ls : Array Slot} {rest : List Value} (hd : decode c.code pc = .ok (.daload, 1)) :
    ∀ t, Steps p.tables e below (T.setTop (mkF m (pc + 1) Ls (v :: rest))) t → Steps p.tables e below (T.setTop (mkF m pc Ls (.int j :: .ref a :: rest))) t := by
  obtain ⟨cl, A, -, S, N, H, -⟩ := V
  intro t k
  exact X.daload hx (j := j) (v := v) (by rw [eT]; exact A.1) (State.isArrayOf_alike hZ.alike A.2.1) A.2.2 (inb_of S hj) (H.at (inb_of S hj) hv) (g := mkF m pc Ls (.int j :: .ref a :: rest)) rfl rfl hd _ k
theorem own_dastore {a : Addr} {kc : ClassId} {zl j : Int32} {x : UInt64} {vs : List Value} {dv : Value} (X : Stand p l e R s m args below meth c T locs cells slots) (hx : p.tables.exec = Jvm.exec) (hZ : Z.Warmed39 s.vm) (eT : T.heap = h) (V : Arv Z h a kc .double zl vs dv) (hj : ¬ j < 0 ∧ j < zl) (i : Nat) (hi : j.toNatClampNeg = i) (hl : i < vs.length) {pc : Nat} {Ls : Array Slot} {rest : List Value} (hd : decode c.code pc = .ok (.dastore, 1)) :
    ∃ T' h', Stand p l e R s m args below meth c T' (locs ++ [⟨a, j.toNatClampNeg⟩]) cells slots ∧ T'.heap = h' ∧ Wr h h' a j.toNatClampNeg (.double x) ∧ Arv Z h' a kc .double zl (vs.set i (.double x)) dv ∧ ∀ t, Steps p.tables e below (T'.setTop (mkF m (pc + 1) Ls rest)) t → Steps p.tables e below (T.setTop (mkF m pc Ls (.double x :: .int j :: .ref a :: rest))) t := by
  obtain ⟨cl, A, q1, S, N, H, G⟩ := V
  obtain ⟨T', h', X', e', W, st⟩ := stD X hx hZ eT A (j := j) (x := x) (inb_of S hj) (g := mkF m pc Ls (.double x :: .int j :: .ref a :: rest)) rfl rfl hd
  exact ⟨T', h', X', e', W, Arv.set A q1 S N H G rfl W i hi hl, st⟩
theorem own_arv_out {a : Addr} {kc : ClassId} {ty : FieldType} {zl j : Int32} {vs : List Value} {dv v : Value} (V : Arv Z h a kc ty zl vs dv) (i : Nat) (hi : j.toNatClampNeg = i) (hj : ¬ j < 0) (hz : ¬ j < zl) : Arv Z h a kc ty zl (vs.set i v) dv := by
  obtain ⟨cl, A, q1, S, N, H, G⟩ := V
  have hlt : cl.slots.size ≤ i := by
    rw [S, ← hi]
    rw [Int32.lt_iff_toInt_lt] at hj hz N
    have e0 : (0 : Int32).toInt = 0 := rfl
    simp only [Int32.toNatClampNeg]; omega
  have e : ∀ x, x < cl.slots.size → (vs.set i v).getD x dv = vs.getD x dv := fun x hx => by
    simp only [List.getD_eq_getElem?_getD]
    rw [List.getElem?_set_ne (by omega)]
  exact ⟨cl, A, q1, S, N, fun x hx => by rw [e x hx]; exact H x hx, fun x hx => by rw [e x hx]; exact G x hx⟩
end Own
end Jvm.OwnKit
namespace Jvm.Pilot.@@N@@
open Jvm Jvm.ClassFile Sem Op Lib Jvm.Free Jvm.Stand Jvm.LawKit Jvm.RoadKit Jvm.OwnKit Bundle Jvm.Pilot.@@N@@.Jvm.D
section XoPart
set_option maxRecDepth 100000
/-! iterates -/
def itf (f : Nat → Nat) (n : Nat) (x : Nat) : Nat := Nat.rec x (fun _ r => f r) n
theorem itf_zero (f : Nat → Nat) (x : Nat) : itf f 0 x = x := rfl
theorem itf_succ (f : Nat → Nat) (n x : Nat) : itf f (n + 1) x = f (itf f n x) := rfl
theorem itf_add (f : Nat → Nat) (m n x : Nat) : itf f (m + n) x = itf f m (itf f n x) := by
  induction m with
  | zero => rw [Nat.zero_add]; rfl
  | succ m ih => rw [Nat.succ_add_eq_add_succ, Nat.add_succ, itf_succ, itf_succ, ih]
theorem itf_mul (f : Nat → Nat) {a x : Nat} (h : itf f a x = x) (k : Nat) : itf f (a * k) x = x := by
  induction k with
  | zero => rfl
  | succ k ih => rw [Nat.mul_succ, itf_add, h, ih]
theorem itf_mod (f : Nat → Nat) {a b x : Nat} (hb : itf f b x = x) (ha : itf f a x = x) : itf f (a % b) x = x := by
  have e : a = a % b + b * (a / b) := (Nat.mod_add_div a b).symm
  rw [e, itf_add, itf_mul f hb] at ha; exact ha
theorem itf_gcd (f : Nat → Nat) (a b : Nat) : ∀ {x : Nat}, itf f a x = x → itf f b x = x → itf f (Nat.gcd a b) x = x := by
  induction a, b using Nat.gcd.induction with
  | H0 n => intro x _ h; rw [Nat.gcd_zero_left]; exact h
  | H1 m n hm ih => intro x h1 h2; rw [Nat.gcd_rec]; exact ih (itf_mod f h1 h2) h1
theorem itf_dvd (f : Nat → Nat) {a b x : Nat} (h : itf f a x = x) (d : a ∣ b) : itf f b x = x := by
  obtain ⟨k, rfl⟩ := d; exact itf_mul f h k
/-! orbits: a permutation of a list whose cycles all have length M -/
theorem nodup_filter {p : Nat → Bool} {l : List Nat} (h : l.Nodup) : (l.filter p).Nodup := List.Pairwise.filter p h
theorem orb_dvd (f : Nat → Nat) (M : Nat) (hM : 0 < M) : ∀ (n : Nat) (L : List Nat), L.length ≤ n → L.Nodup → (∀ x ∈ L, f x ∈ L) → (∀ x ∈ L, itf f M x = x) → (∀ x ∈ L, ∀ i, 0 < i → i < M → itf f i x ≠ x) → M ∣ L.length := by
  intro n
  induction n with
  | zero => intro L hl _ _ _ _; rw [Nat.le_zero.mp hl]; exact Nat.dvd_zero M
  | succ n ih =>
    intro L hl hn hc hp hq
    cases hL : L with
    | nil => exact Nat.dvd_zero M
    | cons x0 r0 =>
      have hx : x0 ∈ L := by rw [hL]; exact List.mem_cons_self
      rw [← hL]
      have hall : ∀ k, itf f k x0 ∈ L := fun k => by
        induction k with
        | zero => exact hx
        | succ k ihk => exact hc _ ihk
      let O : List Nat := (List.range M).map fun i => itf f i x0
      have memO : ∀ y, y ∈ O ↔ ∃ i, i < M ∧ itf f i x0 = y := fun y => by simp [O]
      have hOn : O.Nodup := by
        refine List.pairwise_map.mpr ?_
        refine List.Pairwise.imp_of_mem ?_ (List.pairwise_lt_range (n := M))
        intro i j hi hj hij e
        have hjM := List.mem_range.mp hj
        have : j = (j - i) + i := by omega
        rw [this, itf_add] at e
        exact hq _ (hall i) (j - i) (by omega) (by omega) e.symm
      have hk : ∀ k, itf f k x0 ∈ O := fun k => (memO _).mpr ⟨k % M, Nat.mod_lt _ hM, by
        have e : k = k % M + M * (k / M) := (Nat.mod_add_div k M).symm
        conv => rhs; rw [e, itf_add, itf_mul f (hp _ hx)]⟩
      let L' := L.filter fun y => !decide (y ∈ O)
      have h1 : L.length = (L.filter fun y => decide (y ∈ O)).length + L'.length := by
        rw [List.length_eq_countP_add_countP (fun y => decide (y ∈ O)) (l := L), List.countP_eq_length_filter, List.countP_eq_length_filter]
        congr 3; funext a; simp
      have h2 : (L.filter fun y => decide (y ∈ O)).length = M := by
        have : (L.filter fun y => decide (y ∈ O)).Perm O := (List.perm_ext_iff_of_nodup (nodup_filter hn) hOn).mpr fun a => by
          simp only [List.mem_filter, decide_eq_true_eq]
          refine ⟨fun h => h.2, fun h => ⟨?_, h⟩⟩
          obtain ⟨i, -, rfl⟩ := (memO a).mp h
          exact hall i
        rw [this.length_eq]; simp [O]
      have mem' : ∀ y, y ∈ L' ↔ y ∈ L ∧ y ∉ O := fun y => by simp [L']
      have h3 : M ∣ L'.length := by
        refine ih L' (by omega) (nodup_filter hn) ?_ ?_ ?_
        · intro y hy
          obtain ⟨y1, y2⟩ := (mem' y).mp hy
          refine (mem' _).mpr ⟨hc _ y1, fun h => y2 ?_⟩
          obtain ⟨i, -, hi⟩ := (memO _).mp h
          have e : itf f M y = y := hp _ y1
          have : M = (M - 1) + 1 := by omega
          rw [this, itf_add] at e
          rw [← e, show itf f 1 y = f y from rfl, ← hi, ← itf_add]
          exact hk _
        · exact fun y hy => hp _ ((mem' y).mp hy).1
        · exact fun y hy => hq _ ((mem' y).mp hy).1
      rw [h1, h2]; exact Nat.dvd_add (Nat.dvd_refl M) h3
/-- every divisor of n is 1 modulo M, where a has the order M = f*K modulo every divisor -/
theorem div_mod (n a M K : Nat) (hM : 0 < M) (hn : 1 < n) (h1 : a ^ M % n = 1) (h2 : Nat.gcd (a ^ K % n + (n - 1)) n = 1) (h3 : ∀ g, g ∣ M → g ≠ M → g ∣ K) (r : Nat) (hr : r ∣ n) (hr1 : 0 < r) : M ∣ r - 1 := by
  let f : Nat → Nat := fun x => a * x % r
  have hit : ∀ k x, x < r → itf f k x = a ^ k * x % r := fun k => by
    induction k with
    | zero => intro x hx; rw [Nat.pow_zero, Nat.one_mul, Nat.mod_eq_of_lt hx]; rfl
    | succ k ih => intro x hx; rw [itf_succ, ih x hx]; show a * _ % r = _; rw [Nat.mul_mod, Nat.mod_mod, ← Nat.mul_mod, ← Nat.mul_assoc, Nat.pow_succ, Nat.mul_comm (a ^ k) a]
  have hMr : a ^ M % r = 1 % r := by
    rw [← h1, Nat.mod_mod_of_dvd _ hr]
  have hper : ∀ x, x < r → itf f M x = x := fun x hx => by
    rw [hit M x hx, Nat.mul_mod, hMr, ← Nat.mul_mod, Nat.one_mul, Nat.mod_eq_of_lt hx]
  have hK : ∀ x, 0 < x → x < r → itf f K x ≠ x := fun x h0 hx e => by
    rw [hit K x hx] at e
    have c : Nat.Coprime r (a ^ K % n + (n - 1)) := (Nat.Coprime.coprime_dvd_right hr h2).symm
    have : r ∣ (a ^ K % n + (n - 1)) * x := by
      refine Nat.dvd_of_mod_eq_zero ?_
      have e1 : (a ^ K % n + (n - 1)) * x + x = (a ^ K % n) * x + n * x := by
        obtain ⟨m, rfl⟩ : ∃ m, n = m + 1 := ⟨n - 1, by omega⟩
        simp only [Nat.add_sub_cancel, Nat.add_mul, Nat.one_mul]; omega
      have e2 : ((a ^ K % n) * x + n * x) % r = x % r := by
        rw [Nat.add_mod, Nat.mul_mod (a ^ K % n) x r, Nat.mod_mod_of_dvd _ hr, ← Nat.mul_mod, e, Nat.mod_eq_zero_of_dvd (Nat.dvd_mul_right_of_dvd hr x), Nat.add_zero, Nat.mod_eq_of_lt hx]
      rw [← e1] at e2
      have := Nat.sub_mod_eq_zero_of_mod_eq e2
      rw [Nat.add_sub_cancel] at this; exact this
    have := c.dvd_of_dvd_mul_left this
    exact absurd (Nat.le_of_dvd h0 this) (by omega)
  have key := orb_dvd f M hM (r - 1) (List.range' 1 (r - 1)) (by simp) List.nodup_range' ?_ ?_ ?_
  · simpa using key
  · intro x hx
    rw [List.mem_range'_1] at hx ⊢
    have hlt : f x < r := Nat.mod_lt _ hr1
    have : f x ≠ 0 := fun e => by
      have z : ∀ k, itf f (k + 1) x = 0 := fun k => by
        induction k with
        | zero => exact e
        | succ k ih => rw [itf_succ, ih]; show a * 0 % r = 0; simp
      have := hper x (by omega)
      obtain ⟨m, rfl⟩ : ∃ m, M = m + 1 := ⟨M - 1, by omega⟩
      rw [z] at this; omega
    omega
  · intro x hx; rw [List.mem_range'_1] at hx; exact hper x (by omega)
  · intro x hx i h0 hi e
    rw [List.mem_range'_1] at hx
    have g := itf_gcd f i M e (hper x (by omega))
    have hd : Nat.gcd i M ∣ K := h3 _ (Nat.gcd_dvd_right i M) (fun q => by
      have := Nat.le_of_dvd h0 (Nat.gcd_dvd_left i M); omega)
    exact hK x (by omega) (by omega) (itf_dvd f g hd)
/-! the two prime factors of 2^128 + 1 -/
def xoP : Nat := 59649589127497217
def xoQ : Nat := 5704689200685129054721
def xoN : Nat := 2 ^ 256 - 1
def noDiv (n s : Nat) (k : Nat) : Bool := Nat.rec true (fun i r => (n % (s * (i + 1) + 1) != 0) && r) k
theorem noDiv_spec (n s : Nat) : ∀ k, noDiv n s k = true → ∀ i, i < k → n % (s * (i + 1) + 1) ≠ 0
  | 0, _, i, hi => nomatch hi
  | k + 1, h, i, hi => by
    have h' : ((n % (s * (k + 1) + 1) != 0) && noDiv n s k) = true := h
    rw [Bool.and_eq_true] at h'
    rcases Nat.lt_succ_iff_lt_or_eq.mp hi with q | rfl
    · exact noDiv_spec n s k h'.2 i q
    · exact bne_iff_ne.mp h'.1
theorem small_one (n s B k : Nat) (hk : noDiv n s k = true) (hB : B ≤ s * (k + 1)) (r : Nat) (hr : r ∣ n) (h0 : 0 < r) (hs : s ∣ r - 1) (hle : r ≤ B) : r = 1 := by
  obtain ⟨c, hc⟩ := hs
  cases c with
  | zero => omega
  | succ c =>
    have e : r = s * (c + 1) + 1 := by omega
    have : c < k := by
      by_cases q : c < k
      · exact q
      · have : s * (k + 1) ≤ s * (c + 1) := Nat.mul_le_mul_left s (by omega)
        omega
    exact absurd (e ▸ Nat.mod_eq_zero_of_dvd hr) (noDiv_spec n s k hk c this)
theorem dv256 : ∀ g, g ∣ 256 → g ≠ 256 → g ∣ 128 := fun g h1 h2 => by
  have hl := Nat.le_of_dvd (by decide) h1
  have : ∀ g : Fin 257, g.1 ∣ 256 → g.1 ≠ 256 → g.1 ∣ 128 := by decide +kernel
  exact this ⟨g, by omega⟩ h1 h2
def pr12497 (k : Nat) : Bool := Nat.rec true (fun i r => (12497 % (i + 2) != 0) && r) k
theorem pr_spec : ∀ k, pr12497 k = true → ∀ i, i < k → 12497 % (i + 2) ≠ 0
  | 0, _, i, hi => nomatch hi
  | k + 1, h, i, hi => by
    have h' : ((12497 % (k + 2) != 0) && pr12497 k) = true := h
    rw [Bool.and_eq_true] at h'
    rcases Nat.lt_succ_iff_lt_or_eq.mp hi with q | rfl
    · exact pr_spec k h'.2 i q
    · exact bne_iff_ne.mp h'.1
theorem pr_all : pr12497 12495 = true := by decide +kernel
theorem dv12497 : ∀ g, g ∣ 12497 → g ≠ 12497 → g ∣ 1 := fun g h1 h2 => by
  have hl := Nat.le_of_dvd (by decide) h1
  match g, h1, h2, hl with
  | 0, h1, _, _ => exact absurd (Nat.eq_zero_of_zero_dvd h1) (by decide)
  | 1, _, _, _ => exact Nat.dvd_refl 1
  | g + 2, h1, h2, hl => exact absurd (Nat.mod_eq_zero_of_dvd h1) (pr_spec 12495 pr_all g (by omega))
theorem p256 (r : Nat) (hr : r ∣ xoP) (h0 : 0 < r) : 256 ∣ r - 1 := div_mod xoP 2 256 128 (by decide) (by decide +kernel) (by decide +kernel) (by decide +kernel) dv256 r hr h0
theorem q256 (r : Nat) (hr : r ∣ xoQ) (h0 : 0 < r) : 256 ∣ r - 1 := div_mod xoQ 2 256 128 (by decide) (by decide +kernel) (by decide +kernel) (by decide +kernel) dv256 r hr h0
theorem q12497 (r : Nat) (hr : r ∣ xoQ) (h0 : 0 < r) : 12497 ∣ r - 1 := div_mod xoQ 2638039355492398217517 12497 1 (by decide) (by decide +kernel) (by decide +kernel) (by decide +kernel) dv12497 r hr h0
theorem noDivP : noDiv xoP 256 16384 = true := by decide +kernel
theorem noDivQ : noDiv xoQ 3199232 23700 = true := by decide +kernel
theorem xoP_small (r : Nat) (hr : r ∣ xoP) (h0 : 0 < r) (hle : r ≤ 4194304) : r = 1 := small_one xoP 256 4194304 16384 noDivP (by decide) r hr h0 (p256 r hr h0) hle
theorem xoQ_small (r : Nat) (hr : r ∣ xoQ) (h0 : 0 < r) (hle : r ≤ 75600000000) : r = 1 :=
  small_one xoQ 3199232 75600000000 23700 noDivQ (by decide) r hr h0 (by
    have := Nat.Coprime.mul_dvd_of_dvd_of_dvd (show Nat.Coprime 256 12497 by decide +kernel) (q256 r hr h0) (q12497 r hr h0)
    exact this) hle
theorem xoQ_prime (r : Nat) (hr : r ∣ xoQ) : r = 1 ∨ r = xoQ := by
  have hq : 0 < xoQ := by decide +kernel
  have h0 : 0 < r := Nat.pos_of_dvd_of_pos hr hq
  by_cases h : r ≤ 75600000000
  · exact Or.inl (xoQ_small r hr h0 h)
  · obtain ⟨s, hs⟩ := hr
    refine Or.inr ?_
    have hs0 : 0 < s := Nat.pos_of_ne_zero fun e => by rw [e, Nat.mul_zero] at hs; omega
    have : s = 1 := xoQ_small s ⟨r, by rw [hs, Nat.mul_comm]⟩ hs0 (by
      by_cases h' : s ≤ 75600000000
      · exact h'
      · have := Nat.mul_le_mul (show 75600000001 ≤ r by omega) (show 75600000001 ≤ s by omega)
        rw [← hs] at this
        exact absurd this (by decide +kernel))
    rw [this, Nat.mul_one] at hs; exact hs.symm
theorem xo_nt (g : Nat) (hg : g ∣ xoN) (h0 : 0 < g) (hb : g ≤ 2 ^ 94) : g ∣ xoP * (2 ^ 128 - 1) ∨ g ∣ xoQ * (2 ^ 128 - 1) := by
  have eN : xoN = xoQ * (xoP * (2 ^ 128 - 1)) := by decide +kernel
  rcases xoQ_prime (Nat.gcd g xoQ) (Nat.gcd_dvd_right _ _) with h | h
  · exact Or.inl (Nat.Coprime.dvd_of_dvd_mul_left (k := g) (m := xoQ) h (eN ▸ hg))
  · refine Or.inr ?_
    obtain ⟨c, hc⟩ : xoQ ∣ g := h ▸ Nat.gcd_dvd_left g xoQ
    have hq : 0 < xoQ := by decide +kernel
    rw [eN, hc] at hg
    have hc2 : c ∣ xoP * (2 ^ 128 - 1) := Nat.dvd_of_mul_dvd_mul_left hq hg
    have c0 : 0 < c := Nat.pos_of_ne_zero fun e => by rw [e, Nat.mul_zero] at hc; omega
    have hcb : c ≤ 4194304 := by
      by_cases h' : c ≤ 4194304
      · exact h'
      · have := Nat.mul_le_mul (Nat.le_refl xoQ) (show 4194305 ≤ c by omega)
        rw [← hc] at this
        exact absurd (Nat.le_trans this hb) (by decide +kernel)
    have hgp : Nat.gcd c xoP = 1 := xoP_small _ (Nat.gcd_dvd_right _ _) (Nat.pos_of_ne_zero fun e => by have := Nat.eq_zero_of_gcd_eq_zero_left e; omega) (Nat.le_trans (Nat.le_of_dvd c0 (Nat.gcd_dvd_left _ _)) hcb)
    rw [hc]
    exact Nat.mul_dvd_mul (Nat.dvd_refl xoQ) (Nat.Coprime.dvd_of_dvd_mul_left (k := c) (m := xoP) hgp hc2)
def xoPoly : Nat := 0x10003c03c3f3ecb1904b4edcf26259f850280002bcefd1a5e9d116f2bb0f0f001
def xoOrb : List Nat := [0x1, 0x100000000000000010000000000000001, 0x200000000000000000000002000000000000000000010000000000000000, 0x200004000000000000000000000000000000000200010000200000000001, 0x4000200004000080000020040002000100002000000200000000000004020000, 0x4010080000000080400020000400000100000004040200014000000000000080, 0x4010280201008080000828040402008100002004000200800010080404020001, 0x500008020100c020401020040100008000180004000200004000000205008001, 0x58040a030100c020001820020400808100082002040280811018080404024021, 0x48142b01854020a0500420030100c0a010080804040040214814220501000080, 0xc102b038460b02808180a068042c02008180a02040080011008010080406001, 0x60520810420300c0c1403070000a02110080104040220201400200100205028, 0x420582c1a430a0041a1c2b024060f009081c22020422d029020d018400024004, 0x4e05a943341874025c1522c3e030b00d100d0884444060244814a147a0103029, 0x284cbc11438ee0b05090b0480688024040c8b000460e000161c0080d048240f, 0x1c160d10818220b051503459020a42b171980845440442b10944041c0102a04, 0xcc402db1c0aab8b1489eb84d8668e2f0298c3800470ca04064ca0149c484c24, 0x4c31e1cb982b630f95c54371d026c20b105d8810405e080f0810614f84322dab, 0xad600b8d8d3b7b0e8df5a282440aefa08d88aa2e144ae7af547c08945c4746ab, 0x3394241d1434732e8dd58283d713a90b540100380c074ea47494a937c536da0a, 0x67b14cf2a484a306f93133ba8f6d7301ad402b8c1e223da513018d12dd05e780, 0xd3d4795e2cefd754bd2882ec29229481477095244c4aa924d9f0ea6c67a37923, 0xafce12949d8f4c144e90f0151cc9eda223a8fda402cb44864d54061607060753, 0x8112518cdde613e8f88cf39592c3eaf1206c0ba71904ae77c132e92698420fc1, 0x57b3f42fcb45789c2ef028ba566fe53019d2111413854b47604cb30d5ca0b25e, 0x67b69cc3ca77b186c94bcbd9c41576e576e8aa3194a1c292e2d563684608185, 0xace62a22bc6de4bd57ffd81f2073d6eb15d76028016bcac27f38b559a18de6b4, 0xc5cff726294157a0e8976f91147a305f3d100d6e8095fa9dc609ff531c8bc8cb, 0x95a7bf1bff49153a344391e9fdcbf894138e9dac886402093ed6051bb55f65f6, 0xa2e670c52456eee531cc843a4c869d62191b095ec0f09f6bb8ff27acc27272c5, 0xce31d77faf337c949b8e2277b022efa79028aac84e0470cc03025e3726d4034b, 0xe18b0bc32fb6fc26cd1ce048776eecec08a4d688d8f29c205d1b2380c7e30f13, 0x8c00dd25fba97ee83d16722d88cde3ff98a31540687f7fdfb434fecb30a76f15, 0xc026e294790cb27aa3a25c1847d48cea118199a6d015f335a09736aea3716e22, 0x2829fa34ef6655233078ca9d02cfe2c812b4f31034b011fd71304d9c0a682f6d, 0xc89bc753a1249b7aa768ee612b5dcda553fc74113c17dc584bad44b8d1be6bb3, 0x68e4536cf66853a604e7d2f64253a616bf39dec8c6f47a4ed0caf7fa4c8d2c91, 0x853d1afbb1b4861369bca8e4fa428a876b14fbc4c82af0c907177a5e7c110579, 0xcedb5dc53c27ef33992242ef67c18ffe05bf297e4e797f37e93e9b61058f73a3, 0xd200996c8e976e4b22e0457c9c20fc5d75a3f0f02c37836a225aefda77d1e3a7, 0x1da434f46d339454e15af2c9ed251ffa75195a56c7c69c9085f98646d5710e86, 0xa1188d17add4555ed00efb020174117c11ba2ed9ff928deced44e8e47f840642, 0xdb1656145479ca4860f9ecc36528173e2cf03d3f81629ad25de64b2a2dc2def0, 0x6a135efccd657aa34760a52c7d4ec9ce11ef9ad6c988531caa002001f8d98e6a, 0xa537ef7f9885409dd8cd163d23af47a4fc8f1ffb4c1f14b8d1fce42bfc34a7d5, 0x4a84ab371e109a9336c76a28f6ebe071f5beeded9384f4c9884414af28aef3f0, 0x8dcb57e748db51b26558598e37d713814b3d936a4dc1e748377e5275a53a9daa, 0x56df58ded891a0a374f290785c7d8e2b191b9891df2c6963f18896f8a0202b50, 0xb93809f89809e0f7b459b8d82e9ba57b9c619e112371cc18be4c56b7a79de290, 0x59de4ab32fd376f3637a88c113647eb9674707eaa778bf39b15c15e1ce5ce7f, 0x5793927d329ab3114ddf3d3d1a3589943b5619aca7a4026708fc558b846f72e3, 0xd62ecd98b17a32a7767a27fe9a94fb777e75711a39fef9106439de5a1151c395, 0x9976f50b77905110f0778a5979e538e26c3688beb23bc1f2cc6262d899d50822, 0x721c5ea80fb6b8b52d688cf663d430c05023603f520bf13239221f6d5c7e98c0, 0xa930e447e7d2ebb7d434378cddcea8004469f3a46da159321b1d21fa01c3d147, 0x7650bdab22fc714e2861cd346e6979478b40e5d2b1ac2075f64436198bb063c2, 0xa277fa20b0f326a15809875a5331a8555651eff54753af00b546e6018e032f9, 0x41134be84c2babef232a5effc833287c4bb1e8eae9a6128c54160f3d479a3a63, 0xb72c6154546054b1a6e9828eaab1121f3c8db928660f00935eb4ac3fe2178300, 0xea8451743b0f864d8a0de2af4980911fc4d097992ea9918cd5157443d078d722, 0xc2f825ca98dda2b4702acbbfbae0463d9bc80175b751d7b1fb41b2aec5dec0e3, 0x8ea0ab260497e5f1898017b2d05c86de10a37864c86f516fa2719611ea52b5e6, 0x1693d3c07a68599fdb38117d98d033383b52f9c7f26162573c72455326aa0178, 0x277905b82540f10114c5b0ec7ad43240dc18ade94c1b501711b36f54aea33ab0, 0x7422df6c350a2d2b5ea4478e745908f0d96e7251986c58e7ead2c705c7f89ba6, 0xceb995a995a7b5ac50d5b053026f93566d18f2da2bcdcbb1479e6a386a9eee6a, 0x4fc3b4742cee77cdf2ff8df0ff937d3c7a5328b1433cb68de43f0d4bd4f49077, 0x582806b21398adfa47a206c2467ded4b6c93a80a685b5bc6d1af918ebb265137, 0x7ec7869775d70f78c61947fa4ad7bc7cfa9e3f469500e7bae5143f36c0e5a70b, 0xfd18508b373a3c1a5d8052cd45461b77d993478a1f32fccd614d86e720324fc9, 0x181ae49162e02501b3d9ea4f9cee54bee55e93a07a46a87345c691e6083a8f1e, 0xd1ae5fa88ee62314d15f8f24c432dba01341e809ee9273d3b882e6d7109c026c, 0x8a18f85df6f42c0eb9ceb4d73308d9cc7a9c81fa3a3caa1f7a6d517670e852ab, 0x10c23e108f34f999c05791d817de8b67b93f645b79dc21788ae928d1bc20d4ba, 0x1b1c353fab497edd82084ab1e90e5fddf381dd52d2227ea52314729a4ac80c5b, 0x600f1d13bd0daf2d1bb99c6f5e8c5386529de57971e42d23cb899af733a30c23, 0x3041c6525f0d599d1ac2e55037695fa582ade3e11ccb7286f91b629dff4a8e2d, 0xc563765d84b66878241bbe5b2d2fd1886174642cd4e8a30e4bf7472ebc8ca536, 0xd96ed482e24e2a0ba7b550a4d7bf74be0e989d59454bd7b0efe0555fecd26e40, 0xbfb77afec93b74e072e78f6c940d1afe46cd98a27e26cd4e38161c844bd793fb, 0xb735df2f5c4b96e37bb56fa5454689050c3c0b4aa1fc444bc16cfed8fcca2a55, 0xfa5517613a8cbfb6ac4cd285311aa350b6e59a371870e71b7a652abd017df8fd, 0x8b15a99611aac45fe247c8d9fe515bad60cc620f2817bcb636d5a7eb2381a050, 0xaf1d3d7b39732737108c3f1da4bcfbfdb45e0d3df5c7474bdd0c6c721a3cd8b9, 0x8c0f83686608d996d7fbb8e13016234479de5e524b47640fc64f5c34d688b8c5, 0xf7b33eba3ba745a9ad10725b2e809b81686aba87add9ff8e339e810efbc7055c, 0xd744f3fb3087b2cfeb81a8e62a5b9eddf6e449d2789e6153ac4705336db9bf7b, 0x3a73843417452903d4625ce9854421a6b122e4073f7c40f58de7bf1a25a06ce7, 0x2d3ed16a2c066507918b9d0b210e4d41e8a707f49f980db406b6df290d990511, 0xcd1678b33ad3d67398d47d1237ff48507f9a45d6b30f45e4c32f09b7be076da2, 0x9272f65187acb13bd05612bb023025f2246131733af7601671a334d237dbfe35, 0x7a25b6c278e457abc3135387f5c7dbc78594171a0f1cbbd1c7b0f3f08a802f18, 0x1d8f5ff6343b0eff2a97be4e08e5f4df8137b76d705b4f0e38015228fd78c362, 0x83e33971d13688c7c4c0cd06b8137bd93a15b0b85c678b3a4b9bab3b9188293, 0xa207f373ed13931a6ee2bdef23ffb52e4b54ed68575fcd9d3f26d22f21cd92ac, 0x8bd0fd2a63c377498b14c17f990827821a9082a8556dea1fd675cc349b81cc2b, 0xd3aad2280ff046d55831a790d6b7eba947f18fe357e401b64735b3b6ad2f517d, 0x88ec728b6bb96b0200c2bbee78f4bad458f59bc52c7cbb62d36eee7df53b161e, 0xba0c1a033d29c8f8e4260d6afb0bacca8b59ce56a1b317a803770733b2fec67e, 0x5bea062aba8ab3937bfc493f66a56ab46c08c40fe8467d1c3222d3662e64192e, 0x99d1e6fc5844aa59c1c14ad5b2f9739a25d65e56a0870e8605c011437ca8d7a1, 0x749bf780f7155f1878ac1a98d35da43be1d705c06ed6aabdb9c7a9e9846b737e, 0x7eb4b2a99e481338caeb6edc024cd74520bcb6b139e07df82c8b5ba91da886db, 0xdd80bc1008314f58b0246b5e414519ec6dc83c426042c6672835fb1ba00e81b, 0xe71279609100a4d0fe09550c06d8b9853f5d9ac0781095e3b987d7b49c87d088, 0x6267b09fc741d22720e7299b199690d78d31878e24ffcee61c834147597e1bb, 0x7c398fdeac6e23c7233782123dd288b66b155ef5264174581f3d57656bac0077, 0xeaf3e2e59a25714581e099f5bece88c1571f8b82703ffc990811864ee18357e8, 0x51bb97bd8d2cfd439ef5ffc4a67fdf29deee94392f7223b0b5fdef290b99da34, 0xdbde71eaa070944b037a4e09ea86051df5e684d4829426ad3aa8ecada9c704c7, 0x965cc5c71ea7c45c307ba78c0e1b01dacc342670c1d52777149019938b23b621, 0x5c656b4d1c76fbee680a3db5cbd6b7fbe8df986f44ed908c4ef8fa245451550a, 0x6d6c56975e644b13162c4e4abe9fe2f1ce2d5ffedb6a727dfa4209060cca3e68, 0xc72dd468212d30a15393f19856afdc99224318b2693faee45903006f89c40706, 0x53c8bcadd99b49023bf4238882a3db9f28d3e945b654757bbc6dccb5c1d69943, 0xe78f2f636abd0df955128395a98342dcaf4a0678f52137a7c776995dae19a53a, 0x874bc918a52373f39e95f08a68d4e7e63d2e1cb0f2bbd0418fb3b04631859f64, 0x1476574cbab50af32847a5bbf9d378822c085c7cabeaa8c335d665ee661d3cd6, 0xf446070fc166022ba5689780ce48445431999c293424ec970da86ede77429ee6, 0x5dd798bbf364dea8909291176024dab2995965778d2e3625c877f5f88200705a, 0x5d11b891dfb98fc9920a7eb38e6eaae8c1bc01986f0a9ccd0cf90834fc4a98d7, 0x62609395b72136169dc3a8924bbe323f5f4f771f1d2eaef29054b13d4cf98bd3, 0xf31c87a5fc915541e3a923f25aa3b9ec52d86eb01a69171ead7b55b7e6f61337, 0x84bf4389d22bcdf93b242979269aadb1c0a18f5a63cbdc50cbfbca2000e5168, 0xc02342883d99a763aee6b24ce9edfbb38307e6c0345b467618fe506f3b105072, 0x5c22a864948901387b988a955e11abc1351f04e3e6a6edb75bdaf42732d2b167, 0xfd91ed27b590ee452985b3ffb7ad1aa6155d7a518a65f71132e758a040fd5de8, 0xa32a9d1992eec7feefc1ff941972474e0e3f910e7d35b05fda2bcfd67f0844bc, 0x6ef435a2a182fdfb17f6ca2906c403f23bd5a14c1b4fb3ad773ec3c190d3331d, 0xa9cacaa4329dd75922503f77f14d30ef5b1da8a48d588342221f572f2a1e7d4b, 0xaa837e5aec4017f8510672e9ddd74da45b52c0fc560bcee6d0c8352f95db2950, 0x7b23de3a37d4d7490036ebd1d5c064f4da9c873a1e07aa1221198b892f90f04e, 0x6fab7437eb20053a2f5b5c57ae7494bafbb3e762e4573ea880a6d28906438d15, 0xe7725283126aa1ee61384670d56719af544e69bc4c60270714be41dc0934b687, 0x50dd36678767ebc1a6fe9f6c925daf2821c86e109033882fa7827ae3573e306e, 0x8c7dce22ab0ee2eadd5dc5e8d53d9f4620b48b9f55501769d6972294406a5380, 0xdeb0759928b7bfcb1cf44ddcbb85ccc62b7e6ce3c007dbaf7a5e6729be34a603, 0xc8c9eb9c32f5d16bf6daafab2ef6ac54dd44616c5b6b16a8f907e535684c267, 0x3d8f882b1b15e0d3bcd05fc486bfa8a27d2992bf21dd19c8cec8a6fc501d2e1b, 0x1f236814c35287595766ba82e53286b90f316b87f77f9f718e6ebc686ad5d700, 0xa3050202407266850e07e815b10551b9d6396d6d7898cec89e7cbffb5ef8cf28, 0x5509aea78dede71d4aa1a6df726d9e9146423a8397655059eb40d09466126765, 0x16e8826972848351d4e65881b4cdf9f4e7a34cc8831aa9adf80b44b07c9ad021, 0xc55f9e2979d43e33b57c1a049b0d29d5cb4e50f94b4d807809408a118d04fadd, 0x37c961c239da06531dce068e16f9d3087772c0ec5d445370075144c1bf9d4496, 0xcaa468177425cc939b47f8c70f84979e6ded82a3f420c4ee47eae5efdb0311b5, 0xa10fb4e93d569000d9eaf5695d5b862bb1409f8b20a742c5e0a30f5b5b0619c8, 0x3a58a209e56c43be065fbb7c83d79fe3880965b926fadd26f0ec243946f7cb0d, 0xd3d3164a38f618723dc1d2b07f6c54ee7ebafafce3da89c842bde38985615595, 0x923755ad3d96db658a85f68ce99d017b01c6cbc519d788b3efd40f3f5e4dc42f, 0x2a7ad27e33cd0488f2dbca1ca6b6c55464973276ae074de77c2591577a0c97f9, 0x492de9ddbc0113b9ea130745477452adea69693d72bd1f4a32c8715fe7c6de96, 0x819e7468901c19d70aa193609e268c3b32b21f27d20f9371918cf1bf297ad265, 0x7154d6658d69e842a562c6c091be5e5ea99f7df86553cd2f22a09af06b6958c3, 0x44adbb197573bd077c3296976089069d2e5d21c89f84cbb2fa6b316d83537dae, 0xeed6ad5e135a3d5ec5c898f374be7b33a80486327c5eb081909babbc69a40b1b, 0x91bbe8da456d8de05937cbf27c187028fd57b57d6144c0a9d64980d006a086c4, 0x29a92d9d8bb4e485e58489abfbeaf6ec7229fe5f1bfc3645baa5dd772289cb8d, 0x1a580b701a785209a39f6324b5e93d612d08aa83c29f0b24e1250eb5b2c1194d, 0xeb25a6ea143e7b1c17bde8af1160242c6fb2c712c5b72f08d675af466a264060, 0x2a829092ec3f1a314fedcc872556644cae7a80fbbef14b4452e2cebebbaf1474, 0xca2eb09f020d2a591cf87fdb08717038b37582c220083b7cd61aded7e9614501, 0xa224af2b664ba440cf66e11c97e83539799723cec1180e45af41ec8acb645424, 0x7540bb76719cb4ea27ba8fa64006611d19b02e589d946f5874f2606f6c37fe21, 0x1b764d9e12a5dd810ff9d4e1f2819f3c4af8c191b1a5f0641802f541803f2593, 0x5bcaa31d181f46094d842eb9276baaf5d03e031c31b4acb498c794e233f0876, 0x57d56b17e94002531d37bd9324dfb2d98057db947252f8121133334e31a5b6dd, 0x5f483af056107362bb2c6a78e55e04048c5355496728fc16c6b183cdaab74c9c, 0x11ee9a636df72627d70f27e4b7c54898f1cebcfc28c1b48e15aaec749b8fc3e8, 0xd2553c0404d3e8a6bb5d9a1345568b70336b776c048b3ffef58acaebdeb95141, 0x1aeb1c27c96d000ba00f59eee413da317dbc27949f64e5cf14b48183dee18619, 0x3cb88ceae7766ac1fb92e6a4f16c5c28c907fff9a596b9e773e3ba3088e863dd, 0x1a64deb7ee62685c778217b90a4a3ff54176a36ddc128612865cc923ca08b0fb, 0x1dc9cb624fbb464eb70566bfcc668f0eb0a87df71c50091cdd4eb4f9f8785eb5, 0x69ea55ac36d2aa7d91a5eae62626d1bbdae3afb1284ed8a7702f026cab9311e7, 0x8e5b56613f43a3d3bee8b8173cfbc05c3b69473ba5fb18fbc326f871b50f633d, 0x176516a6422b5357f3b90b90b802a36146a7075d2c0fbb9a7614e92b2fb7d815, 0x9d19aa38423f6dc48b17baa4e0817b74c30ae5e6bbbac0ee27d6f8d0419330d8, 0xb5a54bc269fbdf30670c350120ce4bac6fcba7921aa88b4279c5b70eb8169df2, 0x6a8e5b4ddd8a0e6a51edb75e8e5cd65e7102259d82705d1ca3ab5b5ecb45c980, 0x4a6ec3718fda0bffb97de8e0ff211fde8344c99dc76942c2b827258e94bf9af6, 0x6927b925415d8916926143bcee1a8528821e04f3acf7c7ea710d2f62dc0cd3cb, 0x49df9d6737baddb5ea8b3531bdc256e36172682d9ee191099a3492b431a69d37, 0x69978515bea9552ba0e49a46ae76cbd411cdcfa812855addb29967fe98fdd18b, 0x81fecf0b4957b5858d2dd8b283311a5f03b03210240e4082cac32d4334d1de7d, 0x3ea0f049dfa36dab23cebded36e4c422445ec7e193ee84a0488dd05859882b7a, 0xbd216f5fc6f50989e4804a68662cef582f1daa54fc826bf83273e7f015c5c271, 0xec4e324798a1674e825a549ca4192d29f9ee07cc8f6b46d1a04f22fb2fb2a000, 0x4433e2b406b162f92d8c68b106098d29dbfb71ab04c0cbf8b5ef17703878819f, 0x352033f91263e04e7b357640a9810cb643980e6a3ab1c74e2a27846f3a09289e, 0x44e00ed707b2651a4dc6874c1d142428128afc45a939e3665c9fb9fc12db0f9e, 0x70cf8acd5e5255d1e9d26cc3c9032bb603d3c2f5a6f6c8d00af54b6ebc5089e2, 0x93a02e6389071f1466cc6a40e4f3a254e0f4e558d3a56a8479e9035644f414e3, 0x4eb20e6a99676b54d594ce5c750fb6b7ffd18c4e73a2dc330abdc86d1e566173, 0xb6ecf62c70449d58c7b5e174d33fd7c420f88a7f18fb0bf7bbde4a49f493d614, 0xf2d5f2c28f8a6d1768959acb304201d05c9321423f570a272dca361a9c2c40bb, 0xace615c8da70161b07dbd27fb820416b19cc8d9393394b4c838ce59a2cf1278b, 0x2baaf6a5530b69299f701197024966e09d9bba7607e82dac36a67dc165b87adc, 0x6890b6c6299a6a9cdd3a63863ca91c3c344dd6206019319080973112315b3e59, 0x6b618b9bac1cc930f1ed92a66ed2226569e084b46deb13f5dc4a51f478d86555, 0xfb58a05021e5f83e24cf188431e04730444747e67be154c5decb5edbb92fbf90, 0x959f77e3fcf6cb4075c8b19d2145f8a0be4301b9f32eac6561d4b96de32b136b, 0xce4a57b8ecb41fb176feead9aa4ebcbaa5f0949314047ae4a08cf37ecf3744e, 0x60cab4d7758657f14ff5431af90b9f85f73828d34717d82becb363055378721b, 0x31fb52fe53808652f2e0ae301a25ed9e547e08cced6435b57b41ff0161e9fdc1, 0x967cecb0ab4657dc98388bf910a6105fdddf59fd96a825ea1ec4a533df0d4e26, 0xce46c97476a9a7bd3507039a847f5e795b23773759037b935567107ee2e33c10, 0x5b85d2acb7c865f58e0ea1e291ba62693b4364d33f9f19fac002ae3dcd49e03e, 0xef81ec18d6cff10a87aa70e16f078257754f6b0c636c9bada0c41842451e9c31, 0x6d54f359d0e296b4f176ae7a1d431e66522103af497585cb3a0a9f56f0bdf696, 0xe26fe7eebe1ed332cc22a3c7e668e8f0995d3283a48b6d3b057f6fa0692ae5e9, 0xb7c12f665aada352ac5a857155340d195000fee42bc960227e4dbacd73bf5be0, 0x986e1cf83a304e2c2fdf682ee6cf56f98217c1580d4236db998c6b4f02db9890, 0x4f1ee34f3bb406ee34e319e589a2ce693444c239e956f8b283f5b6ef35a9e067, 0x5fcb8f6b442eda5c33657da74d6f2e0e83526d33555dd6bcf8af9799e74b1e3b, 0x619c1b933c4b022e11ac4085075c30354898870dff79e689243675c1f63812db, 0x5c94e5209393d8663b81cbb73c7622ee7d02b2490e1dc4670d32e95f350af67c, 0xc3802432caed33b152213ed381b2d4924bb190a1076110f52ca4be36a884ea7d, 0x84689106369279b15fc78e2708dc3eef353410442e572e1aa4950aa56508c939, 0xaaf5762b90284318dbdad82c31e0f7d6ce6694c64383d9cc15c98be77dcd9e92, 0x735a8c927c5dba75e79fd4ccffb569440075c70d0faeb088715a690aae660446, 0x615fae65e973ee7e18dfa29b30c36d0296b07acb5e7ddd8a02752295dd950ebb, 0xc67e9efdfa95d6e1ef3c3cf5564263b98c1afac5b32bbe33f59af63b6a9b3d4f, 0xcd1a494c8c870937ef2dac9940bf5ef696bc300b8ff2e0c5bffe92032325559d, 0xbd3e4b74cf28e06e30c4217fa2100b6bc66f0e91ec68ebaee458eb442050bc6f, 0x1780f6a28bca468c9bf12ea551cb70412f3c4aa6e285caa9f09aea10310b7af, 0x9f184271797808d2dfe2601bef5800ab444578e138245c018c82656145844f6d, 0x8a9a7b6ba752082ba2a2753212de4fc617257d9b92f813c757df5ff104d81bbe, 0x437d93b7e0de06b50e4a0f3331885478e258575884fe47bfca60590131720052, 0x8215424b89dec846a9b5fce8f84542a2672016a840413956b459dee55524158, 0x3fe225ca6aa9c793030bca28fdfc157227acc34a5ed206e74516c8a069cbbe49, 0x782e8309dcd0068fc089bf2c99f9ab3b61b1c1c2cae5addc5d582e205db07f3d, 0xb56a6333e85962c61e5404c79ff1d406fc6050ce0eac79da44c76ceb4b85d46e, 0xa3638921467fbcdefb0f757427c00068a6f338e2dad879b20dcd5f16ad70cf72, 0xf8ad80b21638739487079fd279d4cf1a503112805068b6a8085deed531d70a1e, 0x18a79513924648caaa5ad1d62553c504df6b6387186b73aca0c17ce77787cf22, 0xa76cd8f99ed29145cd959de7b58c0a26d5f0ceb64abf798a670d8a73fdaaf444, 0xbd19ee5382c9fa8d37f482eabb32fe627f68d922029987e815919c3c29c71c8b, 0xfacb84e26ee300a90211be59d25e2e95d0dc7f4906c6501d7e0ab4da99761ee, 0x4aa16a542ff756d0c8289070feb083071acc775ca4dee6068541d4f71f1534e5, 0x361aca0da3a11165a3d00d3a2da9b7e257a533db457b51e4d52cc9ff943c8433, 0x48102c37ff3adcdb114a4e331a5d33d12159f71efcee6235b493302972e6c4b2, 0x97ddcd293b65207a4be487c6acd1f7638480890494559556dddaeb0071327a5c, 0x16a5826ba885b5e68437446df74f8d3f12bee5c249b61869ce87af2dde02cf70, 0x75b1e0836cf53c268134782c199f424f580e0e8260fb5a26ca9cc8843f3162ff, 0xccc005b7fdc0218156ac715e92e220b013a6be2a46557a96e7232685333f04ff, 0xab62fbecd773b772cddbdb7154f1244fa229e9f1e7885ed938459d1888aa5fe8, 0x7d3561296243a61f267d897961e97ba757b7af983bd3257e310e8f05b851b643, 0x106c255059d62b32484371da9344cde440c4a9e4e26be89a1b8c41b4e1c13522, 0xb8750a15119697770006f4b9a3b1f8c6130b998a90ee105c4b24cd005a7cf68a, 0x10e5756fd273f02f78371865d9750e4c5829a03369231e10e05a5e9fdb0471a1, 0x1dc7e9199aab976ad80b94bc3e517fedc044e6c96b5261fda8968bc360549f9e, 0x3ed2fbb061fa1e3fbd0fc9db9dffe073b0d9f9b63557818e7515841391ad6909, 0xb3f631c16040ca953b7627670f4e897a78c3b47e390508f4fb1e8615c500f6b8, 0xb84c3966b0b7eb28a894d378dba67fc2b8ab150cf34b7736302b03aa9c4534d9, 0x9383c01ce58d487fb2a63644a98f4b1b2014c5deb4a83c2d30cc2fc0dfb9a8c7, 0xae8a5672e0b84a2409d770d40e6ce3dca27edc5ac29edff1835b2a028e9cdc95]
def xoCo : List Nat := [0x1, 0xf2c9adf7af0df9f465ab73f77cd3a2ef3c25140c5c9c3038e1dedd95ca1747bb, 0xb460444ac625d79b203cd6b025af2f4ac2a3bb3949b9b88bb714d51dc513ff9, 0x3551458e3890805b945c1b47157b3a5e69b3afa458ab4f609978da00617ff5df, 0xdf47767c553f3001a1d225b497038b0a8296cd3a1e5e73c9d37648a6a077762c, 0x919955f819cf734aae74a0c3528773bf594698cbe24c201bf75bb029e5370af6, 0x4f360160b8ba7f5839a35309544b938097aa4026f3c3246637d527114e9e5c03, 0x878e684570dd1a2fb420385235f699a998ad6fbb19907ff9f2e21b93d5c0bb00, 0x877ae21c02c2f0d8f023f169078d5ba155bf47e5d123c6966f8bfa66bbe07f2, 0x8443be2e129ae113b575190e092eda0c4bb3d7964eac24622d80c1e9a8aa51f3, 0xac86331b906f1879278675f2f91c33f2d73e6d9fcc56dc6d5524f5ae275f3594, 0x8c7bd673189f29a00644c1bc411593687c063b2b45b0e0377787b22ce9a70db6, 0x8b48e6dc3ee323f718ef9aeba1ebda63ee156c10a348d0b758e9ccb2c611da0f, 0x3c0983725f6e0a82965f304d65de789c2c8f887cb776dbdb9298aadf12472bf2, 0xce2bb4c57d9bd28a735e07cef04e43c8fa63333b1f5e002019a9a8e232b213e, 0x48f60e0a500cd7ea18f2b39ee60290def1e935bdc1e2ffeb161296e849eab201, 0x9214069e88fd4d32d92800681171d7541cda6a0b12e646193d5c2497d0a5f6af, 0xf765117ab7bdca5917e70b6aebd99d35693efad2fb24dec4f9ef5c4b4297aafc, 0xec48e053e19f460ef691f5491ccc7ca8d85501b197b93a9ad5ffa09be83e4edb, 0x81478d3e7da97a2d9c785136f3f04442aef9a71b507f20b6e47cca56aa7a9e45, 0x96d538ee43b0728a2a28e01c5b87169df7aebae792938ce632a5976409e10449, 0x52e56790d730b665e764f0de28c69d6382056c0236744ff6502769bd863b017, 0x59775805a2f1a9e797c407f95007f2e605a4f1a6154310e9218c028ab2d984, 0x55759818f8a22dc5c56d946938bbef5c0ce147d9cb4de6d20c06b110e316b421, 0xb7e0cf5459a9150148908641c2e7c7d9f537dc2a55eb94c88e9c9f82d5c01a0b, 0x3a74ea63bdaf892e80beaa8c5383564fa427c620cf849a7398b05dc2f0cc9f5a, 0x1f7e55eca1bd520677be006d8e34b9665fb54310b7773899b6e4e17452361fb6, 0xe23a606b789ae0b17e3198ec56ed9af4f993df6acf0de2a732c2827db3c507b6, 0xfac451a8560880a12c127103ebaee67070e91848508324138cf300c012cbfd02, 0x845ed8a3a86fa7347123109ca8d5472bc280f77498b87365a1a9c29fa49d9243, 0xde2e2570cac9424f5150daa66b71f2e901b7dd57563489b91f583c2ca02be3d3, 0xe95777bc2e70a59eb57fbbfd9f6292bbd2792aa0670378e213dedbbd61139002, 0x5691044a4901cbd416aa594bfce5e38517602b0c5be0e539ed60f057a9c9bdf6, 0x1f62a7cd1b67f0a4cb1051648c6d9b00c94489d5c39ccfd026a76adba409a306, 0x5bf0110a1b2e33841ac5015891119a4b65fb0b5dc079a7740f6392847d2ce324, 0xa9cefbb2398fde751a075e9c8d033999d6ab7cb1cf3dbf4733eaf5f8a952c432, 0x8197a7371801283f05095cfacbdbec99116e83b0893f4bb9c585577028ee41a9, 0xc3cfb69a0840156fc1ad4d65fb58a271fe2d5f79346d7c065a6b9b9c74f00926, 0x442fa7f8fec3fde23f315234282ac158ae5cd073d8054526ee6c5139d5e7ff7d, 0xc5ccfa104c4ea917c8c3bc7bdde4f53bd803da661447c47bef897c5fca45ede6, 0x3541748facd1b46868bed551f2ab30fdeeecf5b3515237de78b96d75f6344bde, 0xd90a7d792d282235eff7a1722f49a007ed616b462ebb003479403bb048fd8d83, 0x934c81c6d9b632a9f3dd52ad03800717900ca6c845043fbcec1de38eb7216bb6, 0x1ffb87dd592a5db160f711ad7a70cbeb3191b42b49c4613eb55dad8aaa6c7531, 0xdf151fadca38f28b46d1e95bbd70287e44b7c6dd26a4d1c230ad372015834ff9, 0x784d601d889e9508ab04072506a8b174f5278c34e9430c94aa7b06e0af15bc30, 0xece66530c6962977860b3d87e954b8dcf4a98d21e525e3dc53b9f0dbcbb0f508, 0x110d6660856a26f51ab823bd6fd53955fd362620f6c3b74d20c0f82e2faf52c9, 0x13731e8f7e052045c917769561b48b6cc92c593c3dcbf9d93d90bd5c686b1033, 0xe13618d737a989ea1ee7a32ea1e8b4d21ce38f67eeecc1f8a114a8ea5551277f, 0xe3b5d2841d30ddf22e6c3ccdce4b63452df24aac7dc3004ef9e7424484c45807, 0xb84cb22cfc89e93a2ee3286f22eba23fd993cfb863226cf8ce5a2745bb4be98b, 0xdd1605839d4476f956b883a3c7ff63a33cf08321c5410af1b4fc494cc05e5350, 0xc1a8e347ef8a8d9eb3a06220e9608f49990082b39b08383d853d019d7000d8d4, 0xcbd1a53b7d01d3f3d5e6b80f7790c995e0bb7574018ea3980727bfa7a6933345, 0x2e430dcc18c87e7b62625db74347e6bda17fd27d64485c93bb902e31f17dfba3, 0xd356e8ce367ae60a4e10de3b84f7807cb82d58f851fe8a173edb643cfbf8051d, 0x1318159d212269000ab2524aa69d2134db16949c8b524d144e31b504ac97fe56, 0x4eac4963c14804e3302b6779d28ac9ecba2d02f1997e144a3be429067fad8bb7, 0x26fea1baeb2a4023493f5e18c459a0f35cb2afa2760388d7bd7bca9144bf07f5, 0xd20eda578f7681dc663b60417732c050cc72a09bfd7b2b94c974f582f5d45807, 0xe9286a960c0eb016907539bbe66597ec7ae8656f4bea496075dac159d9a2818d, 0x884c7d752f75136f2b49a9de29a5c44ef244495bffad8a8584b97f12063c4901, 0xb2dea88091ac86cdf10ab9187ad2975c5734fdd4d83f34abef97db4e9a9ccb91, 0x8001e01e1f9f658c825a76e79312cfc281400015e77e8d2f4e88b795d8787802, 0x1cf5ad36a93ca1877f6dc53df2f9c4ee6598a220bef5ef1c60cb0d5f19ada4aa, 0x932eeab5116af1c33f5c0a84168a53518f016aab040477fa65d28b9e8ef2980e, 0xf00bc9c572f6251660cc4dca3359265166fe888f7a7db45e30c56e952a386951, 0xd12e97fabfdf331a97f9b47c43a34c1546e6fcc2fd6ec429d246da35a025a74f, 0x6bfdc130004794290f67fc282a68c1241cae7dd9fb434a64880bd76c88056096, 0x39f6e26f32b6a490edcd797191a02103e5c1a04b791957d03ac86a3fe20bee07, 0x4cd8249466ea7251b6e481425733e002ff8c68807115da5181a455c5f191db81, 0x14d48b53604e499dd98561a668cdc1a9201a12c394ad66e67e8d209fe2a30c1d, 0xcaa483690cd91c3b36be25b3a3fd8959317e44d9938dcd849e583b99ed89031e, 0xf4cbf86d7d777d7d87b3cd3a893e199c763eddbb07bccb29dcafea0ede101e3, 0x5ec987e3824f0c890b1f0e69848470e1c48f6be8e744aa2bc9ddd264176d6db6, 0xd3379ef4421678803b46638a261509b1a8e06e173eb65e44ce3ea78287a3d118, 0x6617c75d916b10446791f8bc7953cd764f58d4c73556da5aec7d00d1adadc21d, 0x1fb42b3e845fa4c51df130c7a98bba67589f7ffebb11300503f8785b57c3d2e3, 0x3596fb0f9780a1adbfc648152c16a6101a66f1b0844a0d0ce9a4d1316f584502, 0xed202e5075259269582a9bcc9f6c1545b419e12d853c384f378f83da21919e08, 0x957b6a740b9bba87a0897eaf847a6b75646288e74526c8b51238799894947087, 0x2eb790ac1350818f10858b1e02c997425f408385cd2d7f09129949c44ceb32da, 0xc22efcc1e527e7d8702211de2b2ffae3894f9d8521424647695e29386940fba9, 0xe6c2cd89861972c4c7ab2b1e2ffaf632974a2882c5ed48ceaf803dc47fba02b7, 0x88ca67d083c0f6f3118dcf7aa74c2885ed1086f5b003a6ae360d61ef848ec025, 0x9e551c09949b873ce46a0c0e080c1cbf099b9b9f2027a9a6d3de04503cdfca, 0x501c23928a28e5ea3794017e38e6d49ef22c4a9443b3e250868d3c6fde4a52, 0xb433d920bf270e17b387d48bd18b3c189334567fa8a1748489eea87aa9e8b112, 0x69d3a1f6a588d6ca4122005e8ec707b89a5c6f51f8cb79defd38956499ff7119, 0x3143812f13a40d0fd4a300eddb732e7f90b027a93555ed7fb6bbb2528d7730b7, 0xb56a30df72467a2347cf1061a08867168d6e514b37602e4361f52aee0e987cb6, 0x88e94bb8b82b8a0bca99374904af205ddb26bc9f47bac070428eeecb9c02f484, 0xca90fd34a44933675c39325fb0f77d85e781956d54af4808401ebccef3fd65a6, 0x5349787bd0578b2c8ce74337566c4ce10074543b2ef0c0df6285bef178cabe4e, 0xa606949a74e7d2eb34f447cad751f3af4f4ec03b337a57ebb343b58fc25e1804, 0x866a8ab1b683724226019e3207b936c8a570439e9a31b8ef2c7198848777a517, 0x31741c7cbb7c191bf3a88a7b5eedfb81f62b574166f7f8485e1d60da9a17978f, 0x9a182a913bcb7eca38e8821d6aabf9b3790b931560cf9d521976ec4ac4cfb7da, 0x7794a8150e698c9bdb9ffb87aa2707a44834710b718bb736331fe26b6fc1a7c, 0xc3e6bdd79ca36af40e788ca0476d7f3929aa46877f62a5deba51dde62d232b87, 0xe67b76452b9eeb716738d1b62d388a5e01cc11653c115c5104f395dd6368e6de, 0x2a497c139d7960b9e3a07b95d7522ddf8ad7c8cbbb76a5f1e5663d7a99447944, 0xe97c49148184cdbd71524b05731e0f6f5e8659d4ec517094b5c729bbc159dd3e, 0x702253588fcbb2e4e522c00b1c03f9852aaf91bf0a0d7453cd2e6c511772b253, 0x5e93e46cec65fbe4aefa0975fc00c04bafb2631163a817031db9b206dd0d55c6, 0x6f3c8352e089b71e1ae0e1c3a0e59221ea9f1edf66777af9332459f1852292b6, 0xb00b2c4a015ef036f3cfdd6bdacb3de17aabb256d0147fcd7e9d3a45d996a8fa, 0x51a290af51cc32c6a825bd32116f148428f46eeaf7985c14aa952d6e494fb00f, 0xccbc7035d5726095038a0dd88e053a5390dcde73a6279f6301cb8eb109a1a678, 0xafbc38c5d1598d4dcba708030026b2529187dcf8f6242c0813be76f1c2496095, 0xaa9d9fef57fe3b1c3a762043fb5221c385b75f44719838139f693bde90f174f6, 0xaf5e52475c97b525f4ff2087e0a19cad778e9ef3820c8271ab6193833c9bd07f, 0x32f51de7d42679b4b4520ce2a612638ab476d942032c747cc13add1fe8825540, 0x36b36c6814587b88cd00fcd5ce84276f4eddb030ece417cb5ca4fd152362140c, 0xacbd1d6da7f6887ccc595fc16195c527dc2e7892de5678fc28008597c3baafd2, 0xd4a4c9facb141d970299ab594a24e912e51947f8a6df8ac52e97d91450637f09, 0xe386771017ee96eb3a24189e8054c6b2fc0144153569763b55f5ecdfe8f12dc3, 0x7249b8c96422e08bc7d0b731e1dea7a6b2eb506c2a59818dde457822f6e77729, 0xcba67d60226ba647f7afe352b43ef1e713004dd19dca1a41e460fceec23d7297, 0x4f0485d9576911843dc748427ea39080af8c1db2a281c6543142a2d9e28480b5, 0x2fbc21f4d2d5e680103d8db01e74d2f3dba66377530dbca2bb7bb08b0f640387, 0x3a0f56687dab6e3b7a190ba8df4238eda80c848e193daf9e24b2f11a18f5aab5, 0xde83f3b6bc5ec5dbb4bb65da798d5e5d967c0880307858ebeac2c7fff359f410, 0x4d18f9a6f9f7edc37985eb8ae0cbb0ce7d1c11442dc8559225ca497af9ca140c, 0x26c6c0453ebb96b3ee3e74828aceb4694b64f8571ba2210102c13aa1371ccbdd, 0xd4bce472e9f101fc45d91c7bf2ae3afd1e6ab624290e473818b7991367ee3e83, 0xbcd025634b2ee0689c7eb5947dfb35510633857df5e26473fb7d838410ff7aeb, 0x8001e01e1f9f658c825a76e79312cfc281400015e77e8d2f4e88b795d8787801, 0xbac9b1267146082d524bceb51a8bc5a23779e1f95aca50bdfb904caf7649c66, 0x8ee4e678e5cc1649e9585d391065444c7b7f267fb9a8db63a8415c6cea01d805, 0xaff807573b47a5fadc2860030cd468b3dc2a7863938065ff9b4c009589b87730, 0xb0e4cd427fa0a801713b376edc824e8fc3ddaba711714a2d3acd6cf5f04ccd3a, 0xd955ff041528caeff94ef0a2fbc4ca60f5e5d4ae136a30160cf6683d17ac8f8d, 0xe8ace1cefb782578a7288c6a6d7c95825d3f60206d5c3b7a62b7030c31a90a02, 0xc4495c67c8b397386e30247b2f0dd57d54fbd866955840050b93165a3f20e680, 0xc4c7931203a388b4883209dd844bf671ff60e41739b225dd584e0755e61040b, 0x466381270448f416ed95e36e9eab78c8ef2a3c488e84bb7c75c81688a487010a, 0xfac52a9658589445b4454f0b85922a0bbca15b502a7db25bffb68f7934f0af5e, 0xca463d4a94d0bd700566a162619f5adc420526bee768902ccc446b3a9d748b6d, 0x4eed75ac3e0dd78016c22179e20cf890985fda0d159235c3ba159d7e7d614f08, 0x220d42cb70d90fc3dd70a86bd73144d23ac84c42eccdb6365bd4ffb09b64be0b, 0xa93e6ea7c3563bcf4af104298869622c8752aaa690f10030157d7c932beb1a1, 0xec8ce9116795d99396d19cb606111773085daf76c66d0d31d3936a09b5679301, 0x5b1fe5cfd31c8e2737e676bb8adbf33c93f75f1b7cebe83aed7a8149e08f75f8, 0x8cd799c7ec632f759c148edf9e3553afdda187bb86b6b1a68518f26ee3dc7f82, 0x1a6d70640ecf80850f83790a01b88d3e353f817cbb1b2af8f188c743c45911b6, 0x41e5abbf5ce2a2b7d01e0f4a191aa9a178c574831f3e3dc2d8ca18e8273fa967, 0x5dbe44877df72e43bd66e6f5e55652118d39e781bca4c7ba657feb43d569fe6d, 0x87b89d5b9455eb59f3171e6c80d892ffa5707db5d5aa6baf990bfa43ec2a101c, 0x75ccf40773897d145c260405f8040b95077689751fe2989db14a03cfebb546, 0xffceb40a9b6c5eaba58128ba37f4d7308bd1e420c9959894448d5e0d4ae59631, 0x6c1148e06ae2fa0d6e82b386b086ebf78eec322a9860d383875a67d667586f0e, 0x274e9f5263784db9c0e1ffca7a42fd6876342530a846d74a54e8732388aad0f7, 0x10c17f1af163fb054c61005b492ee5d5706fe298eccca4d56d9691ce7b2d106d, 0x9327505ec4d790e9c129549a7d9b578e855a30dfa88b13f4aba3c3436a27846d, 0x87a6797c7d0cc0f1ba1b49821e799548489d946c78c2b61a4a8a80a01bae0383, 0x467054ec63c71122cbe8ee356fad2b7ca2808cdb339ac7f83ff59445aeab2362, 0x3138d7d6b03286e47ba2c112cddbc45f002c33e91a50404ade7c95af28466a3a, 0x9dfccc623948f751efc0660350d3dbe63b45bff05482c4931a31b663d19a5803, 0x7dd9866f6d812e3e1dff75ee029712479cd03e8a761097a51bd0887c7d2d630d, 0x10d3f42b96d408f6ae9879d6ca5b5680ade6cd3f2252a83835f4dfb6760d7285, 0x7608198f16b92a4617a781f4d999576ed7068ef3204574ce08d25bc643ba92b6, 0xfd29866b2548314f9704f1d2cb82a5553dfec2e928a360e4aa1f8f04fdfba62b, 0x415d94b28b9ed9ac05d784603d24d5171899c27d2ade634a69cf4b5de4e1197d, 0xa2286dd70c601fd8217bebd706f4f349013bf0c5ae5bc205775e56524e880db5, 0xe639941a9e3d669fa2f38dc9af2d6e367832b85fd3796a9ad7d2ce30e76c78c3, 0xa72a87186a69fd9c2ca2624633168fa6340237551e642646184dc2702f671b15, 0x2fe1cec87ab96e5c5ce1bff90bfea883199a8f6af9fb2c3144e5dbcf0d2e6e31, 0x358ea3dba42356a39a56072cabffbfc69a91def0de980d010b6891fdb4fb3342, 0xdaeac125b56d2bfd0a33fbfb8240049c580af5ac678620629a131249ecb1de6d, 0x9007a42dea2016e552d6ef9c545a61dc28196e2b0a58dc8ea17bccda272237a9, 0x309e706530bbee4267e36b11f0daf383e7ac25a65288340c66731b25c73a9005, 0x446bd0134cd1df8cfe8604b785fce9ce8fb44a2e9de28adeff468590f89f6228, 0x9a9557a8a5dd3dcc450ea3441dfee4b28efd4bb117b712327a6508b62e688f8c, 0x998a354ed840500315be44844b2d6a3d82ed35256adce1c4fe2833ace00083ad, 0x9acb71d6de98d5ebafc6bb38427c01182cfa75b7c450881aedd054678426e02a, 0x11acf4a2b3e2289393ce045e620e217993d248c1fee42c2bbf164b0aa781ccc0, 0x126edbd80c37d687bb00544cba7c1d253a4b6fefa45c0d46cb9c54f31ede0c04, 0x646b0b249d52782bbbc8cabf208cbce2b41a2871b5cdd7abe7ff8372be96654e, 0xb39d074253e64d85fde4c2722400d272a288c2b127e18f896e826deaa0717af8, 0xa17c92e4184fcb51ea7053309dd0c8ed5580c3ea568c242347a38153c800b4be, 0x2e3897b8dc1e5f86bd4f92ef5f4a629d91a6cfdbe6377f7b4a3cd7e1ada2d2e7, 0xb9636b340b3324ca5109058b71f6da21f0803b563112fff528d08ebcd1bb7e72, 0x3afc7cb732d8f083eb42c7c1d59e8f80657bf4919e7f4233ef3e61b75e7c7f93, 0x1a941f53b1b35d800feb7b6ff5d3b1aeb69dded2cefb6b9e69296f86fadc017d, 0xe9fb8dcc3e73631e2a64a222a8dd62d8667b839cb2bf9340689e8a109803366c, 0xb5801179812005be6ffa87f33567bf4873abf866aa7cc1932d4e984c3e98fc0f, 0x3b0857625752a4bed77ca6865fb96fba2b0bf0c3e4b83371e34638d657460c04, 0x1dbdbfc315968d915a15d381864593d8c6dc57cd0961e0ff01bf1660ed0bb94b, 0x4c6ba3d1a750ff543cb70bd6ae65e9ab0a266de3e705c2e8086d770edd5a1581, 0x6bb01cdec6e5a0278bd59373d4a91330fdee832b535e23d156d4817c0faad659, 0x866adcf2e66140f00d7d0afb958101f42f30c3c2d79a936bab40956845aa7bc2, 0x1fb9c39ffac53106471a9b260b5960064dcb338ebc028dee286ae8517757fe24, 0x7a4aaa2e2831bdf5caa77e848250e1eb75a365aaeee7dfc975d675b0026c78ba, 0xa6d10f647576a0bc8e191855d85e9c71131d3f0819110dac1a182c7e5590a2cf, 0x7a6472b435853ab7a7d49793b10c6ca2b66dbc6c8e721ec5b968fd9b5e5a04e6, 0x5e39c7d203dd9a8302fa113e3da0a3b3d87af871bc6d1e1a82d699db2bf20a7e, 0x5aeac95de65bd98d49eb5194428a5a1a52c9827ea15f307205eaf026b67cd21c, 0xdcbd72b07f7153f3588deec7b7fbaa3ac67c45c0e2d1d397cc53fb59e28d79c6, 0xd198153e1d54b8fd5372e90618a5fc98b0d093a0ad8be306bbf8941d7a7e268, 0x27979d4eed9b0a28898bc1a04586f0dd90b697eccb53f4032937d927fea372a7, 0x4179486ade570448d4d208f74217ba92667f0359bc03a31186fe60512e024324, 0xb27f98b262718f39d1c75b7bdae84df783c6143f4ff9291c46fecc93c974a2ac, 0x99947bf852fecc514311255582c918d72dd01f713820129ab6db3e611327a825, 0xcd81af061e58be98ebd2128cb005062069a2a745c5ab1a7dbbf57dfb37206e0e, 0x5e905890dad40d0f64e99ba5d5278aa7e9721ff9ccd8ca4e0f1c9f4714ef1793, 0x91b0a5a1f51f03e8ec80a00f2844b3f9587d96381a19cd775e164a023e1aae05, 0x13d823739b423aaa21299c2626e57b65b9a6773131f5fd5bf83a9a79d227904e, 0x64c333979a95976bf94477e5b9993aba3c908bf890e99ba7d1c5df22277b799f, 0xc7797bd197c3bc63d11f409ff57ec18b6f5fa3265894fdd080529d31cc1b00a2, 0x839748f8527b78e24ad8db01202a6d19c1a4b279248c54c1e916980aaf900ac3, 0xc4b79da6c325c44ab4c34b7abb7df48f5c72c4a170360dab43ef080f67230536, 0xbfb39e358d3e3ec54832ee23237c8bdc278199a081bec0b446e2b600357f9c56, 0xd345dc0027f54d06369d18ce839582037bcc4de938fcaa71371467abb7e945a5, 0x97891548790cee35b306f71ad7c90e3ddc067dcf45e17124943f91d006de2063, 0xf4ed645d32a5224da76f3d586cb17df797e6923813bdc84648adb4b92761703a, 0x304f119f2dfa2851e4aafd8c0884862afb77222f376dd500cead56f2235826a3, 0x61e193ae6f6600fa9799f7551ce789ae4ce483682ad375873d5b8d16d85db338, 0x7791f09c4ca7d59f55835b3e1bb3e29eb94f6b2862eaae4bacbe859e323172ef, 0xeea8066d4256a0c85096aeb64406c494716fc7c7aa96e5271c6adb662e4c3fd2, 0xe292287aa4833432d0a2fad26673b11e533ffa03752365155d2366f29d3790b3, 0xb6293eff4bc30337c211b6094bde104dc078e4a1eb985d7de25bcfca6cd7d8bf, 0xb860663c21d8516b796d39b39dc70af4fe949afd48ef38131c0a457be1626413, 0x4d8855a62bacbaa67ebc25e3a67072d2bf614624cf25ffa22b4ac6d64f74e9fc, 0xa0f89fb0ff469b5955a693873fb7c711115b4b03e0dc8fe05a554d5b800b224a, 0xe521ba4be887fdbaf978a64c4fb85b1b9f834ea70a4eb82ee6325bd6f9e35e90, 0x5d0b6c60d166f26f9d97615d55f3217e378685c07f64210e65e837c0bdbaaa3e, 0x72aa4a50414a5faa7e26958fb9216b1196ff04240ceb680f0a20442907ca9c1b, 0x25b66a5cfc1d486085906fd071331fd48b97e2fb67cc0eb6d1c8356dc7584c2, 0x63dc7780565c42803af4c49a84005620b7fc31057e4488f383bd6499bd3bfadf, 0xbdb3db47b5b6aebe007b80b34c80da42388f63b238e4e856333a2856b37468, 0x4579755d10f7c55690461db968ebdd90e4b6b609e8767bb51f2dedbae1a5ebc4, 0x527d0bc856eb799ecb55cde566e11024b5693578b23d522a72a2e0dff8a6413, 0x82632a594fc20bc2a237a43c79364b57a7456d96670c2a6372998eba8087ddea, 0xf58a91de2a58da72e196609d187214ccd27b931c4a4259933070bb0c1efefa85, 0x77ad071973e16d6d513d8a6bdafa572a5fe0727908e482617f0030e91b6db4ad, 0xcd679d9f3fc4af91e4ef8380d279c6d5ce187ae61c83c89cb9045fb3ba40784, 0xcdba2ac85a879bf8eb9e45bb6a6162e3a7b3731124992be4b10b0d3724b8bbf3, 0xffd35018fc012692274d306206fb3122476cf0e64954241a50dda631d889ce8d, 0x78f09b7aed430a3b8cdac62383e39d394d09d19fa4744e663059edd77aae4040, 0x2b8f93143e35456eee7b0a93f51b524fee4db5e302ba4e42a1a7b3901cc37fe0, 0x2deada5c1e74464cab8082bf29c634d8e9b368289a961c2ef2f6839fb2d31e0a, 0xfae393db740dcc42aa75f021d15f27b4323944dbb17d44823c00c75c2267f83b, 0x3ef74d19b10176d0018f08127c24525916d5e41112cec288f754820ba02ab88d, 0x1244ac860386b812256c6236536c6a290341e60a48a34009b187ad25c4f1c322, 0xcb6c84b3c9acf542a6629a4e82233bb76adef84fd80bcc647fef73a655ecb4bd, 0x2e74a3ce2cc110e88e22641c7d3346d61bc06b2cb4519a4e58d8350c7b5bb3dc, 0xe887272be342fccaa17e9a84d2e09702790a137e14bfa851676b4420cbbeb8ef, 0xb863d110a420704c9a793d8f825c7448b73552d91df5efdca84edf5b50ae7a44, 0xa7091d425ce1bcaa454ff89b23f1eb59fd4ac6dcf2ddf57e78633e02ccf707ef, 0xb1c20a6de271a7366ee6d737454bf1735d420cc02844749e1fa3a4000af50e18, 0x6b948575850c1b22c5471e4f90ae68a9439219e63b2c7f5b372f6dc7852f1e0a, 0xb5a44079be7938669b7b38245cbb219f6f968469710dbcaecd29106474ead633, 0x3ee376558296e48ee56fe4a198ebe841101fed23daf7e98b5a64e20f0c6159c2, 0x62b9d7ccf126f5d0501b99b9d014603b046a47d6e86ddb65484bf5d3c0f8bf9e]
def xoChN : List (Nat × Nat × Nat) := [(1, 0x0, 0x2), (1, 0x0, 0x8), (1, 0x0, 0x80), (1, 0x0, 0x8000), (1, 0x0, 0x80000000), (1, 0x0, 0x8000000000000000), (1, 0x0, 0x80000000000000000000000000000000), (1, 0x0, 0x8000000000000000000000000000000000000000000000000000000000000000), (1, 0x8001e01cb799614c0995b0f93bc5b4f0d5094bf56eaf3b5bc9d4836cab7de244, 0xdf3d5b0588d6e79634b03b5523382b2fc1bb3ae6350933ed2d11891c5f622244), (1, 0xa2ab94b84816d843a528689f0ae00f03858a55b0391eff8346864a973d7d1834, 0x32a83a1ce7a1f871422b7d75b1186cc20df0ebb42a6eed498300835ddf27f814), (1, 0xa08911e4d19f08f80ae65c8374536c5d2a6f8bbbb56ca9d0d4c1f1f2be940c0, 0x28f6f798c0cf00ff9e4651b764d3a7d38aff41131458b78243b61180892d42e0), (1, 0x880b5c8fc1929313ae11857e04b40794fa0f6e781eaaea79b1bddb13cf475c2, 0x87a1066fab58b310576d2daf76ee28caea5c6a2a85a0f7e5a572c3f8e7693dc2), (1, 0x802b687ecf3ff4b90bb018b24091bcbc26093240237723f238f43a9ece864332, 0x6d33704f2959a0e8990825ca7f129a69d8efc4c525378aa4334ed091b9c4033a), (1, 0x28a26d934eef1629e9e0a197b883ff852946a166e1307acfa78d99cb4c297390, 0x9e77f605b268f7c2834513108caa70259d0357852abaa40b6918c25d77447918), (1, 0x82a9cc3014d8916d7759bc89ead72aa5603e700b3e1695bf981d47e5e4e064c6, 0xd4ee7ca25723b01d349c9d606c1bf2a61e717830f83bab4224d9d73c9c44646), (1, 0xa221374a42b019829282f1f66f70917c5a06f256b4669d386f2ee8f277314b, 0xec3e266f07dfd89c75fba9b2906ad81ec8173e445f1ed29af1cc61bb89058163), (1, 0xa8a18d2a5ab345098b6e5bcc6e6fcd2340f6f469ce7481940b71d585e3d797cf, 0x5ea9813b4b1b45ddf860b4324e6dd30faa56d6f1b4bea3bfb6256df0c714efc5), (1, 0x22a8f6823a9031cd86cdb3bbedfd89e875019ee89be3211efa2fe74073b51b7e, 0x7bc54be06c41669b8f524da833a292ca7963017f5af680158d339ff67a071b5c), (1, 0x2a8ac05cb1a1598f3053e6d64ea94b2c71e9768af4079df3a3c32d925eca6c83, 0x8b1d31a91b2b146e2edee70f84705d5a3ac191e0bb1496f1b92bb4f8f3695e23), (1, 0x808be347268a27edd410f37bb91bcbe8c72b097705481057c770f2653974c9ec, 0xc59d6ccaf6d3378615e9b9533628ac77bf2f1219ecaf6a28d6645fbbf6b281e6), (1, 0xa0231ac7d383989ab69e29ff0ca72d4926caac14f03efdf99db79c7587969a15, 0x31275bdb1e191738ecd9b1b97eb87641f567369c205bcff7b5b311574ac8023d), (1, 0xa0211ac053fbcecfccc5b9ed4a9b53086a563fbb2d95cc08dc0528bc67eadb3, 0x95d7ca95fb3c2e47e5078870e9661838f4d63f010e9f13b8434049580cbeb711), (1, 0x822345c87d6b490738db4d17b34f899b197bd06ebebc3810c0d18d505c77aa86, 0xfdb225f7ed72054fb0e7435e22990cf75c47fda7562f5c6a4e711ce6dc678884), (1, 0xaaa30a0c4991d072ef414c831442961ae6f93fd80bc7e56901fa465706d393d4, 0x7ae00802cf41de1ff9a34edda7f12e9372348b50a135b3b6e2a3088078cbd3f4), (1, 0x2a88c8790fa71bdbb91a8742a7a8ee41fb3233738b47240c5d5dbff0c3aa26ce, 0x733bc24f103fb57eaef1f139ee3dc26e1f76275b24ae72d5116e01465c612cee), (1, 0x2a0a6b15ad8990374e1b09dfadf06dbb9f103c483854af52cb6b61d6d05d1d2f, 0x868d30c0f8c4cc9aedcbefb42f7e2bac89e708743c9f3eeb0f1e17515806e587), (1, 0x802960d95afc6b73057a96d5a2661519c5bf0eeb2636319177cecd539694b081, 0xf9c65f249930c219ce49e9411f444c5dc4df6bf45834b2333fe0d3755f3ec0ab), (1, 0xaa83205405ca6735cd46ebec34b67c4138bd65e2effebb796517c433d6f8ee32, 0x57d4f1ff2ff50ae1b6a46e9036ab3aa69a79809bf56dc85cf3884a8c79a886b8), (1, 0x222addc7ec4cb8c7616890fb0b43b7179a5f25c26ec90478b19d10f1c15dfd1c, 0x8e50fa61b712800e61ef54515fd421e4eaa1374b4f88f64d09fb0def5b8e379c), (1, 0x80a9c39a78c690bded065c5d754f4c977175a37d5bb7cc229b6d3f8377fe717e, 0x1f333b316552a68b7074fd1a2c1331369a97c5ae909bef41a482ec1308ac53de), (1, 0x2aa0c0bfbef972bffb2c8facbee4ee405430cb0f5f5ae22bccec293ce926e21, 0x521e9ba343826a9b415cd51ac7f176ac708c2d0b35d9c0b99395195f25d63c89), (1, 0x22087d31da7e42a1c3eea75e4afdd3472f1cd514b3b357e935525fd406b34f36, 0x87034e848fe1b96712fda107eeff2ec6bf86830cb9fafe796281b139c670efb4), (1, 0x802be07711bc58fe3bec5cbed96f3d2b75a9d873a14152d39a104dec0a1f0f9e, 0xd0da15e4df4be2087dace11a74d07263afd9d1055cc536a4227d2884f53725be), (1, 0xa2013d1274e6069956f35c181b0697c2c66d485518b7694d790a291af952ea52, 0x57f4b984d3c40d852cf84d599f8e47a061732e7d1d2279d9d219d2e7fc280fa), (1, 0x222ad5c7d2cd20d30cf3121faa9e56259646bc7723f3dfdf9a11c8ee7a34bd, 0x60e6fc8c538be44bca14afc10a15345ea9d1a1cc40477a2bb1af4e3441672e35), (1, 0x2800ce2fca42990409f55d3bcbc6c03501a137bafa610e7fcf47134ccb649d48, 0x563ff04035766b6431e9fcef8816fd3f1836269b8820578f0d1640257bc7176a), (1, 0x2228754bebdf20060f276c300d508f32c4137a1345f8aa4e55b7a50e74c84fc5, 0xb81798aa0c98b4c3c9e8b210eeca2c383d51d0f32d5749e2f529673fa8c5574d), (1, 0x8a81fa5797e99103b7bea57c2cdd37662d16729f80f7fbf2203fbc309f14373d, 0xe2326f7a9257705b839a6b0a5c412436b537a9349e126ff659e750985b4ba79f), (1, 0xa8098c0c61f823fecb63a0f4ebd47314d3bd466f35bcac5d3587e1be50db86ad, 0xbaac6b6f0777966855dba9b4662a4b3c0439f31fe09975ede81eb4458003b407), (1, 0x8a8970c2c44d5a0535bec1fbcdc6220041ac97d398015ae300dae17cc591777a, 0x28fe4dc758cba739f76739ec2ef8c1b089d18ee1b23051d8692598d58b2a1750), (1, 0x880b5487770ef4f4c45053360a770f49c6f42ac9281fd1321a2d6dbcaacff48, 0xfda00791bcb332816d7e9c5802ec399850fa5fd9f615bd7a38c68b60336d5d48), (1, 0xaaa30804460795507d82b81d13767afb4f5c04fdee6bcf4dd13d924625666e84, 0x4da46dc483e807cb9d51ea49b454e2b1245c582b87804548bb0120a51bdf8e04), (1, 0x20a2f1b960c9457aec419a77f28ab269671e052447d0995e75c95cef5e75898a, 0xc76134f08c55dc34d116d4dc650479004e48f0811919e4283523fa667fb3e9aa), (1, 0xa02bb07870caada16691b4dd8e03a49b5a77ae65d5ad3468bbbfc2093d657cd8, 0x5d458d3df2290c2a7b64c3dc75a7bb6dc178fc69f5ecdd7fe111ca19006b7450), (1, 0x22a25e3a3c0bdd12567053797dbdf2386e100e34f2cd671ceda4c55ea61344a7, 0xd47a0f0174260ce5df330743ae3309597a3d57ef2e10894cbf9be8691747b6a7), (1, 0xa221b56b8f5e327c93e574151fb91227fc67202e5bb6ee08cf407c1c6d7a8bd2, 0x9e301b62b33516a38e54c0dddeecf0ff5943121fd3ecb2f1ff19cb3b4368e3f8), (1, 0x82a9ec1ac41d95b0c22a30e7d45f738b0e0609ba03ef62b4dd42eba66aff572f, 0xc0fbc85a125d7ec584a15dd06b854438b580888e9ee329521bcb739ef86eadaf), (1, 0xa0013290ba9d3cba05553d7733ffd5fa76c2a45811cc0996d2cc60453b297352, 0xafb8a5ef7b202dbfa1f8ca7304aae4d8fd52a9db1051ae9eb6076de8ad491bf8), (1, 0x88ab751d969d6bd21ae57d3bfced1bc4b0dc1b6c1a508ac103f9a9543952f387, 0x2ffcc3b0220d1b26760825cca159c35f1b6b64de25e5ab7af8c560faf5628907), (1, 0x8aab5217153649f11867ef578131912571b50289df1911e1661a549e91d8b7d, 0xd80eefe46a1ae777eab8568393eb292d0a05c243eef1d90447d4a55dee963b57), (1, 0xa2819ed35d3bf01014bf50e558107f7c55dd2975c496d0cc31ec3c9628802fdb, 0x8a040aec6f989b59fa8ffb0099a91965db9d9aeae69f07ea65c3e36374879df1), (1, 0x8089e1c2aa152fc90550a07d38b12042470f823e21a83c474a7a395538428a7f, 0x28bbb327436af18da4e16fb9b75f4e344756e8295182202fb0a83912fcf8707d), (1, 0x880956aa5a16deb9132c23923cee20fe4b206bcf8fedbf4676e90c8a52ecf75, 0x549d3d56f676ce6badc6afac6719abd3e50906c43747ef99c3d561b66060d5d7), (1, 0x2220fd5cb4b4bf1733535cde880b890ee134b2c04c1da87ee7ce2a70ff979866, 0xea9a73b273a7ce7b51202792b20caeb9948ac9df5be4b857a4fd1416fd351a4c), (1, 0xa889056d80127c51b1ef002939bda4a94f3ed97ba424066c94359d58a119dd41, 0xbf042541366bcdf0de6ebc83768ae3102a2f9c970c461a59e4c54b8aa0ed0de1), (1, 0x8aabf83c9c477346af879336ca781b9dfb3ca20948017ef77c90258744527ecc, 0x8445997f832bde916058966cb60ff96612a6207544b347c0cb11eff82c5096ce), (1, 0x8021c0464a4fe17c8377a4e2227c53ed5c252020d361ddb358944eac53e43002, 0xff647582e2541db09a8c1e968c51232b3e6e5e85c499f080078d8463612d70aa), (1, 0xaaaba83bf5a7120606be8ead4a9a2dccc2d03a6c03b46e92bf4e72e27d912b08, 0x7b21e6492af833a0c17c46cf35cd8be04bd362506966fcd64c20ea62a8862380), (1, 0x2a8a687dbf6078a541da3a7ebe3e8eb78636f10349b29cba14910f10f15e7027, 0xf471df76375b320b308761083ce000aa2bfab6e33fe5c620d6def5d778982027), (1, 0xaa21abe0e7df8cd7c4a2ee10b1e986af584cd40fdcff8059e01954f31aecc5e6, 0xb3cc2454d802bb69000cf1812238e91bb7842dcf7e741efc986fd881dda4edcc), (1, 0x8a0b59251e2488923fd6a0e99a6c5394622d31cc633a86c28be864143cc857ab, 0x6886b10dba109b225df9298152b6b098d577235c4d883100c26d8719c54a670b), (1, 0x2880e7cf90511f61752dc1e523b7161ec86bde591907cf599838fafae6d74dc7, 0xb7fbdbad8970dcd42a1b9997dac9d69919bdf44db67f27ecb816fde5c0db9d4d), (1, 0x8a2b5377aa427b61c56a0f191d4911c22f8a2b43f239e2032403299021654ee9, 0xd4ab2d0faba7af1fdf281a36be0e5b9e1011b67be093ad60873fd0d6674a1e4b), (1, 0xa221176818ca4418788521397b8f6eb15effdaf58343029f8e4c61929f11a320, 0x972517dfe0cdffc9a7d7f8c23c2e1055b06b62dc63c7883589e0b7404b783aa), (1, 0x822befdf5f87ac0e97395ae5218bd99edb97ba1fb744bf2e33a17896b59fed, 0x8f1082b177bc71f6babe9009f21f6909f5a6b9ace56e28c0fa011850aa01a765), (1, 0x80abe39daa33a1598709b2def73b5656fe4b3f3192c81ae5c52232022e4963f3, 0xdb71541f7f6db7b56bb95582a904b15867a17c4006f95b436f707d9d61375bd1), (1, 0xa28bb460360e0b6ee736ac85dced3f4c4708bdb86a95acbb092dc7026f6c810b, 0x38ac1a83a38efac974890ea16c44f8f367bd22eede9c0623708207f7d380b309), (1, 0xa8090c0581d8bff337b83848d58f8ed4a63aff76b8e5a9f3cde673907b73f1a, 0xbc81fae8b15a4c8f981abce9a2ce76df76c0433b819d988f706b2967f0845f98), (1, 0x8aa178065f36f2ea6a557d96583598dc9ee75a7764192ec938d89e9615dd8299, 0xe293ce569bfb7d910fcd79c83f77e7b67019345ce44c01dc957643755e977019), (1, 0xa809040f17e129d601d79c50e0878bd3d0ae9985691451410ad71f9584d49473, 0xb930539f48359d5bc234bc2072758a5ee9514c5f03bc2523b5793f1e262886f1), (1, 0x8a83f27aa970914bdb9e48e8ae39ad66bf1dbf0078a724b9aaafaf17454aa013, 0xd793fb93b29267122e91f46379d7b1989a0db10884e7f41334f64f5c1d7c1a11), (1, 0xa22b1df1233b5ba78944334e7f04663fe31e89c3e8dc96d8678e25a89deae45b, 0x61510a6ae67ee4e64c575004ef0f359da7954221e6382f0df1c5ec6b03077659), (1, 0x2802440319e5e61e76d211d4ebbab6df636b2250ed332991bd65afcb949d100d, 0x22e4b8818bb56a659ad40eefeba24c5ff304a2d8ba83ff8bbcf1935f501828f), (1, 0x808b63ec651c1d7ef130dae8f7c0297732e6f934dde6ca94c8483184245cc, 0x463ce9fe866c3e92f2a58fc878c0252dcb3e2e9cdffacc61fccfb254777a8566), (1, 0x202872c19b9a48f404f966e19004cd0f4ab0895326f4da880ab2949b7161e036, 0xa250d33afc0832304fd3d97b76fbede3812e34abe10af7f0e373565fe870e81e), (1, 0x8809dc03a0a744fc3bdc9fde17fdde1a4c52e192b6eb85ab316fdeb4f58ee57c, 0xb10e22747d448f55b5df9aa3def27a7003c31fd4ae4b05074178d0a2fd57a7d4), (1, 0x8a03f93287c262d6fb5bac7f884b5efad67611e269215c064f6eadc3d29cbc21, 0x57db06f277bb796c516719204ccf81cac656304ee9fbb4f505e86a4a9918ee01), (1, 0x222add6d47e6a3bd3ff15002cc775f78a7f9e7dee406060b07fb4c848869da23, 0xb6cf43f6a461b1fc2cf73f3a20d4403b5b77147d89eed2613c85b576b2aeca21), (1, 0x8a295950b148df78fabfc8f0bf478104f5155d139cf7b2025d81f1d9aee2cc6d, 0xb4dba948ddd35edcf9628e5d6a5f25c2616e5ab1a8ab66725520b32838bc746f), (1, 0x8a215b6e1ff2de50f3418374dd05f2943e9b137b917a8a100571a3fec158ad38, 0x960515c51a5faf81accb97fb17576b8580eaed4f32285c84788591182f5e0592), (1, 0x8229e7d8c1fcbb842921a873d3f4e572fe2cb23be77c0c2499b7f11f576349b7, 0x9ec7fb250350029a0c7c8c94fd341af4d2fe84715a2a10128c568498778a1bbf), (1, 0x82a94631ede796ccea6edc9c67c33aed8a6d5e83a9ace49de9deb5868f558fbe, 0xeb7fec368448eb4949f6d895590a3e17d9d7f63b8432a9b44820b602dc43a514), (1, 0xa88bad4904ae1251b6c27ec32402f79718fdb37bec0b70dc7b5c8495edb3560b, 0xc358c882bddd812968bf11ac04e5f63fbbe1146bd357090dea5da4e73227c42b), (1, 0xa00bba82c520c491d2de510dc2fc25d7f929fcde8a213001aca4de08f3e8ea6d, 0x585d573fcc5a94605ff99e4086a78f316feb3ab1b529d156c6a40211393e52e7), (1, 0x22805cc51fbd152b83cde3c71905458af3c5a428881ab7f8f9ec5c58613a0cbc, 0x1fd432ff987549fbb5268fe9df816aac3ec2f3e5b3a8de5dd84847d54a5fe496), (1, 0x2aaa4207d16e1f7bee98e646e35622c16348a266d801e47fab250155e4f964c, 0x9e1ff45c735ca1d2af081b817187a159d284e2b6cd1bb33b26e3e8bc8b375464), (1, 0x82a9e4b0733649d9ffd71a2b079848e3d886228788d0bdefaac4e6c98d154b79, 0x8af19f776441027b241424c8b6f39e2321d44085bd55435361172a522fff1359), (1, 0x80894be1a9d3ee2653144ac7feab3a4000705802f7aedae9acf483ebcf0ad425, 0x54a4ca157e2d17964e44298bd283c3f5a9dc5250b5236be1e931590c48edc6a7), (1, 0x2220f7de06f93b84da15815487ef52b9bfd58473eb31561833e1137c9d97c4e4, 0xff3be7e3736fdecf250a6212bdcd09cc611100d8ea741eecf64dc1a0f3e68cce), (1, 0xaaab8a9109a8189dc32cc4b6ffa1f8d09f9f9914378ba63c6a9e169325b3a6ef, 0x3bd13d33fc47a4f091413b8045afdb349af1714b4c6bf58683f8a2fa3e3c5647), (1, 0xa8aba7bb197b7c43ecf536c18ae79f2c6fd75c0553b05f4864088746299a057, 0x8815182f6d5f089fb17e2c9001400be9bf717664e1bb7d27fd9b5ad77750507d), (1, 0x8081e3deae510366416f2bd0e607cc5be90c6df17dd5d32649d1de1ad752e17a, 0xd068fc8f65f12907b5d1a6faa6f19bf91b449552ab2547f01a7744d974e9abd8), (1, 0xa201b71b25e6a61b9d0d5086864707cc373962bf1f1982b87cee406cea7dbf83, 0x99b677d41f6375ac18a9496d85c3e2a78631656d08e5f61fcd9ff34f47ce0d03), (1, 0x82836c528a5388d37205c0da8add15bc9c9046ec968b5e565db142f8e5d19281, 0xd1d0ac5d7ba97be3e9518270dae7ed71489aa4c1e896b0dd113b3e3e4b1b628b), (1, 0xa2033d9d7fe9b779d19433c94e89bf810408959e06baa66a5ac257722fc8bbc6, 0xff0141e087392ab3e0d4be11373995f5fda9d423a5cb483c5e7734999e361b4c), (1, 0xaaab801999fe423700742625268e215063d8de108021f485630f803b5986c374, 0x98f6bda85ecbd5235b64742c84407acb679a2eab10dfeca4c4cead23c0f223d4), (1, 0x82814c55d2afc8156879425b78ad117164c6b44d1ce9b1eb63003bd5b7da8553, 0xe3c264e46fa6453cee6bd67a5a77bb41ed176b827158cbac602e630076c23773), (1, 0xa80b260a609a5d13556ab66f152b7f0c2b7da2f3dac8e6a8e750d9042d1fd9fe, 0x21da50e23ebafaa57acf30c7d575d745717671db4b4ff3b5639523c73bb553f4), (1, 0x802bc8ff76e6a222a50e1d3c375d845bffe1a14ac26797657397f1e810cb14c, 0xabfa46b0589690d3fa561bd38b0c2617d867f761658045360c0aa84e028e5b6c), (1, 0x888b556d41a2050ece915720b1dbc62b8ee5311adbc45ba5983f5ee1a99e2791, 0x5fbf2937f57f4fd5b5f78e165e7faa9b53cbee9511a63c158ff3c1af2043ff31), (1, 0x22aaf4ad358564cd12d047910c48a63fba79d560d3746e7835da5dcfbb3445bf, 0xca21701a02e4a33c38801d1cf55d5d322c113d3643eca9335b4f9f5222921fbd), (1, 0xa08991e7b305f1ed897ff9da86cf227f3a13c7655511509f05dcb7df5721dffd, 0x50ec5a614575dc288cb2f7117e918f568dfad56c33059eff9eb7c8161a3ae55f), (1, 0x2200d726fa322131e6160709ce43ce3b264ede8c9d840f42c0199a889830e2c1, 0x4e4f0bad0c257da9b2f3f26cf141922ae4bd0df76d8668c0c7aad4b57f46306b), (1, 0x20a8592b4ebb6063eb1b5907014302427f4f49498a7424c176ebba59649f7f0d, 0xdcedd1568128daac8768819b5ba8ce56bb1b6d3e126b6cb27c1eedf3b27be787), (1, 0xa2a136a0d6bd54f9bdbb18309191be2f2be53719b70d3d61409e46eab8dfddd3, 0xc14d25a56daa7c67e800402db1737d110974c7150629c36cc6aa77b2251f4df9), (1, 0xa003b8be6bb7c729ed29d8497d9e3d024df434df753fe29f76f5521094887864, 0xc6d2aa94459ae5ff7a8e934d8e1732ca8060b1d50cf9bb0ecb9ef41b7f4b12e6), (1, 0xa0293a748b953279cf6420d2c01a13857113908a934c8dfc513680dc1fe48fb4, 0x13da2e2277253114c1ea748bf8b5f3bda6e2ff8166c0750edbcd4ac95a16e79c), (1, 0x20aa51065aa2024f8a6b91d8c0e79d5704b3711db5d65169e5b9d8dce193a2b, 0x9bb0bf4b9f1855d41294d58431e2e931564f2f8a1b24b6bf68261cdd29db288b), (1, 0x828b6c642b7fecf319df2bcf3d653a878c1d2774eb4171659583a32e14ad7734, 0x8e5e2878a6a60837b3ff1dc32c5c617adb77dd5160f0d9541fbea7ea812f37be), (1, 0x80a9c332db4917eb06a611279a9737bc52481793d06acc5900b8d8d0a973c4ae, 0xafa28d65d50168552581687a3c4e07894cda5cf1841a6d5f16e8ccbb775aee06), (1, 0x88ab779598639b18211247ddf37bfc6d2ebf155c888b18b65cfa651113198c6f, 0x93c91ca07441d40c46e1a9e96a3c455047b39757c0fc4c3fd7e1d84086dc47), (1, 0x820b4706dfa22b996b21bc5eed44aedb5843d1b4f00c63027d66160fa5e7, 0xcc04efc1204b5d0cd2a3ae4697d96907481b4a56d4eb3caff84f9bef91755cd), (1, 0xa0a199a329366693a99a2c5ee5e0cdc60bc429ee693529dce0a1e22cb0232a, 0x3f54fe1828f43dbc7352c86531151990430bcbf42b9dfe6bb2b63852f9fae388), (1, 0xaaa3a20f6d2f1d292a334d4732ec3c44d5c5711c3c3949299be8e7dbedbdac5, 0x322543a8a2eaea8fc26b9591a7452a3cad69f76100a6a15b35554c949cc66a45), (1, 0xa0811bd861836be91fd4b41cf1f0c1ca7235f5545ce4e7ed895b87193b9f199, 0xb6978281d748ca4e1246de007a0d85a70172cf94bec38d9178b173a72ec1a1bb), (1, 0x8a297bd06f2c2ec10fe82a085437a9630e53796f785d54215d74e088f24704bc, 0x60432331588041f45f79ecaf272a209d45e0839bbb8689bf7bd7b3a144a8ce36), (1, 0x2800460c968b76024c9a52f0f172e47763e883e42d9dfe8895b8b6710adf6e1b, 0xe7673251c81d387177d65b7a23e55d410ff143454dc7938b34197212244ef433), (1, 0xa82bae51bbfdb536e11a93b3747a5718d04395e7f1921ab99d78a5825e2f6f17, 0x139953922518f2eed01665ec6818daeacce3668ab5cba26fb225921fce82b51d), (1, 0x20a851a37166663d33a5b1343e7e18523d2ed282e069157583c4d3961f0afe4, 0x10b7c83be3279b7b6fc7b1c86b04d2ea3af499a81c91259d92a91d8b411b6d46), (1, 0x2008dab2ba37e5ed5eb67e5451545b7aedc0ea816898e04beb87a9d0cc73094, 0x2b5586510954680977adbb08fc85be042b2e4fbd08e202416148cc1d51d1d0bc), (1, 0x88a3ddaa9a6b299d6f697ccb96919cad13ee099ab090c77b3c25deacb5eee4d, 0xa2e0b6853b2c5b8ee18f9939a187905deadff380361249661488dda5fe76d4ed), (1, 0x880956027118a61090f694c9de01c8fed49b40291be5be30812005b070596de4, 0x48e0a887cdb7977c02c59eaadfd52556aa1fd040ab251937cddc42e6ad500546), (1, 0x2080d1e63fcaefe2c1ee7e7cefa026951db60e4b3f63c6f3e01c4f8a1fef3f73, 0xceb698571440c9572bbe193aa55f999585a7bed7334880677397b60cf7a10f5b), (1, 0xa0a913b4fb54f33ea91e68545860bad35bd0562cf14603dc832d0d8ffad99337, 0xd0d0649963940486ee4e3b42e1512432049feada8e7402b7ba4b9f68efa061bd), (1, 0xa2013d9a5f1a50c6488f2471490ed79ca4bc2f4d578f118731b7e3013da79b5d, 0x55397202fd9364052b749f65ad9b0cca8d8c5028be751c3557599aabe3b2a1ff), (1, 0x2222757aea0941196fd391d001878d01fabd2a85fb51eb2e4a5686b0da926a4f, 0xfea724b8585e5189c391a1917186ae3aaaa408d6494fa46d6da219e95f9990e5), (1, 0xaaa90837cfd5a2ad50de8d787cbdd30fbec3901370199b1f5580f28df23cbc28, 0xea37bc3532c20d4bd0de541fe90ac30027ac40183237f3c23bed5bbc84e5940a), (1, 0xa8898dcedf3b82e827c8d3e4cacb25c49c8b5afacf956cbfae453ed65e16b5d5, 0x1cd5ee2294d8b30e54ac130c701fe4d56ad3093378649c960c0763699e7e855d), (1, 0x2a0a43b5e09fad69ce36d88139e9bc6318118594b02d7df52d233e4178e5e6b, 0x511f24f7378d3d46d2d1466659bedd2de67e465140a6f3cf467f4decd5b8ecc9), (1, 0x22027d2ad16bbf1c4db9ee35bc44dab7f870eab9d4888e4dfda0c60e03529e80, 0xea752913f9c36109671f547f121e21f12e5c7a683c00e016431dfdc6e12a3e02), (1, 0xa889adc62501410efaf9adcaf6238694cf0f896aa8843265f9b6f28d7664a5b0, 0xf73327aaf0c58a1fff58b53314aa75de9b26a671f6383779370c0dc48095a5b8), (1, 0xaa2b8bf1b4fe25d275d0fdbf6c6ea919eadfdc1b69605b78bad7ff5ed98cebc4, 0xebd4b7ba4abdaba090e3877755d7142fe8206c65832ff0e2949d5da65ab9a144), (1, 0xa88b25c2d9c00d60fc13f6cf354d27cf44dc876cb027b648d86ca25811b39461, 0xc7ebfbfe12c0301eee4f854a52ff2eaae77f7ef211f3ecaeb5da6257afa34441), (1, 0xa02b30f131839e7664597a3c21e13e5fd19cee8390cb37d81aee8650c4495ad0, 0x3e8b3a17675a6ad5d85c3d1985c2a64576e45c6815111885e42f728b8a427ad2), (1, 0xaa8988c489bc5fc2fba13e49f53301779104be5d048a4e26cbf7a2ebc137a0b, 0xb2982c121dc575f98bbec8e3dbf79587a1ebee31c561979defc4ea929b6d4803), (1, 0x8a097b02e1292f2aa59d6dd0a87efe901011d2b6faecac09f3407b6933dd3234, 0x50f719ae8a403d70309d976cf8566083f6e14644e59a0b30772fad37816ff23e), (1, 0x2200d5acdc411654286f869271dc3210dce146515a8f4253d9fb0e48f3129185, 0x3ccea34d90a2d4518298a89f4705638325937b8e0fd8da3daf61828635a1ab2d), (1, 0xaa0b8b0b3abd220d6c4741b3df0cc312a68534085cbd9fe7017e7532f07acbd, 0x3003dd98f62d14b25b566bdf24835b9eb891f914850fa09d9a78533cc810141f), (1, 0xa00198b1b1d6ead68503154cc9b20ff5eb6b87f7f471588a00b8ec8d7c545f4, 0xf649dc1edb1a46593d7b1d9d3150cd8e2b3f36ef8086e0969b8b3f777c43875e), (1, 0xaa29a17efe7f78c8f46c31a6f86cbb344f9c85670b3cb293aac192747364f991, 0xcb26ae9259944dcbee386dd8b8b797729e2131ef03b201984f4928a5d6b92b39), (1, 0xa08b91ca91bfb7807c62b81b5c6323fd1b794dd6648c96b1c2d07dab09a2823a, 0x926d3d0e8c2189e0888c66700ed1c26ffbd27eb7e364300125af28008fbfe8b8), (1, 0x8209cf20a9b7189ee10086bc6faf0baddd81545508546aecde84d7d8c7918bef, 0x7c49aa67f0f35afd8bd3d79f4bec62015df071606225970e7f4dbbc6be8e516f), (1, 0x2aa0409c7eb2b2115f7c0647bff53b7117419a4f56883ca2b0bb8fa87679ab94, 0xdc4b735ca52c0346d736176bcd3001a5fb039e86591658967a26ce87605f433e), (1, 0xa2a1be89a0cfd074a1d81b15d5c44c7b862e5e9e42a77c453e86f95cc4bbf607, 0xdc0ddaf665e41ca5494c3eb3a067fc4e63c90971bfab9eecd06e2eec11432caf), (1, 0xa2a19ea1502d8c07d982b7e85379eb5f9446b9745209a0326635d0463b8e589e, 0x8a4ad0d9006a75c52d0a041361a8e838e2aa74bd913bfa3da1e7c72757c7034), (1, 0x8089c16a711d8c399f25e6c8c02a37947b53f757a648af87abc2babee7d4b9, 0x1f29dfd06d94708802d7b4df8fdc1448ffcabdb7aa94402420bdb9d99239ae99), (1, 0x2aa0e8355b0d6e8aa7699fb5e206a513da954427c9e50cd6e158ae7018186cc, 0x247b10a2b011cda369ed32f415ee9cf17ed9fa750c7852b5db63d3002309444e), (1, 0x82034f3ae2bf68a0017f271f14f5c3d84a552f2df222bd3b7597ce35974c287, 0x6f1b277b252427acf6305b206b428b8eecee0494d2a7f53af8933dd0761e322f), (1, 0x28aa650d72efcdb732a05d91677fdab5bc7a63b3629ab9b984b6ddccfcdc126a, 0x1594e3e9f78c69d9e5b1434ac54d780d6bf8e2d6f1ef202513b0e5d59c707ac0), (1, 0x22285deba6eb152f9ecbb2944cf311d0af0f81c5da151ceaffd100fccb5d6eb, 0x351db5218884f1e8cca2ae3a22cae00faa3ed9abb288f6e12d2e749fb3d1e6eb), (1, 0xa221b5cb2c4d37af5b264dd8c9069ba66f2fbd1835e541d4a218e6ed042a145, 0x69199d8601fb10768e8530cd5303a406ceb9ed4fa079ba57ec060e419539cf), (1, 0x28826563fe9e01729793c3ae5dacf11d52bb9ee124d025d365a4d47686bc, 0x1f81a2c70139a1cd9523de9fe1c840ed77a37211b45d756988a1467589f96616), (1, 0x2aa860280efd48ce4a70d17cc2d9777bf406037e97cf23054750851dc320d6d, 0xd6f0d1280b0a70c305b40842cb681835ce80b0610f77ace36d2270d5763cbf45), (1, 0xa22935fccdde7790c122d93c766e42ef6998020e4fa7a0ebf68c676ce5d9f90b, 0x61ad5f2e75d58dd26c27e2fbcc60d2af7c5f169eb671035874247f836b954929), (1, 0x2802eea2bbc58184e176b5be038f7478972e9bde67efe56edf2d4960993a4b44, 0x3e12d9619417db983077b88b7379e0f0770ec2bd33ae503a586e876d8cd783c6), (1, 0xaa81a0f06eb30557723d810f5e05a748a4e2481dc6448039f77e53aa55f086d, 0x314c7a47d09e6097ab82ce9b83f7141d35ac8402ea03f3bf5a8d0c8324431845), (1, 0xa0239266ac25bda01bfcb81bd05e1218d2eb395065ef95c70ecf32c98c9593a, 0x55ae83b068ff3bee0bc05f20ae435aeae7b4e7730c17d0b227888156594e1918), (1, 0x2222f751a7f7095ef2bbbeccafc4add90b5461a3310277bca4687f5b145e8d08, 0x8801e731a264b7496e534c6e1cb5073ed3feb290a77d67adad946c74fdeb0f88), (1, 0x8081e1fe0302f426dde4a12f51b92c84d9d0c1e552463697f251e5bd3647e4f6, 0x84eda8afe55f8d7cb8450006e5e1a5fef9a993da7c3f9426da252660885a4476), (1, 0x802148c7bfb03aac6328a8f2d6a2073b7bbc9d31e2729d86377aae4025bacb28, 0x7ab39c10cb82adf82411da2dc4ee344e34f3737218d16a05e025a7ce2e936100), (1, 0x2a88ea73f21820b6e6eb1506e1df1bb201a2d15ba021bad3734871f6f8045533, 0x6d00d8abd15810f4df30bb1e90342e9bf996138590672f9c04f8b64ed0364533), (1, 0x28a26799dff679ebf13678b2737d8a2cc55c49928027489da6580dc271ef11b6, 0x4ebe06167ab2c4b650fdfa054c9b60aed6669ab4bc557e47636b854635763bbc), (1, 0x20a8f328cf8448ddb654f6df3fb3bc975b99cbdceeccc04f69285eb00e9d993f, 0xac91cb6d426776f7ffb412a6d684c386187d115b97eccf9306ea24f93023439f), (1, 0x88a17d86206a7c144c4b8d607610e310d8f1a935bb7aa5938f904b4e72dff928, 0xba36b22ff790aede8584ea715f870481f25f1c90bd82ddfd9e2de2f3b93cfb82), (1, 0x8a89f24b80ac3c4277e2bf482288bf51b65f92939af7180c8ba9fa540a4c6092, 0xa68f02df7cabc6d3d807c5521722d953234a1279a2ab8103a2ee0dfad450009a), (1, 0x88297ed09b93e7998239732e260ab15b37c2ba6a4500a6f6dcd8f5ebd21310ae, 0x310e0dc9f47d08c1a58a2d108e8fefefcca5c87c6b8a4d9e956de3108ed03226), (1, 0xa02192e38f196b9db152cf77d7cfcb350aed37d6998a58610d7f4e48a543e47, 0xfd781f5d5ded16843fb0ffa7b1db840a9b4444f54260a6b45960d67eda12e66f), (1, 0xaaa3aa85dafcc787e7901676919eefcfef3b0624374735b412dbc87387f24a21, 0xa52b06463c649303349f8a5d7d72c7f8aecab4db435ad2c94e7a28983b54928b), (1, 0x8823f6e8e46fb95cc39f315be2766431d2a14f531569654ba8686d1148c93696, 0x494d0a7ed877d85af7e5b8560286a8c83149b9283ed9af30b8e746ab5cb4961c), (1, 0x20825942c833820fedae9d300c4e93d9e3882ca20b0eb5494ac397d34722a0f2, 0xe7cead160caee4be6d765609c455d41f75087e48bcb265ec5d63a41477be4252), (1, 0xa82b26d2c6ac9324d665f69f44adc2aa72dc6b26e78ec91809a0f18186f36c04, 0x5fde7971ef73d5fd4ea9f623c5303e2c7e9d2d45922b292b5a02808513788e0c), (1, 0x22aadcaf71845d8f272310550442b7c6238cee6af1cc687ddd0b9c24b71722d7, 0x106ca186f3a12464de156a6a6ad2765c478a42807b4ff47c5839518b41c6f277), (1, 0x2002f209d43e6b337bb1af6c5e728aaadacf497cf0e771e8ca33489746fb29f, 0x36da04cadb47263431f5a1449507a1b0d0428f31d4f6123e3995ecf2e4a5c8b5), (1, 0xa28bb6e2104397337534df74f6a8cb1c41d29bb88da0fc0cafb858a06237345, 0x42a1f3d5a03bfa194fa1c3fdd9f75f159c56d368d2a13dd743ec412c5bcc967), (1, 0x2008f01a783cfef78a1c4f4d4ccb680f61ae51c8ebac9480b729ce9d9fba51, 0x914102353d3140ba3dd8aadd3291589e844edc94ffac20367d126a0fe1be627b), (1, 0x8203c7993d3d7d042822124b9203e6609e86b59b92582cb0f12a658e71bbca3b, 0x9218b54d915fd2bd1092679891e8cedd84e6fce6a6cd970a4c174c67ac5470b1), (1, 0x8209e50248cfca76a36dda915ce76f6ccb48e93fa22c526a1736a4cf7ebd9482, 0x832ea0d747f394d96c35edee036fd9c741f486e6657deff630cc45a949e4fe80), (1, 0x800be8ada1a64ba1cbee8fa6b9d750cbbb4a6a0d2bc1062c1f342ae29e7a61c6, 0xb7a2a4185315d70bff3930ef6c1de374f0ad0fc0b8e93921e4dff7766044c1c6), (1, 0x8a2b71f5fe8852b8eab1b84dd1bdfec7863a419627499c7fa3ba280a8ebde2ce, 0x46f379d5486762a4387a77b06aee9c481d60ff526aa6838849a879fc44bee2e6), (1, 0x2028d26a8001a7be9f3a284331509eea991593bcce5f60656a72186bf321a1eb, 0x7c987481428ef7d1e5aa895ef273dface1179451e857e405f3d91f88311599c3), (1, 0x2aa0e29f4387ecf623066655f43015a622c77d31a1adcec45198a0196a89460d, 0xd82ac045d58b2a143f70844a4dabb2023cb87f1f399a1490abff6612729f5607), (1, 0xa28196f34be8abc741180b2dd20934c0c237c1316427adee4c8e9660a726f69f, 0x7d32f8b37dd86da30eb67b29f30b5045c593ddbab96943898090f3d300ca6b5), (1, 0x2aa26a11bcb7b8830eaf4df792bcbed4c2077517896f6993804d80265fe090, 0x3d4ba4185f4a9e250e237dbf5024242b9a2253c6c9effe4d3237f25fd3006ab2), (1, 0xaa23894d3901ec05342253d6de024e5ba7a9cbfbfcffa2739bd09ccb674812a, 0x3b48cabd348efc0bdc79ada8a758a3b3df244f1fc5620a9a07fd5db62e746b22), (1, 0xa8a38f8fdc7ef149955bc732e98e71bbdf0671f9177b5c852013c332b86eb25, 0x2bfa24495156c37554e08e2d579655cbc1fccbf3af44033fad8b012682b1d32d), (1, 0x88ab571de33a8d9a0af4ef3f77cc40bb3aae5f84cd21bbc32094fbf6069e118, 0xb030947df1872bd5c8643b7aeb013c0a3eb2e10c9f4cf71d1deb40e4901b69ba), (1, 0x8a01f39d959ee63c02cba1046a28fdb537071085b588626ee807aa50dcac7bf8, 0x93153d4691d33edba477a0e9b8d078a928114d0e693cb5a8cf4fb467dd6c7170), (1, 0x820be5a749a36e8d2dd6837e7ba27ff293af9122cb73ffadf00fed840dbef919, 0xd5502116716bdbbee3a10b1fac31ee511e5a4a45c8f58249ff3196f79db4a319), (1, 0xa223bde4187b27b1b6dd8e3f38296b3aef2a9deb7b2c2423cbd689e268a32416, 0xeb7039aa620a7d04c2b2c4732d830157e1846503dc424eadace0b9aa80440694), (1, 0xa88bade3a70c95374fdbec365017c8a39222abf80cb6cf278c6d9d068a4081b3, 0x3184ef3edd9dfacead381b403abac8ca567f1581d84c01e83fc87fdbbae01393), (1, 0xa0299a7711a1073831ab99dee4d17c8fa79f67819262e3b5fc25b3b7b2eeb60, 0xedcf5588853ef556be0b82de6b13873449558766d66fdb4cb6f0af863796696a), (1, 0xa8a3272e7156f172093f9047efb1426b45cbdecfc2d4e8e3522efca68f556557, 0x9c89adc60afa969639e2f6d351b5bee263c02737e9579af6f5f8190aa7069ddf), (1, 0x82a16687b7850f077f0db7a0f1975d2e949ee4e1314a4aa1c0476fccf6b4fb55, 0x5d3878decbfe205874f6db9e59f4fdbe52582442b8f6e5cec2e8c1bf378669ff), (1, 0x22a27498f631fb5574e8a3d95d78e892c711f2a471e52406fe86654a474bab29, 0x1b93e13aa9132253d7fc876d04f545a605c49e0b7253f9d9d62a7d2826307183), (1, 0x28a8472a056937c0f6dfc783a1fe5b1af2eb3b68b9fa18fa299a87107fa5da9, 0xaba6c69e566eb4fee87e691b47c4e2d36591014cfe6b56d4569fda8d9b59ada3), (1, 0x888b77cdbfbca91824c8610b70dffff0417815448fb905127a5142d4d241e145, 0xf634b0ab58615ef193e87d0a0e9345d0d4bfff28838b86265d84f6f94f1c594f), (1, 0xaa298bdcb6c69adc7a1eabd76cdc2fe344cc1360e357c8298a599099e5d760e9, 0xc4737a50b7e68b7b1676d70c6ea824707aa1ced204ca0e7ee7f3e48658783043), (1, 0xa021b269d64588c728529f598c1dcdd719b95f23236d9457eceb1fd8b2173d68, 0x10ac46436629a614f82a9bc62bb62e4d7e063237dc157e759fd6634768029d62), (1, 0x2008f21ad735a94c37185e43274802d377cc42b9293004f750183ae54b3aa0b, 0xa21fe9afe1315b2d39e9de3f0020614b1fdc7fb203cc6dd231a407bf90e71203), (1, 0x8809fca9d3a96965fadf4ea37942f1b72ae420df7d80499eb4e92c34549ede1d, 0x2921f3cb3919a1c80b18b077e56ce023310bd998371f4aab8d339501e38d6e17), (1, 0x88217e4e3b1bb1370d0dda8120e9dafdc917b9ee4fb0f6f6479a823b409de25, 0x96e683903f52b0bdef053d177ddfe32228e45b33ef42b4f462efb8ab6f2cec0f), (1, 0x82294fd3c5d6aee395a2af56dfb80891dfcb3e845929057a1e5a812c3dc457cd, 0xf48b49bdb33b0c93ff8ac2fa394a3fb99abd72ac5f02d32384239b760444e767), (1, 0xaa210169e592f50234b91984c9ef4569dc8f486ada462b68b936e5266b69f4da, 0xaa06051ca7a662d756d228106a1cbececffe0071c4f0632c932519d088aebcf0), (1, 0x8889ffcb61d81396076787f3426fc35c48ec7319e510030e9662070fc4acbe89, 0x625b2e1aa8e41e34997917d8cd622a85b6c55e7067b20e7e030948a78da36489), (1, 0x28084492918268e88aafe91568237b29a4d83a258fb54fcf22773634269d8efc, 0x588b8683aa5f7552773f5a2797ede8dc5f0802cb646d4aa0a9b7308a720c4e7e), (1, 0x2280feec2243ee51f8676eca7431f53c1352341b1ff44a0fb87a496f19c543ac, 0xa2e482a283d21f69cba0d286f64a9e54927eb89410b14cfe91d37378065f2904), (1, 0x880956227b40b0ee5cc5cd3b7dda7e1a30bf07a509003f7ee0f5ee952e949b8b, 0x95bb02f6dd3c6c2c562a57ca1592294dea3c83b0c16d1454fc6fecf329680bab), (1, 0x82236d68ba7405f3615a49dfb778d0915960259430e404cea68ad3432f9e8354, 0x88a705c40215cda721de42ebb4f4d06d0c3c39afef6885379955d21116f4cbde), (1, 0x808169d75570a207ec5b89e45c8bad7492d3ceca0d73c54a1142a2928686db96, 0x8dcdc4bfa67e6049bd053c0dad7a22bbf87f390374c49343e144c34f0ec9593e), (1, 0x80a3412015d4d34fe68a683115fa70e247c8ad00de8e844aee2dfddfce6b0a7b, 0x49e81f7512e8ec0b25637d583447266681b74c437b1e4c99c78e87af613290d3), (1, 0x2082d16134737ec5763a59f6173ab37dcd8d94a2bb22a7a691193d45e35da33f, 0x430ac845e6264794e113dadd1bb7d775db159220250df4b6ea73a2f22095135), (1, 0x200a78960d205b0525fb0f69c05752e4128ce596d72111a339362b7860b1ef, 0xfb5117ab2102f72e30365883b1587408e294b3ffc9bfd0ca3b78de1f0c9debcd), (1, 0xaa8ba261c37ca43cc6a9970bf1a033ed8dc4894c0862faa55c23ac6dbdf76efd, 0x15c6e9a4707bb3d768c42a3ef59f809b308f2d76ea2527ea14dfd8dee33c7e5f), (1, 0x222a7d6c57fcefd5963810554d01b43b5e24c30b1e0e6526c4f1fea93e8c86a, 0x7e6b29de4cce93b5decda917dcf8ae85a8aa500c75d47184fd692fd43e848ac0), (1, 0x2aa8488ae16d6bb3e0c5eda692b75235afaa0c05106b5a6dd821c2dac8bb0d79, 0x59b1ca32bc34783702490c99557c10a84a32c948a5b3f1a794e3cd2676d9dd79), (1, 0x2282f4639aee6773a3ff66a0f441d34eb687f9c9c39f6d41d30ff892f3c24a94, 0x7def90ed05dcd6e85d41a93cffdb51ac654d15a4d37358b6b65fe6b25fb4a016), (1, 0x2aa2c8b20a338e845dc09e1379bb5df73194b6468b4a25bfe01012bcd90d6f39, 0xf6e790ab6a33975a5f923e42dd5ef713073b37970d775f19df290454b03b1d11), (1, 0xaa2929d72144edc54006ac72fe3aecc3b2e26914c76394b025fc2ee544db5856, 0xb3058bb5fc76d07d2c2f4b229e7241367da7107a87b8a88d470fa668f3e87a54), (1, 0x8a0bf9a60f73d9b72933a89f46f470fe396e52d8b378c7a4a017ff8d6cedb7fc, 0xeaeb832ad516a74b56f084c3c396f628e95d0f7c63cdcab8f6eb65d25ca4d5dc), (1, 0xa8892f6f4b926b7989c510c5b3e0716550e2bae0312393cd1f3446c8ed0e59da, 0xb65629fe14828a32cf8dbf2eafdfee1b0ce4ecc7b799de5b900ae7c06719b7a), (1, 0x8a29dbd37fbbe182c9705beb6b78e991272cd8f5bb5e2bc49d78e6307d1888, 0xe37553ddc8f14bac886ef09a88735b34665094f37d29a9b26112b0707588b200), (1, 0xa80bac21934cc6db2962c6b9719dc350e917dfb9327f59d2b19ae2d8ffbde307, 0xfc6893b12cf5fb4d6871e4e8265efe14dd4296f3b70e14e5f3e44c8c9c773307), (1, 0xaaa1a882ddaf221906a637ee78e54cb95bb9dc02c7487aef9601a34d02bbbf08, 0xcd29427320244a6099a4819551ec29059899718ae9d9a0c2df1104d923663f22), (1, 0xa0a391063e799dec056921f17650369675d2f435cc47acd8857ccaa6a1e440de, 0xd15b0c03040158edfbd4e1e619af2e0168cba99676ab241a48b497f039a0e8d6), (1, 0xa203bd16160d415ba601bd12df2d6e998654a6e6cbdd36c520982a25b687a50e, 0x1ff9ff9f48b47eb885a870d5bc493777f53e1bf377288eefa3d9831ebe92a726), (1, 0x2aaac82c22b00e24c319582c6ab42cd41a1c4927b29b87e3ec0d1b9804d7c16, 0xb01117a5a8ddb8f8e785c689c78456ada77ba333271dc33ed8a3d1127c0a543e), (1, 0x8a01fb9f0b93efb3c0638aec756002771ec9e6f272463c152d898cd9990113f8, 0xb00cf4d31a4066fc7bde18f95146033a53c9873da2e453563f21baab87e39950), (1, 0x8a01f93da587aaae3fecc18ed0e3440d5cb9fd44f3ecece108f5e5acca37f477, 0xcd88ec177e3d904f5a5fd793c9869039accee5a18b0d3583a192ab60318a0677), (1, 0xa0a3190548cab6c50e33010bb0af0d2916e60e4ac813c18b731a0957eb914084, 0x2bf84a792154380aeaec2ecafe2c9acd3f902f9a0d1b3f283f597829c02aaae), (1, 0x88ab579f685c49216764af26a556551c8a214a08294c65b729da85fa2f40e, 0xe648b24fb691b89897aba1533cb49fd42fdeb14ab696e9ee59c43045844fdca6), (1, 0xa829a6fca40ed8bdb1c312e5266ae25544db1a998565ab6a92638d669d63cf5b, 0x827c428022f7738db0a9a32f46e1e32abfa01484c0f5b652a048f6e85b36d773), (1, 0x8009caa2f6446f190d97e61bb3d2a17e5ee06cd2fa82084b3a1792ef72a4c294, 0x1c881bbff0472451dc9d031bf9d7c3fb878c353a05550b5ac85b196a01da289e), (1, 0x2a086998a323d406acd8d39f285b6dcae752e6e7fa49e388fe71abf3584bdd0, 0x797be44f89bce782bfaa82bacc485b912f8f001f0e9d3ed7e57f11ae6bff3f78), (1, 0x2a824aebc0da4341019d68fb2bb25d480553d21a811497dbe2248136f95a6427, 0x83c127c665471a040bd78d85a9e3811a7538a849277667d0639a20fc7efc9ea7), (1, 0x800b4006a61662fb82ad8c41b2b7c7675c0e545b10089c070540f0c59d0f3f86, 0x6741a4d88566d5e5287d22a946995f1d4ea5a44f5738fcbe82208925d1ad97ac), (1, 0x282a4665902a7e9ce3ad4758ce6c6eccfc75e15240e2f8703e8641c82ccc3b76, 0xc1e092679eb2705a664267f0a53be2be0a52dffc56bc52956f240b5e67993d6), (1, 0xa003301d1e1e79d4018940bf9f12e1a097c15c83f6765966466ed63b7546aa, 0x3445b4a3ef43ebf4dbfd28e0ff3ce29de1daa2caaedd5c01a6df7fe0175f8482), (1, 0xa2039db4cd3ce9e9c6f92ba872a7953f2069f58589e9e6283d6873d45eb2efa, 0x962b005217c61f28bf8e63ad56ddfa8fef839182491b9f9a59252ba35d58cef2), (1, 0x8229ef70dc59ef78ab44fe56b598d95022c76a7e7dea206c9283fff202cb08c8, 0xec77185e17c400b8910e3e0a58ed8894785545d754808fefbafb5ae762022c0), (1, 0xa8a1ada829fbe62f2c495971b111b4c7ba380d66e4637ca965ac3056543ca7, 0x99d1001cedf904cfed752aeb2f2b62aadc6a43ca0018fde3a64a06c9bfa84ca7), (1, 0x82834478c61e29bedcceaf7819a8e40a5991c865ba1a7940f7cc8e148a1e15d8, 0x893972bad6675fd9e86eb8921701eda3008466da5f87075ea0db18f0fa421df2), (1, 0x8083eb791932e83bbbf94c58818af54e16d0955b26e2fa550599cbf03236d4ee, 0xa8b635c19e74a4c51d70f36367365100db8e6aebbd6a6c7bc0ac2845e7abdee6), (1, 0x888175d4938edf1cac5bdd35e77e583a725755599865db4ca77112ed8cb3b9ae, 0x8a07ac17e3b570b4246bc1eb48541d15016127c425037e583de2a60b63a8b186), (1, 0x8089e1c82225fa80d8670eebe678bce6bea2fc9e9b3974d526854ea98e2bddbe, 0x1ab27ec07522bc60807788f65bc7ebee938a20f13ad675b5df53ed0f2755fd96), (1, 0x2888c77bc894a86bf8de9217187a6f42cf1c23aecd1a68acde0cab04d9bc3d6, 0xb9a7cc716aaa8ca94f1e31a80bd788bddd775bc4c3bc08a8993ac620cb4061fe), (1, 0x8a837051cc269c2c4e0cb849a223f4547ea8e79b9c0b66c189f28b58c5da1663, 0x5751d807c8434e7b93f3a675b5ae45227591172dc8bbb6f6183b2d0e53cbaccb), (1, 0x222a5de404ad3d6647f4ad71ac8632591d0f2ca93f42dc8f3f922f8679088b54, 0xe08d165d2fba0563b347f5eb45cbf8f75cb020e5347ac0f8ac800f2c6fc8ebde), (1, 0xa80106b9b2ada63e09f3bff4c28ecab2ec62817fec4fb04a277842447a3d7fb9, 0xfe082295521e9035d76e8dba6fcd3a24efb8c2b205cc31c328acb6da44f9ad11), (1, 0xaaa9809c30614caa66bc242e6d68094d6a02937c17b93dc295546c724aaa8fff, 0x56702aac47117e9323df8dd5e595c17abb8d8302ae8b4bc9a04d970b4f58ddfd), (1, 0x222855e130d0a107d7e95fed6c5d87c7c158859784907ac0fd93780de3938f49, 0x5b025cbb94d1e10a5a6b0b279f4eab9f3acd3f63f93f9bc900b98c8c772a55eb), (1, 0x228a7e76e088f61ba8cb90b872fb00a0c6f9049828a22e81bd7c8c9f459ec56d, 0x8d40cd51c9aff026c4e58e8de96f05faa0e30eb7539f92fd4399bd80661adde7), (1, 0x80a3c183f4d556701569324872358d9abadd15f5f2e4933a9360a7fd022c4392, 0xfa0dbb7932dddb5d0c6a6a52853a1ac723f3535e4b104f99d2658716db080bb8), (1, 0xaa8980c6b5b06377fb83582c6eb300cbf338383e94455a5466edc33450874057, 0xd0b9909a23d9bdc5778663b1fca49bc45bf21be872c4112e216d83a79dec1ad7), (1, 0xa201151892daab74c520da7e1c9a23b4a845561f549b1b0ae07c0bcc85f0c15e, 0x2306f1dedf0e59d61a09c1c0c0d304b7c30ffff002642d656f2dc10e251ec374), (1, 0x80a1e30e0a5143551bbdb69d630bcd713a29d3a6b8809700be513fb9cba75c6, 0x3609970629ba648b09c32db9becb9cde573fc344d85deb502dbda48fa4e67fe6), (1, 0xa2819653c8d174fbb4eee291618654b3de55bf0bd5b0be2c36d0a99df43d829, 0x1)]
def xoChP : List (Nat × Nat × Nat) := [(1, 0x0, 0x2), (1, 0x0, 0x8), (0, 0x0, 0x40), (1, 0x0, 0x2000), (0, 0x0, 0x4000000), (0, 0x0, 0x10000000000000), (1, 0x0, 0x200000000000000000000000000), (1, 0x0, 0x80000000000000000000000000000000000000000000000000000), (1, 0x8001e01cb799614c0995b0f93bc5b4f0d5094bf56e, 0xaf3ad6cf8b1fa95217a560df7587761e21841e499cce061adf379517f8fc556e), (1, 0x88abf5145c95b41fa3c72c169b8890397ba158d5d70563f3c86133ad54ff41a9, 0x9a7643263b710cbafafab6f18aea417f84e9d3d18c0b927dd000b899bb3c1901), (1, 0x8289cc4a99d106afedc45f8c6b80d5faf03c3566e30047955e55d3e91aae346e, 0xc18136f36541e04c15bf089028d3f7f2da98060235be5c7a3730d4066d6b946c), (0, 0x50018c0ff81f31be9384ff38a5df5475fc52b1107a58b531a5289b5daf57a8d6, 0x4fe46c254740f2b8b457f237f45c876d4ed5d4a6a1fe5118418c113e36ae9c86), (1, 0x20aad1a71907b90e069c1ebaadf53c33dc046ea35507313d97a46c2535b7e9eb, 0x69c3d5a2d6dda87ce042de424e3c415d1bd0a214d26d0c7deb91cb0846abf9c3), (0, 0x144163f5203dc2b4537e9d028fd86a1053618084b9c744d0120a3a8d328f08a3, 0xf288a8089c23a890c15f9897e5950deab92b1a70fa24a0f4e4454f50073948a6), (1, 0xaa0901054b6ee74bf4b4914c7c9d9476e46358a73d9f25c19592f90a729b6123, 0x7d2f71f9549853905432d0c3b8bf623e6977fa8496a9965e0afe9b11dfe4f90b), (0, 0x155134599d15c8634828e76f27f774f153e0ab4f88a803946c67942eb1e5dc7b, 0xda389eed0a2b24408550a71e1689036c87c03f8d4078b63079e7b9a8a05f4c3e), (1, 0xa28994e56f1557c451f4fba5c9846e8e965e1dd35519e47d6be459620f78df12, 0x32f5a2c1146f81017c48f8e16ff36e0213651a08ecd1ffd0e3534800df6635ba), (1, 0xa08b3bcb1807080f1db027b4230ed1f3ebcc5e48f5b929aca556b2f76db057d, 0xb7ce3c752e56262cc67bc93bc6ccb92c2afaa75a05a5132eb869f37006503ff5), (1, 0x8a2b59551b976163cf04c576d145e0c463334eaa111eef9027e4318278823460, 0x2b51ae03b13cb844d558f76f6f53d714cd211df2cd70f8b5b05d0cd362ca9e42), (1, 0x88a3dfaa15e885d127845b5c3bb81151247ff1edaf1a4cb52d1055ad74eac34, 0x8dd54a8300c59da27699cc94f33be62fd95fd257f4815f55b366b3da05744c3c), (1, 0x80a343a0931d561c2796a53070be88d427459d5e68fee609fb3bac05298ef85a, 0x5ebf1ffeb8bb92cf336a2005849c955a9fe6c131850654c9afeab907aefb92fa), (1, 0x22a8f4aabfdf03cc91ffd29b8a0482caf212dcffba72209bb84fd7d7d104a540, 0xd730c39c502227d78c7826ca193d5f7cfcc8c9d9f41bbbbf32033497fa000fc8), (0, 0x5115cafd6bdfdf1aeabbcbb263698a18f7555d1a32ea20a923ce1418108be44a, 0x65bb0a19d022477298fc2ef528a928fbfa4fb3f1cf21016e66c03489c344d40a), (0, 0x141176794c96331b00cde4d38dd9b0301be1cf075df78752ea28ed72dab29383, 0xd9a6d064e89ca99b8437ca0acf2e27185d4d0f097d08ccc5fcec0388a4db83c7), (0, 0x51418b2a940f6b11de1387afc61d79128dfbe85794b76e6b8a59b7295ce06f46, 0xb3a2300e35018843321ca4bc01a447f5d9b272e1b213aef5b3a206d4f5ab1f53), (0, 0x4505b8c6bdc228962a0b97e45d1140f27591b438ca71103d2d2ed5aeb577f9dd, 0xc26b952803e69fa58eb7d217920cea44f5e5900cc83f849f25edc11f9ad58d8), (1, 0xa009b08f7e68d47bb216199302b13a2b6369b4e11f22b2d12a5098793a6b3b, 0xd1797466bd8d17d3d05ce45e8537888163121e79dfcee0e8cde191a5c8ad59bb), (1, 0xa203b51e2292c3ad2d8f42f3060518ce5cfc8513d4089c08453aa39e4c8bb0ec, 0x6c34b517adffe87e819c579be75bd61dac863736bafdac529c74b74a89177a66), (1, 0x28a06dbe6edff43cce1d6fd3b63c05c1995c1ca35d4482c5383729a33cfcdf88, 0x3a6df33f6e13d69d487227374f56f7e3346f9c96587580a262089383b7db77a0), (0, 0x544186eb4a4f29c2ad23949bc6d6d9e19f422a37acc088970217da0a403e870, 0x7ad9c105e5aeeb7ec2952359e5dc73b5138e66b54b73fdf1f6989ac851bbac70), (1, 0x2a88c2fbb742a76f03dcf11fc15c8224b4647251888aca909edd553d07bac13a, 0x1b75b9dc6994482304f202def7b2330817ba2228c633881042e59d5bac9d8b3a), (0, 0x145162d825509692d2d4dda2ef2aa742d9c3b700dbf195b396f71dc9a3c65d8, 0xe06d6a134049a07a5aab7241d2ef7820d560236c1fec533693e2ff3b4785e09c), (1, 0xa801aeb81e17b78e78085a5d8377fcb6e1aee277fc7cc93c398ef6be85b8baec, 0xd5c6f387894cd20c5de4f65b86a302b40a492a846e51a481f321137cbcc6784c), (1, 0xa2233fcd5d88f99689aa1827f613bffdd10d411cb8e384950b46c2d997f0d967, 0x619513669b2b6d5d6b2969536a75718edba8119a5555175fd41d3940b1f029c7), (1, 0x2802e42283047d8b6cb4320624e5be02d33ed7936d8abd9bc5fc3e53c4df883e, 0x6f346f42025b111db12004f57a03612aa8df9017bdaadf28f3c0541b57698814), (1, 0x28aa6da74defef885d63c369ae9ac83a9ed3bef3211f306cab1f514d70b04c0b, 0x1e5f783e9ccca2405335287a67036d902c40ca5a160e4a05abc25affdee6de2b), (0, 0x15412561e04e67fe650aa066ecf8a36dfd40b59750513227eab35ff9e816d66, 0x64c210b495feeecd321bcc4b7c07dfe03774db8480be17bd61fa247629654923), (0, 0x1410633bbddb9f056c37b658c448b188533ed4ffd74565b5a3303f402c5c8c81, 0x127bc833951cfcbf4052fda4960f91c95ed8f3355a67b16fcb15d7a988d57884), (0, 0x104168a59f5c356d662cecc2e84e8a388d6da192c123760df92448184cda4fb, 0xa03b8d0d27313b79f36e902a069216c0e3f83140ec51b16be46e6edd878e74eb), (1, 0x8801f497e43b32d021cb892ae31b8d782bbe8eb659b54a5474fb59194881e692, 0x2efb6d59ce821d49a783b155270c19c21a237a3b9bad861396cad875fc17ae18), (0, 0x4545a863cf4b5bb4e7850a6703ba8ac6e6789c1c1efdb8950e925015ada74d1, 0x7e48aa8f3a26060b3c55cb32d8676c92eb90015491e9b7221aa361136bf58591), (1, 0x2aa840807f7ee374b2aa6c5b9a1da18eddc92567a216b20624702a0456e58098, 0x7f8949214e12637bca54d7121cdb044b0e7581717731ba376b0be296e37829a), (0, 0x15557042678d94db6af260ad5558de91c7105bbe90ef82f91f4f95b37348d8, 0xc8504a5b4882c662737e3d73be8176ee9947f967c585d79ef0789bc5943b899c), (0, 0x5040ddfdece3d21a8a25fc244f307f0e22aac1dee572cfd7acb48ae8f3930a66, 0xb77569f244725008fc1d5d6135312124de39cdbdb74e04a7bc34aa5e45b26b36), (0, 0x4515e9ef60e886c039ecdd4da6f4d04d2ed2facd3cfcd4cb048494dc038ce36f, 0xcfc39cefca4ce4d1f3a12667fd1c01567072550927b43f346c20d96aabaeb67b), (1, 0xa0ab39911affb4bce22800861a389f9afd4db417de184e010a8ff28d4f6e4d47, 0xf4d3e46f358b7fe08446fecc1e4f759b494018e7ab3ecdafaef35704c318b7cd), (1, 0xaa2123e91356eb0668aab2db7271bf0f5f04886252bbf272b9a2bceb7714d43b, 0x1386eecf3b709e9f29e2fcd24337237bc26763ba84ba442ce69ce313f279e499), (0, 0x10543d85dda2a1f43899e0cc1538c98d614e66f3d15cfddd5ebd386b143d5ed, 0xabb9b62946a8fa558f3b67e4d1f7a810757955f79ced0604148c88b8238d24ac), (0, 0x4445bab3c9ded5247b1d2d8bc13521108c23fdcbacca6ec5cf452e6363b5835c, 0x32a8dd7d0b9899c3f0e48aaf5d05cdf890137a6fadc57aae89170e7549c2870c), (0, 0x504488f72992f7b4cce3042aa021afc5170676e10639293395415a98ed5e22f, 0xff56e8522fa4bd174e326c6c5db5396da0627783533aaf6cfcd754b7ce6bb27f), (0, 0x5555d119b74df73476970a319489c9e38ca85d1b630fc2de81d54b7280f1178c, 0x880722a3fc4173cab434971859787b38842889c098e528ce8cf11ba4d41942d9), (0, 0x4040f0eb51a3f456cd102ab07b12e07015b35f95427a7b16633bcc9839593659, 0x738a11a9c81f0a9248b068569244390c320a401060fef4a07b3e357f6e391718), (0, 0x1505708b7b0c14e827a3279be66602aa7aa2632cef8f93ee2652d032b38ab3e0, 0x7a3b9132545534a554e1fc986a1428c34fa56d37c1a58fd3636e0087f0d5b2a0), (0, 0x1544357909a341078ccd3fa1799956b808e05799778b1dee5156bfc91dc93d68, 0x966ccb159c4ca345220ba36cd4f1c5fbed8797ac00b8e878abcc157928d8f968), (0, 0x4114e7ad025a7ee1269079a946f13b74df5a98c887ea602ac2f2d19e5236092b, 0xcc135121dc5d60d895ea19cf654627ef94811cd273511308cd751a6d188f8d6b), (0, 0x5050cdc4d23f6161dab04cea00d75fbd9f833758fbc1c56024cf0b767a9f71f3, 0xe98d4e94c55652dd0bdc1af2fc217c116afa0aa9cdcc53d23d613179337a75b6), (1, 0xa883075e0ce83fdeb230815a11d27dbb1bd460049ce906090e722ee07ec93352, 0x6a7d1e2cd8b291f9db04b87ca75e9df1b858d08b9daf37096e01a83b7629597a), (1, 0x28884d5a99522fbf453cf480c1cb156f0028b8cd16d674ee3030d360c440450d, 0x91daa59b2eb415aa116377d13a5e2d54127b636b13c5cdb03c87a3891d46df85), (1, 0x8203451253735398159ca1f995ab701e5d8d36933e6c1efced582e23b6d13260, 0x9ce7a0db28a967e1fd888bcb7aea7c79dc1f8ce10e47327dca851b7a36b9b242), (1, 0x82a14e2fd0a7f0f4221a0ae8eeecaea682a7b39d637b33fd693f31a5494c0c20, 0xf5f9635e4abc633c40b89ff333962deeefb31b6dd4e1e1cd3e4eae1dd91a2c28), (1, 0xaa232b660cf0091999587fc215c0c298d57c0b8bbbb98e34fb78d404f90abb86, 0x65ffb2ef1afaba0b67c5f545843ba29f0b4d3d12ac753640480b1184b4609306), (1, 0x2822ccd26bd21ea98c6c8d26415903aed73bd6278b72d1e857eeb81ae823b8e6, 0x2b8b8c25bbcdb124e578a6a2b878f65aa56799972b1d338b16ad72c06cd198ce), (1, 0x88a9f7337336bb77a48af4a04b4c9d32341e42268029ab37a8259b50dd5506a, 0x39264d935b2800a9e7649db52458a439aa6744270d405772331198dc481190c2), (1, 0xa82104e1ba78299435df27e0c078ba15f22e596d6636dfc13bba4613a06484d, 0xedf11ca1eedb37ed8d6ef393d4a1066e587742bf578757aba41052aeeb0e5845), (1, 0xa8a32d8649d323e67a4eec04cc4b1fa4fdfb9f0fe4995363ee5a8230948c6e77, 0x9a0e2feacd0f74639f10d17f2170e6a05f0a6d205599f00c4d9ce4904e539e55), (1, 0x8289e6cad117496611c87a906baddfc00c43d204404db9b17983994f677f918b, 0xfc0f95e156654cc9664eeffed18eabcdf017d2cb52dab5a976abb6d31cc923a9), (1, 0xaaa180a8bbe06074daa3156f0b2b5a1602769f87d81963faf8e8201303d7f794, 0xedb4fe77eb482107a6abd2490508f2dbc471ec8cc798cff8ea7b2892e8b9bf16), (1, 0xa8a30da499a2ad72d53282fd9d401dd49fca39f6dab86a19e801d442d2dcbe8a, 0x7ae096d1f689cc69493cea595eeea58a694d980409c6174fef4d98b14ac8dca2), (1, 0x2a88c8798d0e5fcaf30c54dbd028d431d8fb482ff6b6ccc6fa6dd1f42d66df38, 0x38b68227ef0dde990cc0e9f1670b17021a2021ef20b3d8283863f58a2700d730), (1, 0xa809248dce28a00b13cf49a6d932e1dcf5649cc9e24c36c9693f432b3143f64, 0xdd37f1842ff9f3c5df4eebdce3ab87c69796ac5c39f296881b74715e748ff564), (1, 0xa2a3942ec0aac34958b37f9fc0a0ec139cd0db6eba7a2d22b39d80d182631d83, 0x21da00002825f300866b76b919bc4f9ae2dc993aaae1e2f65d25ddf72a9825a3), (1, 0x802bc8fd56ebdacf1440985b50c11fa689221c4f8621314fd261422ad581e45, 0xad87323461e21851680331e39f10dd2381c601fed5870cb706ef16e5c0d5a64f), (1, 0x88a37fa90d7d74b6fa470c9ed5afae2b69f287d240de4589da0e713551bbdeaf, 0xace307ae1891e5cd3bf63c0369aaf7361565c3f1b8d1719354ba30575400ae05), (1, 0x88a1578ee153d016a570e2ca451d762856eb7c3989e5489f9a61bc933d2a68ee, 0x661d684818b0659f221ef45173a41f8867c64659fadae10ba18597180ffdc8cc), (1, 0x282864c2cee6ffd9c0a88b0d9cc861de3ae9c30e1ba9fcc509769bb964f88245, 0x5ee664efeb6d9ed5708299809fb8be772c18daa426039386ab53e479929712e5), (1, 0x22a8d628eb35a24cc7ef93aad6009b20822da14dd55350eeb3aec279e7974de7, 0x742c41f3cc0b2d970abcfe970f1ff5d80df3d89c106bb74bed325e7ef5a735c5), (1, 0x2a20695eacf74f72c4436652cea9e34ed67b22931376993fa2fdd9518fe74f11, 0x3db2411a5ea69fe549f76d1faefa77032016c74e0d15e9080da83a9a836a1f33), (1, 0xaa29217fbce27b0088d29106c32f890ebb06ee4cac1d8bd519ef5ca584fc644, 0xc414d0791f477b098451459340117def4e3739db056e96b7ba721b0f933a0c4e), (1, 0xa0219a4338ab1fad5145a8ba15d4352757a37a2f58bc7f0193bb6ba937499031, 0x425d28f15b326cb630bb56fa01ee30484c256ae0484b240ee8e4c22b91084099), (1, 0x20085abb5ab550f7fef685b4c66799b72cf66ab7b21ab4b6613a1c57f792ddd1, 0x56c7bc61b3633ae54bc6dc326821c2b578bad58863edd1f1de06c88a3399af53), (1, 0x2228dfca4b056ef4f49b554f887659a5671cbb6420d6f8439b20f69fea8e6191, 0x19e5a09907f3b895a15532533a8ff7b5c547807e7e7c789a6118fc7ad753b39b), (1, 0x282ae44e07f8846f498fcce1d95a5bb53f955a4589393f036dcbb849823e3f0, 0xd17193c26e6c8069c0b84f97e1195a3849ca1b3cede43804b7fb10731c6c617a), (1, 0xa203b59e8b59d1403f12ac16e600613b619b4183871f0e111ee1138d5d26a319, 0x9b3f3eec4be510227744eba781689f9d055d91e25e2601d97b9886db1a4cf991), (1, 0x828beccf4ae1a979cbefdcbcb7b047b296aeacc179b945d593d8edbb97bb3889, 0xb7609411b38eaa475fa8fb52803893a7572937c981c4e738760dd40c74b6ca8b), (1, 0x8a2bd1fc6c8dd00fba79ccb8be5bf76e281dbaedd407e7745e98fc60384e1d8b, 0xbe3b542958d25a15b4477b41298c9bd7688a76f06ea3dc5f8853c753ad980d01), (1, 0x8aa9f2912e37c7a65a91a9a8edd25446abe01122718f08e5de8b963b84973d60, 0x2f23318fcbcfba40d221917291adf87c52ae4e7a935d160ca4f60a1d3a73d62), (1, 0x8aa178a45409d3307467cb0a4d71056e07363fecf4020d84796a831b70615, 0xaadad16ffed08830ccf5d1278e7f7261ca3208d343b1aa6b28cadc55b5091e1d), (1, 0x88895d6a5dfa55448855585c56c6de0a45be1d64e2350a766cc8cd10a85476f7, 0xfcfd8e0e8424ffdde7bd3e5d40e16be7bea86a47a58e08ee85534146225ba455), (1, 0xaaa12aa138eeecb5a3f9d555c2041d32929b0da241016a8a72fc7340da38d725, 0xbb30f8c2b685cb0fb4f5217a719bf33e223ca84911fd09c0163c819626e5c507), (1, 0x8a8bf2642030359bfa01d6b4cbe9e7d0ef0242158230e88ac877fac19dbf7caa, 0xc9b7a7c07cc975dd4772e14e9a048d2930e95c3a97311ab2ccb998a284dd1c80), (1, 0xa08313d7776da8cc5970b8e8265b66bd206c2604d866ebbf2ae1f22420dfbed9, 0xfb1b246439afb2037ba5796f7ba07b2476cb842615abcf84941b5a2dc2e34ed9), (1, 0xaa8b82e9b08f2d95dd09175aa026d7480ea3387f730a70c3bbc7d2f5f4eda4a4, 0x94dfb4dbd9fca9deec80e2552553fd2b44bf3cfbda0895628156be746420c626), (1, 0x8221454fd651cb7ddb13038c9074896ec1436ba69945286c0f3e2c78e57a81a2, 0x8812b20388a83dd91a456734772819dfca47e12aae8e321b7cb45b32aa25698a), (1, 0x8081e3f426b972b1d6e20220190e0d41e642e71e1b6582908cb5021ca966bb02, 0x13f800a816b7d65d343e2571964c93ee6ef0d86ac9f931d505cc31263f95db8a), (1, 0x20aad18731d75980fecb3122df7f4794ed52bbf32b63e56aa47d8c32e5662dc, 0x8a9ad5748198fdb90a5e98d11af5da75199267d2b6d371f27468c56f6033a254), (1, 0x8089636beea4ec443b614839fcf6e024883d544dd04cc91938fc5358f6fd3cd6, 0x3a8de427d5c5b72d0d4806ed5a95caf51b3b6a8b200686c082c1feb072dc3ef6), (1, 0xa8898dced79b15f820ea9f0d5ed63313c1b860aa8db7d5534a2b4a4c9812230, 0xc160590ec66308cf5cfa7b518631b103489082a20ead86f5354f1b4eddd88818), (1, 0xa003b01c5e897f2d22d5e899863209fb7eb6d2c30e54406cc93dc78784998794, 0x9ea34b3e9fd96c61a89d40dbffcf159ef423dfe40a7c62d9cc379f606a7d4514), (1, 0x82a96e1101988c69489756e8802d14a389e78479cd81d71003a0287bf54b9c28, 0x6a6cee04bc3ba2d54c273168a3d1199b6e9357148f538e6592fc925befb01e08), (1, 0x28884f5834d45409eac5ba2b4f277d84272faf0a625e9cb27161ce3432a6ce1f, 0xc7ea91f98160f2623032addf4be60f86f0c915895566bdc27831a6c56bf49e9f), (1, 0xa02b30f3190c79d6c3b538acc6c369ecc9166b33480d1e6f274195d449bbe84f, 0xeb9ab866fccb7eb20b385fb681fd8a7620050e0ae01ce0d0d6292ac52ffa3ae5), (1, 0xa88b056aa0eb99f72ce6074356b7c88cb0b7a7bf276cdaa6f917ec6b05665d56, 0x26d6dc4f2d463c479cf4923a5f54d4c0d4974b23752a3e53cae1b0ba394fd574), (1, 0x828bc4ef0c35934c61070fc524664424cc5cbb6f30f724de2672a630b75dbac, 0x5258b5b5bb04aec1ba33574941f4e6aa0c6634aeda368f766875c90766e5b18c), (1, 0x22085d19aab7740e783c062994d9b17cfedcaab74dc9b3644f37a6ac88071bfb, 0x72b4af43189807afe6edec4663feef2aa183582820bc40840765b95d48560b5b), (1, 0x2a08ebb9e4c404d10ec255adde00744ffca4a112926677d62702ead603acc7e2, 0x7a58d7d249f72efe98f4b177da255aef2c4626a7e85f6df235b6598fee4d0568), (1, 0x2a8842f855713549df9634c3841f7a2c19b44c0cb6dcb6ce24d3d33fe7ef4442, 0xa480039c9bcc97293f3c338bf63e2dbe4236eccaeec3dd877ca5b20615d08cc2), (1, 0x88217e649bdb24211e74b8e58f2fe8637efedb0159647096fe372a2223f50539, 0xe6b4f39e4cf9713e6aa31c34ca1dd6f615027e9525fdaeaae84bc59c8603d531), (1, 0xa8290c5d040e3afc9cf5b0a0fbd6124d63d7ffae6f0e6c64abc81170bec6ceaf, 0x2cf532188adfe70d2415daab326dda93ad10c20540589981e49faffc2e7794ad), (1, 0x8a0b5ba5b0e56b513a4218942b70d03fb0992207b03426844104e8c4d8df88c, 0x34a918addaf40429de93a57e66554ab3e470981912ce3eaaaaa4d4239111302e), (1, 0xa20917a43f07b2f2083473d4f392e71e22ff452378ec162376ec1fcd9363127, 0xc2d3581353ecc1d6b97b5e60f05251c53263c93716b84a8267e602b81e0ae98f), (1, 0xa0093a0e26b655fc82456f550a92dc2cf50dead17d5c4b0dfd9f31530be6e500, 0x7ddb0af7b7cd144a8b39af1ac1085c5364e7970091099b7cc061881aea5465aa), (1, 0x2aa2c2929143d4e41c454db35d689f3f6f5b945b9256a9bd700a12aefe3e6168, 0xcc70be27ddd2b458d6ec681ca3f60ac22fd8c7320edd9d482d05b3cf014969e0), (1, 0xa0a1b3836aca225617953b539000cda758a9caf2761ca5c5f5245edf2be611a5, 0xa4014059a9235f7d9bd9ee226dc3d09b7eac1a586e03b1ea36386d21c9c189a5), (1, 0x8821fe675bcacbf79f6e67f41441e44adacb140c5b2a8db80f0761779c0cee9f, 0x1eb22f626c7d6a1e28d51692bf1d45c0885213e9a2b7c63788b793e2410c36bd), (1, 0x2a88c0f99a65b57cf4436184440c4311156d056012376807bc039a57280b847, 0x2f53a08a719de888803e3016cf17787e43835d4b1614a3c85ba5324db8c6e2e5), (1, 0x8aa3d8aa6c5eecb634709f20f48cc6b9f8400c1b85c96fce8bc161c175d01bd, 0x8e105a5c6c23ca4b7f3138a5c66f55a3d3372310008eb94254f9ef1e6278199f), (1, 0x80a9e39a88c049e473201f4fce118112eee769c62cbd9c52263ddc18ff2bd1f7, 0x79f57d9007b32bc9f4dce731531476534a3a51781dd4d8f5e509df9091de835d), (1, 0x2a82ca42a3c3aa59214fbada8afe0a531b04643b7b4ed8f109f4e7698ee9df87, 0xbaa9ba8f6ea3542594d73eb9b3b874a617f3b991a7b2a7975a021d980a192d25), (1, 0x8a8970e06631eac7cbc801f0daa166f979083c9c8b52784da787c7df06cfcba7, 0xf9a0be48471ca315f16e5050b8af4963128c65a35480e61540a30e02f8491385), (1, 0xaa83087ccba929f1888c7404c5fc00cf15967ee67a7458a34d94999b59b2cbe0, 0x226dec559e8e4fe95231d7e61a56a1331409176b5043d5944195cab133724bc2), (1, 0x80836bd058a37550c8ff475b23bd306b070b7d63bd05ed2b9dce87235da3b19, 0x6aeaada325e1462418d29ecbd962d43b0cf516af45f4d9ec072ea5edcab8eb11), (1, 0x2888cf71f4a41543c4e7b55a49493520d48964ec61bfe549541bf8e0af72bf56, 0xd90d2807f9a966872440555d04ba0d1483e2dba58580962d6410cdae4ab99d54), (1, 0xa2839ede7d7b9fbd2e9f22c6d87a6685e12e2e8d299c6acd9ad598a53dd83afd, 0x4b2fb8d70ccd0ecee58d8f5614734ca2097204ecf53373c882076e8de9fba8dd), (1, 0x208a715425e96dcd1c91cc5345c76d5b2cedbc132d84db060a406abe6d8ceeeb, 0x76bbe8a249277c2f39bfb89f2c73737a351c09357ca09394b44b5ea45660dc49), (1, 0x2a28eb6bc242a8cf8a67839d13bae1f60ccfacbf22f3f8005a3f63a3a30c5f15, 0x85264a6c61f4c786cf8ced856aa7259ba319d70467074649333a916f5bc04f97), (1, 0x8023e84b0e29c5b7a97bfd19cda1994c641244db665d26d3005d2584b288ac69, 0x5401b67815e8c5a25292df2fdbecf2249660c2d43a3acaed6d88565525375e43), (1, 0x22207ffdd23b8887d5b8f03aec15b6d3bd698180e9a55646b13bd1e59535c855, 0xfc4142ee3a225841872545c03ff715f0cef592ae618b74ba82f34fcc041dd85f), (1, 0xaaa1a000604ac893c34bdc67a83f9fea33f8ce0b7c75923db14e5ac8f3313048, 0x5a2afc625e691791db8948d803a1f946b618d6364ecf0cbbed68433b0b0a92e2), (0, 0x11443b78fb8d5197304dd5133c32aa1f00c3e4cb8da684a99e9d33c78252fb42, 0xb45d2bda304623ea489cd67387ae0f428ee008bdcbf01e6700bee409bd1b4f46), (0, 0x4510eda3bfc086927a580a69fb376d11bec09abb91a14e5a2b4c1cd87cf4fe57, 0x471113301d961383b57983303373d99f1124b1ff47eab22ef2c70abe7de03e43), (1, 0x202a7a64aeffe6cd9333fcae92dc718ce173ef4aa16e3a837cd7666702c1ecfb, 0xf83020fcf7652702df38ba569dc6ad44eb3165363705bc2f2ecb3af5e5ea5cf1), (0, 0x5540c53d17772f7452c3d9c5a450b6b880f956602058cc4e132f145fec79ce27, 0x4ea90f6ef4a7f61d33a5bc1e69029d5d4391c71f88be6eb576ce6cc460454b26), (1, 0x20a8f102c8e797f0ee702841e8b4a40211935254b904db552bfed54ab95b5350, 0x546b0b3b818ea422d0bf8150ba77f131e582d6b120f187d67978fd0818f25b78), (1, 0x222057753f60ab6c94e13a1dc77681f45401ef1ccbe1e6268dcf5789ee8a198b, 0x81e7ecb84b5a970fbbc3ab252ce01def5c33e92de6b03acaeed67cfefa9ea30b), (0, 0x4001a4180c98b2dc7837037c9b76275972bafd703d4a7b9d9ab1caa5b352baa2, 0x3e9a93216816fab8fdc736121124fb7d89d5c95b328cb6ecb2e520451fb05ae7), (0, 0x5544d4763cfe141369944677108ecfcf072b78a98936335971d1cc4ac9dcd2d, 0xc113326c31bb74746d622ab7166bbb8bffc6ad391ba3699bea119b5917c32938), (0, 0x5001cd0b0bce12914ca35fa470c7511c6565b3b3323b3e399c6b58f769f7a5c3, 0x657a39c507a17eee7c525df403386b603a3f7c63d6d2f842f23b0f587dd3b083), (0, 0x14112678859d6381716bffe793be78bd4a1ca4bd790a01655a2bc3071c547bce, 0x8974ab46a2e1a06d6d2df5a669f325b3a3f192dd3375fc17e61fbd5943259bcb), (0, 0x4041e5ede114b5744e580b06d2edca2bdacb873174e53624f329e84ffa98e011, 0x75fcd41137f7b571fa3f6e43050cf1c50e430129274961be87f5a004de224054), (1, 0x2a22cb58313d365c737e3d29020065219038d4c1d5a8980f6aa5b6298f689e4e, 0x86611c71f69cfcc16c8e72a64e8be7d39c4a06654e534ea634a550cee4511c6e), (0, 0x4014e43c6aef5a3afe4c836814374e832a7494d3b71942b42160b2f273280b81, 0x7bb834544e7a56a83cab5f456b64dcd6a0121b2b40f5f101a59d3ddfac60efd5), (1, 0x2a8aeafefb12bc00c542e0b929bf2ab45311d099b94e05930b9401e87fd53a4d, 0xa0c3045ca43d4cf21d756a2acf83e63c4256afcd28835163699f4e035897286f), (0, 0x4400af0b72616723537993e5cc96ff00ed9779498adfd983efd2ec34822856b9, 0x28de6b2c1eace087afd1554623e6c090a72606efed94a9e9657e57aa495632ec), (1, 0x880bd48615992dab0055033402707b97396e39f3861a4388df38f039cc626e7, 0x21febd5c4a2c83c050fe316e2742f31e6d6d32e8daa04fb31bfe5021c2665e47), (0, 0x4015a57a0da55ad2164c5d3b31108363fee8a2cf372737f4ac8c75310512aad, 0xbd9a675977a8e021a97a87c9cae9d5cf0479f7f0bd269033ad4ae90a1bb78ab8), (0, 0x4551bd45adcf57afd9b757d94e918c96f00fa3d50106837d2dbf3fc4c27ab31a, 0x50b2e841385587e290a4d0882d68a7d9626bbff4d57a3b1f1aafe8737347965a), (0, 0x11007ac7071d4aedf31cbb556af2ab923557c5356439242e1b4e710ba2aa19a1, 0x5822c52d41076ae4d1acd2493b17797de96d6576da63ae6430e124432d58f8e5), (0, 0x11403b37fed9ff61d9ba2946ff4314287ed845b1409250484959ffe86d204803, 0x2f98387804a5e18115c3ec30a3c8969ff717e78f26134c4130a5e6c152f10c12), (0, 0x4554e80ded352e78b4e059c9a3693ce77f4f706e86c0c22801e1df187e2de3e, 0x831cc62e0e3907aa988b71a7f9ff2831125aa0c010e46d69c2110e9cbda67f3a), (0, 0x4005f152c8089f9700b7ae12479cc2502c824cc8b09171eba53dc36f0085d06e, 0xaaed063fe1edcc9fd1bb7ddae27faee3d1d0c903f2e831174e6167456957752a), (1, 0x88895740e631d78d297724bb955a5692c8f8b953bf058244c82af6d9b0830773, 0x5147c50150cfac1df8bc05e2237b6ca380c1edf968e78f3b5c27dad5a44d1ffb), (1, 0x22025faa070fd0a791ac82409201f2515c736667b9ef789b023de0ad75b0f2cc, 0xe120f48220942efefd0764c965918838e981f8bf769274b0713033a5c3fa1846), (1, 0xa8038e1d6554bbfc14ba67a3eac1b64ba9839d0a45bdc93c04f3189b3c75711f, 0xc6394d8feab8968a91a9eaad0144761568aac963c2b9d798b630a5e4495f0137), (1, 0xa02992ffa45d7a8007bdc0a6ed35deaa79590012b7db15e3f9fdfd0759b58c21, 0x5e7791429736e2f0026458b62b44404a008fe440782f564eace5f0e6fb19760b), (0, 0x11542a15d346f71fb6733c035b081c0cac48b6f4027fd34aa4a70546700c2184, 0x6bae4a0dfa4def532bcc35c432516bcc3d95129499922c54a86a399b7053e1c1), (0, 0x144577ab5241779fbabf2e60bf0b818eddafe9f4d49202fceebf5b9b2d1f7c65, 0x71369171363bb3c66cd838e59a7e1974233ec1dabc277d5da62ac402114f1c64), (0, 0x150135d4c7eb83bf9a949695f7d597f29b3086894c2d08c04f7aa4591398bfec, 0x90ed778dccaf066e566c6d9a2384215043c6b8abad654146d5e6cfa1b086ebfc), (1, 0x82014f3f68e82f63641360580001e02c9ade7e9b92b26d7f6363b5967c375176, 0xf3a9c31874e81867066859f94a68f760cf1aa919b248dad99b20bc664842dbd6), (0, 0x550584807ec80bed76b2abe4f379321fc91c7be257624d2d73b771fcca4d5aeb, 0x14f8763850ae3093c247b272981a45d7223caafa39822113e466e4a672a49bff), (1, 0x220ad79dfa1d7d2980de2dbeb51fd7c0319ad639b551decdb7d4febdf3c1275, 0x79b8bc1c1bb8513f8a99f5231a8c43733303023f91c676791c11fe04ad4888df), (0, 0x154175703d2c027510b4b7b7f16570efb46a68ffc39d1a776aadbe3f1bf34907, 0x92fd484a8437592c40a126ad6a02c3e2ab645cc2afb932ada76e74721211c852), (0, 0x4104a690b204ce00471402f9d5133aa5ea8cd10f3c8344d35f35bff272963887, 0x83c8390fbe27ecd344cd0d2b2fe7f72973e2119fcfcbba7efeac4fdafefcf983), (0, 0x4005a04252acac5dcb28cb457e93d3bac3c14264fe88b63f768bf26deb5de382, 0xd02409ebc535cd0cd0b6726371ba5373e3b4c4f704e5921960b4692e5c954387), (0, 0x5100cbddfb2d1cd1784f806aa9b2b0b2d57bed9f897bbdb3b23d049e2d812f21, 0x9153e1a403fb14f6750a5551a9657544bfdcd2e0b22d1e5b39cbf461283a9f34), (1, 0x8203c59192a80a1109bdc3eec59da438fd0bf5acf6ce265b3a4aafb1a5645b26, 0x96b6bbd99e80e9f39ec61b3bac1f30ae8a4a47a7034decf019981002fe627106), (1, 0x82296dd3b0d1c938fc871ad507316f300cda5acd0ee943166169762af294fd81, 0xb69d0c64f577e51c26017eae9135731e16e25455664ed0942424e52431ae0da9), (1, 0x8a297b58ee7b7a04ccbad7ce17ac6a609b8c740971632d9b98481d2a69222ba9, 0x7648e211b6fbcbc945e150246aa674ba1512c99b83fcc3eb4c9bee9d5001d32b), (0, 0x151420b021a4c0add4a4d2745ec47dbea691cd8bdd6c695e83f5dc5bbab87d65, 0xa08b110cfcd96a2b031f3ea2ea4f8c5c4083efb2350b9f449c82a812a31c4920), (1, 0x88017e969f07dae8cf47bd6176a42009364cf1a419578c7184962b9f8a547c63, 0x2fb3f27c10130771e89ca16222e5f018efb1735c23544a4eff14db20f0a56463), (0, 0x4554ac5816bb53e9da0a2a6ea4fd29d6b2096ef6e38dc5e58857fce196c379f, 0xb48ed8d65ea91a87f34da38d0274f2751c78015b365b678b2c2389266c8e739a), (1, 0x8a21794c4a08e51f84880739a736c58ba999026f302d361a65abc8a047a650e3, 0x55c57dd9d0beccbdc60892afa51a61579723191bed14bce9d05e3e91f5e7c26b), (1, 0x2222dfdb6aa1da51d687cfcd0b2df348acec0d9b2f5ba9b1310d2f00ab7600e4, 0xb8ef5b1cc54aae7b89ad22c68687582c210c3f76a51f6834a13fe59b2e7e86e), (1, 0x8a8150d6b798bc47a6efbffb64c20a96d4a9d4260183f836e21fe294558d2c, 0xd6aa83a16ed1c9457fb9e09d209fd6fa9d260df14bde8f784dbb83019a3fe584), (0, 0x51148bba48d7e56745948c2c1ac9436af1e28d9b1407c6061124f0390069fa72, 0x5a53e6d6a45fcca1904cf81074c5c8c847940183f52e7865a94760fc5bd45a62), (0, 0x11442e39caf993fad849cbf419e9d30ca173326631e24488ead8de9d068a647c, 0x904a69f1c2fdf6762e80457ff536913c000c40bccbaf765c45b3af80ff673078), (1, 0x8201c714943cf9b1dad9a4d91149b3bf2ad5459b34c47e30828f0b31f66f5c35, 0x550a17a7b9afebdb4b81600679a1de8b64a82c91ce69e3fb0d247373b90d46b5), (1, 0x22227f70dbb3975d84338f85da9402122a2f6421f5753ef4ad4fa9544e1fb242, 0xad59eb177e23785c9f18d0b935307640b7dc40fe67f9c46e88453cbfeb0ad860), (1, 0x88a3dd0031e31030c8a4cbdfadc55e7b75e5dc5a1295487e3c2ace2bd68286d6, 0x4afa011c9c3a418510448250d65be714be41ca5dd039481e384c0b6274b8ed6), (1, 0x2088d370b0fc84a7741e98fe1c95ce6f78f779f95ce92361d737e52637c75a, 0x82ad7a6ecb588967e6a08ead60ce9e1473d683331f56c0741b516187351a0572), (1, 0x800968a16358b7020567760c92448dbea86450f162c1f55d9a3b22fd15ad3305, 0xf5baedd3daaeb579d76b70e57091690e2146b4289486935a5be05cd2d6ac290d), (1, 0xaa230b6cf447c47fa8b24251644dc2cd4fe94fe6ac1c9dbc37d2dcf1d199ee31, 0x8df55801acfc9f2b097b5d900ee7b677a304f929362af746897ac138f75a1e93), (1, 0x80a34ba08f141af2aa343aef6899e43b16dcb6b89178543f435a5dd015814a14, 0xb4abcd1655fe8b7b61d8abaa083714db18d997333d5aa130d63a232f7185081e), (1, 0x8a21716e56540ec747b1f58600e31f90cf95c016b880bd1602456193ee5a5aa1, 0x5162fe1c263d276d643f48a3a74277cef6db42a120054f1f46e799140d2ca809), (1, 0x2202578813fb865b371b7b37f003ccd114a1600075df80545d729e67e52331ce, 0x3d5cb71a110f671392e965f9e4b713e93b04d92f3f0eaf518cdb42c9fdb2914c)]
def xoInvP : Nat × Nat × Nat := (0x3d5cb71a110f671392e965f9e4b713e93b04d92f3f0eaf518cdb42c9fdb2914c, 0xca8fcba3c0dd08871d4e3f7290e3e7fb8436109b90a55fd4bc6fe9d31b611e5, 0x1076f04761c6ef13ef983d4679b3237a12dcc0144cdbe3910ce33e8d6a51518)
def xoChQ : List (Nat × Nat × Nat) := [(1, 0x0, 0x2), (0, 0x0, 0x4), (0, 0x0, 0x10), (1, 0x0, 0x200), (1, 0x0, 0x80000), (0, 0x0, 0x4000000000), (1, 0x0, 0x20000000000000000000), (0, 0x0, 0x400000000000000000000000000000000000000), (1, 0x200078072de658, 0x5302ad27b21a8d2a270e2ba3a3ed85ccf8de3be8089c7207ec2842f07bb96658), (0, 0x11053fcb2b1e362354a238e979493ae2541c96e3e44901d8caddb2b72d477ccf, 0x992861c0625d5b9ee234a3f0576d668e25fcb5be22addfc5ac1e5a7a51023d8f), (1, 0x8283eefb6e615203290117abee5f7747af4d3404dc0d7914241e6b1f5df7b991, 0x7823127bf2a4f3e632e689e71e7343341104f787f781e9f2901e90365ea2c93b), (0, 0x154034364a732abb9b2bdce971a85d8db99c4255f00e614e76669473c2925fa4, 0x966cdec4246b845ba4db4068349f019a2339a9d7c79269d83b4c67a7b1269ae1), (0, 0x4114e7ad034b2c1f56de1b3776e543b7d17e5e51e8093a07e6574e2a28239ca8, 0xc1e2ed89188bb1f95608ca50e75a5ab12d03b68740bc198c0aee571abc648a9), (0, 0x5001980a9a555858b8e4436c6d6b65a2f1df165b1297c356146454aa643acb, 0x30a57f96b853ae8cae3fd343cc21695703c640c10943698de53145231f96ee8a), (0, 0x50048d136b7f5002e61bc166e83f10d1bfb86079f22e7cb46c6201d51ca4bc4, 0xdea8e1d0cacc609d0f747aa59a800a802fefef9d3db2867f5d3e9e2b4889cb80), (0, 0x51548b4e52870f3f58216306819c181f985c467b34d05af30902035fd81c37b1, 0xdbb2c93e191bf64495ecde954913333b07495f177af82ca8803766e8d21087b1), (0, 0x51458a359657ff5488adca29faa2f11dae7c889af70d0b76ee36445d27d2c878, 0x260b26cf1a225980e5e43fd9d57685f52156fb04eb5329a8c86cde98eeed0d79), (0, 0x4140f76e227150c77a23e98deb6d853eaa4f7a9e4ccf4bd4949af188f890473, 0x699476bc6b36c66e82fedfbd1d898bf3ec5bf1200a807515d769db88c0240132), (1, 0x2882e5c0b796a068ab7ca219fe6779100596ed74b77c72c5e81677ad730f8279, 0xeb941bb0fbf1eb69a856a4a545e7791f686da945b6acb1b5fbd62286a0b7f871), (1, 0xa88b05c22966df8b48c7b88db850889dafedd546b49aa8e10efdc152d6cf7508, 0xb0073caedf8cc73c143189559c2cc9192f25d03263d624885108ce4ab5f8df0a), (1, 0x8a01f9b704ff84f9478c8b65bb998e0b26f0477cbd657c1ebf9d24fa709e7fa8, 0x82883219486ce56dffd01f96ad8d3269b16b5e7c5dceaddee91e36e3eb85ff20), (0, 0x4004b041aed35474bdf9acb294869a96c96e7eb404490db39fb0b41831e1ad61, 0x78ece7b3d71faa05ba84a193d17e8cf4f0c756180f96606ae4c84970d4d65961), (1, 0x2a80c8c7a75f744fe2dcdc576b85fb9704416d95a4d7048bf882d55bcfd98763, 0x528d0c851c84a0502177f5958fc060b745fa8abd3e7ad35b27c21e93c4b8bf61), (1, 0x2208ff3abfd0e98a1fcaf9ce84a5a18e41ce7f1e81ff07374ce980271c4ab574, 0x31b8f936b7014f42dd6eaf80e7ba02009e9c001523177ebc56dcba28423e5d76), (1, 0xa0293076b2bb52852e2558c6a1cc83d609e0e6dfb9876c809d3370eca135747, 0x8d7f8521534413d26fff91ee2e7ea90d8fdf2e97241523600ed323c7378fad6f), (0, 0x4051e594e62a9309f6362bcb112aff45b7ec1beaff349c67ac81d57766d6e1a7, 0x4fc605eade25e1bd17cac232b00f0a66751624fd7a6329569b94b8fddcc325f2), (1, 0x20aad9af2f9ab4f6885d8da5b8408476327736852d3f73f51dc865fe0000de41, 0xb31fb79c097424be87a5931468079292ad700c261eb5636a9154eb5d6a4e8449), (0, 0x4505fd9701d6d3475ddccd449660224c3705187f271de8257588eae65fa31099, 0x1b5423f10006276428e65657aa2e204ea1111a16e3a92e850669c18f40b370d8), (1, 0x28a24599825b719fd0c8f5ac3fcbea13186ed70cad67942e316eaf0104337cf, 0x4979ad84b3a31d7efba99ff39a19a739c2f9306a3b96842ef0b7b66f3882c54f), (1, 0x2082536259e16870aafd73040138c7c87ee7fed5ad191f03df66462a36d4aa67, 0xbabf8754ba8db301f1de1f409457211a5e3bb8c6603294c430fb9b4266665acd), (0, 0x4544b96435ba923517c7e31e907cb589f4186f00dc4abdb95ccc9f7c3f998948, 0xe311f72902519aa2ae3ed7ee47858277e7d3b557f2a0153bf123d2c6ea165919), (1, 0xa80b84017d13732d5bdb73564e053cb8c945448c5d2febcbb542c0977cb6dd75, 0x69a58d9f93fadd03116b838854c7aba3039c9939dd543ad15d9e9afdf9aeff7), (1, 0x2882efc2049b11d48cc7499166ca9ba98f17be57cca1b8bfb4bb8dd7c55ec8, 0x1284922bbc64f1fb7eddcc9064c67107200fb3344ba88ae1faeef2dd1a0c74e2), (0, 0x10443df88bc21d7f913b7013162f52157c848430a62d00a5ba04ddc8eb78023, 0x16ef377254f115393a7db070713022c0fbb2a083ebd726d59c4a27e5fca8c427), (1, 0x228af4df98902867cae1d2a2698f281ba7d38b8d8e3ed9cf2c2b2363c29b33e, 0x1e29406a1e674389d3f170e8ddde1e265004ce3c8ff077f72400034ea0ad1b14), (0, 0x15407422bb4b20cd125ddbc636b9d428fe8c40533eb9c79978172fd2b6270af, 0xf5cfe18e47b2b532761c3573a4ef921ffad4204b9b0120a699bf68f3141421bf), (0, 0x551190a74a8f7a2dee361cf9ced9d91d097cdd22c9fa38db719ac2a2258ed38a, 0x193b69843307f114a0a8efac6d254ee45db436a0fcb001335cfe92174581f6df), (1, 0x2820ceddee1e1e8a428e826e7ecf1650597a4b35aa3dd630e016fa2d8a2af22, 0x8946f9b638aadbc7cd03c441d3292f0ca2ed52947b88f442dcade75de25ed88), (0, 0x4041e0e9fcdf038e25aba9812b07042f24e03ec60db6da3007824f7ce197b3, 0xf9d2bac9898dbc1f4065fcc426efe230ef21f49a3807db60d0fd7b8c518c7f3), (0, 0x5541913a55089e000ea3ac19da30d19dcc0dc980c56f6defa4a43691a2e082, 0x51be36a2b87bb4d41a320a04c396f7a0116a71468129c464fc570cd4622e5587), (0, 0x11017a9496bcb319746116e4be1632c4ea09c6471b248d311db6bf2d11c7cffa, 0x53d9d98f5cba28b3aabf4e1a19fd71cb5f8eb184648ca5e24144f63d72b5efef), (1, 0x220add1de27ef0960f74b5ada0a3f96d22e83868709557c99d6d0b403a6ff567, 0x9a643b530ae06a6859bd1888e81583b1434421483887f07787b01f1b94058dcd), (1, 0x8289ce42b4cf3ffe12dac1527f524284e03169f77a8ca77b10254938aa1312a4, 0xa870493f5e1f1e9faffb7b048d1ae41a27c33abcce64bfb9f257370a71f47206), (0, 0x4440eafe90a9c49952a6667248bbf28e5e70c93b611a25803583dc0d56e9f1f5, 0x375f3da0fb261c16846bf04cbf8c5b3a4d27a66bfa81e19e59770c89b07bc1e1), (0, 0x5151da525cbf39f50c466b9e7c5b0ac95afdaf3682afc03d3869b010c43b6f9, 0xd5d7bd116930b577492bae8b56b6b8c5df44af41c6c601634e9f656d654092f8), (1, 0xa2233dcf7aa7f0924a069cd60d1d8f03a914112bbc42b32ffc7edcfe054c0896, 0xba9d06614c47e0e7f7dcef089ca74704f33e7c0b1bc52d91d3f4fab95918216), (1, 0x8a897ac0f56904e14431b2c03b7542ea8443feedf58ac052c26b4513e6c1c8, 0xd226540ee8a83a1d160aecc4f5a6b3863768fd8261a88fbb0d4d06b2c4dd43e0), (0, 0x5104cbd6ea96cbe26bef2d50732d64cfe7049d7e2586be61716689adff3bf083, 0x97a164b8fc9b60ff05d991ec30614d0a177fa19f22ade601cd34f2da8357b483), (0, 0x4115b7ff4af4aa87b089243c466b56d9e29820e693a807b364a6df7b0be13ab4, 0x6a363d1c477da96c07d04b1dc1238ed37fa93d809e9be61a880edb18633bbab1), (0, 0x144436e8745345a7f90bf2f574e71e390f92d377ca3e5eb86bbfb6224bd78538, 0xbae072ac4d45fef37ef7fe730986d457ee52557654603b9f0ea493f503354039), (0, 0x4544a8315fa8650aa222cb119ba9188230efbbef0c414064eb6e1062d84a12ae, 0xf304e3981ebddf2894bc4b90d5c79f76b237d5a23730cc300d864cd0569b7ef), (1, 0xaa0b81a30a126ed2b88c60a95e6bd44afdb7054d95cceb96cb84ccd6283fdb, 0xc093557ac2aa1a2f0da0e8d11d46d9506e828676cb0836f1c3ca3bdd858f0771), (1, 0xa0011a105fd82891b0dce8dee59836845397b0ea693f2c698816128a1dec9763, 0x90cf15a268256bf68fa8bcbc4e2ef8bafe1cc6eeea648590d2af780d0b25ad61), (0, 0x4100a39baf7fc5b1fdb21633741d617b4cfbbc905e098cd6f1df2c3ff3827a13, 0x32419e3c3140cda2d28732cb238fea441a2d1bbbffc138f20eca4dabc2ad7e12), (0, 0x5041ccea162e594d7a2450fb68486a24cdf271d895c1844d88ae22fed413b42, 0xe5c36ec895f0e04e98defec2d3fe5dee225148edece003211aea6cfed258da46), (1, 0xa823266e66f34bf164a15d307a22856a5bb9579d8004008811c0bad1df662e05, 0x25a16fe07b5cff081e919f9c76f1b3836f6af1bca14670572204f7bf957d3e2d), (0, 0x4114b3ecd4b4e9ef7dd28aecea0e624b27be9666108ed726dd28e18f77d9c32, 0x8cbc0614c9caa8f1082f91385077fe245d326b3c3ae4673ee3ee1ca901997863), (1, 0x80a16b25542e09975ae7754c6298383f2c45b857cc7d6228a98bddf8032747d1, 0x307a129415ab7d32e27890e41f2d06b97f185636698d480c2db23e2ceccc9fdb), (0, 0x5001984edebff8996acfb697e7d78fc374050cc375baa8200ae9eb2d3837a04, 0xdfdd9cd9c062d6b2567d29843d06e6ed2762fe81a352cd0644d74afe0a75eb41), (1, 0xa2ab3cb96e27b39ea84bdbbfa53f1277cf91e15419575df388401f15215f302a, 0x86f2fb7a122a28d8269821b0bacceeecd08156a01bbf3490f441c2cc30ad7028), (1, 0x80294a739a70767a21e9d1764ba1d2e1c790c59f19a7a0496a911ce6394b3124, 0x342d4edd5d3927fd20f0f1c3ba7b63575abd0e8af4ec8f5b665207e7bf66f9a4), (1, 0xa20115b81bc9e7a1fe46b2de46c82a3712d9f3bce0b793cd45e53bd0e04d33f, 0xdcd29b1a4846f77405c345d54c6ee8041d595149bf230cdcd8683d2ebad20b1f), (0, 0x51509e05771a97123fb32cfc63e94007b0ca1cd2feecc4b3ca2c7ed7696d4e26, 0x3c1dd1b8bfb7ecd6ccd1bad0bef5e8da5d23622ea2ea04ee2c9db3a3fcb46f73), (1, 0xaa01abb062170833168b54c4075675c64257f93de7465edb7b51d8fcdca0255, 0xc869b395ab517b8a3a61f87d790f6a25db84d786ff9eaf2131c1298e2480185f), (0, 0x5040d8bcb59150c1972af431740970129e66fd0b13c02fe7885d1a4d454c6ae1, 0x7065a3336bb52c5384c99621c624750ee051323d71d355b5d7add8a8aac68bb4), (0, 0x150024d23d199f066475f82ae5f238ea4f9c3b4055285078158e52ab6189c5fd, 0xa6e7176a3e6dcad49fd482afe64519a10dbc44c9db0aed4327625c56871d30ed), (0, 0x4414ab287f2bc836fcba78993e478991547528d7352a4e7ff64698ec4c868323, 0x5442e2399ae8f7f8237ed98b13468a86e9ef6ab848a53cd411ae8b04cf99c772), (0, 0x11102ffbc402bd92c5537a147ff1b7001b2ce8e836f06a35370d8ca9e68ad3e5, 0x7cc730e21430b007263e856acf52c32451c902060109bfc77daac18ba5e6f6e1), (0, 0x1550601a8ed0bccc54737b441c10416e59a447eaa2d721e62eb8ad21bf0bcd9f, 0x82dfff9388e5c7c3df80136763ee887e99deeb32642f06b95839caf688dc99e), (0, 0x4004a154c171b42423fd41f55536d9774b1ae6d97607975c88d9bc6219d791, 0x97211a42ceb9c363dc1a9cbc17953e5389106776523c5cadb80b77641c0f66c5), (0, 0x4115f7ffafae940f821161d9e09f80caf7a39c7346769a697c3d057ae8cecda0, 0xca67c94f5babee5d21cefbcd038874f5d1246474db5bf05777344550ca0c9db1), (0, 0x5044d8e7a0f3805ac0b1f784dcf395be5e7cdce6a62217aecee7b59bc6b6961b, 0x2700c3656a8f117929ff8d626cf9368694dfd6d20a4137e140d328efab5e431a), (0, 0x4150f3076f333cfabae4c888ac1d0326c8fe153dad32b924fc93503ac508797, 0xdd8b087c865f68e73112e47542a98ed81b3c977714b6a727a69745ff732056d3), (1, 0xa2a31e8f922cfc1102b35c887005966cab3aca26ecf6c3e710347fa665020581, 0xb0f30475093802a80c6bcc7985b7185dae164688c5c5d157c65958f75c92578b), (1, 0x8a0153968f9d1ae6f20129ab66c11c739dc9420247a60b0bac27cdb178e743c3, 0x3cfee1743394f0a66539f70243fef1128ac2bede6bc79ad9bf3023143288d349), (1, 0xaa0b2b08a22191c9915742f7e922c39499b3951af43a6e0d6777549e1d4ad18, 0x5a2327c97c56015cc5a1328211a1c1575afaa8664d9309871d885ac5d9e60d9a), (1, 0x2288767354762902a5dcf44c34fcb1ee5eef67181c12001909a0f7efde8841f8, 0xf37c2300860ab1e8378cc93aad1dbec527f80e45e7df2fd339efe8b040084370), (1, 0xaa0bab23ca75fcbe74ad52c234d56f2d540f1fc22d8a347a0b50056938170eb8, 0x31a554f94b31ebb3dbda147ee4fca6c3689cf3ed1cc556e9dd6a1d98353a4b8), (1, 0xa0291a5e5970337420823cbf155c8427fd171d98b1a17aeac4af2544a912b, 0xa0a1cb57883e7550ab43baee0a90e5a1ceebd18b62612915c9f9c7f273128bab), (1, 0x8801761e2271b002182792bf56a69acb2ca40ed64a47764407f7c98276c28c70, 0x2c894a3eb591811e88118ba0edd1f29daa4a61e051dac81fc0c8f712072504fa), (1, 0x8a09f1a1190b1205b640bcc16bdf84bc728f40bb53d3061580ae14e43e4fa8b, 0x395753f232bd2e7f49c287c4ffabc3212bcb36ca9c6813e6a4a853af9e4ac003), (1, 0xa823a4c788eb8ae10f66591f57d7f9a5cb72ff3282198e154fba065e21833e4, 0xd649a9609adb85d26fec09e721951809542084aac6ed85cfdbd34a95b91f3ee), (1, 0xa229bf7f1f24a58d67e9af4577d6bf1036b55326e830652863ff61da528888, 0xe2dba021f00364773efe1c65b0669267ede08532b596f9ab7169bab9027a020), (1, 0xa809248f46ae552d7546c57fc33e3373f891e55f66d2b09eebb09651dec7f8, 0xe2cd9bfdf1c32187a19caa4b4a646ce446bf9bce2c8587dc3718e2503ddc4ff8), (1, 0xa80926a74bc29bcc35a52ca55f64738e8e1478fdba4df0d152f3245141ac5951, 0x1dda0a4ee42ae1a77c38ebb24eb3eeb0e607a492af76cbd5bbf1ee5be6b503d1), (1, 0x2a2a49677db1052daacbafc81733e4a72b6c25c857d87c975e4cdc9a33204cf, 0xf2d17e2a778b081c6b0a949233f2377f350eabbbe2b4403037cfb57351e9f6cd), (1, 0xaa0923879727b343d6b56cb2dde429afba383d4bc42f6bf5fa03c40cd7e8a476, 0x44d2a48c0d37f33600a512d2889870091c346c06b02e05143308d7fed70f24d4), (1, 0x2020da763d6f29a5ee8090f2cf988fd93fa6200787b067f72ee6c811addeece9, 0xf38d3e1472df1b0d21c1a922d185cbba4f8bca9dbf41db7a042e99cf76933ec9), (1, 0xaa0b0120494a5b2b24a9be56d9d0592bd5a34ac23cbab3408397f11236a42c0b, 0x8e2094f92855abffb3fd0cccbd5fc6c53231a62c12da42d5e68a48e6f0da1c89), (1, 0x80a9e99a31e8e1fddedd79a86faa9cb3eca73f06c33af3f12112f082ad40edbf, 0xed54120693641adcd72d0287fc499eb5e59154fd34aa26ea459430b2bd6c3d3d), (1, 0xa8a3a5a5b71951f47ba4e55326a8a311bc27ea25cb0e6cb5e6de87c15cf1d0a0, 0x560e75b5703835dbc6ab17232c059510117af399b7153fbdc18a32618b35da02), (1, 0x22287f49727a5393b3d2bc99fa4e4648af321aafa03acb41c85962283a406f52, 0xd28f0bc160c4db26f0fbc4dee06e34dd7d5beca61af94c2a4b8550e1bd4a8f5a), (1, 0xa2091f2e087da94cbb827689879422a1acd922f889fd7f81111a006819ed3d8a, 0xc831ec3875f8e7f38a480594255381f5f506811a7648a7523d1c514912e97f02), (1, 0xa08193f937ef14a912d282a22248e38daa0a2d9bbb79ce698198cc7ca8a49313, 0x9bfeadd3ccade3469270a79685114d4504243881fa1bb91bb1ab3cbafa00831b), (1, 0x828b4ccc50f65e5bf040123f2cd86e04975d360809ddaf866f3848ff5d9ff0f1, 0xf3622f272b551399c87048f3662ffe7eb52491f9728506f95795a3ea3d30027b), (1, 0xaa0ba98bccd39d839ade86d3d222f68d8c6f3ba4eef24aa47602f205482146c7, 0x90f1bb3038c3a38a66d778a2d345dc129dac13b180f441a943a79a13f09fbc4d), (1, 0x82014d9fce515507ad6935c74a2c0b2c0fc4b7e91cc4c4b3bfa5abf90c04cd8f, 0xf373f3132627a6600931ef65ea3de11ac88e71a81cbf176d7842d3375b39bd2d), (1, 0xaa0bab8969f5fb0ccb5e857be3f06f54aad4049b787a22f8aecadc111b33234e, 0xbff7e39193bee8396ed4e0b84b28de288942cf6ee9d27a6c9cf4a48497188bec), (1, 0x8aab5237bdedeb5b49dbebb8d8afd0cdd68e8b0698e4c2b2e7a024cd4cf59021, 0xe1d3491e0da11a0a47348a2c5bdfaa9414b67ac579db544d12e521412591c881), (1, 0xa80324166e74633e02b7f5fcdf698f3414907d2a8f837f108f406c530a6fe6af, 0xa593bfb3ef60729b7b909ec00d0834b08326cec2f1bd6cfe54c909f71fc36ad), (1, 0x88237c699691f98c79366a84c9300aea51dd3f310b22f2b10f055da7fbf3f9, 0x45a8286039b466c7529321afa9857ffb5365003c3aa1e972eda273e51be10b5b), (1, 0x2022f0f95dc437d80124d1ac7b65558bba018b424df936987d73e0e654deaf3c, 0x43ab6dcd854baa786e803d1424bae368065f11cf4ff6f7e00aab05079251cdb6), (1, 0x200af0957b19d9743e8f69a342f8efce936f2a90095008905feccba3609888fa, 0xfc34b0871f3c527cc3d9e768b5d999baf84e89bad54f69cb2d8d415d0c8962d2), (1, 0xaaa18a22abba728b1d642d1ba693d58dd4c3269c8d6a84d9040ae5dfaaf35f0d, 0x72cff94a98efc2c4a67446c0728b82040ef47fde12bd44b93f12c307001f4d05), (1, 0x2a08c133a69372fd43aa8e65d197b425dbfb3aaf3d280d4ac85d098117c5ddae, 0x366b542d68d72e1d18462387597442fed59df8f9378f9b568b782d39bb147d8c), (1, 0xa28316dfa9e609328a3a02c6071c9ae4210ee9025dc005dc74cba7e2ac0d9d4, 0x45644b6e451aa480119c8bb5ebfae62787304d16cfbb1bc120e6cc27b49a9974), (1, 0x20225058ec4dd08a0b025e05d2946e58f057ca976c8f23b29a92d1dacded74eb, 0x42a39758934b8ef883afe679a24c7ac53dbe95befe33d6951e5d90811d63cecb), (1, 0x2008f012500219e1f9b16c7bf7c6afb127d8a3515201ca70b98dcdbcf6d25653, 0xf87016d8f15a81cfabafd64fbd2fc2c58f8897858016711cbdb9df864578e6d9), (1, 0xaa81aa7a5cc162c95cc41b297561a372b1183c7d3c2e8d3c223936e6a51f38ed, 0xed83e66af282835a680fad58697c73174910b7c17484c0a3cb12730065592a6f), (1, 0xa8a3078e82c296830dfc038c0dec88f36e8689aec8ed37c27d9d51b8a1442166, 0x9b39f46c4c617012653362590e0941b1957a36866a70fdf7afae8af8073c29cc), (1, 0x828bece7ea0eb67b3314754f370232cf500d9ebd04acb7b736af970e35dd4dac, 0x6a662d5828465ea73dc34be20e882e1c4f6b1cd4ad157c529bf121f427cdad0c), (1, 0x28884fd09521f3d7edcaf5ea93f1829c3e55f512d0e79b089f9cbeed0a923e14, 0xf0fd2eb3dc2536fc551462f0d3ec49570f92749d988b0eff7475f9981a5cfeb4), (1, 0xaa012b39ab75e7321a9039621cf71437af278f6e9eaa1ffe9d21b8e5a7d44eb4, 0x328e132f121dcb03ce8e9efda59190fc25f9fef96aa8c827fd0de0bffe760494), (1, 0xa0899365bfc28fc6d7300d99b37c985c6c39045f6edf33a23ad0f794d6d9296, 0x1c93d3812d97bb44194c1a3908ab554489eefbeaa9b06e5a53fa3afbbef830b6), (1, 0x2a084132cca41c30db65f6b52452424c3d45651f771deaf91c1a6e40e488c75, 0xede9460109aaf2dfc3e279b34037f8bb0e9f2deb12788c2f8620f7e7e616365d), (1, 0xa8a32f066d3bbbf792d89d9384da9595c1f76cda3ce63f9959aed9e6608c1c4e, 0xf89a65bdddc056947c2d77996924a6e5cb8c5405fb17dc4865077cf1787d9eec), (1, 0xaa8102f3f12f670e68197868ffb8f505426637e9e58a9a49b0eac0cc560d9bdd, 0x2bcf57a6e6804398b724c64981d8d8e7ed1ea1ee36db1cb7bfa90a8c3aca837d), (1, 0x88abf53edc75f15734bf4bf3a37a011bd1accadcea8ce07c5c4c8abc37fe64c, 0xb7e28cb9012c8282b3308b6866e69290efac2e559e94bd26634aa1ac132d8cee), (1, 0x8a2b51f58e0fe8bcb93e3cd47c99acecc70b4c38ec16a109e6a65c57e820324f, 0xb02e129a3996b63898db2ffaeecd70e2b60e7dd7242819520ec963783109cae7), (1, 0x8a01f13513b1c6e2f6642800f677889bf9d4db7df9f960c7d321cb3760d56787, 0xd81c2a281bd93948e5700f9e89e3dffc111c909a425f66d747bbd1f76a271fad), (1, 0xa2819cdbfa86bbc0a60d354e22f4e5d0588cd5cff015500682a252f0cf51b971, 0x4a83f150890b2930ef2ede5a3656f9cbbeb7279105c3a8da9dd7191dbe56c1d3), (1, 0x2088f9f27a9c2d19c0bd5212d62388df8ef1aadf7f29d6ad0e862aa4bcae4ff3, 0x2ccb764a14e9c442fd8bf264ea8c5ace7ef6edb091b5d7734a963c2351b8fdf9), (1, 0x8a0bf126329af343161d637fd201ef222ec4422b2e4a09e919a46bf58f24eb3, 0xe30572798ea0b3d6fc08874e07c1239a59acbe525d12c5b046f0677b3388f431), (1, 0xa80b8621fac8c4bd17e65dbcbac7af80c456b2ef51816ca26d395bd1f2b206d9, 0xfd383c1d1d13e1ad3cde1b3abbab3af9fd7401b4dc0484e3b46cd562e68e7cdb), (1, 0xaaa38a85aaf1d479ad04dabcf34baffac5161d07c9d031d89006e823c33a4e17, 0x3cd291d675a0d1c8af4465915fd666ea4b6faaae2dbf0fcb47426d9c0de73c9d), (1, 0xaa0ba10bfbb20703a520f1593ae8b77b16e4be72799e2b7fa79de7ecfb66a82, 0x9d96746e5b6020b28338e751090a7e908acbfa250cb7f6c15ad3d704b8ef0820), (1, 0x82a3642a93752f62eee9a9eb04b62b612c3d713d9cb09b4fb9eadbf8e91eacf8, 0x663703808d13ff337e8635b157cea106dd2ec9bb13034d5d82b3980eb90c24f8), (1, 0x28286c4af993eea2d6020aa84ac2f1d1030bdf25030574b394c27cc0acedc2f3, 0x44eedbfc748ee4483819eadd0d134026e541f77b1b706f4e48996a6e35697873), (0, 0x1010686b07ee60cf93a739768bdfd83932a0c34629b926b69e64c7c4bd039844, 0x709eb1fc6177e686a06b3f3e7468a76c335fc62776f87d182cc35796b73c4d41), (1, 0x2a00e32ff85827efd6f06b5bd0914ce9ed7cd3d7034d7820b364ed1d54bfc687, 0xfbc41b90432c24250cb33f5d0dc4b378b52eb23a2cf2f9433d30ead28973685), (1, 0xaa8b2042243fed36d1b74daadc703506f55e9d4479dc3b1a6f0947315dab51, 0x68c80838ce3a386324d3c135cceefeb6e42fb183353b71845bba556f826db73), (0, 0x144063b3b1a9ed47457a250e6c94fee736c51c6c8559fa83cc01c9d2806ec4, 0x4e23b637603357ebf855c8ea6cb6fc0b55e134d312a5e51b7a207ad883e2bbc1), (0, 0x105438c5d1c373f680b8857e59f574073b0dd6c68afed0a23c9c8e19253be5cb, 0x56620ac1793f210cee5c00c371cb5f5e4a2cd44c713880cde3fd90968b9c25ca), (1, 0x222857e93f4ee4b16db280c7929cb7c8f1bd87b39d70b24a4c08743de299fe9e, 0x4974fbafda63aba6f40f6a8960fc2b577308f21ca650b78ce7d79cca38c9fe16), (0, 0x104129e03d2b4279b282ed58316ea85af5c5472aba4035128e2d09ba563ff07d, 0x3278658152450cdb2ccdd22dc4b2bfc685c53fc27101881aef362233dff24169), (1, 0xa08331ff028e48b750fb46e014e841a19e0f8e346c643403438a04d1c4a7480, 0xe5f55f7175cf233c4bfcce047d0985f685ac1ad3056a458630613169caf05c02), (0, 0x541196233a8b33dab0a86cf9614173746c882d813e4ef7853f02de2041c88bd8, 0xe6ff8e22f81dbebe3498cebba61c979c298159889779c09c6431a9eff2c40bdc), (1, 0xa8292cd7575260ac87b921c2178a039cc95bb48e92fa33249ac8c78014241ef1, 0x6820703743ffe41da653bffc6e3d1501cd2863ee43cae97fca534e459bab4c51), (0, 0x144037f36714fbf9daa5122e5dfe78af9225de805bdbe913f1c3bfa6ac84f534, 0x561949e0d965acc4e7aa260e01a131f02a1aa8c8ef66895da823955dc8362435), (1, 0x22287d637f3b9de2c2bac7da800dd9a2191e12add69cc9fe77588ad246bfe8c8, 0xbf94205c17b1967ce76124afb24719d6d27d9066def0f93ceeb2bb5200dc62ea), (1, 0x8aab7a3d7bf9b4dc220cc701c94d6ee3f408e39c852b1a7c23ab68fd9a7c84ea, 0xee0b337f748851fed54c3a7968ce3a7be9545109cf12e0f188c869a7f5884c62), (1, 0xa8a9871640a407988c0988c94606c230c988f22c89970ca0be2c594c799dea6d, 0x3b580b6eec0472b3336876ebb1c16737789f3588496590c67d138d8103cb7265), (1, 0xa8a3af85a44a7dddbde1cc598af574623807126a8bb0210f8338c476d5ee2ef, 0xb29c4ef84f26b43caf61cadc6288377073cd14f530c607b72deaa71d93b99acd), (1, 0x8a097b22c959e696017d12eb2c2151d41cb3cb3c74215725fb8ab8869f6e04b0, 0x59f2a68b352c7d94467b8371ebf6c478d4ee5c4988bf204f4bb61b05174fa412), (1, 0x2282d469ca502631d9a335cb02426663f92eec8545e0c4129849620102a0fdf1, 0x1c02053fc90dfcae9a83a334c98a98987d4635623bda3ae49498335e8e950ff9), (1, 0x2a00610697811a269673038ea2cfdbf2a9d03647402bdc6984e5235c390231d, 0xfb735e39b5f1a8544ffd30d73d29a89b4042c3adf676201ee94f90dc3791399f), (0, 0x5545d534fef0cab3fed5eab3725a248bf4cd0cb901c51b0252c885dcd546fb26, 0x16b4dbbea1f62bbc77ceefbad13ba6e3bfea94790d6ef8a0b2053d7f8fab9a73), (0, 0x11446e397ab73c9836b11440569711faab66003425643ce0813a000e7392242, 0xe0d614fa13536268f438e6212634044d936ebedd51287df7def77f377440d747), (0, 0x54009219e66df61effd0319b3e8bf061bc89a103f38f2b58e969daa309222afa, 0x87eabf83a9a3c5b81bc4d82e233adacbd180aee426c1fae4b244412773645aef), (1, 0x802b48f43c42148a7800f2fe4db3339171b78380be90ce5d08ad6bec38cd00e4, 0x152f909e746951a6923ac17ccb7aa5712e56526cf19240fd47d7235033dc684e), (0, 0x11107aab40034ebd0dbe49c7060c21ee5a6d016e078abd5be71acb852d315b1, 0x37b9afe20d03babb5e7b214a681d00689363504570f9beffbfc7e610b33af5e5), (0, 0x51549b1a7f13baa43f8ccba05d5d83b7a4fae59b2041fb24b5e913c3f1c0430, 0xef27cabdaa9e32762676614976e084b29f9ab32c4898c7b83fb5626df8dc5021), (0, 0x5455c7d8bae614b532d2fd8340e96650f73f3f0d68ab285277691441a3b432c8, 0x9f4210dbb369f3571e400edf1a7de1532462d9338f504dd1c387d4b24197b6c9), (1, 0x82abc615257d5525f03a7e62310ed8e4edf47253b9ac633fe3baab9514839f4e, 0xcf840b11f497433f78cff5aadc62689e1e0726cfdeb6e8c2d8a041bcb5629fcc), (0, 0x50558cddf059294d195b833b175c1ce4e1e8aed0991c78b20f0d74096508041f, 0x6c5bb77749971a67a3d3c5622c2feded3be4650c98fb6519eaf0ae4dfdc7044f), (1, 0x28a045140950a09e177c123f8f9fb85413281a6e2ba48c2552789b42b8c4e446, 0x8eb2298fac262dde1b42414eda9e92a5f9b2a69725cb877fe1d9f6e37f3ae4ec), (0, 0x4054b5c9ae64fbadebca9fc98b6a741cab219d7578bb900795a3fa37625ae457, 0xbd0e216270d0a921dd2657f1d51626a3bddf23e9982c28313076e0daee6b6007), (0, 0x4551fc554e290fef3156866b2850faddc02f1bb618e7c1e9792b08636707a16c, 0xcde68b37091c258898d91f6d8eef67e21cfa8937a060462d7d89819b5391e179), (1, 0xa0a331ad0760246c92fbe54cfef3cde01527e247ec5bd129cb6b36efad4c03d1, 0xe5c6d5edce1c393987b60752e6749cf2a117a5a713eb064f4f99f050afe5d953), (0, 0x5411932676039e7479ac5eda2a6a823686462d003884a382c6f85efbeedb50d4, 0xa7e27da86192a4ee9a1f8c41a83d2c05a514050a0400d0b230983e85941281d1), (0, 0x4415ab3aab690753029ab07fa5a28a4da0a2098ca514d8d599ef969af9bce348, 0xeb178b2c120943b6306b1708451261612ff7ebdfa67b8b81da9175f909163249), (1, 0xa88b85c94b628c9605b8d78030df359bacef55f0a925b47ca733bb5912642704, 0xaa1e71b54f215c3baa0dd22fa3fddda1d4fd736af4ebb5241c92ded2d77fc786), (0, 0x4444fea5a6cc4a411fca28d91bfe36f17692a3f3ccd3055983de212514725a8e, 0x7d4eda832aa47c7ba9da41252f6c0406053a2cbc2bb8b1c82d6857d5acdaba9a), (1, 0x2aa240b1d4a123472b4da3459fea2448872b4691005cc0099a5373c32ec5dddf, 0x270d696dace1da729a19e89f0ae6f29960f006ff287ceeeaf63cc323b5e30f57), (1, 0x82a1ec264f003143655b8e7903fcc96c1e89006dbb202428c581c4098635189, 0xebda0c449d464426a0b195565d0983dd1e742faedd497cacf06a48d4043603a3), (0, 0x544592b52966a2fe25ddaed9f962963810b79538938e12d97a040c0f5a75b9a5, 0x87e2141b31ded1b1a1e8321a95c0a136e72373ec609fcf3ded2a92106155cda0), (1, 0x802b4874b529755864726213ea97eb20db05d8b2751580347e6bdb19e0cba2f4, 0x4874231898d457498a8378b4c08e96be7ecb22a18918a9a785f2ccb9c11feaf4), (1, 0x208053c758a54ec6cdd743857ae01a09675f3efa0bfc59dc700552642e52c510, 0x9177cb9839a39ce993b0498f0dc818c9eda5ef0264b358568ea73a301ee56f30), (1, 0x8203cdb18459d31abd65be54b53b0225c6ea350790a8399a11f8cc75dd234757, 0x163ada968a1c89d446a79514a009954ba5be2f8886cdc45a5476f432ab89d57), (0, 0x11406b76767216e7b164f060039c4d2930b5a41a534b4a0a43fb91617e53d, 0x57b35172049f4742c860a2ce93ef158ffc62d2942875d36e24e740380bd34428), (0, 0x11157af6811553393db6be567f112166c8ba21185d01ff473d170830a06fecba, 0xcff60f37d9649f691f2cbd60171f1e7efe30515f85e70c14a8ea1c43713088fa), (1, 0xa0ab33b3810acf40f10b7e3eff7ac4cd5573e9cd12eb6d074b86d8f7c0b28a27, 0xb0071e27e27059700f560c0f4ce9928d46aa6f83178b5cc1cdec7445b29ef0af), (1, 0x8a01f9b70cf71a656667fd04696c20c6c2f084392ff9764f34b73e73b03d9dd3, 0xead5f337e58ed7702af6b036cfd2dcc6c596ca6883fd10a24a5b870ef3d70579), (0, 0x544492e3bccad5d5f2529922ca39a22973ccd07e09fcef0d530956ce0a6a2bca, 0x3bcb0589859c5c8df114229321cb2a953c9b08a89b42a70a0fd3aa8940c95e8b), (0, 0x5455c79deb4a5476626406dd83eb0cddc750b8189300b7d30e34fd53251e1e9, 0xf4cc5f588e61451d61dc7be547ec993c5825ff8c8b8f32226749996914d8d1ac), (1, 0xaa2121439fdcf1b5d5becf97e3d6a7ce67e65a7521d39e14d053a92c9b28fc83, 0xc3d47dbe5505d3fd34897c6df2c4d7b3436896d0348e28e7615a1d1001036423), (1, 0xa00b3a23ae879bd0f5526a35d0abd7189407085aeed266fc0527ca508feb01a5, 0x3e9b4962a110b52424dec590da571117d1e7516325803f493359635dd26e39af), (1, 0xaa89a8c6511fc9f9e1784187e8e8cbd15f662f95b0f162187b49ef5a6cf1516, 0xfe6903df2415b7e3cf79472b29959a23cc04f3a0690ca7c2b055bd526d50bdbc), (1, 0xaaa9a89e5e6214c96e447a631a76255ad8f009236562e3be7116a42da2f2e55f, 0xa188470ad0e62919279c667eb65d412d793756c828fda9f62ae0e8807063fff), (0, 0x4401bf4d9ea27d7ede4e5d8504759d6fcc0f99317dde0721d866d7dab300be, 0x41c20a1e677d09f8c99a48a1fcd545380539035512a7ee5413d0ba6a832af5eb), (0, 0x10016c049a8c8f6a7a4648f2f9fd72547e2b0d6bef748ead15008532876c80c3, 0xb9ebdefbb7bce60cf191de6482c54b7fcab5d3be1e23e1ea528c9bf07f28c486), (1, 0x8a8350f1b7b12d4759328ffdc7bb8531a4adff09f31e51c146a549ac92365be8, 0x539fdafff04a8660c2837818fa38cfe08655464e9f3de91307c591856a5b5bc0), (1, 0x220afd359a15f18fa077963c64d13dbf625d0131e370ac3aa11e94c3a170eb47, 0xe22456e7fbeacb222a052174b3ed41c9d36b7459bd1892debeabb9a661849b47), (0, 0x5404c712364e6681ed65e8346af03afbdb793a6d7a11cd5f2b1a076094f23780, 0xf2e96925446d2f0a5c126fa5b8cdc4365c018ef54b63a8fa315e4ddf8e1f2795), (1, 0xaa0929078d6c11184384dfb8d9ceba547abc3ae6d3ec473d52b01f189c094214, 0xc84737c5a52f3e63d5627345928e282f85dec7f3618e9db75ac26ccdf50f0036), (0, 0x5040dce8fa425967b8bae81973d40276f99f90c1468e843c1ec4e37aa72717a4, 0x7ccb4730b797501dd201ed0a02540d056e2fc62547b21d29a17e9e2e0f52d2b0), (1, 0x2aa0c0953613a1ecd2849caf76fcff614c034b1929b9cb448a272334ff5f7273, 0xdcfc7bd6d04aa4fa31d7276abc8576aa98781cb4deb743136f077d1b3d8be873), (0, 0x51509a512cd9ecdbd2ecad4c413b98b1a3b963b7f881311ba03d998a21c02c25, 0x5959ce65b55025c2bd799cffa95316427f2c4bda772991c621c1a0d242ed0920), (0, 0x11412e710e9a044876ee7bf988af95d680ed52a24fa6ede8f18b0243d5dac08f, 0x1303280e1a2983d7331aab12b88daf9629c4c49d23f2a9c122ea461c1cb6948f), (0, 0x10503c9fdff2e436972b1f376f2ee3e8afc05affecf4a4dfee44af7ed3ebc3e, 0xe752b94af177eca5aa01f035ee9c0756aa57c51860eb617c2304efa315da5c6b), (1, 0xa82ba473228868a10cda35de554cd8ce34a90ac1af3525fd86a1abad6a22ead7, 0xa9f58c31b16f438cefac1de620be44a0aa9f5e67f24aaaa51bb56a5bcd7b125d), (0, 0x4441aaecf0b0ffaee68041fef91e63e094d4fe7f55810fc68d2a328a23bc9faf, 0xf8da8af1cdfc4f0d9d6a64be45660a5fa9aa660b001e06dd3d88d31b3dbdefe), (1, 0xaa8122f32183edd380f03690993b2ddf42df0a7b5b929caa1f7b1ce96cd0ce, 0x21c862ab3117c254f0797d929e7d4f6a250ff4484826344ce67195b2125da66), (1, 0x802be87faf8202af765773398e4e152ce95add3f2951b6c9aea1aabcc1a82, 0xf21168f14935808bcec8364d7efc39de848b50b9474204a7c9a688ce39bdd2aa), (1, 0xaa0983860d148c510f587a08cfa392c6bd89514db4e7b103f762db04c0d5e1cf, 0x1c17bfb5c2b30ba3d2e651c8099ddc1c4c504f538cfd868d6e39af8f293c3947), (1, 0x2a00432e40e9cc9c6f585b310b3afdce9c1fb7caaae7b96011b4803bc5ef5d5, 0x4eb57ce5ac2e17f393aecdf2df4a06c1fb9b2f11a6479a0641e36b594894e5ff), (1, 0x20a8f3a2e4f51fa02251df2e78282c54dae38bcb726f251f2025f6e77853d38b, 0x3f92163cc083fa0140a4b952d773c94631b46442c2dc7aeef49f4206b48fe921), (1, 0xaaa9a09c62ee291cf3b2f08288f30a87b9c5224b2a2a5ee8f6ad206e0de1183, 0xe7b146f7736b5646ab3219b7a0d5353f9dc59e71b8649a4cb1e0f259bec50981), (1, 0xa82b0c780e20b2a6c5d20a77117f2e0c15176ec070ca1477fda3aedc29243f76, 0x8cc2932f4a134e3a88115bff214a62775f2116a145eec0844d31070f22f99f74), (1, 0x80a1418db60d6aee2de1d686481ad5114c6e1ea05c32cd39577791e49c920451, 0x265891caef31e7594e97dc7c1512766d02aca976684c73d2f5f1270fbe3bde71), (1, 0x8283ce731fb0d475797094412cf3ce4eded2572c871f264891a1c3eeac6b9a4, 0x9ca884016a9ae0ccc7d474a8d84519140837e437505a90a217cc3ecd3bb53a6)]
def xoInvQ : Nat × Nat × Nat := (0x9ca884016a9ae0ccc7d474a8d84519140837e437505a90a217cc3ecd3bb53a6, 0x2b0b5d0e0d5dcbfd343a0c7c13920e58856efc82f8b6f3e99a6368bb225afce6, 0x16d0f0d3ca4ebb5d04475fa14cfea8c6a813e8de92c07a30fe4348226c1c373)
/-! the step as a linear map of 256-bit numbers, and polynomials of it -/
def x0 (w : Nat) : Nat := w % 2 ^ 64
def x1 (w : Nat) : Nat := (w >>> 64) % 2 ^ 64
def x2 (w : Nat) : Nat := (w >>> 128) % 2 ^ 64
def x3 (w : Nat) : Nat := (w >>> 192) % 2 ^ 64
def pk (a b c d : Nat) : Nat := a ^^^ (b <<< 64) ^^^ (c <<< 128) ^^^ (d <<< 192)
def xT4 (a b c d : Nat) : Nat := pk (a ^^^ (d ^^^ b)) (b ^^^ (c ^^^ a)) ((c ^^^ a) ^^^ ((b <<< 17) % 2 ^ 64)) (((d ^^^ b) <<< 45) % 2 ^ 64 ^^^ (d ^^^ b) >>> 19)
def xT (w : Nat) : Nat := xT4 (x0 w) (x1 w) (x2 w) (x3 w)
theorem xor4 (a b c a' b' c' : Nat) : (a ^^^ a') ^^^ ((b ^^^ b') ^^^ (c ^^^ c')) = (a ^^^ (b ^^^ c)) ^^^ (a' ^^^ (b' ^^^ c')) := by ac_rfl
theorem xor22 (a b a' b' : Nat) : (a ^^^ a') ^^^ (b ^^^ b') = (a ^^^ b) ^^^ (a' ^^^ b') := by ac_rfl
theorem pk_xor (a b c d a' b' c' d' : Nat) : pk (a ^^^ a') (b ^^^ b') (c ^^^ c') (d ^^^ d') = pk a b c d ^^^ pk a' b' c' d' := by
  unfold pk
  rw [Nat.shiftLeft_xor_distrib (i := 64), Nat.shiftLeft_xor_distrib (i := 128), Nat.shiftLeft_xor_distrib (i := 192)]
  generalize b <<< 64 = B; generalize b' <<< 64 = B'; generalize c <<< 128 = C; generalize c' <<< 128 = C'; generalize d <<< 192 = D; generalize d' <<< 192 = D'
  rw [xor22 a B, xor22 (a ^^^ B) C, xor22 (a ^^^ B ^^^ C) D]
theorem m64_xor (a b : Nat) : (a ^^^ b) % 2 ^ 64 = a % 2 ^ 64 ^^^ b % 2 ^ 64 := Nat.xor_mod_two_pow
theorem xT4_xor (a b c d a' b' c' d' : Nat) : xT4 (a ^^^ a') (b ^^^ b') (c ^^^ c') (d ^^^ d') = xT4 a b c d ^^^ xT4 a' b' c' d' := by
  unfold xT4
  rw [← pk_xor, xor4 a d b a' d' b', xor4 b c a b' c' a', xor22 c a c' a', xor22 d b d' b', Nat.shiftLeft_xor_distrib (i := 17), m64_xor, Nat.shiftLeft_xor_distrib (i := 45), m64_xor, Nat.shiftRight_xor_distrib (i := 19), xor22 (c ^^^ a) (b <<< 17 % 2 ^ 64), xor22 ((d ^^^ b) <<< 45 % 2 ^ 64) ((d ^^^ b) >>> 19)]
theorem x0_xor (v w : Nat) : x0 (v ^^^ w) = x0 v ^^^ x0 w := m64_xor v w
theorem x1_xor (v w : Nat) : x1 (v ^^^ w) = x1 v ^^^ x1 w := by unfold x1; rw [Nat.shiftRight_xor_distrib, m64_xor]
theorem x2_xor (v w : Nat) : x2 (v ^^^ w) = x2 v ^^^ x2 w := by unfold x2; rw [Nat.shiftRight_xor_distrib, m64_xor]
theorem x3_xor (v w : Nat) : x3 (v ^^^ w) = x3 v ^^^ x3 w := by unfold x3; rw [Nat.shiftRight_xor_distrib, m64_xor]
theorem xT_xor (v w : Nat) : xT (v ^^^ w) = xT v ^^^ xT w := by
  unfold xT
  rw [← xT4_xor, x0_xor, x1_xor, x2_xor, x3_xor]
theorem xT_zero : xT 0 = 0 := by decide +kernel
theorem pk_lt {a b c d : Nat} (ha : a < 2 ^ 64) (hb : b < 2 ^ 64) (hc : c < 2 ^ 64) (hd : d < 2 ^ 64) : pk a b c d < 2 ^ 256 := by
  unfold pk
  have s : ∀ x k, x < 2 ^ 64 → k ≤ 192 → x <<< k < 2 ^ 256 := fun x k hx hk => by
    rw [Nat.shiftLeft_eq]
    have : 2 ^ k ≤ 2 ^ 192 := Nat.pow_le_pow_right (by decide) hk
    calc x * 2 ^ k ≤ x * 2 ^ 192 := Nat.mul_le_mul_left x this
      _ < 2 ^ 64 * 2 ^ 192 := Nat.mul_lt_mul_of_pos_right hx (by decide)
      _ = 2 ^ 256 := by decide
  exact Nat.xor_lt_two_pow (Nat.xor_lt_two_pow (Nat.xor_lt_two_pow (Nat.lt_of_lt_of_le ha (by decide)) (s b 64 hb (by decide))) (s c 128 hc (by decide))) (s d 192 hd (by decide))
theorem xT_lt (w : Nat) : xT w < 2 ^ 256 := by
  have h64 : ∀ x : Nat, x % 2 ^ 64 < 2 ^ 64 := fun x => Nat.mod_lt _ (by decide)
  have X := @Nat.xor_lt_two_pow
  unfold xT xT4
  refine pk_lt ?_ ?_ ?_ ?_
  · exact X (h64 _) (X (h64 _) (h64 _))
  · exact X (h64 _) (X (h64 _) (h64 _))
  · exact X (X (h64 _) (h64 _)) (h64 _)
  · refine X (h64 _) (Nat.lt_of_le_of_lt (Nat.shiftRight_le _ _) (X (h64 _) (h64 _)))
def it (n w : Nat) : Nat := itf xT n w
theorem it_xor (n v w : Nat) : it n (v ^^^ w) = it n v ^^^ it n w := by
  induction n with
  | zero => rfl
  | succ n ih => show xT (it n _) = _; rw [ih, xT_xor]; rfl
theorem it_zero (n : Nat) : it n 0 = 0 := by
  induction n with
  | zero => rfl
  | succ n ih => show xT (it n 0) = 0; rw [ih, xT_zero]
theorem it_add (m n w : Nat) : it (m + n) w = it m (it n w) := itf_add xT m n w
theorem it_lt (n : Nat) {w : Nat} (h : w < 2 ^ 256) : it n w < 2 ^ 256 := by
  cases n with
  | zero => exact h
  | succ n => exact xT_lt _
def act : Nat → Nat → Nat → Nat
  | 0, _, _ => 0
  | n + 1, p, w => act n p w ^^^ (if p.testBit n then it n w else 0)
theorem act_w (n p v w : Nat) : act n p (v ^^^ w) = act n p v ^^^ act n p w := by
  induction n with
  | zero => simp [act]
  | succ n ih =>
    simp only [act, ih, it_xor]
    cases p.testBit n <;> simp <;> ac_rfl
theorem act_w0 (n p : Nat) : act n p 0 = 0 := by
  induction n with
  | zero => rfl
  | succ n ih => simp only [act, ih, it_zero]; split <;> rfl
theorem act_it (n p k w : Nat) : act n p (it k w) = it k (act n p w) := by
  induction n with
  | zero => exact (it_zero k).symm
  | succ n ih =>
    simp only [act, ih, it_xor]
    cases p.testBit n
    · simp [it_zero]
    · simp only [if_true]; rw [← it_add, ← it_add, Nat.add_comm]
theorem act_comm (n p m q w : Nat) : act n p (act m q w) = act m q (act n p w) := by
  induction n with
  | zero => exact (act_w0 m q).symm
  | succ n ih =>
    simp only [act, ih, act_w]
    cases p.testBit n
    · simp [act_w0]
    · simp only [if_true]; rw [act_it]
theorem act_p (n p q w : Nat) : act n (p ^^^ q) w = act n p w ^^^ act n q w := by
  induction n with
  | zero => simp [act]
  | succ n ih =>
    simp only [act, ih, Nat.testBit_xor]
    cases p.testBit n <;> cases q.testBit n <;> simp <;> first | ac_rfl | (rw [show act n p w ^^^ it n w ^^^ (act n q w ^^^ it n w) = act n p w ^^^ act n q w ^^^ (it n w ^^^ it n w) by ac_rfl, Nat.xor_self, Nat.xor_zero])
theorem act_pad {n p : Nat} (h : p < 2 ^ n) (k w : Nat) : act (n + k) p w = act n p w := by
  induction k with
  | zero => rfl
  | succ k ih =>
    show act (n + k) p w ^^^ (if p.testBit (n + k) then it (n + k) w else 0) = _
    rw [ih, Nat.testBit_lt_two_pow (Nat.lt_of_lt_of_le h (Nat.pow_le_pow_right (by decide) (show n ≤ n + k by omega)))]
    exact Nat.xor_zero _
theorem act_pad' {n m p : Nat} (h : p < 2 ^ n) (hm : n ≤ m) (w : Nat) : act m p w = act n p w := by
  obtain ⟨k, rfl⟩ : ∃ k, m = n + k := ⟨m - n, by omega⟩
  exact act_pad h k w
theorem act_0 (n w : Nat) : act n 0 w = 0 := by
  rw [act_pad' (n := 0) (by decide) (by omega)]; rfl
theorem act_sh (a n p w : Nat) : act (a + n) (p <<< n) w = it n (act a p w) := by
  induction a with
  | zero =>
    rw [Nat.zero_add]
    have : ∀ k, k ≤ n → act k (p <<< n) w = 0 := fun k => by
      induction k with
      | zero => intro _; rfl
      | succ k ih =>
        intro hk
        show act k _ w ^^^ _ = 0
        rw [ih (by omega), Nat.testBit_shiftLeft, decide_eq_false (by omega)]; simp
    rw [this n (Nat.le_refl n)]; exact (it_zero n).symm
  | succ a ih =>
    rw [show a + 1 + n = (a + n) + 1 by omega]
    show act (a + n) _ w ^^^ _ = it n (act a p w ^^^ _)
    rw [ih, it_xor, Nat.testBit_shiftLeft, decide_eq_true (by omega), Bool.true_and, Nat.add_sub_cancel]
    cases p.testBit a
    · simp [it_zero]
    · simp only [if_true]; rw [← it_add, Nat.add_comm]
def cl (n p q : Nat) : Nat := Nat.rec 0 (fun i r => r ^^^ (p <<< i) * ((q >>> i) % 2)) n
theorem cl_succ (n p q : Nat) : cl (n + 1) p q = cl n p q ^^^ (p <<< n) * ((q >>> n) % 2) := rfl
theorem shl_lt {a p : Nat} (h : p < 2 ^ a) (n : Nat) : p <<< n < 2 ^ (a + n) := by
  rw [Nat.shiftLeft_eq, Nat.pow_add]; exact Nat.mul_lt_mul_of_pos_right h (Nat.two_pow_pos n)
theorem cl_lt {a p : Nat} (h : p < 2 ^ a) (q n : Nat) : cl n p q < 2 ^ (a + n) := by
  induction n with
  | zero => exact Nat.two_pow_pos a
  | succ n ih =>
    rw [cl_succ]
    refine Nat.xor_lt_two_pow (Nat.lt_of_lt_of_le ih (Nat.pow_le_pow_right (by decide) (by omega))) ?_
    rcases Nat.mod_two_eq_zero_or_one (q >>> n) with e | e
    · rw [e, Nat.mul_zero]; exact Nat.two_pow_pos _
    · rw [e, Nat.mul_one]; exact Nat.lt_of_lt_of_le (shl_lt h n) (Nat.pow_le_pow_right (by decide) (by omega))
theorem cl_act {a p : Nat} (h : p < 2 ^ a) (q n w : Nat) : act (a + n) (cl n p q) w = act n q (act a p w) := by
  induction n with
  | zero => exact act_0 _ w
  | succ n ih =>
    rw [cl_succ, act_p, show a + (n + 1) = (a + n) + 1 from rfl, act_pad (cl_lt h q n) 1, ih]
    show _ = act n q _ ^^^ _
    rw [Nat.testBit_eq_decide_div_mod_eq, ← Nat.shiftRight_eq_div_pow]
    rcases Nat.mod_two_eq_zero_or_one (q >>> n) with e | e
    · rw [e, Nat.mul_zero, act_0]; rfl
    · rw [e, Nat.mul_one, act_pad (shl_lt h n) 1, act_sh]; rfl
/-! the orbit of 1, by its list -/
def chain : List Nat → Bool
  | a :: b :: l => (Nat.beq (xT a) b) && chain (b :: l)
  | _ => true
def sel : List Nat → Nat → Nat → Nat
  | [], _, _ => 0
  | a :: l, i, p => a * ((p >>> i) % 2) ^^^ sel l (i + 1) p
theorem sel_act : ∀ (l : List Nat) (i p w : Nat), chain l = true → l.head? = some (it i w) ∨ l = [] → act (i + l.length) p w = act i p w ^^^ sel l i p
  | [], i, p, w, _, _ => (Nat.xor_zero _).symm
  | a :: l, i, p, w, hc, hh => by
    have ha : a = it i w := by rcases hh with h | h; exact Option.some.inj h; cases h
    have ih := sel_act l (i + 1) p w (by
      cases l with
      | nil => rfl
      | cons b l => exact (Bool.and_eq_true _ _ ▸ hc : _ ∧ _).2) (by
      cases l with
      | nil => exact Or.inr rfl
      | cons b l =>
        have := (Bool.and_eq_true _ _ ▸ hc : _ ∧ _).1
        have := Nat.eq_of_beq_eq_true this
        exact Or.inl (by rw [← this, ha]; rfl))
    rw [List.length_cons, show i + (l.length + 1) = i + 1 + l.length by omega, ih]
    show act i p w ^^^ (if p.testBit i then it i w else 0) ^^^ _ = act i p w ^^^ (a * ((p >>> i) % 2) ^^^ sel l (i + 1) p)
    rw [Nat.xor_assoc, ha]
    congr 2
    rw [Nat.testBit_eq_decide_div_mod_eq, ← Nat.shiftRight_eq_div_pow]
    rcases Nat.mod_two_eq_zero_or_one (p >>> i) with e | e
    · rw [e, Nat.mul_zero]; rfl
    · rw [e, Nat.mul_one]; rfl
def coOk : List Nat → Nat → Bool
  | [], _ => true
  | p :: l, j => Nat.beq (sel xoOrb 0 p) (2 ^ j) && coOk l (j + 1)
theorem coOk_spec : ∀ (l : List Nat) (j : Nat), coOk l j = true → ∀ i, i < l.length → ∃ p, sel xoOrb 0 p = 2 ^ (j + i)
  | [], _, _, i, h => nomatch h
  | p :: l, j, h, i, hi => by
    have h' := (Bool.and_eq_true _ _ ▸ h : _ ∧ _)
    cases i with
    | zero => exact ⟨p, Nat.eq_of_beq_eq_true h'.1⟩
    | succ i => obtain ⟨q, hq⟩ := coOk_spec l (j + 1) h'.2 i (by simpa using hi); exact ⟨q, by rw [hq]; congr 1; omega⟩
theorem orb_chain : chain xoOrb = true := by decide +kernel
theorem orb_len : xoOrb.length = 257 := by decide +kernel
theorem co_ok : coOk xoCo 0 = true := by decide +kernel
theorem co_len : xoCo.length = 256 := by decide +kernel
theorem poly_one : sel xoOrb 0 xoPoly = 0 := by decide +kernel
theorem act_one (p : Nat) : act 257 p 1 = sel xoOrb 0 p := by
  have := sel_act xoOrb 0 p 1 orb_chain (Or.inl rfl)
  rw [orb_len] at this
  rw [Nat.zero_add] at this
  rw [this]; exact Nat.zero_xor _
theorem CH_bit (j : Nat) (hj : j < 256) : act 257 xoPoly (2 ^ j) = 0 := by
  obtain ⟨p, hp⟩ := coOk_spec xoCo 0 co_ok j (by rw [co_len]; exact hj)
  rw [Nat.zero_add] at hp
  rw [← hp, ← act_one, act_comm, act_one xoPoly, poly_one, act_w0]
theorem CH_lt : ∀ (n : Nat), n ≤ 256 → ∀ v, v < 2 ^ n → act 257 xoPoly v = 0 := by
  intro n
  induction n with
  | zero => intro _ v hv; rw [show v = 0 by omega]; exact act_w0 _ _
  | succ n ih =>
    intro hn v hv
    cases hb : v.testBit n with
    | false =>
      refine ih (by omega) v (Nat.lt_pow_two_of_testBit v fun i hi => ?_)
      rcases Nat.eq_or_lt_of_le hi with e | e
      · rw [← e]; exact hb
      · exact Nat.testBit_lt_two_pow (Nat.lt_of_lt_of_le hv (Nat.pow_le_pow_right (by decide) e))
    | true =>
      have e : v = (v ^^^ 2 ^ n) ^^^ 2 ^ n := by rw [Nat.xor_assoc, Nat.xor_self, Nat.xor_zero]
      rw [e, act_w, CH_bit n (by omega), Nat.xor_zero]
      refine ih (by omega) _ (Nat.lt_pow_two_of_testBit _ fun i hi => ?_)
      rw [Nat.testBit_xor, Nat.testBit_two_pow]
      rcases Nat.eq_or_lt_of_le hi with e | e
      · rw [← e, hb]; simp
      · rw [Nat.testBit_lt_two_pow (Nat.lt_of_lt_of_le hv (Nat.pow_le_pow_right (by decide) e)), decide_eq_false (by omega)]; rfl
theorem CH (v : Nat) (h : v < 2 ^ 256) : act 257 xoPoly v = 0 := CH_lt 256 (Nat.le_refl _) v h
theorem poly_lt : xoPoly < 2 ^ 257 := by decide +kernel
theorem act_lt (n p : Nat) {w : Nat} (h : w < 2 ^ 256) : act n p w < 2 ^ 256 := by
  induction n with
  | zero => exact Nat.two_pow_pos _
  | succ n ih =>
    refine Nat.xor_lt_two_pow ih ?_
    split
    · exact it_lt n h
    · exact Nat.two_pow_pos _
theorem clP_act {k w : Nat} (hk : k < 2 ^ 256) (h : w < 2 ^ 256) : act (256 + 257) (cl 257 k xoPoly) w = 0 := by
  rw [cl_act hk xoPoly 257 w]; exact CH _ (act_lt _ _ h)
/-- one step of a power: y' = x^b * y * y -/
theorem step_ok {b k y y' e : Nat} (hb : b < 2) (hk : k < 2 ^ 256) (hy : y < 2 ^ 256) (hy' : y' < 2 ^ 256) (h : (cl 256 y y) <<< b = cl 257 k xoPoly ^^^ y') (ih : ∀ w, w < 2 ^ 256 → act 256 y w = it e w) : ∀ w, w < 2 ^ 256 → act 256 y' w = it (2 * e + b) w := by
  intro w hw
  have h1 : act 600 ((cl 256 y y) <<< b) w = it (2 * e + b) w := by
    rw [act_pad' (n := 256 + 256 + b) (shl_lt (cl_lt hy y 256) b) (by omega), act_sh, cl_act hy y 256 w, ih w hw, ih _ (it_lt e hw), ← it_add, ← it_add]
    congr 1; omega
  have h2 : act 600 (cl 257 k xoPoly ^^^ y') w = act 256 y' w := by
    rw [act_p, act_pad' (n := 256 + 257) (cl_lt hk xoPoly 257) (by omega), clP_act hk hw, Nat.zero_xor, act_pad' hy' (by omega)]
  rw [← h2, ← h, h1]
def chk : List (Nat × Nat × Nat) → Nat → Nat → Bool
  | [], y, z => Nat.beq y z
  | (b, k, y') :: l, y, z => (Nat.ble (b + 1) 2 && (Nat.ble (k + 1) (2 ^ 256) && (Nat.ble (y' + 1) (2 ^ 256) && Nat.beq ((cl 256 y y) <<< b) (cl 257 k xoPoly ^^^ y')))) && chk l y' z
def expo : List (Nat × Nat × Nat) → Nat → Nat
  | [], e => e
  | (b, _, _) :: l, e => expo l (2 * e + b)
theorem chk_spec : ∀ (l : List (Nat × Nat × Nat)) (y z e : Nat), chk l y z = true → y < 2 ^ 256 → (∀ w, w < 2 ^ 256 → act 256 y w = it e w) → z < 2 ^ 256 ∧ ∀ w, w < 2 ^ 256 → act 256 z w = it (expo l e) w
  | [], y, z, e, h, hy, ih => by rw [← Nat.eq_of_beq_eq_true h]; exact ⟨hy, ih⟩
  | (b, k, y') :: l, y, z, e, h, hy, ih => by
    simp only [chk, Bool.and_eq_true] at h
    obtain ⟨⟨h1, h2, h3, h4⟩, h5⟩ := h
    have hy' : y' < 2 ^ 256 := Nat.le_of_ble_eq_true h3
    exact chk_spec l y' z (2 * e + b) h5 hy' (step_ok (Nat.le_of_ble_eq_true h1) (Nat.le_of_ble_eq_true h2) hy hy' (Nat.eq_of_beq_eq_true h4) ih)
theorem act_1 (w : Nat) : act 256 1 w = it 0 w := by
  rw [act_pad' (n := 1) (by decide) (by decide)]
  show 0 ^^^ (if Nat.testBit 1 0 then it 0 w else 0) = _
  simp
theorem chN_ok : chk xoChN 1 1 = true := by decide +kernel
theorem chN_e : expo xoChN 0 = xoN := by decide +kernel
theorem chP_ok : chk xoChP 1 xoInvP.1 = true := by decide +kernel
theorem chP_e : expo xoChP 0 = xoP * (2 ^ 128 - 1) := by decide +kernel
theorem chQ_ok : chk xoChQ 1 xoInvQ.1 = true := by decide +kernel
theorem chQ_e : expo xoChQ 0 = xoQ * (2 ^ 128 - 1) := by decide +kernel
theorem itN (v : Nat) (h : v < 2 ^ 256) : it xoN v = v := by
  have := (chk_spec xoChN 1 1 0 chN_ok (by decide) fun w _ => act_1 w).2 v h
  rw [chN_e, act_1] at this; exact this.symm
theorem no_fix {y u k e : Nat} (hu : u < 2 ^ 256) (hk : k < 2 ^ 256) (h : cl 256 u (y ^^^ 1) = cl 257 k xoPoly ^^^ 1) (ih : ∀ w, w < 2 ^ 256 → act 256 y w = it e w) (v : Nat) (hv : v < 2 ^ 256) (hf : it e v = v) : v = 0 := by
  have h1 : act (256 + 257) (cl 256 u (y ^^^ 1)) v = 0 := by
    rw [act_pad' (n := 256 + 256) (cl_lt hu _ 256) (by omega), cl_act hu _ 256 v, act_comm, act_p, ih v hv, hf, act_1]
    rw [show it 0 v = v from rfl, Nat.xor_self, act_w0]
  rw [h, act_p, clP_act hk hv, Nat.zero_xor, act_pad' (n := 256) (by decide) (by omega), act_1] at h1
  exact h1
theorem invP_ok : cl 256 xoInvP.2.1 (xoInvP.1 ^^^ 1) = cl 257 xoInvP.2.2 xoPoly ^^^ 1 := by decide +kernel
theorem invQ_ok : cl 256 xoInvQ.2.1 (xoInvQ.1 ^^^ 1) = cl 257 xoInvQ.2.2 xoPoly ^^^ 1 := by decide +kernel
theorem noP (v : Nat) (hv : v < 2 ^ 256) (hf : it (xoP * (2 ^ 128 - 1)) v = v) : v = 0 := by
  have := chk_spec xoChP 1 _ 0 chP_ok (by decide) fun w _ => act_1 w
  exact no_fix (by decide +kernel) (by decide +kernel) invP_ok (fun w hw => this.2 w hw) v hv (by rw [chP_e]; exact hf)
theorem noQ (v : Nat) (hv : v < 2 ^ 256) (hf : it (xoQ * (2 ^ 128 - 1)) v = v) : v = 0 := by
  have := chk_spec xoChQ 1 _ 0 chQ_ok (by decide) fun w _ => act_1 w
  exact no_fix (by decide +kernel) (by decide +kernel) invQ_ok (fun w hw => this.2 w hw) v hv (by rw [chQ_e]; exact hf)
/-- no short cycle but that of 0 -/
theorem xo_cycle (v : Nat) (hv : v < 2 ^ 256) (i j : Nat) (hij : i < j) (hb : j - i ≤ 2 ^ 94) (h : it i v = it j v) : v = 0 := by
  have hN := itN v hv
  have N0 : 0 < xoN := by decide +kernel
  have h1 : it ((xoN - 1) * i + j) v = v := by
    rw [it_add, ← h, ← it_add]
    have : (xoN - 1) * i + i = xoN * i := by
      obtain ⟨m, hm⟩ : ∃ m, xoN = m + 1 := ⟨xoN - 1, by omega⟩
      rw [hm, Nat.add_sub_cancel, Nat.add_mul, Nat.one_mul]
    rw [this]; exact itf_mul xT hN i
  have e : (xoN - 1) * i + j = (j - i) + xoN * i := by
    obtain ⟨m, hm⟩ : ∃ m, xoN = m + 1 := ⟨xoN - 1, by omega⟩
    rw [hm, Nat.add_sub_cancel, Nat.add_mul, Nat.one_mul]; omega
  have h2 := itf_mod xT hN (by rw [e] at h1; exact h1)
  rw [Nat.add_mul_mod_self_left] at h2
  have h3 := itf_gcd xT _ _ h2 hN
  have hg : Nat.gcd ((j - i) % xoN) xoN = Nat.gcd xoN (j - i) := (Nat.gcd_rec xoN (j - i)).symm
  rw [hg] at h3
  have hd : Nat.gcd xoN (j - i) ≤ 2 ^ 94 := Nat.le_trans (Nat.le_of_dvd (by omega) (Nat.gcd_dvd_right _ _)) hb
  rcases xo_nt _ (Nat.gcd_dvd_left xoN (j - i)) (Nat.gcd_pos_of_pos_left _ N0) hd with q | q
  · exact noP v hv (itf_dvd xT h3 q)
  · exact noQ v hv (itf_dvd xT h3 q)
/-! the stream's state and its outputs -/
abbrev XS : Type := Int64 × Int64 × Int64 × Int64
def XS.s0 (s : XS) : Int64 := s.1
def XS.s1 (s : XS) : Int64 := s.2.1
def XS.s2 (s : XS) : Int64 := s.2.2.1
def XS.s3 (s : XS) : Int64 := s.2.2.2
theorem XS.same {u v : XS} (h0 : u.s0 = v.s0) (h1 : u.s1 = v.s1) (h2 : u.s2 = v.s2) (h3 : u.s3 = v.s3) : u = v := by
  obtain ⟨a, b, c, d⟩ := u
  obtain ⟨a', b', c', d'⟩ := v
  have e0 : a = a' := h0; have e1 : b = b' := h1; have e2 : c = c' := h2; have e3 : d = d' := h3
  subst e0 e1 e2 e3; rfl
def own_rotl (x : Int64) (k : Int32) : Int64 := (x <<< (k &&& 0x3f).toInt64) ||| ((x.toUInt64 >>> ((-k) &&& 0x3f).toInt64.toUInt64).toInt64)
def xout (s : XS) : Int64 := own_rotl (s.s0 + s.s3) 23 + s.s0
def xstep (s : XS) : XS := ⟨s.s0 ^^^ (s.s3 ^^^ s.s1), s.s1 ^^^ (s.s2 ^^^ s.s0), (s.s2 ^^^ s.s0) ^^^ (s.s1 <<< ((17 : Int32) &&& 0x3f).toInt64), own_rotl (s.s3 ^^^ s.s1) 45⟩
def xit (n : Nat) (s : XS) : XS := Nat.rec s (fun _ r => xstep r) n
theorem xit_succ (n : Nat) (s : XS) : xit (n + 1) s = xstep (xit n s) := rfl
theorem xit_succ' (n : Nat) (s : XS) : xit (n + 1) s = xit n (xstep s) := by
  induction n with
  | zero => rfl
  | succ n ih => show xstep (xit (n + 1) s) = _; rw [ih]; rfl
def tn (x : Int64) : Nat := x.toBitVec.toNat
theorem tn_lt (x : Int64) : tn x < 2 ^ 64 := x.toBitVec.isLt
theorem tn_inj {x y : Int64} (h : tn x = tn y) : x = y := Int64.toBitVec.inj (BitVec.eq_of_toNat_eq h)
theorem tn_xor (x y : Int64) : tn (x ^^^ y) = tn x ^^^ tn y := by simp [tn]
theorem tn_shl17 (x : Int64) : tn (x <<< ((17 : Int32) &&& 0x3f).toInt64) = (tn x <<< 17) % 2 ^ 64 := by
  have : (x <<< ((17 : Int32) &&& 0x3f).toInt64).toBitVec = x.toBitVec <<< 17 := by simp [Int64.toBitVec_shiftLeft]
  unfold tn; rw [this, BitVec.toNat_shiftLeft]
theorem rotl23 (x : Int64) : (own_rotl x 23).toBitVec = x.toBitVec <<< 23 ||| x.toBitVec >>> 41 := by
  unfold own_rotl
  rw [Int64.toBitVec_or]
  congr 1
theorem rotl45 (x : Int64) : (own_rotl x 45).toBitVec = x.toBitVec <<< 45 ||| x.toBitVec >>> 19 := by
  unfold own_rotl
  rw [Int64.toBitVec_or]
  congr 1
theorem rot_nat (x : BitVec 64) (a : Nat) (ha : a ≤ 64) : (x <<< a ||| x >>> (64 - a)).toNat = (x.toNat <<< a) % 2 ^ 64 ^^^ x.toNat >>> (64 - a) := by
  rw [BitVec.toNat_or, BitVec.toNat_shiftLeft, BitVec.toNat_ushiftRight]
  apply Nat.eq_of_testBit_eq
  intro i
  rw [Nat.testBit_or, Nat.testBit_xor, Nat.testBit_mod_two_pow, Nat.testBit_shiftLeft, Nat.testBit_shiftRight]
  by_cases h : a ≤ i
  · have : x.toNat.testBit (64 - a + i) = false := Nat.testBit_lt_two_pow (Nat.lt_of_lt_of_le x.isLt (Nat.pow_le_pow_right (by decide) (by omega)))
    rw [this]; simp
  · rw [decide_eq_false h]; simp
theorem tn_rotl45 (x : Int64) : tn (own_rotl x 45) = (tn x <<< 45) % 2 ^ 64 ^^^ tn x >>> 19 := by
  unfold tn; rw [rotl45]; exact rot_nat _ 45 (by decide)
/-- a turned word tells the word -/
theorem rot_inj (x y : BitVec 64) (a : Nat) (ha : a ≤ 64) (h : x <<< a ||| x >>> (64 - a) = y <<< a ||| y >>> (64 - a)) : x = y := by
  apply BitVec.eq_of_getLsbD_eq
  intro i hi
  by_cases q : i + a < 64
  · have := congrArg (fun z : BitVec 64 => z.getLsbD (i + a)) h
    simp only [BitVec.getLsbD_or, BitVec.getLsbD_shiftLeft, BitVec.getLsbD_ushiftRight] at this
    rw [BitVec.getLsbD_of_ge x (64 - a + (i + a)) (by omega), BitVec.getLsbD_of_ge y (64 - a + (i + a)) (by omega)] at this
    simpa [q, show ¬ (i + a < a) by omega] using this
  · have := congrArg (fun z : BitVec 64 => z.getLsbD (i + a - 64)) h
    simp only [BitVec.getLsbD_or, BitVec.getLsbD_shiftLeft, BitVec.getLsbD_ushiftRight] at this
    rw [show 64 - a + (i + a - 64) = i by omega] at this
    simpa [show i + a - 64 < a by omega] using this
theorem rotl23_inj {x y : Int64} (h : own_rotl x 23 = own_rotl y 23) : x = y := by
  have := congrArg Int64.toBitVec h
  rw [rotl23, rotl23] at this
  exact Int64.toBitVec.inj (rot_inj _ _ 23 (by decide) this)
theorem rotl45_inj {x y : Int64} (h : own_rotl x 45 = own_rotl y 45) : x = y := by
  have := congrArg Int64.toBitVec h
  rw [rotl45, rotl45] at this
  exact Int64.toBitVec.inj (rot_inj _ _ 45 (by decide) this)
theorem add_inj64 {a b c : Int64} (h : a + c = b + c) : a = b := by
  have := congrArg (· - c) h; simpa [Int64.add_sub_cancel] using this
theorem add_injl {a b c : Int64} (h : c + a = c + b) : a = b := by
  rw [Int64.add_comm c a, Int64.add_comm c b] at h; exact add_inj64 h
theorem xor_injl {a b c : Int64} (h : c ^^^ a = c ^^^ b) : a = b := by
  have := congrArg (c ^^^ ·) h
  simpa [← Int64.xor_assoc] using this
theorem xor_injr {a b c : Int64} (h : a ^^^ c = b ^^^ c) : a = b := by
  rw [Int64.xor_comm a, Int64.xor_comm b] at h; exact xor_injl h
theorem s3_of_out {u v : XS} (h0 : u.s0 = v.s0) (h : xout u = xout v) : u.s3 = v.s3 := by
  unfold xout at h
  rw [h0] at h
  exact add_injl (rotl23_inj (add_inj64 h))
/-- the step's new s0 and s3 tell the old s0 and s3 ^ s1 -/
theorem step_back {u v : XS} (h0 : (xstep u).s0 = (xstep v).s0) (h3 : (xstep u).s3 = (xstep v).s3) : u.s0 = v.s0 ∧ u.s3 ^^^ u.s1 = v.s3 ^^^ v.s1 := by
  have e : u.s3 ^^^ u.s1 = v.s3 ^^^ v.s1 := rotl45_inj h3
  refine ⟨?_, e⟩
  have h0' : u.s0 ^^^ (u.s3 ^^^ u.s1) = v.s0 ^^^ (v.s3 ^^^ v.s1) := h0
  rw [e] at h0'; exact xor_injr h0'
theorem state_of (u v : XS) (o0 : xout u = xout v) (o1 : xout (xstep u) = xout (xstep v)) (o2 : xout (xstep (xstep u)) = xout (xstep (xstep v))) (h : (xstep (xstep u)).s0 = (xstep (xstep v)).s0) : u = v := by
  have a := s3_of_out h o2
  obtain ⟨b0, b1⟩ := step_back h a
  have b3 := s3_of_out b0 o1
  rw [b3] at b1
  have b1' := xor_injl b1
  obtain ⟨c0, c1⟩ := step_back b0 b3
  have c3 := s3_of_out c0 o0
  rw [c3] at c1
  have c1' := xor_injl c1
  have d : u.s1 ^^^ (u.s2 ^^^ u.s0) = v.s1 ^^^ (v.s2 ^^^ v.s0) := b1'
  rw [c1', c0] at d
  have c2 := xor_injr (xor_injl d)
  exact XS.same c0 c1' c2 c3
/-! the link to the 256-bit number -/
def xw (s : XS) : Nat := pk (tn s.s0) (tn s.s1) (tn s.s2) (tn s.s3)
theorem shr0 {a k : Nat} (h : a < 2 ^ 64) (hk : 64 ≤ k) : a >>> k = 0 := by
  rw [Nat.shiftRight_eq_div_pow]; exact Nat.div_eq_of_lt (Nat.lt_of_lt_of_le h (Nat.pow_le_pow_right (by decide) hk))
theorem shl_mod (a k : Nat) (hk : 64 ≤ k) : (a <<< k) % 2 ^ 64 = 0 := by
  rw [Nat.shiftLeft_eq]
  obtain ⟨m, rfl⟩ : ∃ m, k = 64 + m := ⟨k - 64, by omega⟩
  rw [Nat.pow_add, ← Nat.mul_assoc, Nat.mul_right_comm, Nat.mul_mod_left]
theorem shl_shr (a j k : Nat) (h : j ≤ k) : (a <<< k) >>> j = a <<< (k - j) := by
  rw [Nat.shiftLeft_eq, Nat.shiftRight_eq_div_pow, Nat.shiftLeft_eq]
  obtain ⟨m, rfl⟩ : ∃ m, k = m + j := ⟨k - j, by omega⟩
  rw [Nat.pow_add, ← Nat.mul_assoc, Nat.mul_div_cancel _ (Nat.two_pow_pos j), Nat.add_sub_cancel]
theorem shl_shr' (a j k : Nat) (ha : a < 2 ^ 64) (h : k + 64 ≤ j) : (a <<< k) >>> j = 0 := by
  rw [Nat.shiftLeft_eq, Nat.shiftRight_eq_div_pow]
  refine Nat.div_eq_of_lt ?_
  calc a * 2 ^ k < 2 ^ 64 * 2 ^ k := Nat.mul_lt_mul_of_pos_right ha (Nat.two_pow_pos k)
    _ = 2 ^ (k + 64) := by rw [← Nat.pow_add, Nat.add_comm]
    _ ≤ 2 ^ j := Nat.pow_le_pow_right (by decide) h
theorem x0_pk {a b c d : Nat} (ha : a < 2 ^ 64) (hb : b < 2 ^ 64) (hc : c < 2 ^ 64) (hd : d < 2 ^ 64) : x0 (pk a b c d) = a := by
  unfold x0 pk
  rw [m64_xor, m64_xor, m64_xor, shl_mod b 64 (by decide), shl_mod c 128 (by decide), shl_mod d 192 (by decide), Nat.mod_eq_of_lt ha, Nat.xor_zero, Nat.xor_zero, Nat.xor_zero]
theorem x1_pk {a b c d : Nat} (ha : a < 2 ^ 64) (hb : b < 2 ^ 64) (hc : c < 2 ^ 64) (hd : d < 2 ^ 64) : x1 (pk a b c d) = b := by
  unfold x1 pk
  rw [Nat.shiftRight_xor_distrib, Nat.shiftRight_xor_distrib, Nat.shiftRight_xor_distrib, shr0 ha (by decide), shl_shr b 64 64 (by decide), shl_shr c 64 128 (by decide), shl_shr d 64 192 (by decide), m64_xor, m64_xor, m64_xor, shl_mod c _ (by decide), shl_mod d _ (by decide), Nat.sub_self, Nat.shiftLeft_zero, Nat.mod_eq_of_lt hb, Nat.zero_mod, Nat.zero_xor, Nat.xor_zero, Nat.xor_zero]
theorem x2_pk {a b c d : Nat} (ha : a < 2 ^ 64) (hb : b < 2 ^ 64) (hc : c < 2 ^ 64) (hd : d < 2 ^ 64) : x2 (pk a b c d) = c := by
  unfold x2 pk
  rw [Nat.shiftRight_xor_distrib, Nat.shiftRight_xor_distrib, Nat.shiftRight_xor_distrib, shr0 ha (by decide), shl_shr' b 128 64 hb (by decide), shl_shr c 128 128 (by decide), shl_shr d 128 192 (by decide), m64_xor, m64_xor, m64_xor, shl_mod d _ (by decide), Nat.sub_self, Nat.shiftLeft_zero, Nat.mod_eq_of_lt hc, Nat.zero_mod, Nat.zero_xor, Nat.zero_xor, Nat.xor_zero]
theorem x3_pk {a b c d : Nat} (ha : a < 2 ^ 64) (hb : b < 2 ^ 64) (hc : c < 2 ^ 64) (hd : d < 2 ^ 64) : x3 (pk a b c d) = d := by
  unfold x3 pk
  rw [Nat.shiftRight_xor_distrib, Nat.shiftRight_xor_distrib, Nat.shiftRight_xor_distrib, shr0 ha (by decide), shl_shr' b 192 64 hb (by decide), shl_shr' c 192 128 hc (by decide), shl_shr d 192 192 (by decide), Nat.sub_self, Nat.shiftLeft_zero, Nat.zero_xor, Nat.zero_xor, Nat.zero_xor, Nat.mod_eq_of_lt hd]
theorem xw_lt (s : XS) : xw s < 2 ^ 256 := pk_lt (tn_lt _) (tn_lt _) (tn_lt _) (tn_lt _)
theorem xw_step (s : XS) : xw (xstep s) = xT (xw s) := by
  have e : xw (xstep s) = pk (tn (s.s0 ^^^ (s.s3 ^^^ s.s1))) (tn (s.s1 ^^^ (s.s2 ^^^ s.s0))) (tn ((s.s2 ^^^ s.s0) ^^^ (s.s1 <<< ((17 : Int32) &&& 0x3f).toInt64))) (tn (own_rotl (s.s3 ^^^ s.s1) 45)) := rfl
  rw [e]
  unfold xT xw
  rw [x0_pk (tn_lt _) (tn_lt _) (tn_lt _) (tn_lt _), x1_pk (tn_lt _) (tn_lt _) (tn_lt _) (tn_lt _), x2_pk (tn_lt _) (tn_lt _) (tn_lt _) (tn_lt _), x3_pk (tn_lt _) (tn_lt _) (tn_lt _) (tn_lt _)]
  unfold xT4
  simp only [tn_xor, tn_rotl45, tn_shl17]
theorem xw_it (n : Nat) (s : XS) : xw (xit n s) = it n (xw s) := by
  induction n with
  | zero => rfl
  | succ n ih => show xw (xstep (xit n s)) = xT (it n (xw s)); rw [xw_step, ih]
theorem xw_zero {s : XS} (h : xw s = 0) : s = ⟨0, 0, 0, 0⟩ := by
  have z0 := x0_pk (tn_lt s.s0) (tn_lt s.s1) (tn_lt s.s2) (tn_lt s.s3)
  have z1 := x1_pk (tn_lt s.s0) (tn_lt s.s1) (tn_lt s.s2) (tn_lt s.s3)
  have z2 := x2_pk (tn_lt s.s0) (tn_lt s.s1) (tn_lt s.s2) (tn_lt s.s3)
  have z3 := x3_pk (tn_lt s.s0) (tn_lt s.s1) (tn_lt s.s2) (tn_lt s.s3)
  have h' : pk (tn s.s0) (tn s.s1) (tn s.s2) (tn s.s3) = 0 := h
  rw [h'] at z0 z1 z2 z3
  have k : ∀ x : Int64, 0 = tn x → x = 0 := fun x hx => tn_inj (hx.symm.trans rfl)
  exact XS.same (k _ z0) (k _ z1) (k _ z2) (k _ z3)
theorem pigeon : ∀ (K : Nat) (f : Nat → Nat), (∀ n, n ≤ K → f n < K) → ∃ i j, i < j ∧ j ≤ K ∧ f i = f j := by
  intro K
  induction K with
  | zero => intro f h; exact absurd (h 0 (Nat.le_refl 0)) (Nat.not_lt_zero _)
  | succ K ih =>
    intro f h
    by_cases q : ∃ i, i ≤ K ∧ f i = f (K + 1)
    · obtain ⟨i, hi, e⟩ := q; exact ⟨i, K + 1, by omega, Nat.le_refl _, e⟩
    · have q' : ∀ i, i ≤ K → f i ≠ f (K + 1) := fun i hi e => q ⟨i, hi, e⟩
      obtain ⟨i, j, hij, hj, e⟩ := ih (fun n => if f n = K then f (K + 1) else f n) (fun n hn => by
        have h1 := h n (by omega); have h2 := h (K + 1) (Nat.le_refl _); have h3 := q' n hn
        split <;> omega)
      refine ⟨i, j, hij, by omega, ?_⟩
      have g1 := q' i (by omega); have g2 := q' j hj
      split at e <;> split at e <;> omega
theorem code_lt {x a b c : Nat} (hx : x < 2 ^ 64) (ha : a < 1024) (hb : b < 1024) (hc : c < 1024) : ((x * 1024 + a) * 1024 + b) * 1024 + c < 2 ^ 94 := by omega
theorem code_inj {x a b c x' a' b' c' : Nat} (ha : a < 1024) (hb : b < 1024) (hc : c < 1024) (ha' : a' < 1024) (hb' : b' < 1024) (hc' : c' < 1024) (h : ((x * 1024 + a) * 1024 + b) * 1024 + c = ((x' * 1024 + a') * 1024 + b') * 1024 + c') : x = x' ∧ a = a' ∧ b = b' ∧ c = c' := by omega
/-- the outputs don't all lie among the 1024 highest -/
theorem xo_leaves (s : XS) : ∃ n, tn (xout (xit n s)) < 2 ^ 64 - 1024 := by
  refine Classical.byContradiction fun hno => ?_
  have hall : ∀ n, 2 ^ 64 - 1024 ≤ tn (xout (xit n s)) := fun n => Nat.le_of_not_lt fun q => hno ⟨n, q⟩
  obtain ⟨g, hg, hgi⟩ : ∃ g : Nat → Nat, (∀ n, g n < 1024) ∧ ∀ i j, g i = g j → xout (xit i s) = xout (xit j s) := by
    refine ⟨fun n => tn (xout (xit n s)) - (2 ^ 64 - 1024), fun n => ?_, fun i j e => tn_inj ?_⟩
    · have := tn_lt (xout (xit n s)); show _ - _ < _; omega
    · have h1 := hall i; have h2 := hall j
      have e' : tn (xout (xit i s)) - (2 ^ 64 - 1024) = tn (xout (xit j s)) - (2 ^ 64 - 1024) := e
      omega
  obtain ⟨K, hK⟩ : ∃ K : Nat, K = 2 ^ 94 := ⟨_, rfl⟩
  obtain ⟨i, j, hij, hj, e⟩ := pigeon K (fun n => ((tn (xit (n + 2) s).s0 * 1024 + g n) * 1024 + g (n + 1)) * 1024 + g (n + 2)) (fun n _ => by
    rw [hK]; exact code_lt (tn_lt _) (hg n) (hg (n + 1)) (hg (n + 2)))
  obtain ⟨e4, e3, e2, e1⟩ := code_inj (hg i) (hg (i + 1)) (hg (i + 2)) (hg j) (hg (j + 1)) (hg (j + 2)) e
  have o1 := hgi _ _ e2; have o2 := hgi _ _ e1; have o3 := tn_inj e4
  rw [xit_succ, xit_succ] at o1
  rw [xit_succ (i + 1), xit_succ i, xit_succ (j + 1), xit_succ j] at o2 o3
  have hs : xit i s = xit j s := state_of (xit i s) (xit j s) (hgi i j e3) o1 o2 o3
  have hw : it i (xw s) = it j (xw s) := by rw [← xw_it, ← xw_it, hs]
  have hz := xo_cycle (xw s) (xw_lt s) i j hij (by rw [← hK]; omega) hw
  have h0 := hall 0
  rw [show xit 0 s = s from rfl, xw_zero hz] at h0
  exact absurd h0 (by decide +kernel)
/-- where the loop of nextInt goes on -/
def xrej (sp : Int64) (s : XS) : Prop := (9223372036854775807 : Int64) - sp < ((xout s).toUInt64 >>> ((1 : Int32) &&& 0x3f).toInt64.toUInt64).toInt64
theorem xo_ends (sp : Int64) (h0 : 0 ≤ sp.toInt) (h1 : sp.toInt < 512) (s : XS) : ∃ n, ¬ xrej sp (xit n s) := by
  obtain ⟨n, hn⟩ := xo_leaves s
  refine ⟨n, fun h => ?_⟩
  unfold xrej at h
  generalize xout (xit n s) = o at h hn
  rw [Int64.lt_iff_toInt_lt, Int64.toInt_sub, show (9223372036854775807 : Int64).toInt = 9223372036854775807 from rfl, Int.bmod_eq_of_le (by omega) (by omega)] at h
  have e : ((o.toUInt64 >>> ((1 : Int32) &&& 0x3f).toInt64.toUInt64).toInt64).toBitVec = o.toBitVec >>> 1 := by simp
  have e2 : ((o.toUInt64 >>> ((1 : Int32) &&& 0x3f).toInt64.toUInt64).toInt64).toInt = ((tn o / 2 : Nat) : Int) := by
    rw [← Int64.toInt_toBitVec, e, BitVec.toInt_eq_toNat_of_msb, BitVec.toNat_ushiftRight, Nat.shiftRight_eq_div_pow]
    · rfl
    · rw [BitVec.msb_eq_false_iff_two_mul_lt, BitVec.toNat_ushiftRight, Nat.shiftRight_eq_div_pow]
      have := o.toBitVec.isLt; omega
  rw [e2] at h
  omega
end XoPart
theorem own_ofNat_toInt {a : Nat} (h : a < 1024) : (Int32.ofNat a).toInt = a := Int32.toInt_ofNat_of_lt (by omega)
theorem own_lt {a b : Nat} (ha : a < 1024) (hb : b < 1024) : (Int32.ofNat a < Int32.ofNat b) ↔ a < b := by
  rw [Int32.lt_iff_toInt_lt, own_ofNat_toInt ha, own_ofNat_toInt hb]; omega
theorem own_lrem {x b : Int64} (hx : 0 ≤ x.toInt) (hb : 0 < b.toInt) : (x - (x / b) * b).toInt = x.toInt % b.toInt := by
  have hd : (x / b).toInt = x.toInt / b.toInt := by
    rw [Int64.toInt_div_of_ne_right (a := x) (b := b) (by intro q; rw [q] at hb; exact absurd hb (by decide))]
    exact Int.tdiv_eq_ediv_of_nonneg hx
  have hxl := Int64.toInt_lt x
  have e1 : x.toInt / b.toInt * b.toInt ≤ x.toInt := Int.ediv_mul_le _ (by omega)
  have e0 : 0 ≤ x.toInt / b.toInt := Int.ediv_nonneg hx (by omega)
  have e2 : 0 ≤ x.toInt / b.toInt * b.toInt := Int.mul_nonneg e0 (by omega)
  have hm : ((x / b) * b).toInt = x.toInt / b.toInt * b.toInt := by
    rw [Int64.toInt_mul, hd]; exact Int.bmod_eq_of_le (by omega) (by omega)
  rw [Int64.toInt_sub, hm, Int.bmod_eq_of_le (by omega) (by omega), Int.emod_def, Int.mul_comm b.toInt]
def own_sp (b : Int64) : Int64 := ((((9223372036854775807 : Int64) - ((9223372036854775807 : Int64) / b) * b) + (1 : Int64)) - ((((9223372036854775807 : Int64) - ((9223372036854775807 : Int64) / b) * b) + (1 : Int64)) / b) * b)
theorem own_sp_in {b : Int64} (h0 : 0 < b.toInt) (h1 : b.toInt ≤ 512) : 0 ≤ (own_sp b).toInt ∧ (own_sp b).toInt < 512 := by
  have m : (9223372036854775807 : Int64).toInt = 9223372036854775807 := rfl
  have a := own_lrem (x := 9223372036854775807) (by rw [m]; decide) h0
  have a0 := Int.emod_nonneg (9223372036854775807 : Int64).toInt (show b.toInt ≠ 0 by omega)
  have a1 := Int.emod_lt_of_pos (9223372036854775807 : Int64).toInt h0
  have one : (1 : Int64).toInt = 1 := rfl
  have s : (((9223372036854775807 : Int64) - ((9223372036854775807 : Int64) / b) * b) + (1 : Int64)).toInt = (9223372036854775807 : Int64).toInt % b.toInt + 1 := by
    rw [Int64.toInt_add, a, one]; exact Int.bmod_eq_of_le (by omega) (by omega)
  unfold own_sp
  rw [own_lrem (by rw [s]; omega) h0]
  have c0 := Int.emod_nonneg ((((9223372036854775807 : Int64) - ((9223372036854775807 : Int64) / b) * b) + (1 : Int64)).toInt) (show b.toInt ≠ 0 by omega)
  have c1 := Int.emod_lt_of_pos ((((9223372036854775807 : Int64) - ((9223372036854775807 : Int64) / b) * b) + (1 : Int64)).toInt) h0
  omega
/-- the small numbers of a shape -/
def Small (nn kk oo : Nat) : Prop := 1 ≤ nn ∧ nn ≤ 8 ∧ kk ≤ 3 ∧ kk < nn ∧ 2 ≤ oo ∧ oo ≤ 3
theorem Small.n1 {nn kk oo : Nat} (s : Small nn kk oo) : 1 ≤ nn := s.1
theorem Small.n8 {nn kk oo : Nat} (s : Small nn kk oo) : nn ≤ 8 := s.2.1
theorem Small.k3 {nn kk oo : Nat} (s : Small nn kk oo) : kk ≤ 3 := s.2.2.1
theorem Small.kn {nn kk oo : Nat} (s : Small nn kk oo) : kk < nn := s.2.2.2.1
theorem Small.o2 {nn kk oo : Nat} (s : Small nn kk oo) : 2 ≤ oo := s.2.2.2.2.1
theorem Small.o3 {nn kk oo : Nat} (s : Small nn kk oo) : oo ≤ 3 := s.2.2.2.2.2
def own_W (kk : Nat) : Nat := 2 ^ (kk + 1)
theorem own_shl1 {kk : Nat} (h : kk ≤ 3) : (1 : Int32) <<< ((Int32.ofNat kk + (1 : Int32)) &&& 31) = Int32.ofNat (own_W kk) := by
  have : kk = 0 ∨ kk = 1 ∨ kk = 2 ∨ kk = 3 := by omega
  rcases this with rfl | rfl | rfl | rfl <;> decide
theorem own_shl {kk t : Nat} (h : kk ≤ 3) (ht : t ≤ 24) : (Int32.ofNat t) <<< ((Int32.ofNat kk + (1 : Int32)) &&& 31) = Int32.ofNat (t * own_W kk) := by
  have h1 : ∀ k : Fin 4, ∀ t : Fin 25, (Int32.ofNat t.1) <<< ((Int32.ofNat k.1 + (1 : Int32)) &&& 31) = Int32.ofNat (t.1 * own_W k.1) := by decide +kernel
  exact h1 ⟨kk, by omega⟩ ⟨t, by omega⟩
theorem own_W_le {kk : Nat} (h : kk ≤ 3) : 2 ≤ own_W kk ∧ own_W kk ≤ 16 := by
  have : kk = 0 ∨ kk = 1 ∨ kk = 2 ∨ kk = 3 := by omega
  rcases this with rfl | rfl | rfl | rfl <;> decide
theorem own_len {nn kk oo : Nat} (s : Small nn kk oo) : (Int32.ofNat nn * Int32.ofNat oo) <<< ((Int32.ofNat kk + (1 : Int32)) &&& 31) = Int32.ofNat (nn * oo * own_W kk) := by
  have : Int32.ofNat nn * Int32.ofNat oo = Int32.ofNat (nn * oo) := (Int32.ofNat_mul nn oo).symm
  rw [this]; refine own_shl s.k3 ?_
  exact Nat.mul_le_mul s.n8 s.o3
theorem own_place {kk oo o l : Nat} (hk : kk ≤ 3) (ho : o < oo) (hl : l ≤ 7) (h3 : oo ≤ 3) : (Int32.ofNat l * Int32.ofNat oo + Int32.ofNat o) <<< ((Int32.ofNat kk + (1 : Int32)) &&& 31) = Int32.ofNat ((l * oo + o) * own_W kk) := by
  have : Int32.ofNat l * Int32.ofNat oo + Int32.ofNat o = Int32.ofNat (l * oo + o) := by rw [Int32.ofNat_add, Int32.ofNat_mul]
  rw [this]; refine own_shl hk ?_
  have := Nat.mul_le_mul hl h3; omega
theorem own_or_lt (t i r : Nat) (hr : r < 2 ^ i) : t * 2 ^ i ||| r = t * 2 ^ i + r := by
  have := Nat.shiftLeft_add_eq_or_of_lt hr t
  rw [Nat.shiftLeft_eq] at this; exact this.symm
/-- what is left of a word behind a shift by 31 - k -/
theorem own_tail {kk : Nat} (h : kk ≤ 3) (x : Int32) : ∃ r, r < own_W kk ∧ ((x.toUInt32 >>> (((32 : Int32) - (Int32.ofNat kk + (1 : Int32))) &&& 31).toUInt32).toInt32) = Int32.ofNat r := by
  have key : ∀ (sh : Nat) (hs : 1 ≤ sh ∧ sh ≤ 31) (y : UInt32) (hy : y.toNat = sh), ((x.toUInt32 >>> y).toInt32) = Int32.ofNat (x.toUInt32.toNat / 2 ^ sh) := fun sh hs y hy => by
    apply Int32.toBitVec.inj
    apply BitVec.eq_of_toNat_eq
    show (x.toUInt32 >>> y).toBitVec.toNat = _
    rw [show (x.toUInt32 >>> y).toBitVec.toNat = (x.toUInt32 >>> y).toNat from rfl, UInt32.toNat_shiftRight, hy, Nat.mod_eq_of_lt (by omega), Nat.shiftRight_eq_div_pow]
    rw [Int32.toBitVec_ofNat', BitVec.toNat_ofNat, Nat.mod_eq_of_lt]
    exact Nat.lt_of_le_of_lt (Nat.div_le_self _ _) (UInt32.toNat_lt _)
  have hx := x.toUInt32.toNat_lt
  have : kk = 0 ∨ kk = 1 ∨ kk = 2 ∨ kk = 3 := by omega
  rcases this with rfl | rfl | rfl | rfl
  · exact ⟨_, by show _ < 2; omega, key 31 (by decide) _ (by decide)⟩
  · exact ⟨_, by show _ < 4; omega, key 30 (by decide) _ (by decide)⟩
  · exact ⟨_, by show _ < 8; omega, key 29 (by decide) _ (by decide)⟩
  · exact ⟨_, by show _ < 16; omega, key 28 (by decide) _ (by decide)⟩
theorem own_ofNat_or (a b : Nat) : Int32.ofNat a ||| Int32.ofNat b = Int32.ofNat (a ||| b) := by
  apply Int32.toBitVec.inj
  apply BitVec.eq_of_toNat_eq
  rw [Int32.toBitVec_or, BitVec.toNat_or, Int32.toBitVec_ofNat', Int32.toBitVec_ofNat', Int32.toBitVec_ofNat', BitVec.toNat_ofNat, BitVec.toNat_ofNat, BitVec.toNat_ofNat, Nat.or_mod_two_pow]
theorem own_index {nn kk oo o l : Nat} (s : Small nn kk oo) (ho : o < oo) (hl : l < nn) (x : Int32) : ∃ i, i < nn * oo * own_W kk ∧ i < 384 ∧ (Int32.ofNat ((l * oo + o) * own_W kk) ||| ((x.toUInt32 >>> (((32 : Int32) - (Int32.ofNat kk + (1 : Int32))) &&& 31).toUInt32).toInt32)) = Int32.ofNat i := by
  obtain ⟨r, hr, e⟩ := own_tail s.k3 x
  refine ⟨(l * oo + o) * own_W kk + r, ?_, ?_, ?_⟩
  · have h1 : l * oo + o + 1 ≤ nn * oo := by
      have := Nat.mul_le_mul_right oo (show l + 1 ≤ nn from hl)
      rw [Nat.add_mul, Nat.one_mul] at this; omega
    have h2 := Nat.mul_le_mul_right (own_W kk) h1
    rw [Nat.add_mul (l * oo + o), Nat.one_mul] at h2; omega
  · have h1 : l * oo + o + 1 ≤ 24 := by
      have := Nat.mul_le_mul (show l + 1 ≤ 8 from Nat.le_trans hl s.n8) s.o3
      have e2 : (l + 1) * oo = l * oo + oo := by rw [Nat.add_mul, Nat.one_mul]
      omega
    have h2 := Nat.mul_le_mul h1 (own_W_le s.k3).2
    rw [Nat.add_mul (l * oo + o), Nat.one_mul] at h2; omega
  · rw [e, own_ofNat_or]; unfold own_W at hr ⊢; rw [own_or_lt _ _ _ hr]
theorem own_clamp {i : Nat} (h : i < 1024) : (Int32.ofNat i).toNatClampNeg = i := by
  simp only [Int32.toNatClampNeg, own_ofNat_toInt h]; rfl
/-- (sub + j) mod n as entry reckons it -/
theorem own_wrap {n s j : Nat} (hn : n ≤ 8) (hs : s < n) (hj : j < n) (hj3 : j ≤ 3) : (Int32.ofNat s + Int32.ofNat j) % Int32.ofNat n = if Int32.ofNat s + Int32.ofNat j < Int32.ofNat n then Int32.ofNat s + Int32.ofNat j else Int32.ofNat s + Int32.ofNat j - Int32.ofNat n := by
  have h1 : ∀ n : Fin 9, ∀ s : Fin 8, ∀ j : Fin 4, s.1 < n.1 → j.1 < n.1 → (Int32.ofNat s.1 + Int32.ofNat j.1) % Int32.ofNat n.1 = if Int32.ofNat s.1 + Int32.ofNat j.1 < Int32.ofNat n.1 then Int32.ofNat s.1 + Int32.ofNat j.1 else Int32.ofNat s.1 + Int32.ofNat j.1 - Int32.ofNat n.1 := by decide +kernel
  exact h1 ⟨n, by omega⟩ ⟨s, by omega⟩ ⟨j, by omega⟩ hs hj
theorem own_mask (x : Int32) (m : Nat) (hm : m < 10) : ∃ a, a < 2 ^ m ∧ x &&& Int32.ofNat (2 ^ m - 1) = Int32.ofNat a := by
  have hp : 2 ^ m ≤ 1024 := Nat.pow_le_pow_right (by decide) (by omega : m ≤ 10)
  refine ⟨x.toBitVec.toNat % 2 ^ m, Nat.mod_lt _ (Nat.two_pow_pos m), ?_⟩
  apply Int32.toBitVec.inj
  apply BitVec.eq_of_toNat_eq
  have hl := Nat.mod_lt x.toBitVec.toNat (Nat.two_pow_pos m)
  rw [Int32.toBitVec_and, BitVec.toNat_and, Int32.toBitVec_ofNat', Int32.toBitVec_ofNat', BitVec.toNat_ofNat, BitVec.toNat_ofNat, Nat.mod_eq_of_lt (a := 2 ^ m - 1) (by omega), Nat.mod_eq_of_lt (a := _ % _) (by omega), Nat.and_two_pow_sub_one_eq_mod]
/-- a remainder of a number that isn't negative -/
theorem own_rem (x : Int32) (n : Nat) (h1 : 1 ≤ n) (h8 : n ≤ 8) : ∃ r, r < n ∧ (x &&& (2147483647 : Int32)) % Int32.ofNat n = Int32.ofNat r := by
  have h0 : 0 ≤ (x &&& (2147483647 : Int32)).toInt := by
    have e : (x &&& (2147483647 : Int32)).toBitVec.toNat < 2 ^ 31 := by
      rw [Int32.toBitVec_and, BitVec.toNat_and]
      exact Nat.and_lt_two_pow (n := 31) _ (by decide)
    rw [← Int32.toInt_toBitVec, BitVec.toInt_eq_toNat_of_lt (by omega)]; omega
  have hn : (Int32.ofNat n).toInt = n := own_ofNat_toInt (by omega)
  have hm : ((x &&& (2147483647 : Int32)) % Int32.ofNat n).toInt = (x &&& (2147483647 : Int32)).toInt % (n : Int) := by
    rw [Int32.toInt_mod, hn]; exact Int.tmod_eq_emod_of_nonneg h0
  have a0 := Int.emod_nonneg (x &&& (2147483647 : Int32)).toInt (show (n : Int) ≠ 0 by omega)
  have a1 := Int.emod_lt_of_pos (x &&& (2147483647 : Int32)).toInt (show (0 : Int) < n by omega)
  refine ⟨((x &&& (2147483647 : Int32)).toInt % (n : Int)).toNat, by omega, ?_⟩
  rw [← Int32.toInt_inj, hm, own_ofNat_toInt (by omega)]; omega
def own_min (x y : Int32) : Int32 := if y < x then y else x
theorem own_c98 {nn kk oo : Nat} (s : Small nn kk oo) : ¬ ((268435456 : Int64) >>> ((Int32.ofNat kk + (1 : Int32)) &&& 0x3f).toInt64 < (Int32.ofNat nn).toInt64 * (Int32.ofNat oo).toInt64) := by
  have h : ∀ n : Fin 9, ∀ k : Fin 4, ∀ o : Fin 4, ¬ ((268435456 : Int64) >>> ((Int32.ofNat k.1 + (1 : Int32)) &&& 0x3f).toInt64 < (Int32.ofNat n.1).toInt64 * (Int32.ofNat o.1).toInt64) := by decide +kernel
  exact h ⟨nn, by have := s.n8; omega⟩ ⟨kk, by have := s.k3; omega⟩ ⟨oo, by have := s.o3; omega⟩
theorem own_c81 {kk : Nat} (h : kk ≤ 3) : ¬ ((62 : Int32) < Int32.ofNat kk + (1 : Int32)) := by
  have : kk = 0 ∨ kk = 1 ∨ kk = 2 ∨ kk = 3 := by omega
  rcases this with rfl | rfl | rfl | rfl <;> decide
theorem own_len_in {nn kk oo : Nat} (s : Small nn kk oo) : nn * oo * own_W kk ≤ 384 := by
  have := Nat.mul_le_mul (Nat.mul_le_mul s.n8 s.o3) (own_W_le s.k3).2; omega
theorem own_succ (a : Nat) : Int32.ofNat a + (1 : Int32) = Int32.ofNat (a + 1) := (Int32.ofNat_add a 1).symm
theorem own_nz {a : Nat} (h : 1 ≤ a) (h2 : a ≤ 8) : Int32.ofNat a ≠ 0 := fun e => by
  have := congrArg Int32.toInt e
  rw [own_ofNat_toInt (by omega), show (0 : Int32).toInt = 0 from rfl] at this; omega
theorem own_kmin (x : Int32) (nn : Nat) (h1 : 1 ≤ nn) (h8 : nn ≤ 8) : ∃ kk, kk ≤ 3 ∧ kk < nn ∧ own_min (x &&& (3 : Int32)) (Int32.ofNat nn - (1 : Int32)) = Int32.ofNat kk := by
  obtain ⟨a, ha, e⟩ := own_mask x 2 (by decide)
  have e' : x &&& (3 : Int32) = Int32.ofNat a := e
  have e2 : Int32.ofNat nn - (1 : Int32) = Int32.ofNat (nn - 1) := by
    obtain ⟨m, rfl⟩ : ∃ m, nn = m + 1 := ⟨nn - 1, by omega⟩
    rw [← own_succ, Nat.add_sub_cancel, Int32.add_sub_cancel]
  rw [e', e2]
  unfold own_min
  by_cases q : Int32.ofNat (nn - 1) < Int32.ofNat a
  · rw [if_pos q]; rw [own_lt (by omega) (by omega)] at q; exact ⟨nn - 1, by omega, by omega, rfl⟩
  · rw [if_neg q]; rw [own_lt (by omega) (by omega)] at q; exact ⟨a, by omega, by omega, rfl⟩
theorem own_v1 {v : Nat} (h : 1 ≤ v) (h2 : v ≤ 512) : ¬ Int32.ofNat v < (1 : Int32) := fun q => absurd ((own_lt (b := 1) (by omega) (by decide)).mp q) (by omega)
theorem own_v2 {v : Nat} (h : 1 ≤ v) (h2 : v ≤ 512) : (0 : Int32) < Int32.ofNat v := (own_lt (a := 0) (by decide) (by omega)).mpr (by omega)
theorem own_v64 {v : Nat} (h2 : v ≤ 512) : ((Int32.ofNat v).toInt64).toInt = v := by rw [Int32.toInt_toInt64, own_ofNat_toInt (by omega)]
theorem own_v3 {v : Nat} (h : 1 ≤ v) (h2 : v ≤ 512) : (Int32.ofNat v).toInt64 ≠ 0 := fun e => by
  have := congrArg Int64.toInt e
  rw [own_v64 h2, show (0 : Int64).toInt = 0 from rfl] at this; omega
theorem own_v4 {v : Nat} (h : 1 ≤ v) (h2 : v ≤ 512) : 0 < ((Int32.ofNat v).toInt64).toInt := by rw [own_v64 h2]; omega
theorem own_v5 {v : Nat} (h : 1 ≤ v) (h2 : v ≤ 512) : ((Int32.ofNat v).toInt64).toInt ≤ 512 := by rw [own_v64 h2]; omega
theorem ef_min (m : MethodId) (x0 : Int32) (x1 : Int32) : entryFrame m #[(.int x0), (.int x1)] 2 = mkF m 0 #[.val (.int x0), .val (.int x1)] [] := by first | (simp [entryFrame, mkF, argsToLocals, Value.category]; done) | rfl
theorem d_jdk_29_method_69_0 : decode jdk_29_method_69_code 0 = .ok (.iload_n 0, 1) := by decide +kernel
theorem d_jdk_29_method_69_1 : decode jdk_29_method_69_code 1 = .ok (.iload_n 1, 1) := by decide +kernel
theorem d_jdk_29_method_69_2 : decode jdk_29_method_69_code 2 = .ok (.if_icmp .gt 7, 3) := by decide +kernel
theorem d_jdk_29_method_69_9 : decode jdk_29_method_69_code 9 = .ok (.iload_n 1, 1) := by decide +kernel
theorem d_jdk_29_method_69_10 : decode jdk_29_method_69_code 10 = .ok (.ireturn, 1) := by decide +kernel
theorem d_jdk_29_method_69_5 : decode jdk_29_method_69_code 5 = .ok (.iload_n 0, 1) := by decide +kernel
theorem d_jdk_29_method_69_6 : decode jdk_29_method_69_code 6 = .ok (.goto 4, 3) := by decide +kernel
set_option maxRecDepth 65536 in
set_option maxHeartbeats 40000000 in
theorem rm_min (l : Launch) (Z : State) (a0 : Array Value) (hw : ∀ d ∈ tables_1, d.before a0 Z = true) (p1 p2 : Int32) (h0 : Heap) :
    OwCon l Z (⟨"java/lang/Math", "min", "(II)I"⟩ : MethodName) jdk_29_method_69_code 2 (some .int) [] ({ frames := 0, cells := 0, slots := 0, locals := 0 } : Room) #[(.int p1), (.int p2)] h0 (OwRet (some (.int (own_min p1 p2))) h0) := by
  refine OwCon.of (Jvm.Free.JP.mathPlain rfl (by decide +kernel)) ?_
  intro p e s m below meth cd_ s₁ X0 hx hby hml hret hlk hown hnm hZ e0
  refine GoOn.st (fun t_ k_ => castTop (ef_min m p1 p2) k_) ?_
  show GoOn _ _ _ _ (s₁.setTop (mkF m 0 #[.val (.int p1), .val (.int p2)] []))
  refine GoOn.st (fun t_ k_ => XS.iloadN X0.here hx rfl (hb hby d_jdk_29_method_69_0) rfl k_) ?_
  refine GoOn.st (fun t_ k_ => XS.iloadN X0.here hx rfl (hb hby d_jdk_29_method_69_1) rfl k_) ?_
  by_cases hc1 : p2 < p1
  · skip
    refine GoOn.st (fun t_ k_ => XS.icmpYes X0.here hx rfl (pc0 := 2) (pc' := 9) rfl (hb hby d_jdk_29_method_69_2) rfl (tlt hc1).2.2.1 (by decide) (by decide) k_) ?_
    refine GoOn.st (fun t_ k_ => XS.iloadN X0.here hx rfl (hb hby d_jdk_29_method_69_9) rfl k_) ?_
    show GoOn _ _ _ _ (s₁.setTop (mkF m 10 #[.val (.int p1), .val (.int p2)] [(.int p2)]))
    exact GoOn.retI X0 hx hlk hret (hb hby d_jdk_29_method_69_10) (by rw [e0]; exact ⟨by simp [own_min, hc1], rfl, rfl⟩) (by decide) (by decide)
  · skip
    refine GoOn.st (fun t_ k_ => XS.icmpNo X0.here hx rfl (hb hby d_jdk_29_method_69_2) rfl (flt hc1).2.2.1 k_) ?_
    refine GoOn.st (fun t_ k_ => XS.iloadN X0.here hx rfl (hb hby d_jdk_29_method_69_5) rfl k_) ?_
    show GoOn _ _ _ _ (s₁.setTop (mkF m 6 #[.val (.int p1), .val (.int p2)] [(.int p1)]))
    refine GoOn.st (fun t_ k_ => XS.goto X0.here hx rfl (pc0 := 6) (pc' := 10) rfl (hb hby d_jdk_29_method_69_6) (by decide) (by decide) k_) ?_
    show GoOn _ _ _ _ (s₁.setTop (mkF m 10 #[.val (.int p1), .val (.int p2)] [(.int p1)]))
    exact GoOn.retI X0 hx hlk hret (hb hby d_jdk_29_method_69_10) (by rw [e0]; exact ⟨by simp [own_min, hc1], rfl, rfl⟩) (by decide) (by decide)
theorem ef_rotl (m : MethodId) (x0 : Int64) (x1 : Int32) : entryFrame m #[(.long x0), (.int x1)] 3 = mkF m 0 #[.val (.long x0), .second, .val (.int x1)] [] := by first | (simp [entryFrame, mkF, argsToLocals, Value.category]; done) | rfl
theorem pn_java_lang_Long : plainName "java/lang/Long" = true := by first | (simp [plainName, overriddenIn]; done) | decide +kernel
theorem d_jdk_35_method_51_0 : decode jdk_35_method_51_code 0 = .ok (.lload_n 0, 1) := by decide +kernel
theorem d_jdk_35_method_51_1 : decode jdk_35_method_51_code 1 = .ok (.iload_n 2, 1) := by decide +kernel
theorem d_jdk_35_method_51_2 : decode jdk_35_method_51_code 2 = .ok (.lshl, 1) := by decide +kernel
theorem d_jdk_35_method_51_3 : decode jdk_35_method_51_code 3 = .ok (.lload_n 0, 1) := by decide +kernel
theorem d_jdk_35_method_51_4 : decode jdk_35_method_51_code 4 = .ok (.iload_n 2, 1) := by decide +kernel
theorem d_jdk_35_method_51_5 : decode jdk_35_method_51_code 5 = .ok (.ineg, 1) := by decide +kernel
theorem d_jdk_35_method_51_6 : decode jdk_35_method_51_code 6 = .ok (.lushr, 1) := by decide +kernel
theorem d_jdk_35_method_51_7 : decode jdk_35_method_51_code 7 = .ok (.lor, 1) := by decide +kernel
theorem d_jdk_35_method_51_8 : decode jdk_35_method_51_code 8 = .ok (.lreturn, 1) := by decide +kernel
set_option maxRecDepth 65536 in
set_option maxHeartbeats 40000000 in
theorem rm_rotl (l : Launch) (Z : State) (a0 : Array Value) (hw : ∀ d ∈ tables_1, d.before a0 Z = true) (q1 : Int64) (p1 : Int32) (h0 : Heap) :
    OwCon l Z (⟨"java/lang/Long", "rotateLeft", "(JI)J"⟩ : MethodName) jdk_35_method_51_code 3 (some .long) [] ({ frames := 0, cells := 0, slots := 0, locals := 0 } : Room) #[(.long q1), (.int p1)] h0 (OwRet (some (.long (own_rotl q1 p1))) h0) := by
  refine OwCon.of (plainFor_of_name pn_java_lang_Long) ?_
  intro p e s m below meth cd_ s₁ X0 hx hby hml hret hlk hown hnm hZ e0
  refine GoOn.st (fun t_ k_ => castTop (ef_rotl m q1 p1) k_) ?_
  show GoOn _ _ _ _ (s₁.setTop (mkF m 0 #[.val (.long q1), .second, .val (.int p1)] []))
  refine GoOn.st (fun t_ k_ => XS.lloadN X0.here hx rfl (hb hby d_jdk_35_method_51_0) rfl k_) ?_
  refine GoOn.st (fun t_ k_ => XS.iloadN X0.here hx rfl (hb hby d_jdk_35_method_51_1) rfl k_) ?_
  refine GoOn.st (fun t_ k_ => XS.lshl X0.here hx rfl (hb hby d_jdk_35_method_51_2) rfl k_) ?_
  refine GoOn.st (fun t_ k_ => XS.lloadN X0.here hx rfl (hb hby d_jdk_35_method_51_3) rfl k_) ?_
  show GoOn _ _ _ _ (s₁.setTop (mkF m 4 #[.val (.long q1), .second, .val (.int p1)] [(.long q1), (.long (q1 <<< (p1 &&& 0x3f).toInt64))]))
  refine GoOn.st (fun t_ k_ => XS.iloadN X0.here hx rfl (hb hby d_jdk_35_method_51_4) rfl k_) ?_
  refine GoOn.st (fun t_ k_ => XS.ineg X0.here hx rfl (hb hby d_jdk_35_method_51_5) rfl k_) ?_
  refine GoOn.st (fun t_ k_ => XS.lushr X0.here hx rfl (hb hby d_jdk_35_method_51_6) rfl k_) ?_
  refine GoOn.st (fun t_ k_ => XS.lor X0.here hx rfl (hb hby d_jdk_35_method_51_7) rfl k_) ?_
  show GoOn _ _ _ _ (s₁.setTop (mkF m 8 #[.val (.long q1), .second, .val (.int p1)] [(.long ((q1 <<< (p1 &&& 0x3f).toInt64) ||| (((q1).toUInt64 >>> (((-p1)) &&& 0x3f).toInt64.toUInt64).toInt64)))]))
  exact GoOn.retJ X0 hx hlk hret (hb hby d_jdk_35_method_51_8) (by rw [e0]; exact ⟨rfl, rfl, rfl⟩) (by decide) (by decide)
theorem ef_mix (m : MethodId) (x0 : Int64) : entryFrame m #[(.long x0)] 4 = mkF m 0 #[.val (.long x0), .second, .unset, .unset] [] := by first | (simp [entryFrame, mkF, argsToLocals, Value.category]; done) | rfl
theorem pn_com_example_frontwise_frontwise_model_RandomStream : plainName "com/example/frontwise/frontwise/model/RandomStream" = true := by first | (simp [plainName, overriddenIn]; done) | decide +kernel
theorem d_prog_34_method_8_0 : decode prog_34_method_8_code 0 = .ok (.lload_n 0, 1) := by decide +kernel
theorem d_prog_34_method_8_1 : decode prog_34_method_8_code 1 = .ok (.lload_n 0, 1) := by decide +kernel
theorem d_prog_34_method_8_2 : decode prog_34_method_8_code 2 = .ok (.bipush 30, 2) := by decide +kernel
theorem d_prog_34_method_8_4 : decode prog_34_method_8_code 4 = .ok (.lushr, 1) := by decide +kernel
theorem d_prog_34_method_8_5 : decode prog_34_method_8_code 5 = .ok (.lxor, 1) := by decide +kernel
theorem d_prog_34_method_8_6 : decode prog_34_method_8_code 6 = .ok (.ldc2_w 80, 3) := by decide +kernel
theorem d_prog_34_method_8_9 : decode prog_34_method_8_code 9 = .ok (.lmul, 1) := by decide +kernel
theorem d_prog_34_method_8_10 : decode prog_34_method_8_code 10 = .ok (.lstore_n 2, 1) := by decide +kernel
theorem d_prog_34_method_8_11 : decode prog_34_method_8_code 11 = .ok (.lload_n 2, 1) := by decide +kernel
theorem d_prog_34_method_8_12 : decode prog_34_method_8_code 12 = .ok (.lload_n 2, 1) := by decide +kernel
theorem d_prog_34_method_8_13 : decode prog_34_method_8_code 13 = .ok (.bipush 27, 2) := by decide +kernel
theorem d_prog_34_method_8_15 : decode prog_34_method_8_code 15 = .ok (.lushr, 1) := by decide +kernel
theorem d_prog_34_method_8_16 : decode prog_34_method_8_code 16 = .ok (.lxor, 1) := by decide +kernel
theorem d_prog_34_method_8_17 : decode prog_34_method_8_code 17 = .ok (.ldc2_w 82, 3) := by decide +kernel
theorem d_prog_34_method_8_20 : decode prog_34_method_8_code 20 = .ok (.lmul, 1) := by decide +kernel
theorem d_prog_34_method_8_21 : decode prog_34_method_8_code 21 = .ok (.lstore_n 2, 1) := by decide +kernel
theorem d_prog_34_method_8_22 : decode prog_34_method_8_code 22 = .ok (.lload_n 2, 1) := by decide +kernel
theorem d_prog_34_method_8_23 : decode prog_34_method_8_code 23 = .ok (.lload_n 2, 1) := by decide +kernel
theorem d_prog_34_method_8_24 : decode prog_34_method_8_code 24 = .ok (.bipush 31, 2) := by decide +kernel
theorem d_prog_34_method_8_26 : decode prog_34_method_8_code 26 = .ok (.lushr, 1) := by decide +kernel
theorem d_prog_34_method_8_27 : decode prog_34_method_8_code 27 = .ok (.lxor, 1) := by decide +kernel
theorem d_prog_34_method_8_28 : decode prog_34_method_8_code 28 = .ok (.lreturn, 1) := by decide +kernel
set_option maxRecDepth 65536 in
set_option maxHeartbeats 40000000 in
theorem rm_mix (l : Launch) (Z : State) (a0 : Array Value) (hw : ∀ d ∈ tables_1, d.before a0 Z = true) (q1 : Int64) (h0 : Heap) :
    OwCon l Z (⟨"com/example/frontwise/frontwise/model/RandomStream", "splitMix", "(J)J"⟩ : MethodName) prog_34_method_8_code 4 (some .long) [] ({ frames := 0, cells := 0, slots := 0, locals := 0 } : Room) #[(.long q1)] h0 (fun v h L => ∃ z, v = some (.long z) ∧ L = [] ∧ h = h0) := by
  refine OwCon.of (plainFor_of_name pn_com_example_frontwise_frontwise_model_RandomStream) ?_
  intro p e s m below meth cd_ s₁ X0 hx hby hml hret hlk hown hnm hZ e0
  refine GoOn.st (fun t_ k_ => castTop (ef_mix m q1) k_) ?_
  show GoOn _ _ _ _ (s₁.setTop (mkF m 0 #[.val (.long q1), .second, .unset, .unset] []))
  refine GoOn.st (fun t_ k_ => XS.lloadN X0.here hx rfl (hb hby d_prog_34_method_8_0) rfl k_) ?_
  refine GoOn.st (fun t_ k_ => XS.lloadN X0.here hx rfl (hb hby d_prog_34_method_8_1) rfl k_) ?_
  refine GoOn.st (fun t_ k_ => XS.bipush X0.here hx rfl (hb hby d_prog_34_method_8_2)  k_) ?_
  refine GoOn.st (fun t_ k_ => XS.lushr X0.here hx rfl (hb hby d_prog_34_method_8_4) rfl k_) ?_
  show GoOn _ _ _ _ (s₁.setTop (mkF m 5 #[.val (.long q1), .second, .unset, .unset] [(.long (((q1).toUInt64 >>> ((30 : Int32) &&& 0x3f).toInt64.toUInt64).toInt64)), (.long q1)]))
  refine GoOn.st (fun t_ k_ => XS.lxor X0.here hx rfl (hb hby d_prog_34_method_8_5) rfl k_) ?_
  refine GoOn.st (fun t_ k_ => X0.ldc2Long hx hown (mvT hZ (hw _ (List.mem_of_getElem? (i := 37) rfl))) (g := (mkF m 6 #[.val (.long q1), .second, .unset, .unset] [(.long (q1 ^^^ (((q1).toUInt64 >>> ((30 : Int32) &&& 0x3f).toInt64.toUInt64).toInt64)))])) rfl (hb hby d_prog_34_method_8_6) _ k_) ?_
  refine GoOn.st (fun t_ k_ => XS.lmul X0.here hx rfl (hb hby d_prog_34_method_8_9) rfl k_) ?_
  refine GoOn.st (fun t_ k_ => XS.lstoreN X0.here hx rfl (hb hby d_prog_34_method_8_10) rfl (l' := #[.val (.long q1), .second, .val (.long ((q1 ^^^ (((q1).toUInt64 >>> ((30 : Int32) &&& 0x3f).toInt64.toUInt64).toInt64)) * (-4658895280553007687 : Int64))), .second]) rfl k_) ?_
  show GoOn _ _ _ _ (s₁.setTop (mkF m 11 #[.val (.long q1), .second, .val (.long ((q1 ^^^ (((q1).toUInt64 >>> ((30 : Int32) &&& 0x3f).toInt64.toUInt64).toInt64)) * (-4658895280553007687 : Int64))), .second] []))
  refine GoOn.st (fun t_ k_ => XS.lloadN X0.here hx rfl (hb hby d_prog_34_method_8_11) rfl k_) ?_
  refine GoOn.st (fun t_ k_ => XS.lloadN X0.here hx rfl (hb hby d_prog_34_method_8_12) rfl k_) ?_
  refine GoOn.st (fun t_ k_ => XS.bipush X0.here hx rfl (hb hby d_prog_34_method_8_13)  k_) ?_
  refine GoOn.st (fun t_ k_ => XS.lushr X0.here hx rfl (hb hby d_prog_34_method_8_15) rfl k_) ?_
  show GoOn _ _ _ _ (s₁.setTop (mkF m 16 #[.val (.long q1), .second, .val (.long ((q1 ^^^ (((q1).toUInt64 >>> ((30 : Int32) &&& 0x3f).toInt64.toUInt64).toInt64)) * (-4658895280553007687 : Int64))), .second] [(.long (((((q1 ^^^ (((q1).toUInt64 >>> ((30 : Int32) &&& 0x3f).toInt64.toUInt64).toInt64)) * (-4658895280553007687 : Int64))).toUInt64 >>> ((27 : Int32) &&& 0x3f).toInt64.toUInt64).toInt64)), (.long ((q1 ^^^ (((q1).toUInt64 >>> ((30 : Int32) &&& 0x3f).toInt64.toUInt64).toInt64)) * (-4658895280553007687 : Int64)))]))
  refine GoOn.st (fun t_ k_ => XS.lxor X0.here hx rfl (hb hby d_prog_34_method_8_16) rfl k_) ?_
  refine GoOn.st (fun t_ k_ => X0.ldc2Long hx hown (mvT hZ (hw _ (List.mem_of_getElem? (i := 38) rfl))) (g := (mkF m 17 #[.val (.long q1), .second, .val (.long ((q1 ^^^ (((q1).toUInt64 >>> ((30 : Int32) &&& 0x3f).toInt64.toUInt64).toInt64)) * (-4658895280553007687 : Int64))), .second] [(.long (((q1 ^^^ (((q1).toUInt64 >>> ((30 : Int32) &&& 0x3f).toInt64.toUInt64).toInt64)) * (-4658895280553007687 : Int64)) ^^^ (((((q1 ^^^ (((q1).toUInt64 >>> ((30 : Int32) &&& 0x3f).toInt64.toUInt64).toInt64)) * (-4658895280553007687 : Int64))).toUInt64 >>> ((27 : Int32) &&& 0x3f).toInt64.toUInt64).toInt64)))])) rfl (hb hby d_prog_34_method_8_17) _ k_) ?_
  refine GoOn.st (fun t_ k_ => XS.lmul X0.here hx rfl (hb hby d_prog_34_method_8_20) rfl k_) ?_
  refine GoOn.st (fun t_ k_ => XS.lstoreN X0.here hx rfl (hb hby d_prog_34_method_8_21) rfl (l' := #[.val (.long q1), .second, .val (.long ((((q1 ^^^ (((q1).toUInt64 >>> ((30 : Int32) &&& 0x3f).toInt64.toUInt64).toInt64)) * (-4658895280553007687 : Int64)) ^^^ (((((q1 ^^^ (((q1).toUInt64 >>> ((30 : Int32) &&& 0x3f).toInt64.toUInt64).toInt64)) * (-4658895280553007687 : Int64))).toUInt64 >>> ((27 : Int32) &&& 0x3f).toInt64.toUInt64).toInt64)) * (-7723592293110705685 : Int64))), .second]) rfl k_) ?_
  show GoOn _ _ _ _ (s₁.setTop (mkF m 22 #[.val (.long q1), .second, .val (.long ((((q1 ^^^ (((q1).toUInt64 >>> ((30 : Int32) &&& 0x3f).toInt64.toUInt64).toInt64)) * (-4658895280553007687 : Int64)) ^^^ (((((q1 ^^^ (((q1).toUInt64 >>> ((30 : Int32) &&& 0x3f).toInt64.toUInt64).toInt64)) * (-4658895280553007687 : Int64))).toUInt64 >>> ((27 : Int32) &&& 0x3f).toInt64.toUInt64).toInt64)) * (-7723592293110705685 : Int64))), .second] []))
  refine GoOn.st (fun t_ k_ => XS.lloadN X0.here hx rfl (hb hby d_prog_34_method_8_22) rfl k_) ?_
  refine GoOn.st (fun t_ k_ => XS.lloadN X0.here hx rfl (hb hby d_prog_34_method_8_23) rfl k_) ?_
  refine GoOn.st (fun t_ k_ => XS.bipush X0.here hx rfl (hb hby d_prog_34_method_8_24)  k_) ?_
  refine GoOn.st (fun t_ k_ => XS.lushr X0.here hx rfl (hb hby d_prog_34_method_8_26) rfl k_) ?_
  show GoOn _ _ _ _ (s₁.setTop (mkF m 27 #[.val (.long q1), .second, .val (.long ((((q1 ^^^ (((q1).toUInt64 >>> ((30 : Int32) &&& 0x3f).toInt64.toUInt64).toInt64)) * (-4658895280553007687 : Int64)) ^^^ (((((q1 ^^^ (((q1).toUInt64 >>> ((30 : Int32) &&& 0x3f).toInt64.toUInt64).toInt64)) * (-4658895280553007687 : Int64))).toUInt64 >>> ((27 : Int32) &&& 0x3f).toInt64.toUInt64).toInt64)) * (-7723592293110705685 : Int64))), .second] [(.long (((((((q1 ^^^ (((q1).toUInt64 >>> ((30 : Int32) &&& 0x3f).toInt64.toUInt64).toInt64)) * (-4658895280553007687 : Int64)) ^^^ (((((q1 ^^^ (((q1).toUInt64 >>> ((30 : Int32) &&& 0x3f).toInt64.toUInt64).toInt64)) * (-4658895280553007687 : Int64))).toUInt64 >>> ((27 : Int32) &&& 0x3f).toInt64.toUInt64).toInt64)) * (-7723592293110705685 : Int64))).toUInt64 >>> ((31 : Int32) &&& 0x3f).toInt64.toUInt64).toInt64)), (.long ((((q1 ^^^ (((q1).toUInt64 >>> ((30 : Int32) &&& 0x3f).toInt64.toUInt64).toInt64)) * (-4658895280553007687 : Int64)) ^^^ (((((q1 ^^^ (((q1).toUInt64 >>> ((30 : Int32) &&& 0x3f).toInt64.toUInt64).toInt64)) * (-4658895280553007687 : Int64))).toUInt64 >>> ((27 : Int32) &&& 0x3f).toInt64.toUInt64).toInt64)) * (-7723592293110705685 : Int64)))]))
  refine GoOn.st (fun t_ k_ => XS.lxor X0.here hx rfl (hb hby d_prog_34_method_8_27) rfl k_) ?_
  show GoOn _ _ _ _ (s₁.setTop (mkF m 28 #[.val (.long q1), .second, .val (.long ((((q1 ^^^ (((q1).toUInt64 >>> ((30 : Int32) &&& 0x3f).toInt64.toUInt64).toInt64)) * (-4658895280553007687 : Int64)) ^^^ (((((q1 ^^^ (((q1).toUInt64 >>> ((30 : Int32) &&& 0x3f).toInt64.toUInt64).toInt64)) * (-4658895280553007687 : Int64))).toUInt64 >>> ((27 : Int32) &&& 0x3f).toInt64.toUInt64).toInt64)) * (-7723592293110705685 : Int64))), .second] [(.long (((((q1 ^^^ (((q1).toUInt64 >>> ((30 : Int32) &&& 0x3f).toInt64.toUInt64).toInt64)) * (-4658895280553007687 : Int64)) ^^^ (((((q1 ^^^ (((q1).toUInt64 >>> ((30 : Int32) &&& 0x3f).toInt64.toUInt64).toInt64)) * (-4658895280553007687 : Int64))).toUInt64 >>> ((27 : Int32) &&& 0x3f).toInt64.toUInt64).toInt64)) * (-7723592293110705685 : Int64)) ^^^ (((((((q1 ^^^ (((q1).toUInt64 >>> ((30 : Int32) &&& 0x3f).toInt64.toUInt64).toInt64)) * (-4658895280553007687 : Int64)) ^^^ (((((q1 ^^^ (((q1).toUInt64 >>> ((30 : Int32) &&& 0x3f).toInt64.toUInt64).toInt64)) * (-4658895280553007687 : Int64))).toUInt64 >>> ((27 : Int32) &&& 0x3f).toInt64.toUInt64).toInt64)) * (-7723592293110705685 : Int64))).toUInt64 >>> ((31 : Int32) &&& 0x3f).toInt64.toUInt64).toInt64)))]))
  exact GoOn.retJ X0 hx hlk hret (hb hby d_prog_34_method_8_28) (by rw [e0]; exact ⟨(((((q1 ^^^ (((q1).toUInt64 >>> ((30 : Int32) &&& 0x3f).toInt64.toUInt64).toInt64)) * (-4658895280553007687 : Int64)) ^^^ (((((q1 ^^^ (((q1).toUInt64 >>> ((30 : Int32) &&& 0x3f).toInt64.toUInt64).toInt64)) * (-4658895280553007687 : Int64))).toUInt64 >>> ((27 : Int32) &&& 0x3f).toInt64.toUInt64).toInt64)) * (-7723592293110705685 : Int64)) ^^^ (((((((q1 ^^^ (((q1).toUInt64 >>> ((30 : Int32) &&& 0x3f).toInt64.toUInt64).toInt64)) * (-4658895280553007687 : Int64)) ^^^ (((((q1 ^^^ (((q1).toUInt64 >>> ((30 : Int32) &&& 0x3f).toInt64.toUInt64).toInt64)) * (-4658895280553007687 : Int64))).toUInt64 >>> ((27 : Int32) &&& 0x3f).toInt64.toUInt64).toInt64)) * (-7723592293110705685 : Int64))).toUInt64 >>> ((31 : Int32) &&& 0x3f).toInt64.toUInt64).toInt64)), rfl, rfl, rfl⟩) (by decide) (by decide)
theorem ef_revb (m : MethodId) (x0 : Int32) : entryFrame m #[(.int x0)] 1 = mkF m 0 #[.val (.int x0)] [] := by first | (simp [entryFrame, mkF, argsToLocals, Value.category]; done) | rfl
theorem pn_java_lang_Integer : plainName "java/lang/Integer" = true := by first | (simp [plainName, overriddenIn]; done) | decide +kernel
theorem d_jdk_33_method_57_0 : decode jdk_33_method_57_code 0 = .ok (.iload_n 0, 1) := by decide +kernel
theorem d_jdk_33_method_57_1 : decode jdk_33_method_57_code 1 = .ok (.bipush 24, 2) := by decide +kernel
theorem d_jdk_33_method_57_3 : decode jdk_33_method_57_code 3 = .ok (.ishl, 1) := by decide +kernel
theorem d_jdk_33_method_57_4 : decode jdk_33_method_57_code 4 = .ok (.iload_n 0, 1) := by decide +kernel
theorem d_jdk_33_method_57_5 : decode jdk_33_method_57_code 5 = .ok (.ldc_w 274, 3) := by decide +kernel
theorem d_jdk_33_method_57_8 : decode jdk_33_method_57_code 8 = .ok (.iand, 1) := by decide +kernel
theorem d_jdk_33_method_57_9 : decode jdk_33_method_57_code 9 = .ok (.bipush 8, 2) := by decide +kernel
theorem d_jdk_33_method_57_11 : decode jdk_33_method_57_code 11 = .ok (.ishl, 1) := by decide +kernel
theorem d_jdk_33_method_57_12 : decode jdk_33_method_57_code 12 = .ok (.ior, 1) := by decide +kernel
theorem d_jdk_33_method_57_13 : decode jdk_33_method_57_code 13 = .ok (.iload_n 0, 1) := by decide +kernel
theorem d_jdk_33_method_57_14 : decode jdk_33_method_57_code 14 = .ok (.bipush 8, 2) := by decide +kernel
theorem d_jdk_33_method_57_16 : decode jdk_33_method_57_code 16 = .ok (.iushr, 1) := by decide +kernel
theorem d_jdk_33_method_57_17 : decode jdk_33_method_57_code 17 = .ok (.ldc_w 274, 3) := by decide +kernel
theorem d_jdk_33_method_57_20 : decode jdk_33_method_57_code 20 = .ok (.iand, 1) := by decide +kernel
theorem d_jdk_33_method_57_21 : decode jdk_33_method_57_code 21 = .ok (.ior, 1) := by decide +kernel
theorem d_jdk_33_method_57_22 : decode jdk_33_method_57_code 22 = .ok (.iload_n 0, 1) := by decide +kernel
theorem d_jdk_33_method_57_23 : decode jdk_33_method_57_code 23 = .ok (.bipush 24, 2) := by decide +kernel
theorem d_jdk_33_method_57_25 : decode jdk_33_method_57_code 25 = .ok (.iushr, 1) := by decide +kernel
theorem d_jdk_33_method_57_26 : decode jdk_33_method_57_code 26 = .ok (.ior, 1) := by decide +kernel
theorem d_jdk_33_method_57_27 : decode jdk_33_method_57_code 27 = .ok (.ireturn, 1) := by decide +kernel
set_option maxRecDepth 65536 in
set_option maxHeartbeats 40000000 in
theorem rm_revb (l : Launch) (Z : State) (a0 : Array Value) (hw : ∀ d ∈ tables_1, d.before a0 Z = true) (p1 : Int32) (h0 : Heap) :
    OwCon l Z (⟨"java/lang/Integer", "reverseBytes", "(I)I"⟩ : MethodName) jdk_33_method_57_code 1 (some .int) [] ({ frames := 0, cells := 0, slots := 0, locals := 0 } : Room) #[(.int p1)] h0 (fun v h L => ∃ z, v = some (.int z) ∧ L = [] ∧ h = h0) := by
  refine OwCon.of (plainFor_of_name pn_java_lang_Integer) ?_
  intro p e s m below meth cd_ s₁ X0 hx hby hml hret hlk hown hnm hZ e0
  refine GoOn.st (fun t_ k_ => castTop (ef_revb m p1) k_) ?_
  show GoOn _ _ _ _ (s₁.setTop (mkF m 0 #[.val (.int p1)] []))
  refine GoOn.st (fun t_ k_ => XS.iloadN X0.here hx rfl (hb hby d_jdk_33_method_57_0) rfl k_) ?_
  refine GoOn.st (fun t_ k_ => XS.bipush X0.here hx rfl (hb hby d_jdk_33_method_57_1)  k_) ?_
  refine GoOn.st (fun t_ k_ => XS.ishl X0.here hx rfl (hb hby d_jdk_33_method_57_3) rfl k_) ?_
  refine GoOn.st (fun t_ k_ => XS.iloadN X0.here hx rfl (hb hby d_jdk_33_method_57_4) rfl k_) ?_
  show GoOn _ _ _ _ (s₁.setTop (mkF m 5 #[.val (.int p1)] [(.int p1), (.int (p1 <<< ((24 : Int32) &&& 31)))]))
  refine GoOn.st (fun t_ k_ => X0.ldcwInt hx hown (mvT hZ (hw _ (List.mem_of_getElem? (i := 61) rfl))) (g := (mkF m 5 #[.val (.int p1)] [(.int p1), (.int (p1 <<< ((24 : Int32) &&& 31)))])) rfl (hb hby d_jdk_33_method_57_5) _ k_) ?_
  refine GoOn.st (fun t_ k_ => XS.iand X0.here hx rfl (hb hby d_jdk_33_method_57_8) rfl k_) ?_
  refine GoOn.st (fun t_ k_ => XS.bipush X0.here hx rfl (hb hby d_jdk_33_method_57_9)  k_) ?_
  refine GoOn.st (fun t_ k_ => XS.ishl X0.here hx rfl (hb hby d_jdk_33_method_57_11) rfl k_) ?_
  show GoOn _ _ _ _ (s₁.setTop (mkF m 12 #[.val (.int p1)] [(.int ((p1 &&& (65280 : Int32)) <<< ((8 : Int32) &&& 31))), (.int (p1 <<< ((24 : Int32) &&& 31)))]))
  refine GoOn.st (fun t_ k_ => XS.ior X0.here hx rfl (hb hby d_jdk_33_method_57_12) rfl k_) ?_
  refine GoOn.st (fun t_ k_ => XS.iloadN X0.here hx rfl (hb hby d_jdk_33_method_57_13) rfl k_) ?_
  refine GoOn.st (fun t_ k_ => XS.bipush X0.here hx rfl (hb hby d_jdk_33_method_57_14)  k_) ?_
  refine GoOn.st (fun t_ k_ => XS.iushr X0.here hx rfl (hb hby d_jdk_33_method_57_16) rfl k_) ?_
  show GoOn _ _ _ _ (s₁.setTop (mkF m 17 #[.val (.int p1)] [(.int (((p1).toUInt32 >>> ((8 : Int32) &&& 31).toUInt32).toInt32)), (.int ((p1 <<< ((24 : Int32) &&& 31)) ||| ((p1 &&& (65280 : Int32)) <<< ((8 : Int32) &&& 31))))]))
  refine GoOn.st (fun t_ k_ => X0.ldcwInt hx hown (mvT hZ (hw _ (List.mem_of_getElem? (i := 61) rfl))) (g := (mkF m 17 #[.val (.int p1)] [(.int (((p1).toUInt32 >>> ((8 : Int32) &&& 31).toUInt32).toInt32)), (.int ((p1 <<< ((24 : Int32) &&& 31)) ||| ((p1 &&& (65280 : Int32)) <<< ((8 : Int32) &&& 31))))])) rfl (hb hby d_jdk_33_method_57_17) _ k_) ?_
  refine GoOn.st (fun t_ k_ => XS.iand X0.here hx rfl (hb hby d_jdk_33_method_57_20) rfl k_) ?_
  refine GoOn.st (fun t_ k_ => XS.ior X0.here hx rfl (hb hby d_jdk_33_method_57_21) rfl k_) ?_
  refine GoOn.st (fun t_ k_ => XS.iloadN X0.here hx rfl (hb hby d_jdk_33_method_57_22) rfl k_) ?_
  show GoOn _ _ _ _ (s₁.setTop (mkF m 23 #[.val (.int p1)] [(.int p1), (.int (((p1 <<< ((24 : Int32) &&& 31)) ||| ((p1 &&& (65280 : Int32)) <<< ((8 : Int32) &&& 31))) ||| ((((p1).toUInt32 >>> ((8 : Int32) &&& 31).toUInt32).toInt32) &&& (65280 : Int32))))]))
  refine GoOn.st (fun t_ k_ => XS.bipush X0.here hx rfl (hb hby d_jdk_33_method_57_23)  k_) ?_
  refine GoOn.st (fun t_ k_ => XS.iushr X0.here hx rfl (hb hby d_jdk_33_method_57_25) rfl k_) ?_
  refine GoOn.st (fun t_ k_ => XS.ior X0.here hx rfl (hb hby d_jdk_33_method_57_26) rfl k_) ?_
  show GoOn _ _ _ _ (s₁.setTop (mkF m 27 #[.val (.int p1)] [(.int ((((p1 <<< ((24 : Int32) &&& 31)) ||| ((p1 &&& (65280 : Int32)) <<< ((8 : Int32) &&& 31))) ||| ((((p1).toUInt32 >>> ((8 : Int32) &&& 31).toUInt32).toInt32) &&& (65280 : Int32))) ||| (((p1).toUInt32 >>> ((24 : Int32) &&& 31).toUInt32).toInt32)))]))
  exact GoOn.retI X0 hx hlk hret (hb hby d_jdk_33_method_57_27) (by rw [e0]; exact ⟨((((p1 <<< ((24 : Int32) &&& 31)) ||| ((p1 &&& (65280 : Int32)) <<< ((8 : Int32) &&& 31))) ||| ((((p1).toUInt32 >>> ((8 : Int32) &&& 31).toUInt32).toInt32) &&& (65280 : Int32))) ||| (((p1).toUInt32 >>> ((24 : Int32) &&& 31).toUInt32).toInt32)), rfl, rfl, rfl⟩) (by decide) (by decide)
theorem ef_rev (m : MethodId) (x0 : Int32) : entryFrame m #[(.int x0)] 1 = mkF m 0 #[.val (.int x0)] [] := by first | (simp [entryFrame, mkF, argsToLocals, Value.category]; done) | rfl
theorem d_jdk_33_method_52_0 : decode jdk_33_method_52_code 0 = .ok (.iload_n 0, 1) := by decide +kernel
theorem d_jdk_33_method_52_1 : decode jdk_33_method_52_code 1 = .ok (.ldc_w 265, 3) := by decide +kernel
theorem d_jdk_33_method_52_4 : decode jdk_33_method_52_code 4 = .ok (.iand, 1) := by decide +kernel
theorem d_jdk_33_method_52_5 : decode jdk_33_method_52_code 5 = .ok (.iconst 1, 1) := by decide +kernel
theorem d_jdk_33_method_52_6 : decode jdk_33_method_52_code 6 = .ok (.ishl, 1) := by decide +kernel
theorem d_jdk_33_method_52_7 : decode jdk_33_method_52_code 7 = .ok (.iload_n 0, 1) := by decide +kernel
theorem d_jdk_33_method_52_8 : decode jdk_33_method_52_code 8 = .ok (.iconst 1, 1) := by decide +kernel
theorem d_jdk_33_method_52_9 : decode jdk_33_method_52_code 9 = .ok (.iushr, 1) := by decide +kernel
theorem d_jdk_33_method_52_10 : decode jdk_33_method_52_code 10 = .ok (.ldc_w 265, 3) := by decide +kernel
theorem d_jdk_33_method_52_13 : decode jdk_33_method_52_code 13 = .ok (.iand, 1) := by decide +kernel
theorem d_jdk_33_method_52_14 : decode jdk_33_method_52_code 14 = .ok (.ior, 1) := by decide +kernel
theorem d_jdk_33_method_52_15 : decode jdk_33_method_52_code 15 = .ok (.istore_n 0, 1) := by decide +kernel
theorem d_jdk_33_method_52_16 : decode jdk_33_method_52_code 16 = .ok (.iload_n 0, 1) := by decide +kernel
theorem d_jdk_33_method_52_17 : decode jdk_33_method_52_code 17 = .ok (.ldc_w 266, 3) := by decide +kernel
theorem d_jdk_33_method_52_20 : decode jdk_33_method_52_code 20 = .ok (.iand, 1) := by decide +kernel
theorem d_jdk_33_method_52_21 : decode jdk_33_method_52_code 21 = .ok (.iconst 2, 1) := by decide +kernel
theorem d_jdk_33_method_52_22 : decode jdk_33_method_52_code 22 = .ok (.ishl, 1) := by decide +kernel
theorem d_jdk_33_method_52_23 : decode jdk_33_method_52_code 23 = .ok (.iload_n 0, 1) := by decide +kernel
theorem d_jdk_33_method_52_24 : decode jdk_33_method_52_code 24 = .ok (.iconst 2, 1) := by decide +kernel
theorem d_jdk_33_method_52_25 : decode jdk_33_method_52_code 25 = .ok (.iushr, 1) := by decide +kernel
theorem d_jdk_33_method_52_26 : decode jdk_33_method_52_code 26 = .ok (.ldc_w 266, 3) := by decide +kernel
theorem d_jdk_33_method_52_29 : decode jdk_33_method_52_code 29 = .ok (.iand, 1) := by decide +kernel
theorem d_jdk_33_method_52_30 : decode jdk_33_method_52_code 30 = .ok (.ior, 1) := by decide +kernel
theorem d_jdk_33_method_52_31 : decode jdk_33_method_52_code 31 = .ok (.istore_n 0, 1) := by decide +kernel
theorem d_jdk_33_method_52_32 : decode jdk_33_method_52_code 32 = .ok (.iload_n 0, 1) := by decide +kernel
theorem d_jdk_33_method_52_33 : decode jdk_33_method_52_code 33 = .ok (.ldc_w 267, 3) := by decide +kernel
theorem d_jdk_33_method_52_36 : decode jdk_33_method_52_code 36 = .ok (.iand, 1) := by decide +kernel
theorem d_jdk_33_method_52_37 : decode jdk_33_method_52_code 37 = .ok (.iconst 4, 1) := by decide +kernel
theorem d_jdk_33_method_52_38 : decode jdk_33_method_52_code 38 = .ok (.ishl, 1) := by decide +kernel
theorem d_jdk_33_method_52_39 : decode jdk_33_method_52_code 39 = .ok (.iload_n 0, 1) := by decide +kernel
theorem d_jdk_33_method_52_40 : decode jdk_33_method_52_code 40 = .ok (.iconst 4, 1) := by decide +kernel
theorem d_jdk_33_method_52_41 : decode jdk_33_method_52_code 41 = .ok (.iushr, 1) := by decide +kernel
theorem d_jdk_33_method_52_42 : decode jdk_33_method_52_code 42 = .ok (.ldc_w 267, 3) := by decide +kernel
theorem d_jdk_33_method_52_45 : decode jdk_33_method_52_code 45 = .ok (.iand, 1) := by decide +kernel
theorem d_jdk_33_method_52_46 : decode jdk_33_method_52_code 46 = .ok (.ior, 1) := by decide +kernel
theorem d_jdk_33_method_52_47 : decode jdk_33_method_52_code 47 = .ok (.istore_n 0, 1) := by decide +kernel
theorem d_jdk_33_method_52_48 : decode jdk_33_method_52_code 48 = .ok (.iload_n 0, 1) := by decide +kernel
theorem pd_0 : parseMethodDescriptor "(I)I" = some ⟨[.int], some .int⟩ := by decide +kernel
theorem d_jdk_33_method_52_49 : decode jdk_33_method_52_code 49 = .ok (.invokestatic 268, 3) := by decide +kernel
theorem d_jdk_33_method_52_52 : decode jdk_33_method_52_code 52 = .ok (.ireturn, 1) := by decide +kernel
set_option maxRecDepth 65536 in
set_option maxHeartbeats 40000000 in
theorem rm_rev (l : Launch) (Z : State) (a0 : Array Value) (hw : ∀ d ∈ tables_1, d.before a0 Z = true) (p1 : Int32) (h0 : Heap) :
    OwCon l Z (⟨"java/lang/Integer", "reverse", "(I)I"⟩ : MethodName) jdk_33_method_52_code 1 (some .int) [] ({ frames := 1, cells := 0, slots := 0, locals := 12 } : Room) #[(.int p1)] h0 (fun v h L => ∃ z, v = some (.int z) ∧ L = [] ∧ h = h0) := by
  refine OwCon.of (plainFor_of_name pn_java_lang_Integer) ?_
  intro p e s m below meth cd_ s₁ X0 hx hby hml hret hlk hown hnm hZ e0
  refine GoOn.st (fun t_ k_ => castTop (ef_rev m p1) k_) ?_
  show GoOn _ _ _ _ (s₁.setTop (mkF m 0 #[.val (.int p1)] []))
  refine GoOn.st (fun t_ k_ => XS.iloadN X0.here hx rfl (hb hby d_jdk_33_method_52_0) rfl k_) ?_
  refine GoOn.st (fun t_ k_ => X0.ldcwInt hx hown (mvT hZ (hw _ (List.mem_of_getElem? (i := 55) rfl))) (g := (mkF m 1 #[.val (.int p1)] [(.int p1)])) rfl (hb hby d_jdk_33_method_52_1) _ k_) ?_
  refine GoOn.st (fun t_ k_ => XS.iand X0.here hx rfl (hb hby d_jdk_33_method_52_4) rfl k_) ?_
  refine GoOn.st (fun t_ k_ => XS.iconst X0.here hx rfl (hb hby d_jdk_33_method_52_5)  k_) ?_
  show GoOn _ _ _ _ (s₁.setTop (mkF m 6 #[.val (.int p1)] [(.int (1 : Int32)), (.int (p1 &&& (1431655765 : Int32)))]))
  refine GoOn.st (fun t_ k_ => XS.ishl X0.here hx rfl (hb hby d_jdk_33_method_52_6) rfl k_) ?_
  refine GoOn.st (fun t_ k_ => XS.iloadN X0.here hx rfl (hb hby d_jdk_33_method_52_7) rfl k_) ?_
  refine GoOn.st (fun t_ k_ => XS.iconst X0.here hx rfl (hb hby d_jdk_33_method_52_8)  k_) ?_
  refine GoOn.st (fun t_ k_ => XS.iushr X0.here hx rfl (hb hby d_jdk_33_method_52_9) rfl k_) ?_
  show GoOn _ _ _ _ (s₁.setTop (mkF m 10 #[.val (.int p1)] [(.int (((p1).toUInt32 >>> ((1 : Int32) &&& 31).toUInt32).toInt32)), (.int ((p1 &&& (1431655765 : Int32)) <<< ((1 : Int32) &&& 31)))]))
  refine GoOn.st (fun t_ k_ => X0.ldcwInt hx hown (mvT hZ (hw _ (List.mem_of_getElem? (i := 55) rfl))) (g := (mkF m 10 #[.val (.int p1)] [(.int (((p1).toUInt32 >>> ((1 : Int32) &&& 31).toUInt32).toInt32)), (.int ((p1 &&& (1431655765 : Int32)) <<< ((1 : Int32) &&& 31)))])) rfl (hb hby d_jdk_33_method_52_10) _ k_) ?_
  refine GoOn.st (fun t_ k_ => XS.iand X0.here hx rfl (hb hby d_jdk_33_method_52_13) rfl k_) ?_
  refine GoOn.st (fun t_ k_ => XS.ior X0.here hx rfl (hb hby d_jdk_33_method_52_14) rfl k_) ?_
  refine GoOn.st (fun t_ k_ => XS.istoreN X0.here hx rfl (hb hby d_jdk_33_method_52_15) rfl (l' := #[.val (.int (((p1 &&& (1431655765 : Int32)) <<< ((1 : Int32) &&& 31)) ||| ((((p1).toUInt32 >>> ((1 : Int32) &&& 31).toUInt32).toInt32) &&& (1431655765 : Int32))))]) rfl k_) ?_
  show GoOn _ _ _ _ (s₁.setTop (mkF m 16 #[.val (.int (((p1 &&& (1431655765 : Int32)) <<< ((1 : Int32) &&& 31)) ||| ((((p1).toUInt32 >>> ((1 : Int32) &&& 31).toUInt32).toInt32) &&& (1431655765 : Int32))))] []))
  obtain ⟨r16, e_r16⟩ : ∃ z : Int32, z = (((p1 &&& (1431655765 : Int32)) <<< ((1 : Int32) &&& 31)) ||| ((((p1).toUInt32 >>> ((1 : Int32) &&& 31).toUInt32).toInt32) &&& (1431655765 : Int32))) := ⟨_, rfl⟩
  rw [← e_r16]
  refine GoOn.st (fun t_ k_ => XS.iloadN X0.here hx rfl (hb hby d_jdk_33_method_52_16) rfl k_) ?_
  refine GoOn.st (fun t_ k_ => X0.ldcwInt hx hown (mvT hZ (hw _ (List.mem_of_getElem? (i := 56) rfl))) (g := (mkF m 17 #[.val (.int r16)] [(.int r16)])) rfl (hb hby d_jdk_33_method_52_17) _ k_) ?_
  refine GoOn.st (fun t_ k_ => XS.iand X0.here hx rfl (hb hby d_jdk_33_method_52_20) rfl k_) ?_
  show GoOn _ _ _ _ (s₁.setTop (mkF m 21 #[.val (.int r16)] [(.int (r16 &&& (858993459 : Int32)))]))
  refine GoOn.st (fun t_ k_ => XS.iconst X0.here hx rfl (hb hby d_jdk_33_method_52_21)  k_) ?_
  refine GoOn.st (fun t_ k_ => XS.ishl X0.here hx rfl (hb hby d_jdk_33_method_52_22) rfl k_) ?_
  refine GoOn.st (fun t_ k_ => XS.iloadN X0.here hx rfl (hb hby d_jdk_33_method_52_23) rfl k_) ?_
  refine GoOn.st (fun t_ k_ => XS.iconst X0.here hx rfl (hb hby d_jdk_33_method_52_24)  k_) ?_
  show GoOn _ _ _ _ (s₁.setTop (mkF m 25 #[.val (.int r16)] [(.int (2 : Int32)), (.int r16), (.int ((r16 &&& (858993459 : Int32)) <<< ((2 : Int32) &&& 31)))]))
  refine GoOn.st (fun t_ k_ => XS.iushr X0.here hx rfl (hb hby d_jdk_33_method_52_25) rfl k_) ?_
  refine GoOn.st (fun t_ k_ => X0.ldcwInt hx hown (mvT hZ (hw _ (List.mem_of_getElem? (i := 56) rfl))) (g := (mkF m 26 #[.val (.int r16)] [(.int (((r16).toUInt32 >>> ((2 : Int32) &&& 31).toUInt32).toInt32)), (.int ((r16 &&& (858993459 : Int32)) <<< ((2 : Int32) &&& 31)))])) rfl (hb hby d_jdk_33_method_52_26) _ k_) ?_
  refine GoOn.st (fun t_ k_ => XS.iand X0.here hx rfl (hb hby d_jdk_33_method_52_29) rfl k_) ?_
  refine GoOn.st (fun t_ k_ => XS.ior X0.here hx rfl (hb hby d_jdk_33_method_52_30) rfl k_) ?_
  show GoOn _ _ _ _ (s₁.setTop (mkF m 31 #[.val (.int r16)] [(.int (((r16 &&& (858993459 : Int32)) <<< ((2 : Int32) &&& 31)) ||| ((((r16).toUInt32 >>> ((2 : Int32) &&& 31).toUInt32).toInt32) &&& (858993459 : Int32))))]))
  refine GoOn.st (fun t_ k_ => XS.istoreN X0.here hx rfl (hb hby d_jdk_33_method_52_31) rfl (l' := #[.val (.int (((r16 &&& (858993459 : Int32)) <<< ((2 : Int32) &&& 31)) ||| ((((r16).toUInt32 >>> ((2 : Int32) &&& 31).toUInt32).toInt32) &&& (858993459 : Int32))))]) rfl k_) ?_
  show GoOn _ _ _ _ (s₁.setTop (mkF m 32 #[.val (.int (((r16 &&& (858993459 : Int32)) <<< ((2 : Int32) &&& 31)) ||| ((((r16).toUInt32 >>> ((2 : Int32) &&& 31).toUInt32).toInt32) &&& (858993459 : Int32))))] []))
  obtain ⟨r32, e_r32⟩ : ∃ z : Int32, z = (((r16 &&& (858993459 : Int32)) <<< ((2 : Int32) &&& 31)) ||| ((((r16).toUInt32 >>> ((2 : Int32) &&& 31).toUInt32).toInt32) &&& (858993459 : Int32))) := ⟨_, rfl⟩
  rw [← e_r32]
  refine GoOn.st (fun t_ k_ => XS.iloadN X0.here hx rfl (hb hby d_jdk_33_method_52_32) rfl k_) ?_
  refine GoOn.st (fun t_ k_ => X0.ldcwInt hx hown (mvT hZ (hw _ (List.mem_of_getElem? (i := 57) rfl))) (g := (mkF m 33 #[.val (.int r32)] [(.int r32)])) rfl (hb hby d_jdk_33_method_52_33) _ k_) ?_
  refine GoOn.st (fun t_ k_ => XS.iand X0.here hx rfl (hb hby d_jdk_33_method_52_36) rfl k_) ?_
  show GoOn _ _ _ _ (s₁.setTop (mkF m 37 #[.val (.int r32)] [(.int (r32 &&& (252645135 : Int32)))]))
  refine GoOn.st (fun t_ k_ => XS.iconst X0.here hx rfl (hb hby d_jdk_33_method_52_37)  k_) ?_
  refine GoOn.st (fun t_ k_ => XS.ishl X0.here hx rfl (hb hby d_jdk_33_method_52_38) rfl k_) ?_
  refine GoOn.st (fun t_ k_ => XS.iloadN X0.here hx rfl (hb hby d_jdk_33_method_52_39) rfl k_) ?_
  refine GoOn.st (fun t_ k_ => XS.iconst X0.here hx rfl (hb hby d_jdk_33_method_52_40)  k_) ?_
  show GoOn _ _ _ _ (s₁.setTop (mkF m 41 #[.val (.int r32)] [(.int (4 : Int32)), (.int r32), (.int ((r32 &&& (252645135 : Int32)) <<< ((4 : Int32) &&& 31)))]))
  refine GoOn.st (fun t_ k_ => XS.iushr X0.here hx rfl (hb hby d_jdk_33_method_52_41) rfl k_) ?_
  refine GoOn.st (fun t_ k_ => X0.ldcwInt hx hown (mvT hZ (hw _ (List.mem_of_getElem? (i := 57) rfl))) (g := (mkF m 42 #[.val (.int r32)] [(.int (((r32).toUInt32 >>> ((4 : Int32) &&& 31).toUInt32).toInt32)), (.int ((r32 &&& (252645135 : Int32)) <<< ((4 : Int32) &&& 31)))])) rfl (hb hby d_jdk_33_method_52_42) _ k_) ?_
  refine GoOn.st (fun t_ k_ => XS.iand X0.here hx rfl (hb hby d_jdk_33_method_52_45) rfl k_) ?_
  refine GoOn.st (fun t_ k_ => XS.ior X0.here hx rfl (hb hby d_jdk_33_method_52_46) rfl k_) ?_
  show GoOn _ _ _ _ (s₁.setTop (mkF m 47 #[.val (.int r32)] [(.int (((r32 &&& (252645135 : Int32)) <<< ((4 : Int32) &&& 31)) ||| ((((r32).toUInt32 >>> ((4 : Int32) &&& 31).toUInt32).toInt32) &&& (252645135 : Int32))))]))
  refine GoOn.st (fun t_ k_ => XS.istoreN X0.here hx rfl (hb hby d_jdk_33_method_52_47) rfl (l' := #[.val (.int (((r32 &&& (252645135 : Int32)) <<< ((4 : Int32) &&& 31)) ||| ((((r32).toUInt32 >>> ((4 : Int32) &&& 31).toUInt32).toInt32) &&& (252645135 : Int32))))]) rfl k_) ?_
  show GoOn _ _ _ _ (s₁.setTop (mkF m 48 #[.val (.int (((r32 &&& (252645135 : Int32)) <<< ((4 : Int32) &&& 31)) ||| ((((r32).toUInt32 >>> ((4 : Int32) &&& 31).toUInt32).toInt32) &&& (252645135 : Int32))))] []))
  obtain ⟨r48, e_r48⟩ : ∃ z : Int32, z = (((r32 &&& (252645135 : Int32)) <<< ((4 : Int32) &&& 31)) ||| ((((r32).toUInt32 >>> ((4 : Int32) &&& 31).toUInt32).toInt32) &&& (252645135 : Int32))) := ⟨_, rfl⟩
  rw [← e_r48]
  refine GoOn.st (fun t_ k_ => XS.iloadN X0.here hx rfl (hb hby d_jdk_33_method_52_48) rfl k_) ?_
  show GoOn _ _ _ _ (s₁.setTop (mkF m 49 #[.val (.int r48)] [(.int r48)]))
  refine GoOn.callS (W := 0) (argsL := [(.int r48)]) (rest := []) X0 hx hZ hown (hw _ (List.mem_of_getElem? (i := 58) rfl)) (hw _ (List.mem_of_getElem? (i := 59) rfl)) (hw _ (List.mem_of_getElem? (i := 53) rfl)) (hw _ (List.mem_of_getElem? (i := 60) rfl)) (by decide) (rm_revb l Z a0 hw r48 h0) e0 (by decide) (by decide) (by rw [hml]; rfl) pd_0 rfl rfl (Nat.le_of_eq rfl) (hb hby d_jdk_33_method_52_49) (by decide) (by decide) ?_
  rintro _ T1 L1 X1 ⟨z1, rfl, rfl, e1⟩
  rw [List.append_nil] at X1
  show GoOn _ _ _ _ (T1.setTop (mkF m 52 #[.val (.int r48)] [(.int z1)]))
  exact GoOn.retI X1 hx hlk hret (hb hby d_jdk_33_method_52_52) (by rw [e1]; exact ⟨z1, rfl, rfl, rfl⟩) (by decide) (by decide)
theorem ef_rinit (m : MethodId) (x0 : Addr) (x1 : Int64) : entryFrame m #[(.ref x0), (.long x1)] 5 = mkF m 0 #[.val (.ref x0), .val (.long x1), .second, .unset, .unset] [] := by first | (simp [entryFrame, mkF, argsToLocals, Value.category]; done) | rfl
theorem d_prog_34_method_1_0 : decode prog_34_method_1_code 0 = .ok (.aload_n 0, 1) := by decide +kernel
theorem d_prog_34_method_1_1 : decode prog_34_method_1_code 1 = .ok (.invokespecial 1, 3) := by decide +kernel
theorem d_prog_34_method_1_4 : decode prog_34_method_1_code 4 = .ok (.lload_n 1, 1) := by decide +kernel
theorem d_prog_34_method_1_5 : decode prog_34_method_1_code 5 = .ok (.lstore_n 3, 1) := by decide +kernel
theorem d_prog_34_method_1_6 : decode prog_34_method_1_code 6 = .ok (.aload_n 0, 1) := by decide +kernel
theorem d_prog_34_method_1_7 : decode prog_34_method_1_code 7 = .ok (.lload_n 3, 1) := by decide +kernel
theorem d_prog_34_method_1_8 : decode prog_34_method_1_code 8 = .ok (.ldc2_w 9, 3) := by decide +kernel
theorem d_prog_34_method_1_11 : decode prog_34_method_1_code 11 = .ok (.ladd, 1) := by decide +kernel
theorem d_prog_34_method_1_12 : decode prog_34_method_1_code 12 = .ok (.dup2, 1) := by decide +kernel
theorem d_prog_34_method_1_13 : decode prog_34_method_1_code 13 = .ok (.lstore_n 3, 1) := by decide +kernel
theorem pd_1 : parseMethodDescriptor "(J)J" = some ⟨[.long], some .long⟩ := by decide +kernel
theorem d_prog_34_method_1_14 : decode prog_34_method_1_code 14 = .ok (.invokestatic 11, 3) := by decide +kernel
theorem d_prog_34_method_1_17 : decode prog_34_method_1_code 17 = .ok (.putfield 15, 3) := by decide +kernel
theorem d_prog_34_method_1_20 : decode prog_34_method_1_code 20 = .ok (.aload_n 0, 1) := by decide +kernel
theorem d_prog_34_method_1_21 : decode prog_34_method_1_code 21 = .ok (.lload_n 3, 1) := by decide +kernel
theorem d_prog_34_method_1_22 : decode prog_34_method_1_code 22 = .ok (.ldc2_w 9, 3) := by decide +kernel
theorem d_prog_34_method_1_25 : decode prog_34_method_1_code 25 = .ok (.ladd, 1) := by decide +kernel
theorem d_prog_34_method_1_26 : decode prog_34_method_1_code 26 = .ok (.dup2, 1) := by decide +kernel
theorem d_prog_34_method_1_27 : decode prog_34_method_1_code 27 = .ok (.lstore_n 3, 1) := by decide +kernel
theorem d_prog_34_method_1_28 : decode prog_34_method_1_code 28 = .ok (.invokestatic 11, 3) := by decide +kernel
theorem d_prog_34_method_1_31 : decode prog_34_method_1_code 31 = .ok (.putfield 19, 3) := by decide +kernel
theorem d_prog_34_method_1_34 : decode prog_34_method_1_code 34 = .ok (.aload_n 0, 1) := by decide +kernel
theorem d_prog_34_method_1_35 : decode prog_34_method_1_code 35 = .ok (.lload_n 3, 1) := by decide +kernel
theorem d_prog_34_method_1_36 : decode prog_34_method_1_code 36 = .ok (.ldc2_w 9, 3) := by decide +kernel
theorem d_prog_34_method_1_39 : decode prog_34_method_1_code 39 = .ok (.ladd, 1) := by decide +kernel
theorem d_prog_34_method_1_40 : decode prog_34_method_1_code 40 = .ok (.dup2, 1) := by decide +kernel
theorem d_prog_34_method_1_41 : decode prog_34_method_1_code 41 = .ok (.lstore_n 3, 1) := by decide +kernel
theorem d_prog_34_method_1_42 : decode prog_34_method_1_code 42 = .ok (.invokestatic 11, 3) := by decide +kernel
theorem d_prog_34_method_1_45 : decode prog_34_method_1_code 45 = .ok (.putfield 22, 3) := by decide +kernel
theorem d_prog_34_method_1_48 : decode prog_34_method_1_code 48 = .ok (.aload_n 0, 1) := by decide +kernel
theorem d_prog_34_method_1_49 : decode prog_34_method_1_code 49 = .ok (.lload_n 3, 1) := by decide +kernel
theorem d_prog_34_method_1_50 : decode prog_34_method_1_code 50 = .ok (.ldc2_w 9, 3) := by decide +kernel
theorem d_prog_34_method_1_53 : decode prog_34_method_1_code 53 = .ok (.ladd, 1) := by decide +kernel
theorem d_prog_34_method_1_54 : decode prog_34_method_1_code 54 = .ok (.invokestatic 11, 3) := by decide +kernel
theorem d_prog_34_method_1_57 : decode prog_34_method_1_code 57 = .ok (.putfield 25, 3) := by decide +kernel
theorem d_prog_34_method_1_60 : decode prog_34_method_1_code 60 = .ok (.return_, 1) := by decide +kernel
set_option maxRecDepth 65536 in
set_option maxHeartbeats 40000000 in
theorem rm_rinit (l : Launch) (Z : State) (a0 : Array Value) (hw : ∀ d ∈ tables_1, d.before a0 Z = true) (a1 : Addr) (q1 : Int64) (h0 : Heap) (n0 : Nat) (Ea : Exa Z h0 a1 "com/example/frontwise/frontwise/model/RandomStream") (Fs0 : Fld Z h0 a1 "com/example/frontwise/frontwise/model/RandomStream" "s0" "J" (.long (0 : Int64))) (Fs1 : Fld Z h0 a1 "com/example/frontwise/frontwise/model/RandomStream" "s1" "J" (.long (0 : Int64))) (Fs2 : Fld Z h0 a1 "com/example/frontwise/frontwise/model/RandomStream" "s2" "J" (.long (0 : Int64))) (Fs3 : Fld Z h0 a1 "com/example/frontwise/frontwise/model/RandomStream" "s3" "J" (.long (0 : Int64))) (g_a1 : n0 ≤ a1) :
    OwCon l Z (⟨"com/example/frontwise/frontwise/model/RandomStream", "<init>", "(J)V"⟩ : MethodName) prog_34_method_1_code 5 none [] ({ frames := 1, cells := 0, slots := 0, locals := 16 } : Room) #[(.ref a1), (.long q1)] h0 (fun v h L => ∃ S : XS, v = none ∧ Fr n0 L ∧ Keep h0 h [a1] ∧ Exa Z h a1 "com/example/frontwise/frontwise/model/RandomStream" ∧ Fld Z h a1 "com/example/frontwise/frontwise/model/RandomStream" "s0" "J" (.long S.s0) ∧ Fld Z h a1 "com/example/frontwise/frontwise/model/RandomStream" "s1" "J" (.long S.s1) ∧ Fld Z h a1 "com/example/frontwise/frontwise/model/RandomStream" "s2" "J" (.long S.s2) ∧ Fld Z h a1 "com/example/frontwise/frontwise/model/RandomStream" "s3" "J" (.long S.s3)) := by
  refine OwCon.of (plainFor_of_name pn_com_example_frontwise_frontwise_model_RandomStream) ?_
  intro p e s m below meth cd_ s₁ X0 hx hby hml hret hlk hown hnm hZ e0
  have N0 := Fr.nil n0
  refine GoOn.st (fun t_ k_ => castTop (ef_rinit m a1 q1) k_) ?_
  show GoOn _ _ _ _ (s₁.setTop (mkF m 0 #[.val (.ref a1), .val (.long q1), .second, .unset, .unset] []))
  refine GoOn.st (fun t_ k_ => XS.aloadN X0.here hx rfl (hb hby d_prog_34_method_1_0) rfl rfl k_) ?_
  show GoOn _ _ _ _ (s₁.setTop (mkF m 1 #[.val (.ref a1), .val (.long q1), .second, .unset, .unset] [(.ref a1)]))
  obtain ⟨T1, X1, e1, st1⟩ := initO X0 hx hZ hown (hw _ (List.mem_of_getElem? (i := 32) rfl)) (hw _ (List.mem_of_getElem? (i := 12) rfl)) (hw _ (List.mem_of_getElem? (i := 13) rfl)) e0 (g := (mkF m 1 #[.val (.ref a1), .val (.long q1), .second, .unset, .unset] [(.ref a1)])) rfl (by rw [hml]; rfl) rfl (hb hby d_prog_34_method_1_1) (by decide) (W := 0) (by show 2 * 0 + _ ≤ _; exact Nat.le_of_eq rfl) (by decide)
  refine GoOn.st st1 ?_
  refine GoOn.st (fun t_ k_ => XS.lloadN X1.here hx rfl (hb hby d_prog_34_method_1_4) rfl k_) ?_
  refine GoOn.st (fun t_ k_ => XS.lstoreN X1.here hx rfl (hb hby d_prog_34_method_1_5) rfl (l' := #[.val (.ref a1), .val (.long q1), .second, .val (.long q1), .second]) rfl k_) ?_
  refine GoOn.st (fun t_ k_ => XS.aloadN X1.here hx rfl (hb hby d_prog_34_method_1_6) rfl rfl k_) ?_
  show GoOn _ _ _ _ (T1.setTop (mkF m 7 #[.val (.ref a1), .val (.long q1), .second, .val (.long q1), .second] [(.ref a1)]))
  refine GoOn.st (fun t_ k_ => XS.lloadN X1.here hx rfl (hb hby d_prog_34_method_1_7) rfl k_) ?_
  refine GoOn.st (fun t_ k_ => X1.ldc2Long hx hown (mvT hZ (hw _ (List.mem_of_getElem? (i := 33) rfl))) (g := (mkF m 8 #[.val (.ref a1), .val (.long q1), .second, .val (.long q1), .second] [(.long q1), (.ref a1)])) rfl (hb hby d_prog_34_method_1_8) _ k_) ?_
  refine GoOn.st (fun t_ k_ => XS.ladd X1.here hx rfl (hb hby d_prog_34_method_1_11) rfl k_) ?_
  show GoOn _ _ _ _ (T1.setTop (mkF m 12 #[.val (.ref a1), .val (.long q1), .second, .val (.long q1), .second] [(.long (q1 + (-7046029254386353131 : Int64))), (.ref a1)]))
  refine GoOn.st (S' := T1.setTop (mkF m 13 #[.val (.ref a1), .val (.long q1), .second, .val (.long q1), .second] [(.long (q1 + (-7046029254386353131 : Int64))), (.long (q1 + (-7046029254386353131 : Int64))), (.ref a1)])) (fun t_ k_ => by jvm_step X1.here [X1.here.top, hx, (hb hby d_prog_34_method_1_12), Value.category]; exact k_) ?_
  refine GoOn.st (fun t_ k_ => XS.lstoreN X1.here hx rfl (hb hby d_prog_34_method_1_13) rfl (l' := #[.val (.ref a1), .val (.long q1), .second, .val (.long (q1 + (-7046029254386353131 : Int64))), .second]) rfl k_) ?_
  show GoOn _ _ _ _ (T1.setTop (mkF m 14 #[.val (.ref a1), .val (.long q1), .second, .val (.long (q1 + (-7046029254386353131 : Int64))), .second] [(.long (q1 + (-7046029254386353131 : Int64))), (.ref a1)]))
  obtain ⟨k14, e_k14⟩ : ∃ z : Int64, z = (q1 + (-7046029254386353131 : Int64)) := ⟨_, rfl⟩
  rw [← e_k14]
  show GoOn _ _ _ _ (T1.setTop (mkF m 14 #[.val (.ref a1), .val (.long q1), .second, .val (.long k14), .second] [(.long k14), (.ref a1)]))
  refine GoOn.callS (W := 1) (argsL := [(.long k14)]) (rest := [(.ref a1)]) X1 hx hZ hown (hw _ (List.mem_of_getElem? (i := 34) rfl)) (hw _ (List.mem_of_getElem? (i := 35) rfl)) (hw _ (List.mem_of_getElem? (i := 28) rfl)) (hw _ (List.mem_of_getElem? (i := 36) rfl)) (by decide) (rm_mix l Z a0 hw k14 h0) e1 (by decide) (by decide) (by rw [hml]; rfl) pd_1 rfl rfl (Nat.le_of_eq rfl) (hb hby d_prog_34_method_1_14) (by decide) (by decide) ?_
  rintro _ T2 L2 X2 ⟨z2, rfl, rfl, e2⟩
  rw [List.append_nil] at X2
  obtain ⟨T3, h3, X3, e3, W3, st3⟩ := putF X2 hx hZ hown (host := "") (Or.inl (hw _ (List.mem_of_getElem? (i := 39) rfl))) Via.refl e2 Fs0 Ea (Or.inl (hw _ (List.mem_of_getElem? (i := 40) rfl))) (hw _ (List.mem_of_getElem? (i := 27) rfl)) (ty := .long) (by decide) rfl rfl (g := (mkF m 17 #[.val (.ref a1), .val (.long q1), .second, .val (.long k14), .second] [(.long z2), (.ref a1)])) rfl rfl (hb hby d_prog_34_method_1_17)
  have Fw3 := Fld.same W3 Fs0
  have N4 := Fr.snoc X3 N0 g_a1
  refine GoOn.st st3 ?_
  refine GoOn.st (fun t_ k_ => XS.aloadN X3.here hx rfl (hb hby d_prog_34_method_1_20) rfl rfl k_) ?_
  refine GoOn.st (fun t_ k_ => XS.lloadN X3.here hx rfl (hb hby d_prog_34_method_1_21) rfl k_) ?_
  show GoOn _ _ _ _ (T3.setTop (mkF m 22 #[.val (.ref a1), .val (.long q1), .second, .val (.long k14), .second] [(.long k14), (.ref a1)]))
  refine GoOn.st (fun t_ k_ => X3.ldc2Long hx hown (mvT hZ (hw _ (List.mem_of_getElem? (i := 33) rfl))) (g := (mkF m 22 #[.val (.ref a1), .val (.long q1), .second, .val (.long k14), .second] [(.long k14), (.ref a1)])) rfl (hb hby d_prog_34_method_1_22) _ k_) ?_
  refine GoOn.st (fun t_ k_ => XS.ladd X3.here hx rfl (hb hby d_prog_34_method_1_25) rfl k_) ?_
  show GoOn _ _ _ _ (T3.setTop (mkF m 26 #[.val (.ref a1), .val (.long q1), .second, .val (.long k14), .second] [(.long (k14 + (-7046029254386353131 : Int64))), (.ref a1)]))
  refine GoOn.st (S' := T3.setTop (mkF m 27 #[.val (.ref a1), .val (.long q1), .second, .val (.long k14), .second] [(.long (k14 + (-7046029254386353131 : Int64))), (.long (k14 + (-7046029254386353131 : Int64))), (.ref a1)])) (fun t_ k_ => by jvm_step X3.here [X3.here.top, hx, (hb hby d_prog_34_method_1_26), Value.category]; exact k_) ?_
  refine GoOn.st (fun t_ k_ => XS.lstoreN X3.here hx rfl (hb hby d_prog_34_method_1_27) rfl (l' := #[.val (.ref a1), .val (.long q1), .second, .val (.long (k14 + (-7046029254386353131 : Int64))), .second]) rfl k_) ?_
  show GoOn _ _ _ _ (T3.setTop (mkF m 28 #[.val (.ref a1), .val (.long q1), .second, .val (.long (k14 + (-7046029254386353131 : Int64))), .second] [(.long (k14 + (-7046029254386353131 : Int64))), (.ref a1)]))
  obtain ⟨k28, e_k28⟩ : ∃ z : Int64, z = (k14 + (-7046029254386353131 : Int64)) := ⟨_, rfl⟩
  rw [← e_k28]
  show GoOn _ _ _ _ (T3.setTop (mkF m 28 #[.val (.ref a1), .val (.long q1), .second, .val (.long k28), .second] [(.long k28), (.ref a1)]))
  refine GoOn.callS (W := 1) (argsL := [(.long k28)]) (rest := [(.ref a1)]) X3 hx hZ hown (hw _ (List.mem_of_getElem? (i := 34) rfl)) (hw _ (List.mem_of_getElem? (i := 35) rfl)) (hw _ (List.mem_of_getElem? (i := 28) rfl)) (hw _ (List.mem_of_getElem? (i := 36) rfl)) (by decide) (rm_mix l Z a0 hw k28 h3) e3 (by decide) (by decide) (by rw [hml]; rfl) pd_1 rfl rfl (Nat.le_of_eq rfl) (hb hby d_prog_34_method_1_28) (by decide) (by decide) ?_
  rintro _ T5 L5 X5 ⟨z5, rfl, rfl, e5⟩
  rw [List.append_nil] at X5
  have F6 := (Exa.wr W3 Ea)
  have F7 := (Fld.other W3 Fs1 (Or.inr (slot_ne (Or.inl (hw _ (List.mem_of_getElem? (i := 42) rfl))) (Or.inl (hw _ (List.mem_of_getElem? (i := 40) rfl))) (by decide) (t := .long) (t' := .long) (by decide) (by decide))))
  obtain ⟨T8, h8, X8, e8, W8, st8⟩ := putF X5 hx hZ hown (host := "") (Or.inl (hw _ (List.mem_of_getElem? (i := 41) rfl))) Via.refl e5 F7 F6 (Or.inl (hw _ (List.mem_of_getElem? (i := 42) rfl))) (hw _ (List.mem_of_getElem? (i := 27) rfl)) (ty := .long) (by decide) rfl rfl (g := (mkF m 31 #[.val (.ref a1), .val (.long q1), .second, .val (.long k28), .second] [(.long z5), (.ref a1)])) rfl rfl (hb hby d_prog_34_method_1_31)
  have Fw8 := Fld.same W8 F7
  have N9 := Fr.snoc X8 N4 g_a1
  refine GoOn.st st8 ?_
  refine GoOn.st (fun t_ k_ => XS.aloadN X8.here hx rfl (hb hby d_prog_34_method_1_34) rfl rfl k_) ?_
  refine GoOn.st (fun t_ k_ => XS.lloadN X8.here hx rfl (hb hby d_prog_34_method_1_35) rfl k_) ?_
  show GoOn _ _ _ _ (T8.setTop (mkF m 36 #[.val (.ref a1), .val (.long q1), .second, .val (.long k28), .second] [(.long k28), (.ref a1)]))
  refine GoOn.st (fun t_ k_ => X8.ldc2Long hx hown (mvT hZ (hw _ (List.mem_of_getElem? (i := 33) rfl))) (g := (mkF m 36 #[.val (.ref a1), .val (.long q1), .second, .val (.long k28), .second] [(.long k28), (.ref a1)])) rfl (hb hby d_prog_34_method_1_36) _ k_) ?_
  refine GoOn.st (fun t_ k_ => XS.ladd X8.here hx rfl (hb hby d_prog_34_method_1_39) rfl k_) ?_
  show GoOn _ _ _ _ (T8.setTop (mkF m 40 #[.val (.ref a1), .val (.long q1), .second, .val (.long k28), .second] [(.long (k28 + (-7046029254386353131 : Int64))), (.ref a1)]))
  refine GoOn.st (S' := T8.setTop (mkF m 41 #[.val (.ref a1), .val (.long q1), .second, .val (.long k28), .second] [(.long (k28 + (-7046029254386353131 : Int64))), (.long (k28 + (-7046029254386353131 : Int64))), (.ref a1)])) (fun t_ k_ => by jvm_step X8.here [X8.here.top, hx, (hb hby d_prog_34_method_1_40), Value.category]; exact k_) ?_
  refine GoOn.st (fun t_ k_ => XS.lstoreN X8.here hx rfl (hb hby d_prog_34_method_1_41) rfl (l' := #[.val (.ref a1), .val (.long q1), .second, .val (.long (k28 + (-7046029254386353131 : Int64))), .second]) rfl k_) ?_
  show GoOn _ _ _ _ (T8.setTop (mkF m 42 #[.val (.ref a1), .val (.long q1), .second, .val (.long (k28 + (-7046029254386353131 : Int64))), .second] [(.long (k28 + (-7046029254386353131 : Int64))), (.ref a1)]))
  obtain ⟨k42, e_k42⟩ : ∃ z : Int64, z = (k28 + (-7046029254386353131 : Int64)) := ⟨_, rfl⟩
  rw [← e_k42]
  show GoOn _ _ _ _ (T8.setTop (mkF m 42 #[.val (.ref a1), .val (.long q1), .second, .val (.long k42), .second] [(.long k42), (.ref a1)]))
  refine GoOn.callS (W := 1) (argsL := [(.long k42)]) (rest := [(.ref a1)]) X8 hx hZ hown (hw _ (List.mem_of_getElem? (i := 34) rfl)) (hw _ (List.mem_of_getElem? (i := 35) rfl)) (hw _ (List.mem_of_getElem? (i := 28) rfl)) (hw _ (List.mem_of_getElem? (i := 36) rfl)) (by decide) (rm_mix l Z a0 hw k42 h8) e8 (by decide) (by decide) (by rw [hml]; rfl) pd_1 rfl rfl (Nat.le_of_eq rfl) (hb hby d_prog_34_method_1_42) (by decide) (by decide) ?_
  rintro _ T10 L10 X10 ⟨z10, rfl, rfl, e10⟩
  rw [List.append_nil] at X10
  have F11 := (Exa.wr W8 F6)
  have F12 := (Fld.other W8 (Fld.other W3 Fs2 (Or.inr (slot_ne (Or.inl (hw _ (List.mem_of_getElem? (i := 44) rfl))) (Or.inl (hw _ (List.mem_of_getElem? (i := 40) rfl))) (by decide) (t := .long) (t' := .long) (by decide) (by decide)))) (Or.inr (slot_ne (Or.inl (hw _ (List.mem_of_getElem? (i := 44) rfl))) (Or.inl (hw _ (List.mem_of_getElem? (i := 42) rfl))) (by decide) (t := .long) (t' := .long) (by decide) (by decide))))
  obtain ⟨T13, h13, X13, e13, W13, st13⟩ := putF X10 hx hZ hown (host := "") (Or.inl (hw _ (List.mem_of_getElem? (i := 43) rfl))) Via.refl e10 F12 F11 (Or.inl (hw _ (List.mem_of_getElem? (i := 44) rfl))) (hw _ (List.mem_of_getElem? (i := 27) rfl)) (ty := .long) (by decide) rfl rfl (g := (mkF m 45 #[.val (.ref a1), .val (.long q1), .second, .val (.long k42), .second] [(.long z10), (.ref a1)])) rfl rfl (hb hby d_prog_34_method_1_45)
  have Fw13 := Fld.same W13 F12
  have N14 := Fr.snoc X13 N9 g_a1
  refine GoOn.st st13 ?_
  refine GoOn.st (fun t_ k_ => XS.aloadN X13.here hx rfl (hb hby d_prog_34_method_1_48) rfl rfl k_) ?_
  refine GoOn.st (fun t_ k_ => XS.lloadN X13.here hx rfl (hb hby d_prog_34_method_1_49) rfl k_) ?_
  show GoOn _ _ _ _ (T13.setTop (mkF m 50 #[.val (.ref a1), .val (.long q1), .second, .val (.long k42), .second] [(.long k42), (.ref a1)]))
  refine GoOn.st (fun t_ k_ => X13.ldc2Long hx hown (mvT hZ (hw _ (List.mem_of_getElem? (i := 33) rfl))) (g := (mkF m 50 #[.val (.ref a1), .val (.long q1), .second, .val (.long k42), .second] [(.long k42), (.ref a1)])) rfl (hb hby d_prog_34_method_1_50) _ k_) ?_
  refine GoOn.st (fun t_ k_ => XS.ladd X13.here hx rfl (hb hby d_prog_34_method_1_53) rfl k_) ?_
  show GoOn _ _ _ _ (T13.setTop (mkF m 54 #[.val (.ref a1), .val (.long q1), .second, .val (.long k42), .second] [(.long (k42 + (-7046029254386353131 : Int64))), (.ref a1)]))
  refine GoOn.callS (W := 1) (argsL := [(.long (k42 + (-7046029254386353131 : Int64)))]) (rest := [(.ref a1)]) X13 hx hZ hown (hw _ (List.mem_of_getElem? (i := 34) rfl)) (hw _ (List.mem_of_getElem? (i := 35) rfl)) (hw _ (List.mem_of_getElem? (i := 28) rfl)) (hw _ (List.mem_of_getElem? (i := 36) rfl)) (by decide) (rm_mix l Z a0 hw (k42 + (-7046029254386353131 : Int64)) h13) e13 (by decide) (by decide) (by rw [hml]; rfl) pd_1 rfl rfl (Nat.le_of_eq rfl) (hb hby d_prog_34_method_1_54) (by decide) (by decide) ?_
  rintro _ T15 L15 X15 ⟨z15, rfl, rfl, e15⟩
  rw [List.append_nil] at X15
  have F16 := (Exa.wr W13 F11)
  have F17 := (Fld.other W13 (Fld.other W8 (Fld.other W3 Fs3 (Or.inr (slot_ne (Or.inl (hw _ (List.mem_of_getElem? (i := 46) rfl))) (Or.inl (hw _ (List.mem_of_getElem? (i := 40) rfl))) (by decide) (t := .long) (t' := .long) (by decide) (by decide)))) (Or.inr (slot_ne (Or.inl (hw _ (List.mem_of_getElem? (i := 46) rfl))) (Or.inl (hw _ (List.mem_of_getElem? (i := 42) rfl))) (by decide) (t := .long) (t' := .long) (by decide) (by decide)))) (Or.inr (slot_ne (Or.inl (hw _ (List.mem_of_getElem? (i := 46) rfl))) (Or.inl (hw _ (List.mem_of_getElem? (i := 44) rfl))) (by decide) (t := .long) (t' := .long) (by decide) (by decide))))
  obtain ⟨T18, h18, X18, e18, W18, st18⟩ := putF X15 hx hZ hown (host := "") (Or.inl (hw _ (List.mem_of_getElem? (i := 45) rfl))) Via.refl e15 F17 F16 (Or.inl (hw _ (List.mem_of_getElem? (i := 46) rfl))) (hw _ (List.mem_of_getElem? (i := 27) rfl)) (ty := .long) (by decide) rfl rfl (g := (mkF m 57 #[.val (.ref a1), .val (.long q1), .second, .val (.long k42), .second] [(.long z15), (.ref a1)])) rfl rfl (hb hby d_prog_34_method_1_57)
  have Fw18 := Fld.same W18 F17
  have N19 := Fr.snoc X18 N14 g_a1
  refine GoOn.st st18 ?_
  show GoOn _ _ _ _ (T18.setTop (mkF m 60 #[.val (.ref a1), .val (.long q1), .second, .val (.long k42), .second] []))
  exact GoOn.retV X18 hx hlk hret (hb hby d_prog_34_method_1_60) (by rw [e18]; exact ⟨⟨z2, z5, z10, z15⟩, rfl, N19, (((((Keep.refl h0 [a1]).wr W3 (Or.inl (List.mem_of_getElem? (i := 0) rfl))).wr W8 (Or.inl (List.mem_of_getElem? (i := 0) rfl))).wr W13 (Or.inl (List.mem_of_getElem? (i := 0) rfl))).wr W18 (Or.inl (List.mem_of_getElem? (i := 0) rfl))), (Exa.wr W18 F16), (Fld.other W18 (Fld.other W13 (Fld.other W8 Fw3 (Or.inr (slot_ne (Or.inl (hw _ (List.mem_of_getElem? (i := 40) rfl))) (Or.inl (hw _ (List.mem_of_getElem? (i := 42) rfl))) (by decide) (t := .long) (t' := .long) (by decide) (by decide)))) (Or.inr (slot_ne (Or.inl (hw _ (List.mem_of_getElem? (i := 40) rfl))) (Or.inl (hw _ (List.mem_of_getElem? (i := 44) rfl))) (by decide) (t := .long) (t' := .long) (by decide) (by decide)))) (Or.inr (slot_ne (Or.inl (hw _ (List.mem_of_getElem? (i := 40) rfl))) (Or.inl (hw _ (List.mem_of_getElem? (i := 46) rfl))) (by decide) (t := .long) (t' := .long) (by decide) (by decide)))), (Fld.other W18 (Fld.other W13 Fw8 (Or.inr (slot_ne (Or.inl (hw _ (List.mem_of_getElem? (i := 42) rfl))) (Or.inl (hw _ (List.mem_of_getElem? (i := 44) rfl))) (by decide) (t := .long) (t' := .long) (by decide) (by decide)))) (Or.inr (slot_ne (Or.inl (hw _ (List.mem_of_getElem? (i := 42) rfl))) (Or.inl (hw _ (List.mem_of_getElem? (i := 46) rfl))) (by decide) (t := .long) (t' := .long) (by decide) (by decide)))), (Fld.other W18 Fw13 (Or.inr (slot_ne (Or.inl (hw _ (List.mem_of_getElem? (i := 44) rfl))) (Or.inl (hw _ (List.mem_of_getElem? (i := 46) rfl))) (by decide) (t := .long) (t' := .long) (by decide) (by decide)))), Fw18⟩) (by decide) (by decide)
theorem ef_nlong (m : MethodId) (x0 : Addr) : entryFrame m #[(.ref x0)] 5 = mkF m 0 #[.val (.ref x0), .unset, .unset, .unset, .unset] [] := by first | (simp [entryFrame, mkF, argsToLocals, Value.category]; done) | rfl
theorem d_prog_34_method_2_0 : decode prog_34_method_2_code 0 = .ok (.aload_n 0, 1) := by decide +kernel
theorem d_prog_34_method_2_1 : decode prog_34_method_2_code 1 = .ok (.getfield 15, 3) := by decide +kernel
theorem d_prog_34_method_2_4 : decode prog_34_method_2_code 4 = .ok (.aload_n 0, 1) := by decide +kernel
theorem d_prog_34_method_2_5 : decode prog_34_method_2_code 5 = .ok (.getfield 25, 3) := by decide +kernel
theorem d_prog_34_method_2_8 : decode prog_34_method_2_code 8 = .ok (.ladd, 1) := by decide +kernel
theorem d_prog_34_method_2_9 : decode prog_34_method_2_code 9 = .ok (.bipush 23, 2) := by decide +kernel
theorem pd_2 : parseMethodDescriptor "(JI)J" = some ⟨[.long, .int], some .long⟩ := by decide +kernel
theorem d_prog_34_method_2_11 : decode prog_34_method_2_code 11 = .ok (.invokestatic 28, 3) := by decide +kernel
theorem d_prog_34_method_2_14 : decode prog_34_method_2_code 14 = .ok (.aload_n 0, 1) := by decide +kernel
theorem d_prog_34_method_2_15 : decode prog_34_method_2_code 15 = .ok (.getfield 15, 3) := by decide +kernel
theorem d_prog_34_method_2_18 : decode prog_34_method_2_code 18 = .ok (.ladd, 1) := by decide +kernel
theorem d_prog_34_method_2_19 : decode prog_34_method_2_code 19 = .ok (.lstore_n 1, 1) := by decide +kernel
theorem d_prog_34_method_2_20 : decode prog_34_method_2_code 20 = .ok (.aload_n 0, 1) := by decide +kernel
theorem d_prog_34_method_2_21 : decode prog_34_method_2_code 21 = .ok (.getfield 19, 3) := by decide +kernel
theorem d_prog_34_method_2_24 : decode prog_34_method_2_code 24 = .ok (.bipush 17, 2) := by decide +kernel
theorem d_prog_34_method_2_26 : decode prog_34_method_2_code 26 = .ok (.lshl, 1) := by decide +kernel
theorem d_prog_34_method_2_27 : decode prog_34_method_2_code 27 = .ok (.lstore_n 3, 1) := by decide +kernel
theorem d_prog_34_method_2_28 : decode prog_34_method_2_code 28 = .ok (.aload_n 0, 1) := by decide +kernel
theorem d_prog_34_method_2_29 : decode prog_34_method_2_code 29 = .ok (.dup, 1) := by decide +kernel
theorem d_prog_34_method_2_30 : decode prog_34_method_2_code 30 = .ok (.getfield 22, 3) := by decide +kernel
theorem d_prog_34_method_2_33 : decode prog_34_method_2_code 33 = .ok (.aload_n 0, 1) := by decide +kernel
theorem d_prog_34_method_2_34 : decode prog_34_method_2_code 34 = .ok (.getfield 15, 3) := by decide +kernel
theorem d_prog_34_method_2_37 : decode prog_34_method_2_code 37 = .ok (.lxor, 1) := by decide +kernel
theorem d_prog_34_method_2_38 : decode prog_34_method_2_code 38 = .ok (.putfield 22, 3) := by decide +kernel
theorem d_prog_34_method_2_41 : decode prog_34_method_2_code 41 = .ok (.aload_n 0, 1) := by decide +kernel
theorem d_prog_34_method_2_42 : decode prog_34_method_2_code 42 = .ok (.dup, 1) := by decide +kernel
theorem d_prog_34_method_2_43 : decode prog_34_method_2_code 43 = .ok (.getfield 25, 3) := by decide +kernel
theorem d_prog_34_method_2_46 : decode prog_34_method_2_code 46 = .ok (.aload_n 0, 1) := by decide +kernel
theorem d_prog_34_method_2_47 : decode prog_34_method_2_code 47 = .ok (.getfield 19, 3) := by decide +kernel
theorem d_prog_34_method_2_50 : decode prog_34_method_2_code 50 = .ok (.lxor, 1) := by decide +kernel
theorem d_prog_34_method_2_51 : decode prog_34_method_2_code 51 = .ok (.putfield 25, 3) := by decide +kernel
theorem d_prog_34_method_2_54 : decode prog_34_method_2_code 54 = .ok (.aload_n 0, 1) := by decide +kernel
theorem d_prog_34_method_2_55 : decode prog_34_method_2_code 55 = .ok (.dup, 1) := by decide +kernel
theorem d_prog_34_method_2_56 : decode prog_34_method_2_code 56 = .ok (.getfield 19, 3) := by decide +kernel
theorem d_prog_34_method_2_59 : decode prog_34_method_2_code 59 = .ok (.aload_n 0, 1) := by decide +kernel
theorem d_prog_34_method_2_60 : decode prog_34_method_2_code 60 = .ok (.getfield 22, 3) := by decide +kernel
theorem d_prog_34_method_2_63 : decode prog_34_method_2_code 63 = .ok (.lxor, 1) := by decide +kernel
theorem d_prog_34_method_2_64 : decode prog_34_method_2_code 64 = .ok (.putfield 19, 3) := by decide +kernel
theorem d_prog_34_method_2_67 : decode prog_34_method_2_code 67 = .ok (.aload_n 0, 1) := by decide +kernel
theorem d_prog_34_method_2_68 : decode prog_34_method_2_code 68 = .ok (.dup, 1) := by decide +kernel
theorem d_prog_34_method_2_69 : decode prog_34_method_2_code 69 = .ok (.getfield 15, 3) := by decide +kernel
theorem d_prog_34_method_2_72 : decode prog_34_method_2_code 72 = .ok (.aload_n 0, 1) := by decide +kernel
theorem d_prog_34_method_2_73 : decode prog_34_method_2_code 73 = .ok (.getfield 25, 3) := by decide +kernel
theorem d_prog_34_method_2_76 : decode prog_34_method_2_code 76 = .ok (.lxor, 1) := by decide +kernel
theorem d_prog_34_method_2_77 : decode prog_34_method_2_code 77 = .ok (.putfield 15, 3) := by decide +kernel
theorem d_prog_34_method_2_80 : decode prog_34_method_2_code 80 = .ok (.aload_n 0, 1) := by decide +kernel
theorem d_prog_34_method_2_81 : decode prog_34_method_2_code 81 = .ok (.dup, 1) := by decide +kernel
theorem d_prog_34_method_2_82 : decode prog_34_method_2_code 82 = .ok (.getfield 22, 3) := by decide +kernel
theorem d_prog_34_method_2_85 : decode prog_34_method_2_code 85 = .ok (.lload_n 3, 1) := by decide +kernel
theorem d_prog_34_method_2_86 : decode prog_34_method_2_code 86 = .ok (.lxor, 1) := by decide +kernel
theorem d_prog_34_method_2_87 : decode prog_34_method_2_code 87 = .ok (.putfield 22, 3) := by decide +kernel
theorem d_prog_34_method_2_90 : decode prog_34_method_2_code 90 = .ok (.aload_n 0, 1) := by decide +kernel
theorem d_prog_34_method_2_91 : decode prog_34_method_2_code 91 = .ok (.aload_n 0, 1) := by decide +kernel
theorem d_prog_34_method_2_92 : decode prog_34_method_2_code 92 = .ok (.getfield 25, 3) := by decide +kernel
theorem d_prog_34_method_2_95 : decode prog_34_method_2_code 95 = .ok (.bipush 45, 2) := by decide +kernel
theorem d_prog_34_method_2_97 : decode prog_34_method_2_code 97 = .ok (.invokestatic 28, 3) := by decide +kernel
theorem d_prog_34_method_2_100 : decode prog_34_method_2_code 100 = .ok (.putfield 25, 3) := by decide +kernel
theorem d_prog_34_method_2_103 : decode prog_34_method_2_code 103 = .ok (.lload_n 1, 1) := by decide +kernel
theorem d_prog_34_method_2_104 : decode prog_34_method_2_code 104 = .ok (.lreturn, 1) := by decide +kernel
set_option maxRecDepth 65536 in
set_option maxHeartbeats 40000000 in
theorem rm_nlong (l : Launch) (Z : State) (a0 : Array Value) (hw : ∀ d ∈ tables_1, d.before a0 Z = true) (a1 : Addr) (S : XS) (h0 : Heap) (n0 : Nat) (Ea : Exa Z h0 a1 "com/example/frontwise/frontwise/model/RandomStream") (Fs0 : Fld Z h0 a1 "com/example/frontwise/frontwise/model/RandomStream" "s0" "J" (.long S.s0)) (Fs1 : Fld Z h0 a1 "com/example/frontwise/frontwise/model/RandomStream" "s1" "J" (.long S.s1)) (Fs2 : Fld Z h0 a1 "com/example/frontwise/frontwise/model/RandomStream" "s2" "J" (.long S.s2)) (Fs3 : Fld Z h0 a1 "com/example/frontwise/frontwise/model/RandomStream" "s3" "J" (.long S.s3)) (g_a1 : n0 ≤ a1) :
    OwCon l Z (⟨"com/example/frontwise/frontwise/model/RandomStream", "nextLong", "()J"⟩ : MethodName) prog_34_method_2_code 5 (some .long) [] ({ frames := 1, cells := 0, slots := 0, locals := 15 } : Room) #[(.ref a1)] h0 (fun v h L => v = some (.long (xout S)) ∧ Fr n0 L ∧ Keep h0 h [a1] ∧ Exa Z h a1 "com/example/frontwise/frontwise/model/RandomStream" ∧ Fld Z h a1 "com/example/frontwise/frontwise/model/RandomStream" "s0" "J" (.long (xstep S).s0) ∧ Fld Z h a1 "com/example/frontwise/frontwise/model/RandomStream" "s1" "J" (.long (xstep S).s1) ∧ Fld Z h a1 "com/example/frontwise/frontwise/model/RandomStream" "s2" "J" (.long (xstep S).s2) ∧ Fld Z h a1 "com/example/frontwise/frontwise/model/RandomStream" "s3" "J" (.long (xstep S).s3)) := by
  refine OwCon.of (plainFor_of_name pn_com_example_frontwise_frontwise_model_RandomStream) ?_
  intro p e s m below meth cd_ s₁ X0 hx hby hml hret hlk hown hnm hZ e0
  have N0 := Fr.nil n0
  refine GoOn.st (fun t_ k_ => castTop (ef_nlong m a1) k_) ?_
  show GoOn _ _ _ _ (s₁.setTop (mkF m 0 #[.val (.ref a1), .unset, .unset, .unset, .unset] []))
  refine GoOn.st (fun t_ k_ => XS.aloadN X0.here hx rfl (hb hby d_prog_34_method_2_0) rfl rfl k_) ?_
  obtain ⟨T1, X1, e1, st1⟩ := getF X0 hx hZ hown (host := "") (Or.inl (hw _ (List.mem_of_getElem? (i := 39) rfl))) Via.refl e0 Fs0 (g := (mkF m 1 #[.val (.ref a1), .unset, .unset, .unset, .unset] [(.ref a1)])) rfl rfl (hb hby d_prog_34_method_2_1)
  refine GoOn.st st1 ?_
  refine GoOn.st (fun t_ k_ => XS.aloadN X1.here hx rfl (hb hby d_prog_34_method_2_4) rfl rfl k_) ?_
  obtain ⟨T2, X2, e2, st2⟩ := getF X1 hx hZ hown (host := "") (Or.inl (hw _ (List.mem_of_getElem? (i := 45) rfl))) Via.refl e1 Fs3 (g := (mkF m 5 #[.val (.ref a1), .unset, .unset, .unset, .unset] [(.ref a1), (.long S.s0)])) rfl rfl (hb hby d_prog_34_method_2_5)
  refine GoOn.st st2 ?_
  show GoOn _ _ _ _ (T2.setTop (mkF m 8 #[.val (.ref a1), .unset, .unset, .unset, .unset] [(.long S.s3), (.long S.s0)]))
  refine GoOn.st (fun t_ k_ => XS.ladd X2.here hx rfl (hb hby d_prog_34_method_2_8) rfl k_) ?_
  refine GoOn.st (fun t_ k_ => XS.bipush X2.here hx rfl (hb hby d_prog_34_method_2_9)  k_) ?_
  show GoOn _ _ _ _ (T2.setTop (mkF m 11 #[.val (.ref a1), .unset, .unset, .unset, .unset] [(.int (23 : Int32)), (.long (S.s0 + S.s3))]))
  refine GoOn.callS (W := 0) (argsL := [(.long (S.s0 + S.s3)), (.int (23 : Int32))]) (rest := []) X2 hx hZ hown (hw _ (List.mem_of_getElem? (i := 73) rfl)) (hw _ (List.mem_of_getElem? (i := 74) rfl)) (hw _ (List.mem_of_getElem? (i := 75) rfl)) (hw _ (List.mem_of_getElem? (i := 76) rfl)) (by decide) (rm_rotl l Z a0 hw (S.s0 + S.s3) (23 : Int32) h0) e2 (by decide) (by decide) (by rw [hml]; rfl) pd_2 rfl rfl (Nat.le_of_eq rfl) (hb hby d_prog_34_method_2_11) (by decide) (by decide) ?_
  rintro _ T3 L3 X3 ⟨rfl, rfl, e3⟩
  rw [List.append_nil] at X3
  refine GoOn.st (fun t_ k_ => XS.aloadN X3.here hx rfl (hb hby d_prog_34_method_2_14) rfl rfl k_) ?_
  obtain ⟨T4, X4, e4, st4⟩ := getF X3 hx hZ hown (host := "") (Or.inl (hw _ (List.mem_of_getElem? (i := 39) rfl))) Via.refl e3 Fs0 (g := (mkF m 15 #[.val (.ref a1), .unset, .unset, .unset, .unset] [(.ref a1), (.long (own_rotl (S.s0 + S.s3) (23 : Int32)))])) rfl rfl (hb hby d_prog_34_method_2_15)
  refine GoOn.st st4 ?_
  refine GoOn.st (fun t_ k_ => XS.ladd X4.here hx rfl (hb hby d_prog_34_method_2_18) rfl k_) ?_
  show GoOn _ _ _ _ (T4.setTop (mkF m 19 #[.val (.ref a1), .unset, .unset, .unset, .unset] [(.long ((own_rotl (S.s0 + S.s3) (23 : Int32)) + S.s0))]))
  refine GoOn.st (fun t_ k_ => XS.lstoreN X4.here hx rfl (hb hby d_prog_34_method_2_19) rfl (l' := #[.val (.ref a1), .val (.long ((own_rotl (S.s0 + S.s3) (23 : Int32)) + S.s0)), .second, .unset, .unset]) rfl k_) ?_
  refine GoOn.st (fun t_ k_ => XS.aloadN X4.here hx rfl (hb hby d_prog_34_method_2_20) rfl rfl k_) ?_
  obtain ⟨T5, X5, e5, st5⟩ := getF X4 hx hZ hown (host := "") (Or.inl (hw _ (List.mem_of_getElem? (i := 41) rfl))) Via.refl e4 Fs1 (g := (mkF m 21 #[.val (.ref a1), .val (.long ((own_rotl (S.s0 + S.s3) (23 : Int32)) + S.s0)), .second, .unset, .unset] [(.ref a1)])) rfl rfl (hb hby d_prog_34_method_2_21)
  refine GoOn.st st5 ?_
  refine GoOn.st (fun t_ k_ => XS.bipush X5.here hx rfl (hb hby d_prog_34_method_2_24)  k_) ?_
  show GoOn _ _ _ _ (T5.setTop (mkF m 26 #[.val (.ref a1), .val (.long ((own_rotl (S.s0 + S.s3) (23 : Int32)) + S.s0)), .second, .unset, .unset] [(.int (17 : Int32)), (.long S.s1)]))
  refine GoOn.st (fun t_ k_ => XS.lshl X5.here hx rfl (hb hby d_prog_34_method_2_26) rfl k_) ?_
  refine GoOn.st (fun t_ k_ => XS.lstoreN X5.here hx rfl (hb hby d_prog_34_method_2_27) rfl (l' := #[.val (.ref a1), .val (.long ((own_rotl (S.s0 + S.s3) (23 : Int32)) + S.s0)), .second, .val (.long (S.s1 <<< ((17 : Int32) &&& 0x3f).toInt64)), .second]) rfl k_) ?_
  refine GoOn.st (fun t_ k_ => XS.aloadN X5.here hx rfl (hb hby d_prog_34_method_2_28) rfl rfl k_) ?_
  refine GoOn.st (fun t_ k_ => XS.dup X5.here hx rfl (hb hby d_prog_34_method_2_29) rfl rfl k_) ?_
  show GoOn _ _ _ _ (T5.setTop (mkF m 30 #[.val (.ref a1), .val (.long ((own_rotl (S.s0 + S.s3) (23 : Int32)) + S.s0)), .second, .val (.long (S.s1 <<< ((17 : Int32) &&& 0x3f).toInt64)), .second] [(.ref a1), (.ref a1)]))
  obtain ⟨T6, X6, e6, st6⟩ := getF X5 hx hZ hown (host := "") (Or.inl (hw _ (List.mem_of_getElem? (i := 43) rfl))) Via.refl e5 Fs2 (g := (mkF m 30 #[.val (.ref a1), .val (.long ((own_rotl (S.s0 + S.s3) (23 : Int32)) + S.s0)), .second, .val (.long (S.s1 <<< ((17 : Int32) &&& 0x3f).toInt64)), .second] [(.ref a1), (.ref a1)])) rfl rfl (hb hby d_prog_34_method_2_30)
  refine GoOn.st st6 ?_
  refine GoOn.st (fun t_ k_ => XS.aloadN X6.here hx rfl (hb hby d_prog_34_method_2_33) rfl rfl k_) ?_
  obtain ⟨T7, X7, e7, st7⟩ := getF X6 hx hZ hown (host := "") (Or.inl (hw _ (List.mem_of_getElem? (i := 39) rfl))) Via.refl e6 Fs0 (g := (mkF m 34 #[.val (.ref a1), .val (.long ((own_rotl (S.s0 + S.s3) (23 : Int32)) + S.s0)), .second, .val (.long (S.s1 <<< ((17 : Int32) &&& 0x3f).toInt64)), .second] [(.ref a1), (.long S.s2), (.ref a1)])) rfl rfl (hb hby d_prog_34_method_2_34)
  refine GoOn.st st7 ?_
  refine GoOn.st (fun t_ k_ => XS.lxor X7.here hx rfl (hb hby d_prog_34_method_2_37) rfl k_) ?_
  show GoOn _ _ _ _ (T7.setTop (mkF m 38 #[.val (.ref a1), .val (.long ((own_rotl (S.s0 + S.s3) (23 : Int32)) + S.s0)), .second, .val (.long (S.s1 <<< ((17 : Int32) &&& 0x3f).toInt64)), .second] [(.long (S.s2 ^^^ S.s0)), (.ref a1)]))
  obtain ⟨T8, h8, X8, e8, W8, st8⟩ := putF X7 hx hZ hown (host := "") (Or.inl (hw _ (List.mem_of_getElem? (i := 43) rfl))) Via.refl e7 Fs2 Ea (Or.inl (hw _ (List.mem_of_getElem? (i := 44) rfl))) (hw _ (List.mem_of_getElem? (i := 27) rfl)) (ty := .long) (by decide) rfl rfl (g := (mkF m 38 #[.val (.ref a1), .val (.long ((own_rotl (S.s0 + S.s3) (23 : Int32)) + S.s0)), .second, .val (.long (S.s1 <<< ((17 : Int32) &&& 0x3f).toInt64)), .second] [(.long (S.s2 ^^^ S.s0)), (.ref a1)])) rfl rfl (hb hby d_prog_34_method_2_38)
  have Fw8 := Fld.same W8 Fs2
  have N9 := Fr.snoc X8 N0 g_a1
  refine GoOn.st st8 ?_
  refine GoOn.st (fun t_ k_ => XS.aloadN X8.here hx rfl (hb hby d_prog_34_method_2_41) rfl rfl k_) ?_
  refine GoOn.st (fun t_ k_ => XS.dup X8.here hx rfl (hb hby d_prog_34_method_2_42) rfl rfl k_) ?_
  have F10 := (Fld.other W8 Fs3 (Or.inr (slot_ne (Or.inl (hw _ (List.mem_of_getElem? (i := 46) rfl))) (Or.inl (hw _ (List.mem_of_getElem? (i := 44) rfl))) (by decide) (t := .long) (t' := .long) (by decide) (by decide))))
  obtain ⟨T11, X11, e11, st11⟩ := getF X8 hx hZ hown (host := "") (Or.inl (hw _ (List.mem_of_getElem? (i := 45) rfl))) Via.refl e8 F10 (g := (mkF m 43 #[.val (.ref a1), .val (.long ((own_rotl (S.s0 + S.s3) (23 : Int32)) + S.s0)), .second, .val (.long (S.s1 <<< ((17 : Int32) &&& 0x3f).toInt64)), .second] [(.ref a1), (.ref a1)])) rfl rfl (hb hby d_prog_34_method_2_43)
  refine GoOn.st st11 ?_
  show GoOn _ _ _ _ (T11.setTop (mkF m 46 #[.val (.ref a1), .val (.long ((own_rotl (S.s0 + S.s3) (23 : Int32)) + S.s0)), .second, .val (.long (S.s1 <<< ((17 : Int32) &&& 0x3f).toInt64)), .second] [(.long S.s3), (.ref a1)]))
  refine GoOn.st (fun t_ k_ => XS.aloadN X11.here hx rfl (hb hby d_prog_34_method_2_46) rfl rfl k_) ?_
  have F12 := (Fld.other W8 Fs1 (Or.inr (slot_ne (Or.inl (hw _ (List.mem_of_getElem? (i := 42) rfl))) (Or.inl (hw _ (List.mem_of_getElem? (i := 44) rfl))) (by decide) (t := .long) (t' := .long) (by decide) (by decide))))
  obtain ⟨T13, X13, e13, st13⟩ := getF X11 hx hZ hown (host := "") (Or.inl (hw _ (List.mem_of_getElem? (i := 41) rfl))) Via.refl e11 F12 (g := (mkF m 47 #[.val (.ref a1), .val (.long ((own_rotl (S.s0 + S.s3) (23 : Int32)) + S.s0)), .second, .val (.long (S.s1 <<< ((17 : Int32) &&& 0x3f).toInt64)), .second] [(.ref a1), (.long S.s3), (.ref a1)])) rfl rfl (hb hby d_prog_34_method_2_47)
  refine GoOn.st st13 ?_
  refine GoOn.st (fun t_ k_ => XS.lxor X13.here hx rfl (hb hby d_prog_34_method_2_50) rfl k_) ?_
  have F14 := (Exa.wr W8 Ea)
  obtain ⟨T15, h15, X15, e15, W15, st15⟩ := putF X13 hx hZ hown (host := "") (Or.inl (hw _ (List.mem_of_getElem? (i := 45) rfl))) Via.refl e13 F10 F14 (Or.inl (hw _ (List.mem_of_getElem? (i := 46) rfl))) (hw _ (List.mem_of_getElem? (i := 27) rfl)) (ty := .long) (by decide) rfl rfl (g := (mkF m 51 #[.val (.ref a1), .val (.long ((own_rotl (S.s0 + S.s3) (23 : Int32)) + S.s0)), .second, .val (.long (S.s1 <<< ((17 : Int32) &&& 0x3f).toInt64)), .second] [(.long (S.s3 ^^^ S.s1)), (.ref a1)])) rfl rfl (hb hby d_prog_34_method_2_51)
  have Fw15 := Fld.same W15 F10
  have N16 := Fr.snoc X15 N9 g_a1
  refine GoOn.st st15 ?_
  show GoOn _ _ _ _ (T15.setTop (mkF m 54 #[.val (.ref a1), .val (.long ((own_rotl (S.s0 + S.s3) (23 : Int32)) + S.s0)), .second, .val (.long (S.s1 <<< ((17 : Int32) &&& 0x3f).toInt64)), .second] []))
  refine GoOn.st (fun t_ k_ => XS.aloadN X15.here hx rfl (hb hby d_prog_34_method_2_54) rfl rfl k_) ?_
  refine GoOn.st (fun t_ k_ => XS.dup X15.here hx rfl (hb hby d_prog_34_method_2_55) rfl rfl k_) ?_
  have F17 := (Fld.other W15 F12 (Or.inr (slot_ne (Or.inl (hw _ (List.mem_of_getElem? (i := 42) rfl))) (Or.inl (hw _ (List.mem_of_getElem? (i := 46) rfl))) (by decide) (t := .long) (t' := .long) (by decide) (by decide))))
  obtain ⟨T18, X18, e18, st18⟩ := getF X15 hx hZ hown (host := "") (Or.inl (hw _ (List.mem_of_getElem? (i := 41) rfl))) Via.refl e15 F17 (g := (mkF m 56 #[.val (.ref a1), .val (.long ((own_rotl (S.s0 + S.s3) (23 : Int32)) + S.s0)), .second, .val (.long (S.s1 <<< ((17 : Int32) &&& 0x3f).toInt64)), .second] [(.ref a1), (.ref a1)])) rfl rfl (hb hby d_prog_34_method_2_56)
  refine GoOn.st st18 ?_
  refine GoOn.st (fun t_ k_ => XS.aloadN X18.here hx rfl (hb hby d_prog_34_method_2_59) rfl rfl k_) ?_
  show GoOn _ _ _ _ (T18.setTop (mkF m 60 #[.val (.ref a1), .val (.long ((own_rotl (S.s0 + S.s3) (23 : Int32)) + S.s0)), .second, .val (.long (S.s1 <<< ((17 : Int32) &&& 0x3f).toInt64)), .second] [(.ref a1), (.long S.s1), (.ref a1)]))
  have F19 := (Fld.other W15 Fw8 (Or.inr (slot_ne (Or.inl (hw _ (List.mem_of_getElem? (i := 44) rfl))) (Or.inl (hw _ (List.mem_of_getElem? (i := 46) rfl))) (by decide) (t := .long) (t' := .long) (by decide) (by decide))))
  obtain ⟨T20, X20, e20, st20⟩ := getF X18 hx hZ hown (host := "") (Or.inl (hw _ (List.mem_of_getElem? (i := 43) rfl))) Via.refl e18 F19 (g := (mkF m 60 #[.val (.ref a1), .val (.long ((own_rotl (S.s0 + S.s3) (23 : Int32)) + S.s0)), .second, .val (.long (S.s1 <<< ((17 : Int32) &&& 0x3f).toInt64)), .second] [(.ref a1), (.long S.s1), (.ref a1)])) rfl rfl (hb hby d_prog_34_method_2_60)
  refine GoOn.st st20 ?_
  refine GoOn.st (fun t_ k_ => XS.lxor X20.here hx rfl (hb hby d_prog_34_method_2_63) rfl k_) ?_
  have F21 := (Exa.wr W15 F14)
  obtain ⟨T22, h22, X22, e22, W22, st22⟩ := putF X20 hx hZ hown (host := "") (Or.inl (hw _ (List.mem_of_getElem? (i := 41) rfl))) Via.refl e20 F17 F21 (Or.inl (hw _ (List.mem_of_getElem? (i := 42) rfl))) (hw _ (List.mem_of_getElem? (i := 27) rfl)) (ty := .long) (by decide) rfl rfl (g := (mkF m 64 #[.val (.ref a1), .val (.long ((own_rotl (S.s0 + S.s3) (23 : Int32)) + S.s0)), .second, .val (.long (S.s1 <<< ((17 : Int32) &&& 0x3f).toInt64)), .second] [(.long (S.s1 ^^^ (S.s2 ^^^ S.s0))), (.ref a1)])) rfl rfl (hb hby d_prog_34_method_2_64)
  have Fw22 := Fld.same W22 F17
  have N23 := Fr.snoc X22 N16 g_a1
  refine GoOn.st st22 ?_
  refine GoOn.st (fun t_ k_ => XS.aloadN X22.here hx rfl (hb hby d_prog_34_method_2_67) rfl rfl k_) ?_
  show GoOn _ _ _ _ (T22.setTop (mkF m 68 #[.val (.ref a1), .val (.long ((own_rotl (S.s0 + S.s3) (23 : Int32)) + S.s0)), .second, .val (.long (S.s1 <<< ((17 : Int32) &&& 0x3f).toInt64)), .second] [(.ref a1)]))
  refine GoOn.st (fun t_ k_ => XS.dup X22.here hx rfl (hb hby d_prog_34_method_2_68) rfl rfl k_) ?_
  have F24 := (Fld.other W22 (Fld.other W15 (Fld.other W8 Fs0 (Or.inr (slot_ne (Or.inl (hw _ (List.mem_of_getElem? (i := 40) rfl))) (Or.inl (hw _ (List.mem_of_getElem? (i := 44) rfl))) (by decide) (t := .long) (t' := .long) (by decide) (by decide)))) (Or.inr (slot_ne (Or.inl (hw _ (List.mem_of_getElem? (i := 40) rfl))) (Or.inl (hw _ (List.mem_of_getElem? (i := 46) rfl))) (by decide) (t := .long) (t' := .long) (by decide) (by decide)))) (Or.inr (slot_ne (Or.inl (hw _ (List.mem_of_getElem? (i := 40) rfl))) (Or.inl (hw _ (List.mem_of_getElem? (i := 42) rfl))) (by decide) (t := .long) (t' := .long) (by decide) (by decide))))
  obtain ⟨T25, X25, e25, st25⟩ := getF X22 hx hZ hown (host := "") (Or.inl (hw _ (List.mem_of_getElem? (i := 39) rfl))) Via.refl e22 F24 (g := (mkF m 69 #[.val (.ref a1), .val (.long ((own_rotl (S.s0 + S.s3) (23 : Int32)) + S.s0)), .second, .val (.long (S.s1 <<< ((17 : Int32) &&& 0x3f).toInt64)), .second] [(.ref a1), (.ref a1)])) rfl rfl (hb hby d_prog_34_method_2_69)
  refine GoOn.st st25 ?_
  refine GoOn.st (fun t_ k_ => XS.aloadN X25.here hx rfl (hb hby d_prog_34_method_2_72) rfl rfl k_) ?_
  have F26 := (Fld.other W22 Fw15 (Or.inr (slot_ne (Or.inl (hw _ (List.mem_of_getElem? (i := 46) rfl))) (Or.inl (hw _ (List.mem_of_getElem? (i := 42) rfl))) (by decide) (t := .long) (t' := .long) (by decide) (by decide))))
  obtain ⟨T27, X27, e27, st27⟩ := getF X25 hx hZ hown (host := "") (Or.inl (hw _ (List.mem_of_getElem? (i := 45) rfl))) Via.refl e25 F26 (g := (mkF m 73 #[.val (.ref a1), .val (.long ((own_rotl (S.s0 + S.s3) (23 : Int32)) + S.s0)), .second, .val (.long (S.s1 <<< ((17 : Int32) &&& 0x3f).toInt64)), .second] [(.ref a1), (.long S.s0), (.ref a1)])) rfl rfl (hb hby d_prog_34_method_2_73)
  refine GoOn.st st27 ?_
  show GoOn _ _ _ _ (T27.setTop (mkF m 76 #[.val (.ref a1), .val (.long ((own_rotl (S.s0 + S.s3) (23 : Int32)) + S.s0)), .second, .val (.long (S.s1 <<< ((17 : Int32) &&& 0x3f).toInt64)), .second] [(.long (S.s3 ^^^ S.s1)), (.long S.s0), (.ref a1)]))
  refine GoOn.st (fun t_ k_ => XS.lxor X27.here hx rfl (hb hby d_prog_34_method_2_76) rfl k_) ?_
  have F28 := (Exa.wr W22 F21)
  obtain ⟨T29, h29, X29, e29, W29, st29⟩ := putF X27 hx hZ hown (host := "") (Or.inl (hw _ (List.mem_of_getElem? (i := 39) rfl))) Via.refl e27 F24 F28 (Or.inl (hw _ (List.mem_of_getElem? (i := 40) rfl))) (hw _ (List.mem_of_getElem? (i := 27) rfl)) (ty := .long) (by decide) rfl rfl (g := (mkF m 77 #[.val (.ref a1), .val (.long ((own_rotl (S.s0 + S.s3) (23 : Int32)) + S.s0)), .second, .val (.long (S.s1 <<< ((17 : Int32) &&& 0x3f).toInt64)), .second] [(.long (S.s0 ^^^ (S.s3 ^^^ S.s1))), (.ref a1)])) rfl rfl (hb hby d_prog_34_method_2_77)
  have Fw29 := Fld.same W29 F24
  have N30 := Fr.snoc X29 N23 g_a1
  refine GoOn.st st29 ?_
  refine GoOn.st (fun t_ k_ => XS.aloadN X29.here hx rfl (hb hby d_prog_34_method_2_80) rfl rfl k_) ?_
  refine GoOn.st (fun t_ k_ => XS.dup X29.here hx rfl (hb hby d_prog_34_method_2_81) rfl rfl k_) ?_
  show GoOn _ _ _ _ (T29.setTop (mkF m 82 #[.val (.ref a1), .val (.long ((own_rotl (S.s0 + S.s3) (23 : Int32)) + S.s0)), .second, .val (.long (S.s1 <<< ((17 : Int32) &&& 0x3f).toInt64)), .second] [(.ref a1), (.ref a1)]))
  have F31 := (Fld.other W29 (Fld.other W22 F19 (Or.inr (slot_ne (Or.inl (hw _ (List.mem_of_getElem? (i := 44) rfl))) (Or.inl (hw _ (List.mem_of_getElem? (i := 42) rfl))) (by decide) (t := .long) (t' := .long) (by decide) (by decide)))) (Or.inr (slot_ne (Or.inl (hw _ (List.mem_of_getElem? (i := 44) rfl))) (Or.inl (hw _ (List.mem_of_getElem? (i := 40) rfl))) (by decide) (t := .long) (t' := .long) (by decide) (by decide))))
  obtain ⟨T32, X32, e32, st32⟩ := getF X29 hx hZ hown (host := "") (Or.inl (hw _ (List.mem_of_getElem? (i := 43) rfl))) Via.refl e29 F31 (g := (mkF m 82 #[.val (.ref a1), .val (.long ((own_rotl (S.s0 + S.s3) (23 : Int32)) + S.s0)), .second, .val (.long (S.s1 <<< ((17 : Int32) &&& 0x3f).toInt64)), .second] [(.ref a1), (.ref a1)])) rfl rfl (hb hby d_prog_34_method_2_82)
  refine GoOn.st st32 ?_
  refine GoOn.st (fun t_ k_ => XS.lloadN X32.here hx rfl (hb hby d_prog_34_method_2_85) rfl k_) ?_
  refine GoOn.st (fun t_ k_ => XS.lxor X32.here hx rfl (hb hby d_prog_34_method_2_86) rfl k_) ?_
  have F33 := (Exa.wr W29 F28)
  obtain ⟨T34, h34, X34, e34, W34, st34⟩ := putF X32 hx hZ hown (host := "") (Or.inl (hw _ (List.mem_of_getElem? (i := 43) rfl))) Via.refl e32 F31 F33 (Or.inl (hw _ (List.mem_of_getElem? (i := 44) rfl))) (hw _ (List.mem_of_getElem? (i := 27) rfl)) (ty := .long) (by decide) rfl rfl (g := (mkF m 87 #[.val (.ref a1), .val (.long ((own_rotl (S.s0 + S.s3) (23 : Int32)) + S.s0)), .second, .val (.long (S.s1 <<< ((17 : Int32) &&& 0x3f).toInt64)), .second] [(.long ((S.s2 ^^^ S.s0) ^^^ (S.s1 <<< ((17 : Int32) &&& 0x3f).toInt64))), (.ref a1)])) rfl rfl (hb hby d_prog_34_method_2_87)
  have Fw34 := Fld.same W34 F31
  have N35 := Fr.snoc X34 N30 g_a1
  refine GoOn.st st34 ?_
  show GoOn _ _ _ _ (T34.setTop (mkF m 90 #[.val (.ref a1), .val (.long ((own_rotl (S.s0 + S.s3) (23 : Int32)) + S.s0)), .second, .val (.long (S.s1 <<< ((17 : Int32) &&& 0x3f).toInt64)), .second] []))
  refine GoOn.st (fun t_ k_ => XS.aloadN X34.here hx rfl (hb hby d_prog_34_method_2_90) rfl rfl k_) ?_
  refine GoOn.st (fun t_ k_ => XS.aloadN X34.here hx rfl (hb hby d_prog_34_method_2_91) rfl rfl k_) ?_
  have F36 := (Fld.other W34 (Fld.other W29 F26 (Or.inr (slot_ne (Or.inl (hw _ (List.mem_of_getElem? (i := 46) rfl))) (Or.inl (hw _ (List.mem_of_getElem? (i := 40) rfl))) (by decide) (t := .long) (t' := .long) (by decide) (by decide)))) (Or.inr (slot_ne (Or.inl (hw _ (List.mem_of_getElem? (i := 46) rfl))) (Or.inl (hw _ (List.mem_of_getElem? (i := 44) rfl))) (by decide) (t := .long) (t' := .long) (by decide) (by decide))))
  obtain ⟨T37, X37, e37, st37⟩ := getF X34 hx hZ hown (host := "") (Or.inl (hw _ (List.mem_of_getElem? (i := 45) rfl))) Via.refl e34 F36 (g := (mkF m 92 #[.val (.ref a1), .val (.long ((own_rotl (S.s0 + S.s3) (23 : Int32)) + S.s0)), .second, .val (.long (S.s1 <<< ((17 : Int32) &&& 0x3f).toInt64)), .second] [(.ref a1), (.ref a1)])) rfl rfl (hb hby d_prog_34_method_2_92)
  refine GoOn.st st37 ?_
  refine GoOn.st (fun t_ k_ => XS.bipush X37.here hx rfl (hb hby d_prog_34_method_2_95)  k_) ?_
  show GoOn _ _ _ _ (T37.setTop (mkF m 97 #[.val (.ref a1), .val (.long ((own_rotl (S.s0 + S.s3) (23 : Int32)) + S.s0)), .second, .val (.long (S.s1 <<< ((17 : Int32) &&& 0x3f).toInt64)), .second] [(.int (45 : Int32)), (.long (S.s3 ^^^ S.s1)), (.ref a1)]))
  refine GoOn.callS (W := 1) (argsL := [(.long (S.s3 ^^^ S.s1)), (.int (45 : Int32))]) (rest := [(.ref a1)]) X37 hx hZ hown (hw _ (List.mem_of_getElem? (i := 73) rfl)) (hw _ (List.mem_of_getElem? (i := 74) rfl)) (hw _ (List.mem_of_getElem? (i := 75) rfl)) (hw _ (List.mem_of_getElem? (i := 76) rfl)) (by decide) (rm_rotl l Z a0 hw (S.s3 ^^^ S.s1) (45 : Int32) h34) e37 (by decide) (by decide) (by rw [hml]; rfl) pd_2 rfl rfl (Nat.le_of_eq rfl) (hb hby d_prog_34_method_2_97) (by decide) (by decide) ?_
  rintro _ T38 L38 X38 ⟨rfl, rfl, e38⟩
  rw [List.append_nil] at X38
  have F39 := (Exa.wr W34 F33)
  obtain ⟨T40, h40, X40, e40, W40, st40⟩ := putF X38 hx hZ hown (host := "") (Or.inl (hw _ (List.mem_of_getElem? (i := 45) rfl))) Via.refl e38 F36 F39 (Or.inl (hw _ (List.mem_of_getElem? (i := 46) rfl))) (hw _ (List.mem_of_getElem? (i := 27) rfl)) (ty := .long) (by decide) rfl rfl (g := (mkF m 100 #[.val (.ref a1), .val (.long ((own_rotl (S.s0 + S.s3) (23 : Int32)) + S.s0)), .second, .val (.long (S.s1 <<< ((17 : Int32) &&& 0x3f).toInt64)), .second] [(.long (own_rotl (S.s3 ^^^ S.s1) (45 : Int32))), (.ref a1)])) rfl rfl (hb hby d_prog_34_method_2_100)
  have Fw40 := Fld.same W40 F36
  have N41 := Fr.snoc X40 N35 g_a1
  refine GoOn.st st40 ?_
  refine GoOn.st (fun t_ k_ => XS.lloadN X40.here hx rfl (hb hby d_prog_34_method_2_103) rfl k_) ?_
  show GoOn _ _ _ _ (T40.setTop (mkF m 104 #[.val (.ref a1), .val (.long ((own_rotl (S.s0 + S.s3) (23 : Int32)) + S.s0)), .second, .val (.long (S.s1 <<< ((17 : Int32) &&& 0x3f).toInt64)), .second] [(.long ((own_rotl (S.s0 + S.s3) (23 : Int32)) + S.s0))]))
  exact GoOn.retJ X40 hx hlk hret (hb hby d_prog_34_method_2_104) (by rw [e40]; exact ⟨rfl, N41, (((((((Keep.refl h0 [a1]).wr W8 (Or.inl (List.mem_of_getElem? (i := 0) rfl))).wr W15 (Or.inl (List.mem_of_getElem? (i := 0) rfl))).wr W22 (Or.inl (List.mem_of_getElem? (i := 0) rfl))).wr W29 (Or.inl (List.mem_of_getElem? (i := 0) rfl))).wr W34 (Or.inl (List.mem_of_getElem? (i := 0) rfl))).wr W40 (Or.inl (List.mem_of_getElem? (i := 0) rfl))), (Exa.wr W40 F39), (Fld.other W40 (Fld.other W34 Fw29 (Or.inr (slot_ne (Or.inl (hw _ (List.mem_of_getElem? (i := 40) rfl))) (Or.inl (hw _ (List.mem_of_getElem? (i := 44) rfl))) (by decide) (t := .long) (t' := .long) (by decide) (by decide)))) (Or.inr (slot_ne (Or.inl (hw _ (List.mem_of_getElem? (i := 40) rfl))) (Or.inl (hw _ (List.mem_of_getElem? (i := 46) rfl))) (by decide) (t := .long) (t' := .long) (by decide) (by decide)))), (Fld.other W40 (Fld.other W34 (Fld.other W29 Fw22 (Or.inr (slot_ne (Or.inl (hw _ (List.mem_of_getElem? (i := 42) rfl))) (Or.inl (hw _ (List.mem_of_getElem? (i := 40) rfl))) (by decide) (t := .long) (t' := .long) (by decide) (by decide)))) (Or.inr (slot_ne (Or.inl (hw _ (List.mem_of_getElem? (i := 42) rfl))) (Or.inl (hw _ (List.mem_of_getElem? (i := 44) rfl))) (by decide) (t := .long) (t' := .long) (by decide) (by decide)))) (Or.inr (slot_ne (Or.inl (hw _ (List.mem_of_getElem? (i := 42) rfl))) (Or.inl (hw _ (List.mem_of_getElem? (i := 46) rfl))) (by decide) (t := .long) (t' := .long) (by decide) (by decide)))), (Fld.other W40 Fw34 (Or.inr (slot_ne (Or.inl (hw _ (List.mem_of_getElem? (i := 44) rfl))) (Or.inl (hw _ (List.mem_of_getElem? (i := 46) rfl))) (by decide) (t := .long) (t' := .long) (by decide) (by decide)))), Fw40⟩) (by decide) (by decide)
theorem d_prog_34_method_4_38 : decode prog_34_method_4_code 38 = .ok (.lload 4, 2) := by decide +kernel
theorem d_prog_34_method_4_40 : decode prog_34_method_4_code 40 = .ok (.ldc2_w 49, 3) := by decide +kernel
theorem d_prog_34_method_4_43 : decode prog_34_method_4_code 43 = .ok (.lload_n 2, 1) := by decide +kernel
theorem d_prog_34_method_4_44 : decode prog_34_method_4_code 44 = .ok (.lsub, 1) := by decide +kernel
theorem d_prog_34_method_4_45 : decode prog_34_method_4_code 45 = .ok (.lcmp, 1) := by decide +kernel
theorem d_prog_34_method_4_46 : decode prog_34_method_4_code 46 = .ok (.ifCond .le 14, 3) := by decide +kernel
theorem d_prog_34_method_4_60 : decode prog_34_method_4_code 60 = .ok (.lload 4, 2) := by decide +kernel
theorem d_prog_34_method_4_62 : decode prog_34_method_4_code 62 = .ok (.iload_n 1, 1) := by decide +kernel
theorem d_prog_34_method_4_63 : decode prog_34_method_4_code 63 = .ok (.i2l, 1) := by decide +kernel
theorem d_prog_34_method_4_64 : decode prog_34_method_4_code 64 = .ok (.lrem, 1) := by decide +kernel
theorem d_prog_34_method_4_65 : decode prog_34_method_4_code 65 = .ok (.l2i, 1) := by decide +kernel
theorem d_prog_34_method_4_66 : decode prog_34_method_4_code 66 = .ok (.ireturn, 1) := by decide +kernel
theorem d_prog_34_method_4_49 : decode prog_34_method_4_code 49 = .ok (.aload_n 0, 1) := by decide +kernel
theorem pd_3 : parseMethodDescriptor "()J" = some ⟨[], some .long⟩ := by decide +kernel
theorem d_prog_34_method_4_50 : decode prog_34_method_4_code 50 = .ok (.invokevirtual 34, 3) := by decide +kernel
theorem d_prog_34_method_4_53 : decode prog_34_method_4_code 53 = .ok (.iconst 1, 1) := by decide +kernel
theorem d_prog_34_method_4_54 : decode prog_34_method_4_code 54 = .ok (.lushr, 1) := by decide +kernel
theorem d_prog_34_method_4_55 : decode prog_34_method_4_code 55 = .ok (.lstore 4, 2) := by decide +kernel
theorem d_prog_34_method_4_57 : decode prog_34_method_4_code 57 = .ok (.goto (-19), 3) := by decide +kernel
set_option maxRecDepth 65536 in
set_option maxHeartbeats 40000000 in
theorem sg_nx {p : Program} {l : Launch} {e : Env} {s : State} {m : MethodId} {args : Array Value} {below : List Frame} {meth : Method} {c : Code} {Z : State} {a0 : Array Value} (hw : ∀ d ∈ tables_1, d.before a0 Z = true) (a1 : Addr) (p1 : Int32) (sp : Int64) (h00 : Heap) (n0 : Nat) (hx : p.tables.exec = Jvm.exec) (hby : c.code = prog_34_method_4_code) (hml : c.maxLocals = 6) (hret : meth.sig.returnType = some .int) (hlk : meth.locks = false) (hown : s.vm.findClass "com/example/frontwise/frontwise/model/RandomStream" = some m.cls) (hnm : meth.name = "nextInt") (hZ : Z.Warmed39 s.vm) (g_a1 : n0 ≤ a1) (hnz : (p1).toInt64 ≠ 0) :
    ∀ (n : Nat) (S : XS) (T0 : State) (locs : List Loc) (h0 : Heap), Stand p l e ({ frames := 2, cells := 0, slots := 0, locals := 31 } : Room) s m args below meth c T0 locs 0 0 → T0.heap = h0 → Fr n0 locs → Keep h00 h0 [a1] → Exa Z h0 a1 "com/example/frontwise/frontwise/model/RandomStream" → Fld Z h0 a1 "com/example/frontwise/frontwise/model/RandomStream" "s0" "J" (.long (xstep S).s0) → Fld Z h0 a1 "com/example/frontwise/frontwise/model/RandomStream" "s1" "J" (.long (xstep S).s1) → Fld Z h0 a1 "com/example/frontwise/frontwise/model/RandomStream" "s2" "J" (.long (xstep S).s2) → Fld Z h0 a1 "com/example/frontwise/frontwise/model/RandomStream" "s3" "J" (.long (xstep S).s3) → ¬ xrej sp (xit n S) →
    GoOn p e below (OwPost (fun v h L => ∃ (z : Int32) (S' : XS), v = some (.int z) ∧ Fr n0 L ∧ Keep h00 h [a1] ∧ Exa Z h a1 "com/example/frontwise/frontwise/model/RandomStream" ∧ Fld Z h a1 "com/example/frontwise/frontwise/model/RandomStream" "s0" "J" (.long S'.s0) ∧ Fld Z h a1 "com/example/frontwise/frontwise/model/RandomStream" "s1" "J" (.long S'.s1) ∧ Fld Z h a1 "com/example/frontwise/frontwise/model/RandomStream" "s2" "J" (.long S'.s2) ∧ Fld Z h a1 "com/example/frontwise/frontwise/model/RandomStream" "s3" "J" (.long S'.s3)) s ({ frames := 2, cells := 0, slots := 0, locals := 31 } : Room).cells ({ frames := 2, cells := 0, slots := 0, locals := 31 } : Room).slots) (T0.setTop (mkF m 38 #[.val (.ref a1), .val (.int p1), .val (.long sp), .second, .val (.long (((xout S).toUInt64 >>> ((1 : Int32) &&& 0x3f).toInt64.toUInt64).toInt64)), .second] [])) := by
  intro n
  induction n with
  | zero =>
    intro S T0 locs h0 X0 e0 N0 K0 Ea F0 F1 F2 F3 hn
    have hc : ¬ xrej sp S := hn
    refine GoOn.st (fun t_ k_ => XS.lload X0.here hx rfl (hb hby d_prog_34_method_4_38) rfl k_) ?_
    refine GoOn.st (fun t_ k_ => X0.ldc2Long hx hown (mvT hZ (hw _ (List.mem_of_getElem? (i := 67) rfl))) (g := (mkF m 40 #[.val (.ref a1), .val (.int p1), .val (.long sp), .second, .val (.long (((xout S).toUInt64 >>> ((1 : Int32) &&& 0x3f).toInt64.toUInt64).toInt64)), .second] [(.long (((xout S).toUInt64 >>> ((1 : Int32) &&& 0x3f).toInt64.toUInt64).toInt64))])) rfl (hb hby d_prog_34_method_4_40) _ k_) ?_
    refine GoOn.st (fun t_ k_ => XS.lloadN X0.here hx rfl (hb hby d_prog_34_method_4_43) rfl k_) ?_
    refine GoOn.st (fun t_ k_ => XS.lsub X0.here hx rfl (hb hby d_prog_34_method_4_44) rfl k_) ?_
    show GoOn _ _ _ _ (T0.setTop (mkF m 45 #[.val (.ref a1), .val (.int p1), .val (.long sp), .second, .val (.long (((xout S).toUInt64 >>> ((1 : Int32) &&& 0x3f).toInt64.toUInt64).toInt64)), .second] [(.long ((9223372036854775807 : Int64) - sp)), (.long (((xout S).toUInt64 >>> ((1 : Int32) &&& 0x3f).toInt64.toUInt64).toInt64))]))
    refine GoOn.st (fun t_ k_ => XS.lcmp X0.here hx rfl (hb hby d_prog_34_method_4_45) rfl k_) ?_
    refine GoOn.st (fun t_ k_ => XS.ifYes X0.here hx rfl (pc0 := 46) (pc' := 60) rfl (hb hby d_prog_34_method_4_46) rfl ((if0 _ _).trans (flt (fun q => hc ((lw_gt (((xout S).toUInt64 >>> ((1 : Int32) &&& 0x3f).toInt64.toUInt64).toInt64) ((9223372036854775807 : Int64) - sp)).mp q))).2.2.2) (by decide) (by decide) k_) ?_
    refine GoOn.st (fun t_ k_ => XS.lload X0.here hx rfl (hb hby d_prog_34_method_4_60) rfl k_) ?_
    refine GoOn.st (fun t_ k_ => XS.iloadN X0.here hx rfl (hb hby d_prog_34_method_4_62) rfl k_) ?_
    show GoOn _ _ _ _ (T0.setTop (mkF m 63 #[.val (.ref a1), .val (.int p1), .val (.long sp), .second, .val (.long (((xout S).toUInt64 >>> ((1 : Int32) &&& 0x3f).toInt64.toUInt64).toInt64)), .second] [(.int p1), (.long (((xout S).toUInt64 >>> ((1 : Int32) &&& 0x3f).toInt64.toUInt64).toInt64))]))
    refine GoOn.st (fun t_ k_ => XS.i2l X0.here hx rfl (hb hby d_prog_34_method_4_63) rfl k_) ?_
    refine GoOn.st (fun t_ k_ => XS.lrem X0.here hx rfl (hb hby d_prog_34_method_4_64) rfl hnz k_) ?_
    refine GoOn.st (fun t_ k_ => XS.l2i X0.here hx rfl (hb hby d_prog_34_method_4_65) rfl k_) ?_
    show GoOn _ _ _ _ (T0.setTop (mkF m 66 #[.val (.ref a1), .val (.int p1), .val (.long sp), .second, .val (.long (((xout S).toUInt64 >>> ((1 : Int32) &&& 0x3f).toInt64.toUInt64).toInt64)), .second] [(.int ((((((xout S).toUInt64 >>> ((1 : Int32) &&& 0x3f).toInt64.toUInt64).toInt64) - ((((xout S).toUInt64 >>> ((1 : Int32) &&& 0x3f).toInt64.toUInt64).toInt64) / ((p1).toInt64)) * ((p1).toInt64))).toInt32))]))
    exact GoOn.retI X0 hx hlk hret (hb hby d_prog_34_method_4_66) (by rw [e0]; exact ⟨((((((xout S).toUInt64 >>> ((1 : Int32) &&& 0x3f).toInt64.toUInt64).toInt64) - ((((xout S).toUInt64 >>> ((1 : Int32) &&& 0x3f).toInt64.toUInt64).toInt64) / ((p1).toInt64)) * ((p1).toInt64))).toInt32), xstep S, rfl, N0, K0, Ea, F0, F1, F2, F3⟩) (by decide) (by decide)
  | succ n ih =>
    intro S T0 locs h0 X0 e0 N0 K0 Ea F0 F1 F2 F3 hn
    by_cases hc : xrej sp S
    · skip
      refine GoOn.st (fun t_ k_ => XS.lload X0.here hx rfl (hb hby d_prog_34_method_4_38) rfl k_) ?_
      refine GoOn.st (fun t_ k_ => X0.ldc2Long hx hown (mvT hZ (hw _ (List.mem_of_getElem? (i := 67) rfl))) (g := (mkF m 40 #[.val (.ref a1), .val (.int p1), .val (.long sp), .second, .val (.long (((xout S).toUInt64 >>> ((1 : Int32) &&& 0x3f).toInt64.toUInt64).toInt64)), .second] [(.long (((xout S).toUInt64 >>> ((1 : Int32) &&& 0x3f).toInt64.toUInt64).toInt64))])) rfl (hb hby d_prog_34_method_4_40) _ k_) ?_
      refine GoOn.st (fun t_ k_ => XS.lloadN X0.here hx rfl (hb hby d_prog_34_method_4_43) rfl k_) ?_
      refine GoOn.st (fun t_ k_ => XS.lsub X0.here hx rfl (hb hby d_prog_34_method_4_44) rfl k_) ?_
      show GoOn _ _ _ _ (T0.setTop (mkF m 45 #[.val (.ref a1), .val (.int p1), .val (.long sp), .second, .val (.long (((xout S).toUInt64 >>> ((1 : Int32) &&& 0x3f).toInt64.toUInt64).toInt64)), .second] [(.long ((9223372036854775807 : Int64) - sp)), (.long (((xout S).toUInt64 >>> ((1 : Int32) &&& 0x3f).toInt64.toUInt64).toInt64))]))
      refine GoOn.st (fun t_ k_ => XS.lcmp X0.here hx rfl (hb hby d_prog_34_method_4_45) rfl k_) ?_
      refine GoOn.st (fun t_ k_ => XS.ifNo X0.here hx rfl (hb hby d_prog_34_method_4_46) rfl ((if0 _ _).trans (tlt ((lw_gt (((xout S).toUInt64 >>> ((1 : Int32) &&& 0x3f).toInt64.toUInt64).toInt64) ((9223372036854775807 : Int64) - sp)).mpr hc)).2.2.2) k_) ?_
      refine GoOn.st (fun t_ k_ => XS.aloadN X0.here hx rfl (hb hby d_prog_34_method_4_49) rfl rfl k_) ?_
      show GoOn _ _ _ _ (T0.setTop (mkF m 50 #[.val (.ref a1), .val (.int p1), .val (.long sp), .second, .val (.long (((xout S).toUInt64 >>> ((1 : Int32) &&& 0x3f).toInt64.toUInt64).toInt64)), .second] [(.ref a1)]))
      refine GoOn.callV (W := 0) (argsL := []) (rest := []) (a := a1) X0 hx hZ hown (hw _ (List.mem_of_getElem? (i := 68) rfl)) (hw _ (List.mem_of_getElem? (i := 69) rfl)) (notFace_of_selects (args := #[]) (mvT hZ (hw _ (List.mem_of_getElem? (i := 71) rfl)))) (hw _ (List.mem_of_getElem? (i := 71) rfl)) (hw _ (List.mem_of_getElem? (i := 70) rfl)) (hw _ (List.mem_of_getElem? (i := 28) rfl)) (hw _ (List.mem_of_getElem? (i := 72) rfl)) (by decide) (rm_nlong l Z a0 hw a1 (xstep S) h0 n0 Ea F0 F1 F2 F3 g_a1) e0 Ea (by decide) (by decide) (by rw [hml]; rfl) pd_3 rfl rfl (Nat.le_of_eq rfl) (hb hby d_prog_34_method_4_50) (by decide) (by decide) ?_
      rintro _ T1 L1 X1 ⟨rfl, N1q, K1, f1_0, f1_1, f1_2, f1_3, f1_4⟩
      have N1 := Fr.app N0 N1q
      refine GoOn.st (fun t_ k_ => XS.iconst X1.here hx rfl (hb hby d_prog_34_method_4_53)  k_) ?_
      refine GoOn.st (fun t_ k_ => XS.lushr X1.here hx rfl (hb hby d_prog_34_method_4_54) rfl k_) ?_
      refine GoOn.st (fun t_ k_ => XS.lstore X1.here hx rfl (hb hby d_prog_34_method_4_55) rfl (l' := #[.val (.ref a1), .val (.int p1), .val (.long sp), .second, .val (.long ((((xout (xstep S))).toUInt64 >>> ((1 : Int32) &&& 0x3f).toInt64.toUInt64).toInt64)), .second]) rfl k_) ?_
      show GoOn _ _ _ _ (T1.setTop (mkF m 57 #[.val (.ref a1), .val (.int p1), .val (.long sp), .second, .val (.long ((((xout (xstep S))).toUInt64 >>> ((1 : Int32) &&& 0x3f).toInt64.toUInt64).toInt64)), .second] []))
      refine GoOn.st (fun t_ k_ => XS.goto X1.here hx rfl (pc0 := 57) (pc' := 38) rfl (hb hby d_prog_34_method_4_57) (by decide) (by decide) k_) ?_
      exact ih (xstep S) _ _ _ X1 rfl N1 (K0.trans K1 (allS (Or.inl (List.mem_of_getElem? (i := 0) rfl)) all0)) f1_0 f1_1 f1_2 f1_3 f1_4 (xit_succ' n S ▸ hn)
    · skip
      refine GoOn.st (fun t_ k_ => XS.lload X0.here hx rfl (hb hby d_prog_34_method_4_38) rfl k_) ?_
      refine GoOn.st (fun t_ k_ => X0.ldc2Long hx hown (mvT hZ (hw _ (List.mem_of_getElem? (i := 67) rfl))) (g := (mkF m 40 #[.val (.ref a1), .val (.int p1), .val (.long sp), .second, .val (.long (((xout S).toUInt64 >>> ((1 : Int32) &&& 0x3f).toInt64.toUInt64).toInt64)), .second] [(.long (((xout S).toUInt64 >>> ((1 : Int32) &&& 0x3f).toInt64.toUInt64).toInt64))])) rfl (hb hby d_prog_34_method_4_40) _ k_) ?_
      refine GoOn.st (fun t_ k_ => XS.lloadN X0.here hx rfl (hb hby d_prog_34_method_4_43) rfl k_) ?_
      refine GoOn.st (fun t_ k_ => XS.lsub X0.here hx rfl (hb hby d_prog_34_method_4_44) rfl k_) ?_
      show GoOn _ _ _ _ (T0.setTop (mkF m 45 #[.val (.ref a1), .val (.int p1), .val (.long sp), .second, .val (.long (((xout S).toUInt64 >>> ((1 : Int32) &&& 0x3f).toInt64.toUInt64).toInt64)), .second] [(.long ((9223372036854775807 : Int64) - sp)), (.long (((xout S).toUInt64 >>> ((1 : Int32) &&& 0x3f).toInt64.toUInt64).toInt64))]))
      refine GoOn.st (fun t_ k_ => XS.lcmp X0.here hx rfl (hb hby d_prog_34_method_4_45) rfl k_) ?_
      refine GoOn.st (fun t_ k_ => XS.ifYes X0.here hx rfl (pc0 := 46) (pc' := 60) rfl (hb hby d_prog_34_method_4_46) rfl ((if0 _ _).trans (flt (fun q => hc ((lw_gt (((xout S).toUInt64 >>> ((1 : Int32) &&& 0x3f).toInt64.toUInt64).toInt64) ((9223372036854775807 : Int64) - sp)).mp q))).2.2.2) (by decide) (by decide) k_) ?_
      refine GoOn.st (fun t_ k_ => XS.lload X0.here hx rfl (hb hby d_prog_34_method_4_60) rfl k_) ?_
      refine GoOn.st (fun t_ k_ => XS.iloadN X0.here hx rfl (hb hby d_prog_34_method_4_62) rfl k_) ?_
      show GoOn _ _ _ _ (T0.setTop (mkF m 63 #[.val (.ref a1), .val (.int p1), .val (.long sp), .second, .val (.long (((xout S).toUInt64 >>> ((1 : Int32) &&& 0x3f).toInt64.toUInt64).toInt64)), .second] [(.int p1), (.long (((xout S).toUInt64 >>> ((1 : Int32) &&& 0x3f).toInt64.toUInt64).toInt64))]))
      refine GoOn.st (fun t_ k_ => XS.i2l X0.here hx rfl (hb hby d_prog_34_method_4_63) rfl k_) ?_
      refine GoOn.st (fun t_ k_ => XS.lrem X0.here hx rfl (hb hby d_prog_34_method_4_64) rfl hnz k_) ?_
      refine GoOn.st (fun t_ k_ => XS.l2i X0.here hx rfl (hb hby d_prog_34_method_4_65) rfl k_) ?_
      show GoOn _ _ _ _ (T0.setTop (mkF m 66 #[.val (.ref a1), .val (.int p1), .val (.long sp), .second, .val (.long (((xout S).toUInt64 >>> ((1 : Int32) &&& 0x3f).toInt64.toUInt64).toInt64)), .second] [(.int ((((((xout S).toUInt64 >>> ((1 : Int32) &&& 0x3f).toInt64.toUInt64).toInt64) - ((((xout S).toUInt64 >>> ((1 : Int32) &&& 0x3f).toInt64.toUInt64).toInt64) / ((p1).toInt64)) * ((p1).toInt64))).toInt32))]))
      exact GoOn.retI X0 hx hlk hret (hb hby d_prog_34_method_4_66) (by rw [e0]; exact ⟨((((((xout S).toUInt64 >>> ((1 : Int32) &&& 0x3f).toInt64.toUInt64).toInt64) - ((((xout S).toUInt64 >>> ((1 : Int32) &&& 0x3f).toInt64.toUInt64).toInt64) / ((p1).toInt64)) * ((p1).toInt64))).toInt32), xstep S, rfl, N0, K0, Ea, F0, F1, F2, F3⟩) (by decide) (by decide)
theorem ef_nint (m : MethodId) (x0 : Addr) (x1 : Int32) : entryFrame m #[(.ref x0), (.int x1)] 6 = mkF m 0 #[.val (.ref x0), .val (.int x1), .unset, .unset, .unset, .unset] [] := by first | (simp [entryFrame, mkF, argsToLocals, Value.category]; done) | rfl
theorem d_prog_34_method_4_0 : decode prog_34_method_4_code 0 = .ok (.iload_n 1, 1) := by decide +kernel
theorem d_prog_34_method_4_1 : decode prog_34_method_4_code 1 = .ok (.ifCond .gt 17, 3) := by decide +kernel
theorem d_prog_34_method_4_18 : decode prog_34_method_4_code 18 = .ok (.ldc2_w 49, 3) := by decide +kernel
theorem d_prog_34_method_4_21 : decode prog_34_method_4_code 21 = .ok (.iload_n 1, 1) := by decide +kernel
theorem d_prog_34_method_4_22 : decode prog_34_method_4_code 22 = .ok (.i2l, 1) := by decide +kernel
theorem d_prog_34_method_4_23 : decode prog_34_method_4_code 23 = .ok (.lrem, 1) := by decide +kernel
theorem d_prog_34_method_4_24 : decode prog_34_method_4_code 24 = .ok (.lconst 1, 1) := by decide +kernel
theorem d_prog_34_method_4_25 : decode prog_34_method_4_code 25 = .ok (.ladd, 1) := by decide +kernel
theorem d_prog_34_method_4_26 : decode prog_34_method_4_code 26 = .ok (.iload_n 1, 1) := by decide +kernel
theorem d_prog_34_method_4_27 : decode prog_34_method_4_code 27 = .ok (.i2l, 1) := by decide +kernel
theorem d_prog_34_method_4_28 : decode prog_34_method_4_code 28 = .ok (.lrem, 1) := by decide +kernel
theorem d_prog_34_method_4_29 : decode prog_34_method_4_code 29 = .ok (.lstore_n 2, 1) := by decide +kernel
theorem d_prog_34_method_4_30 : decode prog_34_method_4_code 30 = .ok (.aload_n 0, 1) := by decide +kernel
theorem d_prog_34_method_4_31 : decode prog_34_method_4_code 31 = .ok (.invokevirtual 34, 3) := by decide +kernel
theorem d_prog_34_method_4_34 : decode prog_34_method_4_code 34 = .ok (.iconst 1, 1) := by decide +kernel
theorem d_prog_34_method_4_35 : decode prog_34_method_4_code 35 = .ok (.lushr, 1) := by decide +kernel
theorem d_prog_34_method_4_36 : decode prog_34_method_4_code 36 = .ok (.lstore 4, 2) := by decide +kernel
set_option maxRecDepth 65536 in
set_option maxHeartbeats 40000000 in
theorem rm_nint (l : Launch) (Z : State) (a0 : Array Value) (hw : ∀ d ∈ tables_1, d.before a0 Z = true) (a1 : Addr) (p1 : Int32) (S : XS) (h0 : Heap) (n0 : Nat) (Ea : Exa Z h0 a1 "com/example/frontwise/frontwise/model/RandomStream") (Fs0 : Fld Z h0 a1 "com/example/frontwise/frontwise/model/RandomStream" "s0" "J" (.long S.s0)) (Fs1 : Fld Z h0 a1 "com/example/frontwise/frontwise/model/RandomStream" "s1" "J" (.long S.s1)) (Fs2 : Fld Z h0 a1 "com/example/frontwise/frontwise/model/RandomStream" "s2" "J" (.long S.s2)) (Fs3 : Fld Z h0 a1 "com/example/frontwise/frontwise/model/RandomStream" "s3" "J" (.long S.s3)) (g_a1 : n0 ≤ a1) (hp0 : (0 : Int32) < p1) (hnz : (p1).toInt64 ≠ 0) (hb0 : 0 < (p1.toInt64).toInt) (hb1 : (p1.toInt64).toInt ≤ 512) :
    OwCon l Z (⟨"com/example/frontwise/frontwise/model/RandomStream", "nextInt", "(I)I"⟩ : MethodName) prog_34_method_4_code 6 (some .int) [] ({ frames := 2, cells := 0, slots := 0, locals := 31 } : Room) #[(.ref a1), (.int p1)] h0 (fun v h L => ∃ (z : Int32) (S' : XS), v = some (.int z) ∧ Fr n0 L ∧ Keep h0 h [a1] ∧ Exa Z h a1 "com/example/frontwise/frontwise/model/RandomStream" ∧ Fld Z h a1 "com/example/frontwise/frontwise/model/RandomStream" "s0" "J" (.long S'.s0) ∧ Fld Z h a1 "com/example/frontwise/frontwise/model/RandomStream" "s1" "J" (.long S'.s1) ∧ Fld Z h a1 "com/example/frontwise/frontwise/model/RandomStream" "s2" "J" (.long S'.s2) ∧ Fld Z h a1 "com/example/frontwise/frontwise/model/RandomStream" "s3" "J" (.long S'.s3)) := by
  refine OwCon.of (plainFor_of_name pn_com_example_frontwise_frontwise_model_RandomStream) ?_
  intro p e s m below meth cd_ s₁ X0 hx hby hml hret hlk hown hnm hZ e0
  have N0 := Fr.nil n0
  refine GoOn.st (fun t_ k_ => castTop (ef_nint m a1 p1) k_) ?_
  show GoOn _ _ _ _ (s₁.setTop (mkF m 0 #[.val (.ref a1), .val (.int p1), .unset, .unset, .unset, .unset] []))
  refine GoOn.st (fun t_ k_ => XS.iloadN X0.here hx rfl (hb hby d_prog_34_method_4_0) rfl k_) ?_
  refine GoOn.st (fun t_ k_ => XS.ifYes X0.here hx rfl (pc0 := 1) (pc' := 18) rfl (hb hby d_prog_34_method_4_1) rfl ((if0 _ _).trans (tlt hp0).2.2.1) (by decide) (by decide) k_) ?_
  refine GoOn.st (fun t_ k_ => X0.ldc2Long hx hown (mvT hZ (hw _ (List.mem_of_getElem? (i := 67) rfl))) (g := (mkF m 18 #[.val (.ref a1), .val (.int p1), .unset, .unset, .unset, .unset] [])) rfl (hb hby d_prog_34_method_4_18) _ k_) ?_
  refine GoOn.st (fun t_ k_ => XS.iloadN X0.here hx rfl (hb hby d_prog_34_method_4_21) rfl k_) ?_
  show GoOn _ _ _ _ (s₁.setTop (mkF m 22 #[.val (.ref a1), .val (.int p1), .unset, .unset, .unset, .unset] [(.int p1), (.long (9223372036854775807 : Int64))]))
  refine GoOn.st (fun t_ k_ => XS.i2l X0.here hx rfl (hb hby d_prog_34_method_4_22) rfl k_) ?_
  refine GoOn.st (fun t_ k_ => XS.lrem X0.here hx rfl (hb hby d_prog_34_method_4_23) rfl hnz k_) ?_
  refine GoOn.st (fun t_ k_ => XS.lconst X0.here hx rfl (hb hby d_prog_34_method_4_24)  k_) ?_
  refine GoOn.st (fun t_ k_ => XS.ladd X0.here hx rfl (hb hby d_prog_34_method_4_25) rfl k_) ?_
  show GoOn _ _ _ _ (s₁.setTop (mkF m 26 #[.val (.ref a1), .val (.int p1), .unset, .unset, .unset, .unset] [(.long (((9223372036854775807 : Int64) - ((9223372036854775807 : Int64) / ((p1).toInt64)) * ((p1).toInt64)) + (1 : Int64)))]))
  refine GoOn.st (fun t_ k_ => XS.iloadN X0.here hx rfl (hb hby d_prog_34_method_4_26) rfl k_) ?_
  refine GoOn.st (fun t_ k_ => XS.i2l X0.here hx rfl (hb hby d_prog_34_method_4_27) rfl k_) ?_
  refine GoOn.st (fun t_ k_ => XS.lrem X0.here hx rfl (hb hby d_prog_34_method_4_28) rfl hnz k_) ?_
  refine GoOn.st (fun t_ k_ => XS.lstoreN X0.here hx rfl (hb hby d_prog_34_method_4_29) rfl (l' := #[.val (.ref a1), .val (.int p1), .val (.long ((((9223372036854775807 : Int64) - ((9223372036854775807 : Int64) / ((p1).toInt64)) * ((p1).toInt64)) + (1 : Int64)) - ((((9223372036854775807 : Int64) - ((9223372036854775807 : Int64) / ((p1).toInt64)) * ((p1).toInt64)) + (1 : Int64)) / ((p1).toInt64)) * ((p1).toInt64))), .second, .unset, .unset]) rfl k_) ?_
  show GoOn _ _ _ _ (s₁.setTop (mkF m 30 #[.val (.ref a1), .val (.int p1), .val (.long ((((9223372036854775807 : Int64) - ((9223372036854775807 : Int64) / ((p1).toInt64)) * ((p1).toInt64)) + (1 : Int64)) - ((((9223372036854775807 : Int64) - ((9223372036854775807 : Int64) / ((p1).toInt64)) * ((p1).toInt64)) + (1 : Int64)) / ((p1).toInt64)) * ((p1).toInt64))), .second, .unset, .unset] []))
  show GoOn _ _ _ _ (s₁.setTop (mkF m 30 #[.val (.ref a1), .val (.int p1), .val (.long (own_sp p1.toInt64)), .second, .unset, .unset] []))
  obtain ⟨sp, e_sp⟩ : ∃ z : Int64, z = (own_sp p1.toInt64) := ⟨_, rfl⟩
  rw [← e_sp]
  refine GoOn.st (fun t_ k_ => XS.aloadN X0.here hx rfl (hb hby d_prog_34_method_4_30) rfl rfl k_) ?_
  show GoOn _ _ _ _ (s₁.setTop (mkF m 31 #[.val (.ref a1), .val (.int p1), .val (.long sp), .second, .unset, .unset] [(.ref a1)]))
  refine GoOn.callV (W := 0) (argsL := []) (rest := []) (a := a1) X0 hx hZ hown (hw _ (List.mem_of_getElem? (i := 68) rfl)) (hw _ (List.mem_of_getElem? (i := 69) rfl)) (notFace_of_selects (args := #[]) (mvT hZ (hw _ (List.mem_of_getElem? (i := 71) rfl)))) (hw _ (List.mem_of_getElem? (i := 71) rfl)) (hw _ (List.mem_of_getElem? (i := 70) rfl)) (hw _ (List.mem_of_getElem? (i := 28) rfl)) (hw _ (List.mem_of_getElem? (i := 72) rfl)) (by decide) (rm_nlong l Z a0 hw a1 S h0 n0 Ea Fs0 Fs1 Fs2 Fs3 g_a1) e0 Ea (by decide) (by decide) (by rw [hml]; rfl) pd_3 rfl rfl (Nat.le_of_eq rfl) (hb hby d_prog_34_method_4_31) (by decide) (by decide) ?_
  rintro _ T1 L1 X1 ⟨rfl, N1q, K1, f1_0, f1_1, f1_2, f1_3, f1_4⟩
  have N1 := Fr.app N0 N1q
  refine GoOn.st (fun t_ k_ => XS.iconst X1.here hx rfl (hb hby d_prog_34_method_4_34)  k_) ?_
  refine GoOn.st (fun t_ k_ => XS.lushr X1.here hx rfl (hb hby d_prog_34_method_4_35) rfl k_) ?_
  refine GoOn.st (fun t_ k_ => XS.lstore X1.here hx rfl (hb hby d_prog_34_method_4_36) rfl (l' := #[.val (.ref a1), .val (.int p1), .val (.long sp), .second, .val (.long ((((xout S)).toUInt64 >>> ((1 : Int32) &&& 0x3f).toInt64.toUInt64).toInt64)), .second]) rfl k_) ?_
  show GoOn _ _ _ _ (T1.setTop (mkF m 38 #[.val (.ref a1), .val (.int p1), .val (.long sp), .second, .val (.long ((((xout S)).toUInt64 >>> ((1 : Int32) &&& 0x3f).toInt64.toUInt64).toInt64)), .second] []))
  obtain ⟨n, hn⟩ := xo_ends sp (by rw [e_sp]; exact (own_sp_in hb0 hb1).1) (by rw [e_sp]; exact (own_sp_in hb0 hb1).2) S
  exact sg_nx hw a1 p1 sp h0 n0 hx hby hml hret hlk hown hnm hZ g_a1 hnz n S _ _ _ X1 rfl N1 ((Keep.refl h0 [a1]).trans K1 (allS (Or.inl (List.mem_of_getElem? (i := 0) rfl)) all0)) f1_0 f1_1 f1_2 f1_3 f1_4 hn
theorem ef_place (m : MethodId) (x0 : Addr) (x1 : Int32) (x2 : Int32) : entryFrame m #[(.ref x0), (.int x1), (.int x2)] 3 = mkF m 0 #[.val (.ref x0), .val (.int x1), .val (.int x2)] [] := by first | (simp [entryFrame, mkF, argsToLocals, Value.category]; done) | rfl
theorem pn_com_example_frontwise_frontwise_problem_Mnk : plainName "com/example/frontwise/frontwise/problem/Mnk" = true := by first | (simp [plainName, overriddenIn]; done) | decide +kernel
theorem d_prog_39_method_10_0 : decode prog_39_method_10_code 0 = .ok (.iload_n 2, 1) := by decide +kernel
theorem d_prog_39_method_10_1 : decode prog_39_method_10_code 1 = .ok (.aload_n 0, 1) := by decide +kernel
theorem d_prog_39_method_10_2 : decode prog_39_method_10_code 2 = .ok (.getfield 36, 3) := by decide +kernel
theorem d_prog_39_method_10_5 : decode prog_39_method_10_code 5 = .ok (.imul, 1) := by decide +kernel
theorem d_prog_39_method_10_6 : decode prog_39_method_10_code 6 = .ok (.iload_n 1, 1) := by decide +kernel
theorem d_prog_39_method_10_7 : decode prog_39_method_10_code 7 = .ok (.iadd, 1) := by decide +kernel
theorem d_prog_39_method_10_8 : decode prog_39_method_10_code 8 = .ok (.aload_n 0, 1) := by decide +kernel
theorem d_prog_39_method_10_9 : decode prog_39_method_10_code 9 = .ok (.getfield 33, 3) := by decide +kernel
theorem d_prog_39_method_10_12 : decode prog_39_method_10_code 12 = .ok (.iconst 1, 1) := by decide +kernel
theorem d_prog_39_method_10_13 : decode prog_39_method_10_code 13 = .ok (.iadd, 1) := by decide +kernel
theorem d_prog_39_method_10_14 : decode prog_39_method_10_code 14 = .ok (.ishl, 1) := by decide +kernel
theorem d_prog_39_method_10_15 : decode prog_39_method_10_code 15 = .ok (.ireturn, 1) := by decide +kernel
set_option maxRecDepth 65536 in
set_option maxHeartbeats 40000000 in
theorem rm_place (l : Launch) (Z : State) (a0 : Array Value) (hw : ∀ d ∈ tables_1, d.before a0 Z = true) (a1 : Addr) (kk oo o l_ : Nat) (h0 : Heap) (Fo : Fld Z h0 a1 "com/example/frontwise/frontwise/problem/Mnk" "objectives" "I" (.int (Int32.ofNat oo))) (Fe : Fld Z h0 a1 "com/example/frontwise/frontwise/problem/Mnk" "epistasis" "I" (.int (Int32.ofNat kk))) (hk : kk ≤ 3) (ho : o < oo) (hl : l_ ≤ 7) (h3 : oo ≤ 3) :
    OwCon l Z (⟨"com/example/frontwise/frontwise/problem/Mnk", "place", "(II)I"⟩ : MethodName) prog_39_method_10_code 3 (some .int) [] ({ frames := 0, cells := 0, slots := 0, locals := 0 } : Room) #[(.ref a1), (.int (Int32.ofNat o)), (.int (Int32.ofNat l_))] h0 (OwRet (some (.int (Int32.ofNat ((l_ * oo + o) * own_W kk)))) h0) := by
  refine OwCon.of (plainFor_of_name pn_com_example_frontwise_frontwise_problem_Mnk) ?_
  intro p e s m below meth cd_ s₁ X0 hx hby hml hret hlk hown hnm hZ e0
  refine GoOn.st (fun t_ k_ => castTop (ef_place m a1 (Int32.ofNat o) (Int32.ofNat l_)) k_) ?_
  show GoOn _ _ _ _ (s₁.setTop (mkF m 0 #[.val (.ref a1), .val (.int (Int32.ofNat o)), .val (.int (Int32.ofNat l_))] []))
  refine GoOn.st (fun t_ k_ => XS.iloadN X0.here hx rfl (hb hby d_prog_39_method_10_0) rfl k_) ?_
  refine GoOn.st (fun t_ k_ => XS.aloadN X0.here hx rfl (hb hby d_prog_39_method_10_1) rfl rfl k_) ?_
  obtain ⟨T1, X1, e1, st1⟩ := getF X0 hx hZ hown (host := "") (Or.inl (hw _ (List.mem_of_getElem? (i := 19) rfl))) Via.refl e0 Fo (g := (mkF m 2 #[.val (.ref a1), .val (.int (Int32.ofNat o)), .val (.int (Int32.ofNat l_))] [(.ref a1), (.int (Int32.ofNat l_))])) rfl rfl (hb hby d_prog_39_method_10_2)
  refine GoOn.st st1 ?_
  refine GoOn.st (fun t_ k_ => XS.imul X1.here hx rfl (hb hby d_prog_39_method_10_5) rfl k_) ?_
  show GoOn _ _ _ _ (T1.setTop (mkF m 6 #[.val (.ref a1), .val (.int (Int32.ofNat o)), .val (.int (Int32.ofNat l_))] [(.int ((Int32.ofNat l_) * (Int32.ofNat oo)))]))
  refine GoOn.st (fun t_ k_ => XS.iloadN X1.here hx rfl (hb hby d_prog_39_method_10_6) rfl k_) ?_
  refine GoOn.st (fun t_ k_ => XS.iadd X1.here hx rfl (hb hby d_prog_39_method_10_7) rfl k_) ?_
  refine GoOn.st (fun t_ k_ => XS.aloadN X1.here hx rfl (hb hby d_prog_39_method_10_8) rfl rfl k_) ?_
  obtain ⟨T2, X2, e2, st2⟩ := getF X1 hx hZ hown (host := "") (Or.inl (hw _ (List.mem_of_getElem? (i := 17) rfl))) Via.refl e1 Fe (g := (mkF m 9 #[.val (.ref a1), .val (.int (Int32.ofNat o)), .val (.int (Int32.ofNat l_))] [(.ref a1), (.int (((Int32.ofNat l_) * (Int32.ofNat oo)) + (Int32.ofNat o)))])) rfl rfl (hb hby d_prog_39_method_10_9)
  refine GoOn.st st2 ?_
  show GoOn _ _ _ _ (T2.setTop (mkF m 12 #[.val (.ref a1), .val (.int (Int32.ofNat o)), .val (.int (Int32.ofNat l_))] [(.int (Int32.ofNat kk)), (.int (((Int32.ofNat l_) * (Int32.ofNat oo)) + (Int32.ofNat o)))]))
  refine GoOn.st (fun t_ k_ => XS.iconst X2.here hx rfl (hb hby d_prog_39_method_10_12)  k_) ?_
  refine GoOn.st (fun t_ k_ => XS.iadd X2.here hx rfl (hb hby d_prog_39_method_10_13) rfl k_) ?_
  refine GoOn.st (fun t_ k_ => XS.ishl X2.here hx rfl (hb hby d_prog_39_method_10_14) rfl k_) ?_
  show GoOn _ _ _ _ (T2.setTop (mkF m 15 #[.val (.ref a1), .val (.int (Int32.ofNat o)), .val (.int (Int32.ofNat l_))] [(.int ((((Int32.ofNat l_) * (Int32.ofNat oo)) + (Int32.ofNat o)) <<< (((Int32.ofNat kk) + (1 : Int32)) &&& 31)))]))
  exact GoOn.retI X2 hx hlk hret (hb hby d_prog_39_method_10_15) (by rw [e2]; exact ⟨(by rw [own_place hk ho hl h3]), rfl, rfl⟩) (by decide) (by decide)
theorem d_prog_39_method_1_225 : decode prog_39_method_1_code 225 = .ok (.iload 12, 2) := by decide +kernel
theorem d_prog_39_method_1_227 : decode prog_39_method_1_code 227 = .ok (.iconst 1, 1) := by decide +kernel
theorem d_prog_39_method_1_228 : decode prog_39_method_1_code 228 = .ok (.iload_n 2, 1) := by decide +kernel
theorem d_prog_39_method_1_229 : decode prog_39_method_1_code 229 = .ok (.iconst 1, 1) := by decide +kernel
theorem d_prog_39_method_1_230 : decode prog_39_method_1_code 230 = .ok (.iadd, 1) := by decide +kernel
theorem d_prog_39_method_1_231 : decode prog_39_method_1_code 231 = .ok (.ishl, 1) := by decide +kernel
theorem d_prog_39_method_1_232 : decode prog_39_method_1_code 232 = .ok (.if_icmp .ge 63, 3) := by decide +kernel
theorem d_prog_39_method_1_295 : decode prog_39_method_1_code 295 = .ok (.iinc 10 1, 3) := by decide +kernel
theorem d_prog_39_method_1_298 : decode prog_39_method_1_code 298 = .ok (.goto (-92), 3) := by decide +kernel
theorem d_prog_39_method_1_206 : decode prog_39_method_1_code 206 = .ok (.iload 10, 2) := by decide +kernel
theorem d_prog_39_method_1_208 : decode prog_39_method_1_code 208 = .ok (.iload_n 1, 1) := by decide +kernel
theorem d_prog_39_method_1_209 : decode prog_39_method_1_code 209 = .ok (.if_icmp .ge 92, 3) := by decide +kernel
theorem d_prog_39_method_1_212 : decode prog_39_method_1_code 212 = .ok (.aload_n 0, 1) := by decide +kernel
theorem d_prog_39_method_1_213 : decode prog_39_method_1_code 213 = .ok (.iload 9, 2) := by decide +kernel
theorem d_prog_39_method_1_215 : decode prog_39_method_1_code 215 = .ok (.iload 10, 2) := by decide +kernel
theorem pd_4 : parseMethodDescriptor "(II)I" = some ⟨[.int, .int], some .int⟩ := by decide +kernel
theorem d_prog_39_method_1_217 : decode prog_39_method_1_code 217 = .ok (.invokevirtual 52, 3) := by decide +kernel
theorem d_prog_39_method_1_220 : decode prog_39_method_1_code 220 = .ok (.istore 11, 2) := by decide +kernel
theorem d_prog_39_method_1_222 : decode prog_39_method_1_code 222 = .ok (.iconst 0, 1) := by decide +kernel
theorem d_prog_39_method_1_223 : decode prog_39_method_1_code 223 = .ok (.istore 12, 2) := by decide +kernel
theorem d_prog_39_method_1_301 : decode prog_39_method_1_code 301 = .ok (.iinc 9 1, 3) := by decide +kernel
theorem d_prog_39_method_1_304 : decode prog_39_method_1_code 304 = .ok (.goto (-108), 3) := by decide +kernel
theorem d_prog_39_method_1_196 : decode prog_39_method_1_code 196 = .ok (.iload 9, 2) := by decide +kernel
theorem d_prog_39_method_1_198 : decode prog_39_method_1_code 198 = .ok (.iload 4, 2) := by decide +kernel
theorem d_prog_39_method_1_200 : decode prog_39_method_1_code 200 = .ok (.if_icmp .ge 107, 3) := by decide +kernel
theorem d_prog_39_method_1_203 : decode prog_39_method_1_code 203 = .ok (.iconst 0, 1) := by decide +kernel
theorem d_prog_39_method_1_204 : decode prog_39_method_1_code 204 = .ok (.istore 10, 2) := by decide +kernel
theorem d_prog_39_method_1_307 : decode prog_39_method_1_code 307 = .ok (.return_, 1) := by decide +kernel
theorem d_prog_39_method_1_235 : decode prog_39_method_1_code 235 = .ok (.iload 11, 2) := by decide +kernel
theorem d_prog_39_method_1_237 : decode prog_39_method_1_code 237 = .ok (.iload 12, 2) := by decide +kernel
theorem d_prog_39_method_1_239 : decode prog_39_method_1_code 239 = .ok (.invokestatic 56, 3) := by decide +kernel
theorem d_prog_39_method_1_242 : decode prog_39_method_1_code 242 = .ok (.bipush 32, 2) := by decide +kernel
theorem d_prog_39_method_1_244 : decode prog_39_method_1_code 244 = .ok (.iload_n 2, 1) := by decide +kernel
theorem d_prog_39_method_1_245 : decode prog_39_method_1_code 245 = .ok (.iconst 1, 1) := by decide +kernel
theorem d_prog_39_method_1_246 : decode prog_39_method_1_code 246 = .ok (.iadd, 1) := by decide +kernel
theorem d_prog_39_method_1_247 : decode prog_39_method_1_code 247 = .ok (.isub, 1) := by decide +kernel
theorem d_prog_39_method_1_248 : decode prog_39_method_1_code 248 = .ok (.iushr, 1) := by decide +kernel
theorem d_prog_39_method_1_249 : decode prog_39_method_1_code 249 = .ok (.ior, 1) := by decide +kernel
theorem d_prog_39_method_1_250 : decode prog_39_method_1_code 250 = .ok (.istore 13, 2) := by decide +kernel
theorem d_prog_39_method_1_252 : decode prog_39_method_1_code 252 = .ok (.aload 8, 2) := by decide +kernel
theorem d_prog_39_method_1_254 : decode prog_39_method_1_code 254 = .ok (.iload_n 3, 1) := by decide +kernel
theorem d_prog_39_method_1_255 : decode prog_39_method_1_code 255 = .ok (.invokevirtual 62, 3) := by decide +kernel
theorem d_prog_39_method_1_258 : decode prog_39_method_1_code 258 = .ok (.istore 14, 2) := by decide +kernel
theorem d_prog_39_method_1_260 : decode prog_39_method_1_code 260 = .ok (.aload_n 0, 1) := by decide +kernel
theorem d_prog_39_method_1_261 : decode prog_39_method_1_code 261 = .ok (.getfield 39, 3) := by decide +kernel
theorem d_prog_39_method_1_264 : decode prog_39_method_1_code 264 = .ok (.ifnull 16, 3) := by decide +kernel
theorem d_prog_39_method_1_267 : decode prog_39_method_1_code 267 = .ok (.aload_n 0, 1) := by decide +kernel
theorem d_prog_39_method_1_268 : decode prog_39_method_1_code 268 = .ok (.getfield 39, 3) := by decide +kernel
theorem d_prog_39_method_1_271 : decode prog_39_method_1_code 271 = .ok (.iload 13, 2) := by decide +kernel
theorem d_prog_39_method_1_273 : decode prog_39_method_1_code 273 = .ok (.iload 14, 2) := by decide +kernel
theorem d_prog_39_method_1_275 : decode prog_39_method_1_code 275 = .ok (.i2b, 1) := by decide +kernel
theorem d_prog_39_method_1_276 : decode prog_39_method_1_code 276 = .ok (.bastore, 1) := by decide +kernel
theorem d_prog_39_method_1_277 : decode prog_39_method_1_code 277 = .ok (.goto 12, 3) := by decide +kernel
theorem d_prog_39_method_1_289 : decode prog_39_method_1_code 289 = .ok (.iinc 12 1, 3) := by decide +kernel
theorem d_prog_39_method_1_292 : decode prog_39_method_1_code 292 = .ok (.goto (-67), 3) := by decide +kernel
set_option maxRecDepth 65536 in
set_option maxHeartbeats 40000000 in
theorem sg_mb {p : Program} {l : Launch} {e : Env} {s : State} {m : MethodId} {args : Array Value} {below : List Frame} {meth : Method} {c : Code} {Z : State} {a0 : Array Value} (hw : ∀ d ∈ tables_1, d.before a0 Z = true) (a1 a8 b1 : Addr) (kb : ClassId) (nn kk oo : Nat) (vv : Int32) (q1 : Int64) (h00 : Heap) (n0 : Nat) {rmc rms : Nat} (sm : Small nn kk oo) (hx : p.tables.exec = Jvm.exec) (hby : c.code = prog_39_method_1_code) (hml : c.maxLocals = 15) (hret : meth.sig.returnType = none) (hlk : meth.locks = false) (hown : s.vm.findClass "com/example/frontwise/frontwise/problem/Mnk" = some m.cls) (hnm : meth.name = "<init>") (hZ : Z.Warmed39 s.vm) (g_a1 : n0 ≤ a1) (g_a8 : n0 ≤ a8) (g_b1 : n0 ≤ b1) (sz_a8 : h00.size ≤ a8) (sz_b1 : h00.size ≤ b1) (n18 : a1 ≠ a8) (n1b : a1 ≠ b1) (n8b : b1 ≠ a8) (hp0 : (0 : Int32) < vv) (hnz : (vv).toInt64 ≠ 0) (hb0 : 0 < (vv.toInt64).toInt) (hb1 : (vv.toInt64).toInt ≤ 512) :
    ∀ (A r o l_ j : Nat) (S : XS) (vs : List Value) (y13 y14 : Int32) (T0 : State) (locs : List Loc) (h0 : Heap), A + l_ = (oo - o) * nn → r + j = own_W kk → o < oo → l_ < nn → Stand p l e ({ frames := 3, cells := 3, slots := 400, locals := 48 } : Room) s m args below meth c T0 locs 2 390 → T0.heap = h0 → Fr n0 locs → Keep h00 h0 [a1] → Exa Z h0 a1 "com/example/frontwise/frontwise/problem/Mnk" → Fld Z h0 a1 "com/example/frontwise/frontwise/problem/Mnk" "n" "I" (.int (Int32.ofNat nn)) → Fld Z h0 a1 "com/example/frontwise/frontwise/problem/Mnk" "epistasis" "I" (.int (Int32.ofNat kk)) → Fld Z h0 a1 "com/example/frontwise/frontwise/problem/Mnk" "objectives" "I" (.int (Int32.ofNat oo)) → Fld Z h0 a1 "com/example/frontwise/frontwise/problem/Mnk" "byteTables" "[B" (.ref b1) → Fld Z h0 a1 "com/example/frontwise/frontwise/problem/Mnk" "intTables" "[I" .null → Exa Z h0 a8 "com/example/frontwise/frontwise/model/RandomStream" → Fld Z h0 a8 "com/example/frontwise/frontwise/model/RandomStream" "s0" "J" (.long S.s0) → Fld Z h0 a8 "com/example/frontwise/frontwise/model/RandomStream" "s1" "J" (.long S.s1) → Fld Z h0 a8 "com/example/frontwise/frontwise/model/RandomStream" "s2" "J" (.long S.s2) → Fld Z h0 a8 "com/example/frontwise/frontwise/model/RandomStream" "s3" "J" (.long S.s3) → Arv Z h0 b1 kb .byte (Int32.ofNat (nn * oo * own_W kk)) vs (.int 0) → vs.length = 384 →
    GoOn p e below (OwPost (fun v h L => v = none ∧ Fr n0 L ∧ Keep h00 h [a1] ∧ Exa Z h a1 "com/example/frontwise/frontwise/problem/Mnk" ∧ Fld Z h a1 "com/example/frontwise/frontwise/problem/Mnk" "n" "I" (.int (Int32.ofNat nn)) ∧ Fld Z h a1 "com/example/frontwise/frontwise/problem/Mnk" "epistasis" "I" (.int (Int32.ofNat kk))) s ({ frames := 3, cells := 3, slots := 400, locals := 48 } : Room).cells ({ frames := 3, cells := 3, slots := 400, locals := 48 } : Room).slots) (T0.setTop (mkF m 225 #[.val (.ref a1), .val (.int (Int32.ofNat nn)), .val (.int (Int32.ofNat kk)), .val (.int vv), .val (.int (Int32.ofNat oo)), .val (.long q1), .second, .val (.int (Int32.ofNat (nn * oo * own_W kk))), .val (.ref a8), .val (.int (Int32.ofNat o)), .val (.int (Int32.ofNat l_)), .val (.int (Int32.ofNat ((l_ * oo + o) * own_W kk))), .val (.int (Int32.ofNat j)), .val (.int y13), .val (.int y14)] [])) := by
  intro A
  induction A with
  | zero =>
    intro r
    intro o l_ j S vs y13 y14 T0 locs h0 hA hr ho hl X0 e0 N0 K0 E1 Fn Fe Fo Fb Fi E8 Fs0 Fs1 Fs2 Fs3 Vb hlen
    exfalso
    have h1 : nn ≤ (oo - o) * nn := Nat.le_mul_of_pos_left nn (by omega)
    omega
  | succ A ihA =>
    intro r
    induction r with
    | zero =>
      intro o l_ j S vs y13 y14 T0 locs h0 hA hr ho hl X0 e0 N0 K0 E1 Fn Fe Fo Fb Fi E8 Fs0 Fs1 Fs2 Fs3 Vb hlen
      have hj : j = own_W kk := by omega
      refine GoOn.st (fun t_ k_ => XS.iload X0.here hx rfl (hb hby d_prog_39_method_1_225) rfl k_) ?_
      refine GoOn.st (fun t_ k_ => XS.iconst X0.here hx rfl (hb hby d_prog_39_method_1_227)  k_) ?_
      refine GoOn.st (fun t_ k_ => XS.iloadN X0.here hx rfl (hb hby d_prog_39_method_1_228) rfl k_) ?_
      refine GoOn.st (fun t_ k_ => XS.iconst X0.here hx rfl (hb hby d_prog_39_method_1_229)  k_) ?_
      show GoOn _ _ _ _ (T0.setTop (mkF m 230 #[.val (.ref a1), .val (.int (Int32.ofNat nn)), .val (.int (Int32.ofNat kk)), .val (.int vv), .val (.int (Int32.ofNat oo)), .val (.long q1), .second, .val (.int (Int32.ofNat (nn * oo * own_W kk))), .val (.ref a8), .val (.int (Int32.ofNat o)), .val (.int (Int32.ofNat l_)), .val (.int (Int32.ofNat ((l_ * oo + o) * own_W kk))), .val (.int (Int32.ofNat j)), .val (.int y13), .val (.int y14)] [(.int (1 : Int32)), (.int (Int32.ofNat kk)), (.int (1 : Int32)), (.int (Int32.ofNat j))]))
      refine GoOn.st (fun t_ k_ => XS.iadd X0.here hx rfl (hb hby d_prog_39_method_1_230) rfl k_) ?_
      refine GoOn.st (fun t_ k_ => XS.ishl X0.here hx rfl (hb hby d_prog_39_method_1_231) rfl k_) ?_
      refine GoOn.st (fun t_ k_ => XS.icmpYes X0.here hx rfl (pc0 := 232) (pc' := 295) rfl (hb hby d_prog_39_method_1_232) rfl (flt (by rw [own_shl1 sm.k3]; exact fun q => absurd ((own_lt (by have := own_W_le sm.k3; omega) (by have := own_W_le sm.k3; omega)).mp q) (by omega))).2.1 (by decide) (by decide) k_) ?_
      refine GoOn.st (fun t_ k_ => XS.iinc X0.here hx rfl (hb hby d_prog_39_method_1_295) rfl (l' := #[.val (.ref a1), .val (.int (Int32.ofNat nn)), .val (.int (Int32.ofNat kk)), .val (.int vv), .val (.int (Int32.ofNat oo)), .val (.long q1), .second, .val (.int (Int32.ofNat (nn * oo * own_W kk))), .val (.ref a8), .val (.int (Int32.ofNat o)), .val (.int ((Int32.ofNat l_) + (1 : Int32))), .val (.int (Int32.ofNat ((l_ * oo + o) * own_W kk))), .val (.int (Int32.ofNat j)), .val (.int y13), .val (.int y14)]) rfl k_) ?_
      show GoOn _ _ _ _ (T0.setTop (mkF m 298 #[.val (.ref a1), .val (.int (Int32.ofNat nn)), .val (.int (Int32.ofNat kk)), .val (.int vv), .val (.int (Int32.ofNat oo)), .val (.long q1), .second, .val (.int (Int32.ofNat (nn * oo * own_W kk))), .val (.ref a8), .val (.int (Int32.ofNat o)), .val (.int ((Int32.ofNat l_) + (1 : Int32))), .val (.int (Int32.ofNat ((l_ * oo + o) * own_W kk))), .val (.int (Int32.ofNat j)), .val (.int y13), .val (.int y14)] []))
      refine GoOn.st (fun t_ k_ => XS.goto X0.here hx rfl (pc0 := 298) (pc' := 206) rfl (hb hby d_prog_39_method_1_298) (by decide) (by decide) k_) ?_
      show GoOn _ _ _ _ (T0.setTop (mkF m 206 #[.val (.ref a1), .val (.int (Int32.ofNat nn)), .val (.int (Int32.ofNat kk)), .val (.int vv), .val (.int (Int32.ofNat oo)), .val (.long q1), .second, .val (.int (Int32.ofNat (nn * oo * own_W kk))), .val (.ref a8), .val (.int (Int32.ofNat o)), .val (.int ((Int32.ofNat l_) + (1 : Int32))), .val (.int (Int32.ofNat ((l_ * oo + o) * own_W kk))), .val (.int (Int32.ofNat j)), .val (.int y13), .val (.int y14)] []))
      rw [own_succ l_]
      show GoOn _ _ _ _ (T0.setTop (mkF m 206 #[.val (.ref a1), .val (.int (Int32.ofNat nn)), .val (.int (Int32.ofNat kk)), .val (.int vv), .val (.int (Int32.ofNat oo)), .val (.long q1), .second, .val (.int (Int32.ofNat (nn * oo * own_W kk))), .val (.ref a8), .val (.int (Int32.ofNat o)), .val (.int (Int32.ofNat (l_ + 1))), .val (.int (Int32.ofNat ((l_ * oo + o) * own_W kk))), .val (.int (Int32.ofNat j)), .val (.int y13), .val (.int y14)] []))
      by_cases hq : l_ + 1 < nn
      · skip
        refine GoOn.st (fun t_ k_ => XS.iload X0.here hx rfl (hb hby d_prog_39_method_1_206) rfl k_) ?_
        refine GoOn.st (fun t_ k_ => XS.iloadN X0.here hx rfl (hb hby d_prog_39_method_1_208) rfl k_) ?_
        refine GoOn.st (fun t_ k_ => XS.icmpNo X0.here hx rfl (hb hby d_prog_39_method_1_209) rfl (tlt ((own_lt (by have := sm.n8; omega) (by have := sm.n8; omega)).mpr hq)).2.1 k_) ?_
        refine GoOn.st (fun t_ k_ => XS.aloadN X0.here hx rfl (hb hby d_prog_39_method_1_212) rfl rfl k_) ?_
        show GoOn _ _ _ _ (T0.setTop (mkF m 213 #[.val (.ref a1), .val (.int (Int32.ofNat nn)), .val (.int (Int32.ofNat kk)), .val (.int vv), .val (.int (Int32.ofNat oo)), .val (.long q1), .second, .val (.int (Int32.ofNat (nn * oo * own_W kk))), .val (.ref a8), .val (.int (Int32.ofNat o)), .val (.int (Int32.ofNat (l_ + 1))), .val (.int (Int32.ofNat ((l_ * oo + o) * own_W kk))), .val (.int (Int32.ofNat j)), .val (.int y13), .val (.int y14)] [(.ref a1)]))
        refine GoOn.st (fun t_ k_ => XS.iload X0.here hx rfl (hb hby d_prog_39_method_1_213) rfl k_) ?_
        refine GoOn.st (fun t_ k_ => XS.iload X0.here hx rfl (hb hby d_prog_39_method_1_215) rfl k_) ?_
        show GoOn _ _ _ _ (T0.setTop (mkF m 217 #[.val (.ref a1), .val (.int (Int32.ofNat nn)), .val (.int (Int32.ofNat kk)), .val (.int vv), .val (.int (Int32.ofNat oo)), .val (.long q1), .second, .val (.int (Int32.ofNat (nn * oo * own_W kk))), .val (.ref a8), .val (.int (Int32.ofNat o)), .val (.int (Int32.ofNat (l_ + 1))), .val (.int (Int32.ofNat ((l_ * oo + o) * own_W kk))), .val (.int (Int32.ofNat j)), .val (.int y13), .val (.int y14)] [(.int (Int32.ofNat (l_ + 1))), (.int (Int32.ofNat o)), (.ref a1)]))
        refine GoOn.callP (W := 0) (argsL := [(.int (Int32.ofNat o)), (.int (Int32.ofNat (l_ + 1)))]) (rest := []) (a := a1) X0 hx hZ hown (hw _ (List.mem_of_getElem? (i := 47) rfl)) (hw _ (List.mem_of_getElem? (i := 48) rfl)) (Jvm.Kit.selects_private (by decide) (hw _ (List.mem_of_getElem? (i := 6) rfl)) (hw _ (List.mem_of_getElem? (i := 49) rfl)) (hw _ (List.mem_of_getElem? (i := 48) rfl))) (hw _ (List.mem_of_getElem? (i := 49) rfl)) (hw _ (List.mem_of_getElem? (i := 7) rfl)) (hw _ (List.mem_of_getElem? (i := 50) rfl)) (by decide) (rm_place l Z a0 hw a1 kk oo o (l_ + 1) h0 Fo Fe sm.k3 (by omega) (by have := sm.n8; omega) sm.o3) e0 E1.cell (by decide) (by decide) (by rw [hml]; rfl) pd_4 rfl rfl (Nat.le_of_eq rfl) (hb hby d_prog_39_method_1_217) (by decide) (by decide) ?_
        rintro _ T1 L1 X1 ⟨rfl, rfl, e1⟩
        rw [List.append_nil] at X1
        refine GoOn.st (fun t_ k_ => XS.istore X1.here hx rfl (hb hby d_prog_39_method_1_220) rfl (l' := #[.val (.ref a1), .val (.int (Int32.ofNat nn)), .val (.int (Int32.ofNat kk)), .val (.int vv), .val (.int (Int32.ofNat oo)), .val (.long q1), .second, .val (.int (Int32.ofNat (nn * oo * own_W kk))), .val (.ref a8), .val (.int (Int32.ofNat o)), .val (.int (Int32.ofNat (l_ + 1))), .val (.int (Int32.ofNat (((l_ + 1) * oo + o) * own_W kk))), .val (.int (Int32.ofNat j)), .val (.int y13), .val (.int y14)]) rfl k_) ?_
        refine GoOn.st (fun t_ k_ => XS.iconst X1.here hx rfl (hb hby d_prog_39_method_1_222)  k_) ?_
        refine GoOn.st (fun t_ k_ => XS.istore X1.here hx rfl (hb hby d_prog_39_method_1_223) rfl (l' := #[.val (.ref a1), .val (.int (Int32.ofNat nn)), .val (.int (Int32.ofNat kk)), .val (.int vv), .val (.int (Int32.ofNat oo)), .val (.long q1), .second, .val (.int (Int32.ofNat (nn * oo * own_W kk))), .val (.ref a8), .val (.int (Int32.ofNat o)), .val (.int (Int32.ofNat (l_ + 1))), .val (.int (Int32.ofNat (((l_ + 1) * oo + o) * own_W kk))), .val (.int (0 : Int32)), .val (.int y13), .val (.int y14)]) rfl k_) ?_
        show GoOn _ _ _ _ (T1.setTop (mkF m 225 #[.val (.ref a1), .val (.int (Int32.ofNat nn)), .val (.int (Int32.ofNat kk)), .val (.int vv), .val (.int (Int32.ofNat oo)), .val (.long q1), .second, .val (.int (Int32.ofNat (nn * oo * own_W kk))), .val (.ref a8), .val (.int (Int32.ofNat o)), .val (.int (Int32.ofNat (l_ + 1))), .val (.int (Int32.ofNat (((l_ + 1) * oo + o) * own_W kk))), .val (.int (0 : Int32)), .val (.int y13), .val (.int y14)] []))
        exact ihA (own_W kk) o (l_ + 1) 0 S _ _ _ _ _ _ (by omega) (by omega) ho hq X1 e1 N0 K0 E1 Fn Fe Fo Fb Fi E8 Fs0 Fs1 Fs2 Fs3 Vb hlen
      · skip
        refine GoOn.st (fun t_ k_ => XS.iload X0.here hx rfl (hb hby d_prog_39_method_1_206) rfl k_) ?_
        refine GoOn.st (fun t_ k_ => XS.iloadN X0.here hx rfl (hb hby d_prog_39_method_1_208) rfl k_) ?_
        refine GoOn.st (fun t_ k_ => XS.icmpYes X0.here hx rfl (pc0 := 209) (pc' := 301) rfl (hb hby d_prog_39_method_1_209) rfl (flt (fun q => hq ((own_lt (by have := sm.n8; omega) (by have := sm.n8; omega)).mp q))).2.1 (by decide) (by decide) k_) ?_
        refine GoOn.st (fun t_ k_ => XS.iinc X0.here hx rfl (hb hby d_prog_39_method_1_301) rfl (l' := #[.val (.ref a1), .val (.int (Int32.ofNat nn)), .val (.int (Int32.ofNat kk)), .val (.int vv), .val (.int (Int32.ofNat oo)), .val (.long q1), .second, .val (.int (Int32.ofNat (nn * oo * own_W kk))), .val (.ref a8), .val (.int ((Int32.ofNat o) + (1 : Int32))), .val (.int (Int32.ofNat (l_ + 1))), .val (.int (Int32.ofNat ((l_ * oo + o) * own_W kk))), .val (.int (Int32.ofNat j)), .val (.int y13), .val (.int y14)]) rfl k_) ?_
        show GoOn _ _ _ _ (T0.setTop (mkF m 304 #[.val (.ref a1), .val (.int (Int32.ofNat nn)), .val (.int (Int32.ofNat kk)), .val (.int vv), .val (.int (Int32.ofNat oo)), .val (.long q1), .second, .val (.int (Int32.ofNat (nn * oo * own_W kk))), .val (.ref a8), .val (.int ((Int32.ofNat o) + (1 : Int32))), .val (.int (Int32.ofNat (l_ + 1))), .val (.int (Int32.ofNat ((l_ * oo + o) * own_W kk))), .val (.int (Int32.ofNat j)), .val (.int y13), .val (.int y14)] []))
        refine GoOn.st (fun t_ k_ => XS.goto X0.here hx rfl (pc0 := 304) (pc' := 196) rfl (hb hby d_prog_39_method_1_304) (by decide) (by decide) k_) ?_
        show GoOn _ _ _ _ (T0.setTop (mkF m 196 #[.val (.ref a1), .val (.int (Int32.ofNat nn)), .val (.int (Int32.ofNat kk)), .val (.int vv), .val (.int (Int32.ofNat oo)), .val (.long q1), .second, .val (.int (Int32.ofNat (nn * oo * own_W kk))), .val (.ref a8), .val (.int ((Int32.ofNat o) + (1 : Int32))), .val (.int (Int32.ofNat (l_ + 1))), .val (.int (Int32.ofNat ((l_ * oo + o) * own_W kk))), .val (.int (Int32.ofNat j)), .val (.int y13), .val (.int y14)] []))
        rw [own_succ o]
        show GoOn _ _ _ _ (T0.setTop (mkF m 196 #[.val (.ref a1), .val (.int (Int32.ofNat nn)), .val (.int (Int32.ofNat kk)), .val (.int vv), .val (.int (Int32.ofNat oo)), .val (.long q1), .second, .val (.int (Int32.ofNat (nn * oo * own_W kk))), .val (.ref a8), .val (.int (Int32.ofNat (o + 1))), .val (.int (Int32.ofNat (l_ + 1))), .val (.int (Int32.ofNat ((l_ * oo + o) * own_W kk))), .val (.int (Int32.ofNat j)), .val (.int y13), .val (.int y14)] []))
        by_cases hq2 : o + 1 < oo
        · skip
          refine GoOn.st (fun t_ k_ => XS.iload X0.here hx rfl (hb hby d_prog_39_method_1_196) rfl k_) ?_
          refine GoOn.st (fun t_ k_ => XS.iload X0.here hx rfl (hb hby d_prog_39_method_1_198) rfl k_) ?_
          refine GoOn.st (fun t_ k_ => XS.icmpNo X0.here hx rfl (hb hby d_prog_39_method_1_200) rfl (tlt ((own_lt (by have := sm.o3; omega) (by have := sm.o3; omega)).mpr hq2)).2.1 k_) ?_
          refine GoOn.st (fun t_ k_ => XS.iconst X0.here hx rfl (hb hby d_prog_39_method_1_203)  k_) ?_
          show GoOn _ _ _ _ (T0.setTop (mkF m 204 #[.val (.ref a1), .val (.int (Int32.ofNat nn)), .val (.int (Int32.ofNat kk)), .val (.int vv), .val (.int (Int32.ofNat oo)), .val (.long q1), .second, .val (.int (Int32.ofNat (nn * oo * own_W kk))), .val (.ref a8), .val (.int (Int32.ofNat (o + 1))), .val (.int (Int32.ofNat (l_ + 1))), .val (.int (Int32.ofNat ((l_ * oo + o) * own_W kk))), .val (.int (Int32.ofNat j)), .val (.int y13), .val (.int y14)] [(.int (0 : Int32))]))
          refine GoOn.st (fun t_ k_ => XS.istore X0.here hx rfl (hb hby d_prog_39_method_1_204) rfl (l' := #[.val (.ref a1), .val (.int (Int32.ofNat nn)), .val (.int (Int32.ofNat kk)), .val (.int vv), .val (.int (Int32.ofNat oo)), .val (.long q1), .second, .val (.int (Int32.ofNat (nn * oo * own_W kk))), .val (.ref a8), .val (.int (Int32.ofNat (o + 1))), .val (.int (0 : Int32)), .val (.int (Int32.ofNat ((l_ * oo + o) * own_W kk))), .val (.int (Int32.ofNat j)), .val (.int y13), .val (.int y14)]) rfl k_) ?_
          show GoOn _ _ _ _ (T0.setTop (mkF m 206 #[.val (.ref a1), .val (.int (Int32.ofNat nn)), .val (.int (Int32.ofNat kk)), .val (.int vv), .val (.int (Int32.ofNat oo)), .val (.long q1), .second, .val (.int (Int32.ofNat (nn * oo * own_W kk))), .val (.ref a8), .val (.int (Int32.ofNat (o + 1))), .val (.int (Int32.ofNat 0)), .val (.int (Int32.ofNat ((l_ * oo + o) * own_W kk))), .val (.int (Int32.ofNat j)), .val (.int y13), .val (.int y14)] []))
          refine GoOn.st (fun t_ k_ => XS.iload X0.here hx rfl (hb hby d_prog_39_method_1_206) rfl k_) ?_
          refine GoOn.st (fun t_ k_ => XS.iloadN X0.here hx rfl (hb hby d_prog_39_method_1_208) rfl k_) ?_
          refine GoOn.st (fun t_ k_ => XS.icmpNo X0.here hx rfl (hb hby d_prog_39_method_1_209) rfl (tlt ((own_lt (a := 0) (by decide) (by have := sm.n8; omega)).mpr sm.n1)).2.1 k_) ?_
          refine GoOn.st (fun t_ k_ => XS.aloadN X0.here hx rfl (hb hby d_prog_39_method_1_212) rfl rfl k_) ?_
          show GoOn _ _ _ _ (T0.setTop (mkF m 213 #[.val (.ref a1), .val (.int (Int32.ofNat nn)), .val (.int (Int32.ofNat kk)), .val (.int vv), .val (.int (Int32.ofNat oo)), .val (.long q1), .second, .val (.int (Int32.ofNat (nn * oo * own_W kk))), .val (.ref a8), .val (.int (Int32.ofNat (o + 1))), .val (.int (Int32.ofNat 0)), .val (.int (Int32.ofNat ((l_ * oo + o) * own_W kk))), .val (.int (Int32.ofNat j)), .val (.int y13), .val (.int y14)] [(.ref a1)]))
          refine GoOn.st (fun t_ k_ => XS.iload X0.here hx rfl (hb hby d_prog_39_method_1_213) rfl k_) ?_
          refine GoOn.st (fun t_ k_ => XS.iload X0.here hx rfl (hb hby d_prog_39_method_1_215) rfl k_) ?_
          show GoOn _ _ _ _ (T0.setTop (mkF m 217 #[.val (.ref a1), .val (.int (Int32.ofNat nn)), .val (.int (Int32.ofNat kk)), .val (.int vv), .val (.int (Int32.ofNat oo)), .val (.long q1), .second, .val (.int (Int32.ofNat (nn * oo * own_W kk))), .val (.ref a8), .val (.int (Int32.ofNat (o + 1))), .val (.int (Int32.ofNat 0)), .val (.int (Int32.ofNat ((l_ * oo + o) * own_W kk))), .val (.int (Int32.ofNat j)), .val (.int y13), .val (.int y14)] [(.int (Int32.ofNat 0)), (.int (Int32.ofNat (o + 1))), (.ref a1)]))
          refine GoOn.callP (W := 0) (argsL := [(.int (Int32.ofNat (o + 1))), (.int (Int32.ofNat 0))]) (rest := []) (a := a1) X0 hx hZ hown (hw _ (List.mem_of_getElem? (i := 47) rfl)) (hw _ (List.mem_of_getElem? (i := 48) rfl)) (Jvm.Kit.selects_private (by decide) (hw _ (List.mem_of_getElem? (i := 6) rfl)) (hw _ (List.mem_of_getElem? (i := 49) rfl)) (hw _ (List.mem_of_getElem? (i := 48) rfl))) (hw _ (List.mem_of_getElem? (i := 49) rfl)) (hw _ (List.mem_of_getElem? (i := 7) rfl)) (hw _ (List.mem_of_getElem? (i := 50) rfl)) (by decide) (rm_place l Z a0 hw a1 kk oo (o + 1) 0 h0 Fo Fe sm.k3 (by omega) (by have := sm.n8; omega) sm.o3) e0 E1.cell (by decide) (by decide) (by rw [hml]; rfl) pd_4 rfl rfl (Nat.le_of_eq rfl) (hb hby d_prog_39_method_1_217) (by decide) (by decide) ?_
          rintro _ T2 L2 X2 ⟨rfl, rfl, e2⟩
          rw [List.append_nil] at X2
          refine GoOn.st (fun t_ k_ => XS.istore X2.here hx rfl (hb hby d_prog_39_method_1_220) rfl (l' := #[.val (.ref a1), .val (.int (Int32.ofNat nn)), .val (.int (Int32.ofNat kk)), .val (.int vv), .val (.int (Int32.ofNat oo)), .val (.long q1), .second, .val (.int (Int32.ofNat (nn * oo * own_W kk))), .val (.ref a8), .val (.int (Int32.ofNat (o + 1))), .val (.int (Int32.ofNat 0)), .val (.int (Int32.ofNat ((0 * oo + (o + 1)) * own_W kk))), .val (.int (Int32.ofNat j)), .val (.int y13), .val (.int y14)]) rfl k_) ?_
          refine GoOn.st (fun t_ k_ => XS.iconst X2.here hx rfl (hb hby d_prog_39_method_1_222)  k_) ?_
          refine GoOn.st (fun t_ k_ => XS.istore X2.here hx rfl (hb hby d_prog_39_method_1_223) rfl (l' := #[.val (.ref a1), .val (.int (Int32.ofNat nn)), .val (.int (Int32.ofNat kk)), .val (.int vv), .val (.int (Int32.ofNat oo)), .val (.long q1), .second, .val (.int (Int32.ofNat (nn * oo * own_W kk))), .val (.ref a8), .val (.int (Int32.ofNat (o + 1))), .val (.int (Int32.ofNat 0)), .val (.int (Int32.ofNat ((0 * oo + (o + 1)) * own_W kk))), .val (.int (0 : Int32)), .val (.int y13), .val (.int y14)]) rfl k_) ?_
          show GoOn _ _ _ _ (T2.setTop (mkF m 225 #[.val (.ref a1), .val (.int (Int32.ofNat nn)), .val (.int (Int32.ofNat kk)), .val (.int vv), .val (.int (Int32.ofNat oo)), .val (.long q1), .second, .val (.int (Int32.ofNat (nn * oo * own_W kk))), .val (.ref a8), .val (.int (Int32.ofNat (o + 1))), .val (.int (Int32.ofNat 0)), .val (.int (Int32.ofNat ((0 * oo + (o + 1)) * own_W kk))), .val (.int (0 : Int32)), .val (.int y13), .val (.int y14)] []))
          have hX : (oo - o) * nn = (oo - (o + 1)) * nn + nn := by rw [show oo - o = (oo - (o + 1)) + 1 by omega, Nat.add_mul, Nat.one_mul]
          exact ihA (own_W kk) (o + 1) 0 0 S _ _ _ _ _ _ (by omega) (by omega) hq2 sm.n1 X2 e2 N0 K0 E1 Fn Fe Fo Fb Fi E8 Fs0 Fs1 Fs2 Fs3 Vb hlen
        · skip
          refine GoOn.st (fun t_ k_ => XS.iload X0.here hx rfl (hb hby d_prog_39_method_1_196) rfl k_) ?_
          refine GoOn.st (fun t_ k_ => XS.iload X0.here hx rfl (hb hby d_prog_39_method_1_198) rfl k_) ?_
          refine GoOn.st (fun t_ k_ => XS.icmpYes X0.here hx rfl (pc0 := 200) (pc' := 307) rfl (hb hby d_prog_39_method_1_200) rfl (flt (fun q => hq2 ((own_lt (by have := sm.o3; omega) (by have := sm.o3; omega)).mp q))).2.1 (by decide) (by decide) k_) ?_
          show GoOn _ _ _ _ (T0.setTop (mkF m 307 #[.val (.ref a1), .val (.int (Int32.ofNat nn)), .val (.int (Int32.ofNat kk)), .val (.int vv), .val (.int (Int32.ofNat oo)), .val (.long q1), .second, .val (.int (Int32.ofNat (nn * oo * own_W kk))), .val (.ref a8), .val (.int (Int32.ofNat (o + 1))), .val (.int (Int32.ofNat (l_ + 1))), .val (.int (Int32.ofNat ((l_ * oo + o) * own_W kk))), .val (.int (Int32.ofNat j)), .val (.int y13), .val (.int y14)] []))
          exact GoOn.retV X0 hx hlk hret (hb hby d_prog_39_method_1_307) (by rw [e0]; exact ⟨rfl, N0, K0, E1, Fn, Fe⟩) (by decide) (by decide)
    | succ r ihr =>
      intro o l_ j S vs y13 y14 T0 locs h0 hA hr ho hl X0 e0 N0 K0 E1 Fn Fe Fo Fb Fi E8 Fs0 Fs1 Fs2 Fs3 Vb hlen
      have hj : j < own_W kk := by omega
      refine GoOn.st (fun t_ k_ => XS.iload X0.here hx rfl (hb hby d_prog_39_method_1_225) rfl k_) ?_
      refine GoOn.st (fun t_ k_ => XS.iconst X0.here hx rfl (hb hby d_prog_39_method_1_227)  k_) ?_
      refine GoOn.st (fun t_ k_ => XS.iloadN X0.here hx rfl (hb hby d_prog_39_method_1_228) rfl k_) ?_
      refine GoOn.st (fun t_ k_ => XS.iconst X0.here hx rfl (hb hby d_prog_39_method_1_229)  k_) ?_
      show GoOn _ _ _ _ (T0.setTop (mkF m 230 #[.val (.ref a1), .val (.int (Int32.ofNat nn)), .val (.int (Int32.ofNat kk)), .val (.int vv), .val (.int (Int32.ofNat oo)), .val (.long q1), .second, .val (.int (Int32.ofNat (nn * oo * own_W kk))), .val (.ref a8), .val (.int (Int32.ofNat o)), .val (.int (Int32.ofNat l_)), .val (.int (Int32.ofNat ((l_ * oo + o) * own_W kk))), .val (.int (Int32.ofNat j)), .val (.int y13), .val (.int y14)] [(.int (1 : Int32)), (.int (Int32.ofNat kk)), (.int (1 : Int32)), (.int (Int32.ofNat j))]))
      refine GoOn.st (fun t_ k_ => XS.iadd X0.here hx rfl (hb hby d_prog_39_method_1_230) rfl k_) ?_
      refine GoOn.st (fun t_ k_ => XS.ishl X0.here hx rfl (hb hby d_prog_39_method_1_231) rfl k_) ?_
      refine GoOn.st (fun t_ k_ => XS.icmpNo X0.here hx rfl (hb hby d_prog_39_method_1_232) rfl (tlt (by rw [own_shl1 sm.k3]; exact (own_lt (by have := own_W_le sm.k3; omega) (by have := own_W_le sm.k3; omega)).mpr (by omega))).2.1 k_) ?_
      refine GoOn.st (fun t_ k_ => XS.iload X0.here hx rfl (hb hby d_prog_39_method_1_235) rfl k_) ?_
      show GoOn _ _ _ _ (T0.setTop (mkF m 237 #[.val (.ref a1), .val (.int (Int32.ofNat nn)), .val (.int (Int32.ofNat kk)), .val (.int vv), .val (.int (Int32.ofNat oo)), .val (.long q1), .second, .val (.int (Int32.ofNat (nn * oo * own_W kk))), .val (.ref a8), .val (.int (Int32.ofNat o)), .val (.int (Int32.ofNat l_)), .val (.int (Int32.ofNat ((l_ * oo + o) * own_W kk))), .val (.int (Int32.ofNat j)), .val (.int y13), .val (.int y14)] [(.int (Int32.ofNat ((l_ * oo + o) * own_W kk)))]))
      refine GoOn.st (fun t_ k_ => XS.iload X0.here hx rfl (hb hby d_prog_39_method_1_237) rfl k_) ?_
      show GoOn _ _ _ _ (T0.setTop (mkF m 239 #[.val (.ref a1), .val (.int (Int32.ofNat nn)), .val (.int (Int32.ofNat kk)), .val (.int vv), .val (.int (Int32.ofNat oo)), .val (.long q1), .second, .val (.int (Int32.ofNat (nn * oo * own_W kk))), .val (.ref a8), .val (.int (Int32.ofNat o)), .val (.int (Int32.ofNat l_)), .val (.int (Int32.ofNat ((l_ * oo + o) * own_W kk))), .val (.int (Int32.ofNat j)), .val (.int y13), .val (.int y14)] [(.int (Int32.ofNat j)), (.int (Int32.ofNat ((l_ * oo + o) * own_W kk)))]))
      refine GoOn.callS (W := 1) (argsL := [(.int (Int32.ofNat j))]) (rest := [(.int (Int32.ofNat ((l_ * oo + o) * own_W kk)))]) X0 hx hZ hown (hw _ (List.mem_of_getElem? (i := 51) rfl)) (hw _ (List.mem_of_getElem? (i := 52) rfl)) (hw _ (List.mem_of_getElem? (i := 53) rfl)) (hw _ (List.mem_of_getElem? (i := 54) rfl)) (by decide) (rm_rev l Z a0 hw (Int32.ofNat j) h0) e0 (by decide) (by decide) (by rw [hml]; rfl) pd_0 rfl rfl (Nat.le_of_eq rfl) (hb hby d_prog_39_method_1_239) (by decide) (by decide) ?_
      rintro _ T1 L1 X1 ⟨z1, rfl, rfl, e1⟩
      rw [List.append_nil] at X1
      refine GoOn.st (fun t_ k_ => XS.bipush X1.here hx rfl (hb hby d_prog_39_method_1_242)  k_) ?_
      refine GoOn.st (fun t_ k_ => XS.iloadN X1.here hx rfl (hb hby d_prog_39_method_1_244) rfl k_) ?_
      refine GoOn.st (fun t_ k_ => XS.iconst X1.here hx rfl (hb hby d_prog_39_method_1_245)  k_) ?_
      show GoOn _ _ _ _ (T1.setTop (mkF m 246 #[.val (.ref a1), .val (.int (Int32.ofNat nn)), .val (.int (Int32.ofNat kk)), .val (.int vv), .val (.int (Int32.ofNat oo)), .val (.long q1), .second, .val (.int (Int32.ofNat (nn * oo * own_W kk))), .val (.ref a8), .val (.int (Int32.ofNat o)), .val (.int (Int32.ofNat l_)), .val (.int (Int32.ofNat ((l_ * oo + o) * own_W kk))), .val (.int (Int32.ofNat j)), .val (.int y13), .val (.int y14)] [(.int (1 : Int32)), (.int (Int32.ofNat kk)), (.int (32 : Int32)), (.int z1), (.int (Int32.ofNat ((l_ * oo + o) * own_W kk)))]))
      refine GoOn.st (fun t_ k_ => XS.iadd X1.here hx rfl (hb hby d_prog_39_method_1_246) rfl k_) ?_
      refine GoOn.st (fun t_ k_ => XS.isub X1.here hx rfl (hb hby d_prog_39_method_1_247) rfl k_) ?_
      refine GoOn.st (fun t_ k_ => XS.iushr X1.here hx rfl (hb hby d_prog_39_method_1_248) rfl k_) ?_
      refine GoOn.st (fun t_ k_ => XS.ior X1.here hx rfl (hb hby d_prog_39_method_1_249) rfl k_) ?_
      show GoOn _ _ _ _ (T1.setTop (mkF m 250 #[.val (.ref a1), .val (.int (Int32.ofNat nn)), .val (.int (Int32.ofNat kk)), .val (.int vv), .val (.int (Int32.ofNat oo)), .val (.long q1), .second, .val (.int (Int32.ofNat (nn * oo * own_W kk))), .val (.ref a8), .val (.int (Int32.ofNat o)), .val (.int (Int32.ofNat l_)), .val (.int (Int32.ofNat ((l_ * oo + o) * own_W kk))), .val (.int (Int32.ofNat j)), .val (.int y13), .val (.int y14)] [(.int ((Int32.ofNat ((l_ * oo + o) * own_W kk)) ||| (((z1).toUInt32 >>> (((32 : Int32) - ((Int32.ofNat kk) + (1 : Int32))) &&& 31).toUInt32).toInt32)))]))
      refine GoOn.st (fun t_ k_ => XS.istore X1.here hx rfl (hb hby d_prog_39_method_1_250) rfl (l' := #[.val (.ref a1), .val (.int (Int32.ofNat nn)), .val (.int (Int32.ofNat kk)), .val (.int vv), .val (.int (Int32.ofNat oo)), .val (.long q1), .second, .val (.int (Int32.ofNat (nn * oo * own_W kk))), .val (.ref a8), .val (.int (Int32.ofNat o)), .val (.int (Int32.ofNat l_)), .val (.int (Int32.ofNat ((l_ * oo + o) * own_W kk))), .val (.int (Int32.ofNat j)), .val (.int ((Int32.ofNat ((l_ * oo + o) * own_W kk)) ||| (((z1).toUInt32 >>> (((32 : Int32) - ((Int32.ofNat kk) + (1 : Int32))) &&& 31).toUInt32).toInt32))), .val (.int y14)]) rfl k_) ?_
      show GoOn _ _ _ _ (T1.setTop (mkF m 252 #[.val (.ref a1), .val (.int (Int32.ofNat nn)), .val (.int (Int32.ofNat kk)), .val (.int vv), .val (.int (Int32.ofNat oo)), .val (.long q1), .second, .val (.int (Int32.ofNat (nn * oo * own_W kk))), .val (.ref a8), .val (.int (Int32.ofNat o)), .val (.int (Int32.ofNat l_)), .val (.int (Int32.ofNat ((l_ * oo + o) * own_W kk))), .val (.int (Int32.ofNat j)), .val (.int ((Int32.ofNat ((l_ * oo + o) * own_W kk)) ||| (((z1).toUInt32 >>> (((32 : Int32) - ((Int32.ofNat kk) + (1 : Int32))) &&& 31).toUInt32).toInt32))), .val (.int y14)] []))
      obtain ⟨i, hi1, hi2, hie⟩ := own_index sm ho hl z1
      rw [hie]
      show GoOn _ _ _ _ (T1.setTop (mkF m 252 #[.val (.ref a1), .val (.int (Int32.ofNat nn)), .val (.int (Int32.ofNat kk)), .val (.int vv), .val (.int (Int32.ofNat oo)), .val (.long q1), .second, .val (.int (Int32.ofNat (nn * oo * own_W kk))), .val (.ref a8), .val (.int (Int32.ofNat o)), .val (.int (Int32.ofNat l_)), .val (.int (Int32.ofNat ((l_ * oo + o) * own_W kk))), .val (.int (Int32.ofNat j)), .val (.int (Int32.ofNat i)), .val (.int y14)] []))
      refine GoOn.st (fun t_ k_ => XS.aload X1.here hx rfl (hb hby d_prog_39_method_1_252) rfl rfl k_) ?_
      refine GoOn.st (fun t_ k_ => XS.iloadN X1.here hx rfl (hb hby d_prog_39_method_1_254) rfl k_) ?_
      show GoOn _ _ _ _ (T1.setTop (mkF m 255 #[.val (.ref a1), .val (.int (Int32.ofNat nn)), .val (.int (Int32.ofNat kk)), .val (.int vv), .val (.int (Int32.ofNat oo)), .val (.long q1), .second, .val (.int (Int32.ofNat (nn * oo * own_W kk))), .val (.ref a8), .val (.int (Int32.ofNat o)), .val (.int (Int32.ofNat l_)), .val (.int (Int32.ofNat ((l_ * oo + o) * own_W kk))), .val (.int (Int32.ofNat j)), .val (.int (Int32.ofNat i)), .val (.int y14)] [(.int vv), (.ref a8)]))
      refine GoOn.callV (W := 0) (argsL := [(.int vv)]) (rest := []) (a := a8) X1 hx hZ hown (hw _ (List.mem_of_getElem? (i := 62) rfl)) (hw _ (List.mem_of_getElem? (i := 63) rfl)) (notFace_of_selects (args := #[]) (mvT hZ (hw _ (List.mem_of_getElem? (i := 65) rfl)))) (hw _ (List.mem_of_getElem? (i := 65) rfl)) (hw _ (List.mem_of_getElem? (i := 64) rfl)) (hw _ (List.mem_of_getElem? (i := 28) rfl)) (hw _ (List.mem_of_getElem? (i := 66) rfl)) (by decide) (rm_nint l Z a0 hw a8 vv S h0 n0 E8 Fs0 Fs1 Fs2 Fs3 g_a8 hp0 hnz hb0 hb1) e1 E8 (by decide) (by decide) (by rw [hml]; rfl) pd_0 rfl rfl (Nat.le_of_eq rfl) (hb hby d_prog_39_method_1_255) (by decide) (by decide) ?_
      rintro _ T2 L2 X2 ⟨z2, S2, rfl, N2q, K2, f2_0, f2_1, f2_2, f2_3, f2_4⟩
      have N2 := Fr.app N0 N2q
      refine GoOn.st (fun t_ k_ => XS.istore X2.here hx rfl (hb hby d_prog_39_method_1_258) rfl (l' := #[.val (.ref a1), .val (.int (Int32.ofNat nn)), .val (.int (Int32.ofNat kk)), .val (.int vv), .val (.int (Int32.ofNat oo)), .val (.long q1), .second, .val (.int (Int32.ofNat (nn * oo * own_W kk))), .val (.ref a8), .val (.int (Int32.ofNat o)), .val (.int (Int32.ofNat l_)), .val (.int (Int32.ofNat ((l_ * oo + o) * own_W kk))), .val (.int (Int32.ofNat j)), .val (.int (Int32.ofNat i)), .val (.int z2)]) rfl k_) ?_
      refine GoOn.st (fun t_ k_ => XS.aloadN X2.here hx rfl (hb hby d_prog_39_method_1_260) rfl rfl k_) ?_
      have F3 := (Fb.keep K2 (ninS n18 nin0))
      obtain ⟨T4, X4, e4, st4⟩ := getF X2 hx hZ hown (host := "") (Or.inl (hw _ (List.mem_of_getElem? (i := 22) rfl))) Via.refl rfl F3 (g := (mkF m 261 #[.val (.ref a1), .val (.int (Int32.ofNat nn)), .val (.int (Int32.ofNat kk)), .val (.int vv), .val (.int (Int32.ofNat oo)), .val (.long q1), .second, .val (.int (Int32.ofNat (nn * oo * own_W kk))), .val (.ref a8), .val (.int (Int32.ofNat o)), .val (.int (Int32.ofNat l_)), .val (.int (Int32.ofNat ((l_ * oo + o) * own_W kk))), .val (.int (Int32.ofNat j)), .val (.int (Int32.ofNat i)), .val (.int z2)] [(.ref a1)])) rfl rfl (hb hby d_prog_39_method_1_261)
      refine GoOn.st st4 ?_
      show GoOn _ _ _ _ (T4.setTop (mkF m 264 #[.val (.ref a1), .val (.int (Int32.ofNat nn)), .val (.int (Int32.ofNat kk)), .val (.int vv), .val (.int (Int32.ofNat oo)), .val (.long q1), .second, .val (.int (Int32.ofNat (nn * oo * own_W kk))), .val (.ref a8), .val (.int (Int32.ofNat o)), .val (.int (Int32.ofNat l_)), .val (.int (Int32.ofNat ((l_ * oo + o) * own_W kk))), .val (.int (Int32.ofNat j)), .val (.int (Int32.ofNat i)), .val (.int z2)] [(.ref b1)]))
      refine GoOn.st (fun t_ k_ => XS.ifnullNo X4.here hx rfl (hb hby d_prog_39_method_1_264) rfl k_) ?_
      refine GoOn.st (fun t_ k_ => XS.aloadN X4.here hx rfl (hb hby d_prog_39_method_1_267) rfl rfl k_) ?_
      obtain ⟨T5, X5, e5, st5⟩ := getF X4 hx hZ hown (host := "") (Or.inl (hw _ (List.mem_of_getElem? (i := 22) rfl))) Via.refl e4 F3 (g := (mkF m 268 #[.val (.ref a1), .val (.int (Int32.ofNat nn)), .val (.int (Int32.ofNat kk)), .val (.int vv), .val (.int (Int32.ofNat oo)), .val (.long q1), .second, .val (.int (Int32.ofNat (nn * oo * own_W kk))), .val (.ref a8), .val (.int (Int32.ofNat o)), .val (.int (Int32.ofNat l_)), .val (.int (Int32.ofNat ((l_ * oo + o) * own_W kk))), .val (.int (Int32.ofNat j)), .val (.int (Int32.ofNat i)), .val (.int z2)] [(.ref a1)])) rfl rfl (hb hby d_prog_39_method_1_268)
      refine GoOn.st st5 ?_
      refine GoOn.st (fun t_ k_ => XS.iload X5.here hx rfl (hb hby d_prog_39_method_1_271) rfl k_) ?_
      show GoOn _ _ _ _ (T5.setTop (mkF m 273 #[.val (.ref a1), .val (.int (Int32.ofNat nn)), .val (.int (Int32.ofNat kk)), .val (.int vv), .val (.int (Int32.ofNat oo)), .val (.long q1), .second, .val (.int (Int32.ofNat (nn * oo * own_W kk))), .val (.ref a8), .val (.int (Int32.ofNat o)), .val (.int (Int32.ofNat l_)), .val (.int (Int32.ofNat ((l_ * oo + o) * own_W kk))), .val (.int (Int32.ofNat j)), .val (.int (Int32.ofNat i)), .val (.int z2)] [(.int (Int32.ofNat i)), (.ref b1)]))
      refine GoOn.st (fun t_ k_ => XS.iload X5.here hx rfl (hb hby d_prog_39_method_1_273) rfl k_) ?_
      refine GoOn.st (fun t_ k_ => XS.i2b X5.here hx rfl (hb hby d_prog_39_method_1_275) rfl k_) ?_
      have F6 := (Vb.keep K2 (ninS n8b nin0))
      obtain ⟨T7, h7, X7, e7, W7, V7, st7⟩ := own_bastore X5 hx hZ e5 F6 (j := (Int32.ofNat i)) ⟨fun q => absurd ((own_lt (b := 0) (by omega) (by decide)).mp q) (Nat.not_lt_zero i), (own_lt (by omega) (by have := own_len_in sm; omega)).mpr hi1⟩ i (own_clamp (by omega)) (by rw [hlen]; exact hi2) (x := ((z2).toInt8.toInt32)) (Ls := #[.val (.ref a1), .val (.int (Int32.ofNat nn)), .val (.int (Int32.ofNat kk)), .val (.int vv), .val (.int (Int32.ofNat oo)), .val (.long q1), .second, .val (.int (Int32.ofNat (nn * oo * own_W kk))), .val (.ref a8), .val (.int (Int32.ofNat o)), .val (.int (Int32.ofNat l_)), .val (.int (Int32.ofNat ((l_ * oo + o) * own_W kk))), .val (.int (Int32.ofNat j)), .val (.int (Int32.ofNat i)), .val (.int z2)]) (rest := []) (hb hby d_prog_39_method_1_276)
      replace V7 : Arv Z h7 b1 kb .byte (Int32.ofNat (nn * oo * own_W kk)) (List.set vs i (.int (nar .byte ((z2).toInt8.toInt32)))) (.int (0 : Int32)) := V7
      have N8 := Fr.snoc X7 N2 g_b1
      refine GoOn.st st7 ?_
      refine GoOn.st (fun t_ k_ => XS.goto X7.here hx rfl (pc0 := 277) (pc' := 289) rfl (hb hby d_prog_39_method_1_277) (by decide) (by decide) k_) ?_
      show GoOn _ _ _ _ (T7.setTop (mkF m 289 #[.val (.ref a1), .val (.int (Int32.ofNat nn)), .val (.int (Int32.ofNat kk)), .val (.int vv), .val (.int (Int32.ofNat oo)), .val (.long q1), .second, .val (.int (Int32.ofNat (nn * oo * own_W kk))), .val (.ref a8), .val (.int (Int32.ofNat o)), .val (.int (Int32.ofNat l_)), .val (.int (Int32.ofNat ((l_ * oo + o) * own_W kk))), .val (.int (Int32.ofNat j)), .val (.int (Int32.ofNat i)), .val (.int z2)] []))
      refine GoOn.st (fun t_ k_ => XS.iinc X7.here hx rfl (hb hby d_prog_39_method_1_289) rfl (l' := #[.val (.ref a1), .val (.int (Int32.ofNat nn)), .val (.int (Int32.ofNat kk)), .val (.int vv), .val (.int (Int32.ofNat oo)), .val (.long q1), .second, .val (.int (Int32.ofNat (nn * oo * own_W kk))), .val (.ref a8), .val (.int (Int32.ofNat o)), .val (.int (Int32.ofNat l_)), .val (.int (Int32.ofNat ((l_ * oo + o) * own_W kk))), .val (.int ((Int32.ofNat j) + (1 : Int32))), .val (.int (Int32.ofNat i)), .val (.int z2)]) rfl k_) ?_
      refine GoOn.st (fun t_ k_ => XS.goto X7.here hx rfl (pc0 := 292) (pc' := 225) rfl (hb hby d_prog_39_method_1_292) (by decide) (by decide) k_) ?_
      rw [own_succ j]
      exact ihr o l_ (j + 1) S2 _ _ _ _ _ _ hA (by omega) ho hl X7 e7 N8 ((K0.trans K2 (allS (Or.inr sz_a8) all0)).wr W7 (Or.inr sz_b1)) (Exa.wr W7 (E1.keep K2)) (Fld.other W7 (Fn.keep K2 (ninS n18 nin0)) (Or.inl n1b)) (Fld.other W7 (Fe.keep K2 (ninS n18 nin0)) (Or.inl n1b)) (Fld.other W7 (Fo.keep K2 (ninS n18 nin0)) (Or.inl n1b)) (Fld.other W7 F3 (Or.inl n1b)) (Fld.other W7 (Fi.keep K2 (ninS n18 nin0)) (Or.inl n1b)) (Exa.wr W7 f2_0) (Fld.other W7 f2_1 (Or.inl (Ne.symm n8b))) (Fld.other W7 f2_2 (Or.inl (Ne.symm n8b))) (Fld.other W7 f2_3 (Or.inl (Ne.symm n8b))) (Fld.other W7 f2_4 (Or.inl (Ne.symm n8b))) V7 (by rw [List.length_set]; exact hlen)
theorem d_prog_39_method_1_280 : decode prog_39_method_1_code 280 = .ok (.aload_n 0, 1) := by decide +kernel
theorem d_prog_39_method_1_281 : decode prog_39_method_1_code 281 = .ok (.getfield 43, 3) := by decide +kernel
theorem d_prog_39_method_1_284 : decode prog_39_method_1_code 284 = .ok (.iload 13, 2) := by decide +kernel
theorem d_prog_39_method_1_286 : decode prog_39_method_1_code 286 = .ok (.iload 14, 2) := by decide +kernel
theorem d_prog_39_method_1_288 : decode prog_39_method_1_code 288 = .ok (.iastore, 1) := by decide +kernel
set_option maxRecDepth 65536 in
set_option maxHeartbeats 40000000 in
theorem sg_mi {p : Program} {l : Launch} {e : Env} {s : State} {m : MethodId} {args : Array Value} {below : List Frame} {meth : Method} {c : Code} {Z : State} {a0 : Array Value} (hw : ∀ d ∈ tables_1, d.before a0 Z = true) (a1 a8 b1 : Addr) (kb : ClassId) (nn kk oo : Nat) (vv : Int32) (q1 : Int64) (h00 : Heap) (n0 : Nat) {rmc rms : Nat} (sm : Small nn kk oo) (hx : p.tables.exec = Jvm.exec) (hby : c.code = prog_39_method_1_code) (hml : c.maxLocals = 15) (hret : meth.sig.returnType = none) (hlk : meth.locks = false) (hown : s.vm.findClass "com/example/frontwise/frontwise/problem/Mnk" = some m.cls) (hnm : meth.name = "<init>") (hZ : Z.Warmed39 s.vm) (g_a1 : n0 ≤ a1) (g_a8 : n0 ≤ a8) (g_b1 : n0 ≤ b1) (sz_a8 : h00.size ≤ a8) (sz_b1 : h00.size ≤ b1) (n18 : a1 ≠ a8) (n1b : a1 ≠ b1) (n8b : b1 ≠ a8) (hp0 : (0 : Int32) < vv) (hnz : (vv).toInt64 ≠ 0) (hb0 : 0 < (vv.toInt64).toInt) (hb1 : (vv.toInt64).toInt ≤ 512) :
    ∀ (A r o l_ j : Nat) (S : XS) (vs : List Value) (y13 y14 : Int32) (T0 : State) (locs : List Loc) (h0 : Heap), A + l_ = (oo - o) * nn → r + j = own_W kk → o < oo → l_ < nn → Stand p l e ({ frames := 3, cells := 3, slots := 400, locals := 48 } : Room) s m args below meth c T0 locs 2 390 → T0.heap = h0 → Fr n0 locs → Keep h00 h0 [a1] → Exa Z h0 a1 "com/example/frontwise/frontwise/problem/Mnk" → Fld Z h0 a1 "com/example/frontwise/frontwise/problem/Mnk" "n" "I" (.int (Int32.ofNat nn)) → Fld Z h0 a1 "com/example/frontwise/frontwise/problem/Mnk" "epistasis" "I" (.int (Int32.ofNat kk)) → Fld Z h0 a1 "com/example/frontwise/frontwise/problem/Mnk" "objectives" "I" (.int (Int32.ofNat oo)) → Fld Z h0 a1 "com/example/frontwise/frontwise/problem/Mnk" "intTables" "[I" (.ref b1) → Fld Z h0 a1 "com/example/frontwise/frontwise/problem/Mnk" "byteTables" "[B" .null → Exa Z h0 a8 "com/example/frontwise/frontwise/model/RandomStream" → Fld Z h0 a8 "com/example/frontwise/frontwise/model/RandomStream" "s0" "J" (.long S.s0) → Fld Z h0 a8 "com/example/frontwise/frontwise/model/RandomStream" "s1" "J" (.long S.s1) → Fld Z h0 a8 "com/example/frontwise/frontwise/model/RandomStream" "s2" "J" (.long S.s2) → Fld Z h0 a8 "com/example/frontwise/frontwise/model/RandomStream" "s3" "J" (.long S.s3) → Arv Z h0 b1 kb .int (Int32.ofNat (nn * oo * own_W kk)) vs (.int 0) → vs.length = 384 →
    GoOn p e below (OwPost (fun v h L => v = none ∧ Fr n0 L ∧ Keep h00 h [a1] ∧ Exa Z h a1 "com/example/frontwise/frontwise/problem/Mnk" ∧ Fld Z h a1 "com/example/frontwise/frontwise/problem/Mnk" "n" "I" (.int (Int32.ofNat nn)) ∧ Fld Z h a1 "com/example/frontwise/frontwise/problem/Mnk" "epistasis" "I" (.int (Int32.ofNat kk))) s ({ frames := 3, cells := 3, slots := 400, locals := 48 } : Room).cells ({ frames := 3, cells := 3, slots := 400, locals := 48 } : Room).slots) (T0.setTop (mkF m 225 #[.val (.ref a1), .val (.int (Int32.ofNat nn)), .val (.int (Int32.ofNat kk)), .val (.int vv), .val (.int (Int32.ofNat oo)), .val (.long q1), .second, .val (.int (Int32.ofNat (nn * oo * own_W kk))), .val (.ref a8), .val (.int (Int32.ofNat o)), .val (.int (Int32.ofNat l_)), .val (.int (Int32.ofNat ((l_ * oo + o) * own_W kk))), .val (.int (Int32.ofNat j)), .val (.int y13), .val (.int y14)] [])) := by
  intro A
  induction A with
  | zero =>
    intro r
    intro o l_ j S vs y13 y14 T0 locs h0 hA hr ho hl X0 e0 N0 K0 E1 Fn Fe Fo Fb Fi E8 Fs0 Fs1 Fs2 Fs3 Vb hlen
    exfalso
    have h1 : nn ≤ (oo - o) * nn := Nat.le_mul_of_pos_left nn (by omega)
    omega
  | succ A ihA =>
    intro r
    induction r with
    | zero =>
      intro o l_ j S vs y13 y14 T0 locs h0 hA hr ho hl X0 e0 N0 K0 E1 Fn Fe Fo Fb Fi E8 Fs0 Fs1 Fs2 Fs3 Vb hlen
      have hj : j = own_W kk := by omega
      refine GoOn.st (fun t_ k_ => XS.iload X0.here hx rfl (hb hby d_prog_39_method_1_225) rfl k_) ?_
      refine GoOn.st (fun t_ k_ => XS.iconst X0.here hx rfl (hb hby d_prog_39_method_1_227)  k_) ?_
      refine GoOn.st (fun t_ k_ => XS.iloadN X0.here hx rfl (hb hby d_prog_39_method_1_228) rfl k_) ?_
      refine GoOn.st (fun t_ k_ => XS.iconst X0.here hx rfl (hb hby d_prog_39_method_1_229)  k_) ?_
      show GoOn _ _ _ _ (T0.setTop (mkF m 230 #[.val (.ref a1), .val (.int (Int32.ofNat nn)), .val (.int (Int32.ofNat kk)), .val (.int vv), .val (.int (Int32.ofNat oo)), .val (.long q1), .second, .val (.int (Int32.ofNat (nn * oo * own_W kk))), .val (.ref a8), .val (.int (Int32.ofNat o)), .val (.int (Int32.ofNat l_)), .val (.int (Int32.ofNat ((l_ * oo + o) * own_W kk))), .val (.int (Int32.ofNat j)), .val (.int y13), .val (.int y14)] [(.int (1 : Int32)), (.int (Int32.ofNat kk)), (.int (1 : Int32)), (.int (Int32.ofNat j))]))
      refine GoOn.st (fun t_ k_ => XS.iadd X0.here hx rfl (hb hby d_prog_39_method_1_230) rfl k_) ?_
      refine GoOn.st (fun t_ k_ => XS.ishl X0.here hx rfl (hb hby d_prog_39_method_1_231) rfl k_) ?_
      refine GoOn.st (fun t_ k_ => XS.icmpYes X0.here hx rfl (pc0 := 232) (pc' := 295) rfl (hb hby d_prog_39_method_1_232) rfl (flt (by rw [own_shl1 sm.k3]; exact fun q => absurd ((own_lt (by have := own_W_le sm.k3; omega) (by have := own_W_le sm.k3; omega)).mp q) (by omega))).2.1 (by decide) (by decide) k_) ?_
      refine GoOn.st (fun t_ k_ => XS.iinc X0.here hx rfl (hb hby d_prog_39_method_1_295) rfl (l' := #[.val (.ref a1), .val (.int (Int32.ofNat nn)), .val (.int (Int32.ofNat kk)), .val (.int vv), .val (.int (Int32.ofNat oo)), .val (.long q1), .second, .val (.int (Int32.ofNat (nn * oo * own_W kk))), .val (.ref a8), .val (.int (Int32.ofNat o)), .val (.int ((Int32.ofNat l_) + (1 : Int32))), .val (.int (Int32.ofNat ((l_ * oo + o) * own_W kk))), .val (.int (Int32.ofNat j)), .val (.int y13), .val (.int y14)]) rfl k_) ?_
      show GoOn _ _ _ _ (T0.setTop (mkF m 298 #[.val (.ref a1), .val (.int (Int32.ofNat nn)), .val (.int (Int32.ofNat kk)), .val (.int vv), .val (.int (Int32.ofNat oo)), .val (.long q1), .second, .val (.int (Int32.ofNat (nn * oo * own_W kk))), .val (.ref a8), .val (.int (Int32.ofNat o)), .val (.int ((Int32.ofNat l_) + (1 : Int32))), .val (.int (Int32.ofNat ((l_ * oo + o) * own_W kk))), .val (.int (Int32.ofNat j)), .val (.int y13), .val (.int y14)] []))
      refine GoOn.st (fun t_ k_ => XS.goto X0.here hx rfl (pc0 := 298) (pc' := 206) rfl (hb hby d_prog_39_method_1_298) (by decide) (by decide) k_) ?_
      show GoOn _ _ _ _ (T0.setTop (mkF m 206 #[.val (.ref a1), .val (.int (Int32.ofNat nn)), .val (.int (Int32.ofNat kk)), .val (.int vv), .val (.int (Int32.ofNat oo)), .val (.long q1), .second, .val (.int (Int32.ofNat (nn * oo * own_W kk))), .val (.ref a8), .val (.int (Int32.ofNat o)), .val (.int ((Int32.ofNat l_) + (1 : Int32))), .val (.int (Int32.ofNat ((l_ * oo + o) * own_W kk))), .val (.int (Int32.ofNat j)), .val (.int y13), .val (.int y14)] []))
      rw [own_succ l_]
      show GoOn _ _ _ _ (T0.setTop (mkF m 206 #[.val (.ref a1), .val (.int (Int32.ofNat nn)), .val (.int (Int32.ofNat kk)), .val (.int vv), .val (.int (Int32.ofNat oo)), .val (.long q1), .second, .val (.int (Int32.ofNat (nn * oo * own_W kk))), .val (.ref a8), .val (.int (Int32.ofNat o)), .val (.int (Int32.ofNat (l_ + 1))), .val (.int (Int32.ofNat ((l_ * oo + o) * own_W kk))), .val (.int (Int32.ofNat j)), .val (.int y13), .val (.int y14)] []))
      by_cases hq : l_ + 1 < nn
      · skip
        refine GoOn.st (fun t_ k_ => XS.iload X0.here hx rfl (hb hby d_prog_39_method_1_206) rfl k_) ?_
        refine GoOn.st (fun t_ k_ => XS.iloadN X0.here hx rfl (hb hby d_prog_39_method_1_208) rfl k_) ?_
        refine GoOn.st (fun t_ k_ => XS.icmpNo X0.here hx rfl (hb hby d_prog_39_method_1_209) rfl (tlt ((own_lt (by have := sm.n8; omega) (by have := sm.n8; omega)).mpr hq)).2.1 k_) ?_
        refine GoOn.st (fun t_ k_ => XS.aloadN X0.here hx rfl (hb hby d_prog_39_method_1_212) rfl rfl k_) ?_
        show GoOn _ _ _ _ (T0.setTop (mkF m 213 #[.val (.ref a1), .val (.int (Int32.ofNat nn)), .val (.int (Int32.ofNat kk)), .val (.int vv), .val (.int (Int32.ofNat oo)), .val (.long q1), .second, .val (.int (Int32.ofNat (nn * oo * own_W kk))), .val (.ref a8), .val (.int (Int32.ofNat o)), .val (.int (Int32.ofNat (l_ + 1))), .val (.int (Int32.ofNat ((l_ * oo + o) * own_W kk))), .val (.int (Int32.ofNat j)), .val (.int y13), .val (.int y14)] [(.ref a1)]))
        refine GoOn.st (fun t_ k_ => XS.iload X0.here hx rfl (hb hby d_prog_39_method_1_213) rfl k_) ?_
        refine GoOn.st (fun t_ k_ => XS.iload X0.here hx rfl (hb hby d_prog_39_method_1_215) rfl k_) ?_
        show GoOn _ _ _ _ (T0.setTop (mkF m 217 #[.val (.ref a1), .val (.int (Int32.ofNat nn)), .val (.int (Int32.ofNat kk)), .val (.int vv), .val (.int (Int32.ofNat oo)), .val (.long q1), .second, .val (.int (Int32.ofNat (nn * oo * own_W kk))), .val (.ref a8), .val (.int (Int32.ofNat o)), .val (.int (Int32.ofNat (l_ + 1))), .val (.int (Int32.ofNat ((l_ * oo + o) * own_W kk))), .val (.int (Int32.ofNat j)), .val (.int y13), .val (.int y14)] [(.int (Int32.ofNat (l_ + 1))), (.int (Int32.ofNat o)), (.ref a1)]))
        refine GoOn.callP (W := 0) (argsL := [(.int (Int32.ofNat o)), (.int (Int32.ofNat (l_ + 1)))]) (rest := []) (a := a1) X0 hx hZ hown (hw _ (List.mem_of_getElem? (i := 47) rfl)) (hw _ (List.mem_of_getElem? (i := 48) rfl)) (Jvm.Kit.selects_private (by decide) (hw _ (List.mem_of_getElem? (i := 6) rfl)) (hw _ (List.mem_of_getElem? (i := 49) rfl)) (hw _ (List.mem_of_getElem? (i := 48) rfl))) (hw _ (List.mem_of_getElem? (i := 49) rfl)) (hw _ (List.mem_of_getElem? (i := 7) rfl)) (hw _ (List.mem_of_getElem? (i := 50) rfl)) (by decide) (rm_place l Z a0 hw a1 kk oo o (l_ + 1) h0 Fo Fe sm.k3 (by omega) (by have := sm.n8; omega) sm.o3) e0 E1.cell (by decide) (by decide) (by rw [hml]; rfl) pd_4 rfl rfl (Nat.le_of_eq rfl) (hb hby d_prog_39_method_1_217) (by decide) (by decide) ?_
        rintro _ T1 L1 X1 ⟨rfl, rfl, e1⟩
        rw [List.append_nil] at X1
        refine GoOn.st (fun t_ k_ => XS.istore X1.here hx rfl (hb hby d_prog_39_method_1_220) rfl (l' := #[.val (.ref a1), .val (.int (Int32.ofNat nn)), .val (.int (Int32.ofNat kk)), .val (.int vv), .val (.int (Int32.ofNat oo)), .val (.long q1), .second, .val (.int (Int32.ofNat (nn * oo * own_W kk))), .val (.ref a8), .val (.int (Int32.ofNat o)), .val (.int (Int32.ofNat (l_ + 1))), .val (.int (Int32.ofNat (((l_ + 1) * oo + o) * own_W kk))), .val (.int (Int32.ofNat j)), .val (.int y13), .val (.int y14)]) rfl k_) ?_
        refine GoOn.st (fun t_ k_ => XS.iconst X1.here hx rfl (hb hby d_prog_39_method_1_222)  k_) ?_
        refine GoOn.st (fun t_ k_ => XS.istore X1.here hx rfl (hb hby d_prog_39_method_1_223) rfl (l' := #[.val (.ref a1), .val (.int (Int32.ofNat nn)), .val (.int (Int32.ofNat kk)), .val (.int vv), .val (.int (Int32.ofNat oo)), .val (.long q1), .second, .val (.int (Int32.ofNat (nn * oo * own_W kk))), .val (.ref a8), .val (.int (Int32.ofNat o)), .val (.int (Int32.ofNat (l_ + 1))), .val (.int (Int32.ofNat (((l_ + 1) * oo + o) * own_W kk))), .val (.int (0 : Int32)), .val (.int y13), .val (.int y14)]) rfl k_) ?_
        show GoOn _ _ _ _ (T1.setTop (mkF m 225 #[.val (.ref a1), .val (.int (Int32.ofNat nn)), .val (.int (Int32.ofNat kk)), .val (.int vv), .val (.int (Int32.ofNat oo)), .val (.long q1), .second, .val (.int (Int32.ofNat (nn * oo * own_W kk))), .val (.ref a8), .val (.int (Int32.ofNat o)), .val (.int (Int32.ofNat (l_ + 1))), .val (.int (Int32.ofNat (((l_ + 1) * oo + o) * own_W kk))), .val (.int (0 : Int32)), .val (.int y13), .val (.int y14)] []))
        exact ihA (own_W kk) o (l_ + 1) 0 S _ _ _ _ _ _ (by omega) (by omega) ho hq X1 e1 N0 K0 E1 Fn Fe Fo Fb Fi E8 Fs0 Fs1 Fs2 Fs3 Vb hlen
      · skip
        refine GoOn.st (fun t_ k_ => XS.iload X0.here hx rfl (hb hby d_prog_39_method_1_206) rfl k_) ?_
        refine GoOn.st (fun t_ k_ => XS.iloadN X0.here hx rfl (hb hby d_prog_39_method_1_208) rfl k_) ?_
        refine GoOn.st (fun t_ k_ => XS.icmpYes X0.here hx rfl (pc0 := 209) (pc' := 301) rfl (hb hby d_prog_39_method_1_209) rfl (flt (fun q => hq ((own_lt (by have := sm.n8; omega) (by have := sm.n8; omega)).mp q))).2.1 (by decide) (by decide) k_) ?_
        refine GoOn.st (fun t_ k_ => XS.iinc X0.here hx rfl (hb hby d_prog_39_method_1_301) rfl (l' := #[.val (.ref a1), .val (.int (Int32.ofNat nn)), .val (.int (Int32.ofNat kk)), .val (.int vv), .val (.int (Int32.ofNat oo)), .val (.long q1), .second, .val (.int (Int32.ofNat (nn * oo * own_W kk))), .val (.ref a8), .val (.int ((Int32.ofNat o) + (1 : Int32))), .val (.int (Int32.ofNat (l_ + 1))), .val (.int (Int32.ofNat ((l_ * oo + o) * own_W kk))), .val (.int (Int32.ofNat j)), .val (.int y13), .val (.int y14)]) rfl k_) ?_
        show GoOn _ _ _ _ (T0.setTop (mkF m 304 #[.val (.ref a1), .val (.int (Int32.ofNat nn)), .val (.int (Int32.ofNat kk)), .val (.int vv), .val (.int (Int32.ofNat oo)), .val (.long q1), .second, .val (.int (Int32.ofNat (nn * oo * own_W kk))), .val (.ref a8), .val (.int ((Int32.ofNat o) + (1 : Int32))), .val (.int (Int32.ofNat (l_ + 1))), .val (.int (Int32.ofNat ((l_ * oo + o) * own_W kk))), .val (.int (Int32.ofNat j)), .val (.int y13), .val (.int y14)] []))
        refine GoOn.st (fun t_ k_ => XS.goto X0.here hx rfl (pc0 := 304) (pc' := 196) rfl (hb hby d_prog_39_method_1_304) (by decide) (by decide) k_) ?_
        show GoOn _ _ _ _ (T0.setTop (mkF m 196 #[.val (.ref a1), .val (.int (Int32.ofNat nn)), .val (.int (Int32.ofNat kk)), .val (.int vv), .val (.int (Int32.ofNat oo)), .val (.long q1), .second, .val (.int (Int32.ofNat (nn * oo * own_W kk))), .val (.ref a8), .val (.int ((Int32.ofNat o) + (1 : Int32))), .val (.int (Int32.ofNat (l_ + 1))), .val (.int (Int32.ofNat ((l_ * oo + o) * own_W kk))), .val (.int (Int32.ofNat j)), .val (.int y13), .val (.int y14)] []))
        rw [own_succ o]
        show GoOn _ _ _ _ (T0.setTop (mkF m 196 #[.val (.ref a1), .val (.int (Int32.ofNat nn)), .val (.int (Int32.ofNat kk)), .val (.int vv), .val (.int (Int32.ofNat oo)), .val (.long q1), .second, .val (.int (Int32.ofNat (nn * oo * own_W kk))), .val (.ref a8), .val (.int (Int32.ofNat (o + 1))), .val (.int (Int32.ofNat (l_ + 1))), .val (.int (Int32.ofNat ((l_ * oo + o) * own_W kk))), .val (.int (Int32.ofNat j)), .val (.int y13), .val (.int y14)] []))
        by_cases hq2 : o + 1 < oo
        · skip
          refine GoOn.st (fun t_ k_ => XS.iload X0.here hx rfl (hb hby d_prog_39_method_1_196) rfl k_) ?_
          refine GoOn.st (fun t_ k_ => XS.iload X0.here hx rfl (hb hby d_prog_39_method_1_198) rfl k_) ?_
          refine GoOn.st (fun t_ k_ => XS.icmpNo X0.here hx rfl (hb hby d_prog_39_method_1_200) rfl (tlt ((own_lt (by have := sm.o3; omega) (by have := sm.o3; omega)).mpr hq2)).2.1 k_) ?_
          refine GoOn.st (fun t_ k_ => XS.iconst X0.here hx rfl (hb hby d_prog_39_method_1_203)  k_) ?_
          show GoOn _ _ _ _ (T0.setTop (mkF m 204 #[.val (.ref a1), .val (.int (Int32.ofNat nn)), .val (.int (Int32.ofNat kk)), .val (.int vv), .val (.int (Int32.ofNat oo)), .val (.long q1), .second, .val (.int (Int32.ofNat (nn * oo * own_W kk))), .val (.ref a8), .val (.int (Int32.ofNat (o + 1))), .val (.int (Int32.ofNat (l_ + 1))), .val (.int (Int32.ofNat ((l_ * oo + o) * own_W kk))), .val (.int (Int32.ofNat j)), .val (.int y13), .val (.int y14)] [(.int (0 : Int32))]))
          refine GoOn.st (fun t_ k_ => XS.istore X0.here hx rfl (hb hby d_prog_39_method_1_204) rfl (l' := #[.val (.ref a1), .val (.int (Int32.ofNat nn)), .val (.int (Int32.ofNat kk)), .val (.int vv), .val (.int (Int32.ofNat oo)), .val (.long q1), .second, .val (.int (Int32.ofNat (nn * oo * own_W kk))), .val (.ref a8), .val (.int (Int32.ofNat (o + 1))), .val (.int (0 : Int32)), .val (.int (Int32.ofNat ((l_ * oo + o) * own_W kk))), .val (.int (Int32.ofNat j)), .val (.int y13), .val (.int y14)]) rfl k_) ?_
          show GoOn _ _ _ _ (T0.setTop (mkF m 206 #[.val (.ref a1), .val (.int (Int32.ofNat nn)), .val (.int (Int32.ofNat kk)), .val (.int vv), .val (.int (Int32.ofNat oo)), .val (.long q1), .second, .val (.int (Int32.ofNat (nn * oo * own_W kk))), .val (.ref a8), .val (.int (Int32.ofNat (o + 1))), .val (.int (Int32.ofNat 0)), .val (.int (Int32.ofNat ((l_ * oo + o) * own_W kk))), .val (.int (Int32.ofNat j)), .val (.int y13), .val (.int y14)] []))
          refine GoOn.st (fun t_ k_ => XS.iload X0.here hx rfl (hb hby d_prog_39_method_1_206) rfl k_) ?_
          refine GoOn.st (fun t_ k_ => XS.iloadN X0.here hx rfl (hb hby d_prog_39_method_1_208) rfl k_) ?_
          refine GoOn.st (fun t_ k_ => XS.icmpNo X0.here hx rfl (hb hby d_prog_39_method_1_209) rfl (tlt ((own_lt (a := 0) (by decide) (by have := sm.n8; omega)).mpr sm.n1)).2.1 k_) ?_
          refine GoOn.st (fun t_ k_ => XS.aloadN X0.here hx rfl (hb hby d_prog_39_method_1_212) rfl rfl k_) ?_
          show GoOn _ _ _ _ (T0.setTop (mkF m 213 #[.val (.ref a1), .val (.int (Int32.ofNat nn)), .val (.int (Int32.ofNat kk)), .val (.int vv), .val (.int (Int32.ofNat oo)), .val (.long q1), .second, .val (.int (Int32.ofNat (nn * oo * own_W kk))), .val (.ref a8), .val (.int (Int32.ofNat (o + 1))), .val (.int (Int32.ofNat 0)), .val (.int (Int32.ofNat ((l_ * oo + o) * own_W kk))), .val (.int (Int32.ofNat j)), .val (.int y13), .val (.int y14)] [(.ref a1)]))
          refine GoOn.st (fun t_ k_ => XS.iload X0.here hx rfl (hb hby d_prog_39_method_1_213) rfl k_) ?_
          refine GoOn.st (fun t_ k_ => XS.iload X0.here hx rfl (hb hby d_prog_39_method_1_215) rfl k_) ?_
          show GoOn _ _ _ _ (T0.setTop (mkF m 217 #[.val (.ref a1), .val (.int (Int32.ofNat nn)), .val (.int (Int32.ofNat kk)), .val (.int vv), .val (.int (Int32.ofNat oo)), .val (.long q1), .second, .val (.int (Int32.ofNat (nn * oo * own_W kk))), .val (.ref a8), .val (.int (Int32.ofNat (o + 1))), .val (.int (Int32.ofNat 0)), .val (.int (Int32.ofNat ((l_ * oo + o) * own_W kk))), .val (.int (Int32.ofNat j)), .val (.int y13), .val (.int y14)] [(.int (Int32.ofNat 0)), (.int (Int32.ofNat (o + 1))), (.ref a1)]))
          refine GoOn.callP (W := 0) (argsL := [(.int (Int32.ofNat (o + 1))), (.int (Int32.ofNat 0))]) (rest := []) (a := a1) X0 hx hZ hown (hw _ (List.mem_of_getElem? (i := 47) rfl)) (hw _ (List.mem_of_getElem? (i := 48) rfl)) (Jvm.Kit.selects_private (by decide) (hw _ (List.mem_of_getElem? (i := 6) rfl)) (hw _ (List.mem_of_getElem? (i := 49) rfl)) (hw _ (List.mem_of_getElem? (i := 48) rfl))) (hw _ (List.mem_of_getElem? (i := 49) rfl)) (hw _ (List.mem_of_getElem? (i := 7) rfl)) (hw _ (List.mem_of_getElem? (i := 50) rfl)) (by decide) (rm_place l Z a0 hw a1 kk oo (o + 1) 0 h0 Fo Fe sm.k3 (by omega) (by have := sm.n8; omega) sm.o3) e0 E1.cell (by decide) (by decide) (by rw [hml]; rfl) pd_4 rfl rfl (Nat.le_of_eq rfl) (hb hby d_prog_39_method_1_217) (by decide) (by decide) ?_
          rintro _ T2 L2 X2 ⟨rfl, rfl, e2⟩
          rw [List.append_nil] at X2
          refine GoOn.st (fun t_ k_ => XS.istore X2.here hx rfl (hb hby d_prog_39_method_1_220) rfl (l' := #[.val (.ref a1), .val (.int (Int32.ofNat nn)), .val (.int (Int32.ofNat kk)), .val (.int vv), .val (.int (Int32.ofNat oo)), .val (.long q1), .second, .val (.int (Int32.ofNat (nn * oo * own_W kk))), .val (.ref a8), .val (.int (Int32.ofNat (o + 1))), .val (.int (Int32.ofNat 0)), .val (.int (Int32.ofNat ((0 * oo + (o + 1)) * own_W kk))), .val (.int (Int32.ofNat j)), .val (.int y13), .val (.int y14)]) rfl k_) ?_
          refine GoOn.st (fun t_ k_ => XS.iconst X2.here hx rfl (hb hby d_prog_39_method_1_222)  k_) ?_
          refine GoOn.st (fun t_ k_ => XS.istore X2.here hx rfl (hb hby d_prog_39_method_1_223) rfl (l' := #[.val (.ref a1), .val (.int (Int32.ofNat nn)), .val (.int (Int32.ofNat kk)), .val (.int vv), .val (.int (Int32.ofNat oo)), .val (.long q1), .second, .val (.int (Int32.ofNat (nn * oo * own_W kk))), .val (.ref a8), .val (.int (Int32.ofNat (o + 1))), .val (.int (Int32.ofNat 0)), .val (.int (Int32.ofNat ((0 * oo + (o + 1)) * own_W kk))), .val (.int (0 : Int32)), .val (.int y13), .val (.int y14)]) rfl k_) ?_
          show GoOn _ _ _ _ (T2.setTop (mkF m 225 #[.val (.ref a1), .val (.int (Int32.ofNat nn)), .val (.int (Int32.ofNat kk)), .val (.int vv), .val (.int (Int32.ofNat oo)), .val (.long q1), .second, .val (.int (Int32.ofNat (nn * oo * own_W kk))), .val (.ref a8), .val (.int (Int32.ofNat (o + 1))), .val (.int (Int32.ofNat 0)), .val (.int (Int32.ofNat ((0 * oo + (o + 1)) * own_W kk))), .val (.int (0 : Int32)), .val (.int y13), .val (.int y14)] []))
          have hX : (oo - o) * nn = (oo - (o + 1)) * nn + nn := by rw [show oo - o = (oo - (o + 1)) + 1 by omega, Nat.add_mul, Nat.one_mul]
          exact ihA (own_W kk) (o + 1) 0 0 S _ _ _ _ _ _ (by omega) (by omega) hq2 sm.n1 X2 e2 N0 K0 E1 Fn Fe Fo Fb Fi E8 Fs0 Fs1 Fs2 Fs3 Vb hlen
        · skip
          refine GoOn.st (fun t_ k_ => XS.iload X0.here hx rfl (hb hby d_prog_39_method_1_196) rfl k_) ?_
          refine GoOn.st (fun t_ k_ => XS.iload X0.here hx rfl (hb hby d_prog_39_method_1_198) rfl k_) ?_
          refine GoOn.st (fun t_ k_ => XS.icmpYes X0.here hx rfl (pc0 := 200) (pc' := 307) rfl (hb hby d_prog_39_method_1_200) rfl (flt (fun q => hq2 ((own_lt (by have := sm.o3; omega) (by have := sm.o3; omega)).mp q))).2.1 (by decide) (by decide) k_) ?_
          show GoOn _ _ _ _ (T0.setTop (mkF m 307 #[.val (.ref a1), .val (.int (Int32.ofNat nn)), .val (.int (Int32.ofNat kk)), .val (.int vv), .val (.int (Int32.ofNat oo)), .val (.long q1), .second, .val (.int (Int32.ofNat (nn * oo * own_W kk))), .val (.ref a8), .val (.int (Int32.ofNat (o + 1))), .val (.int (Int32.ofNat (l_ + 1))), .val (.int (Int32.ofNat ((l_ * oo + o) * own_W kk))), .val (.int (Int32.ofNat j)), .val (.int y13), .val (.int y14)] []))
          exact GoOn.retV X0 hx hlk hret (hb hby d_prog_39_method_1_307) (by rw [e0]; exact ⟨rfl, N0, K0, E1, Fn, Fe⟩) (by decide) (by decide)
    | succ r ihr =>
      intro o l_ j S vs y13 y14 T0 locs h0 hA hr ho hl X0 e0 N0 K0 E1 Fn Fe Fo Fb Fi E8 Fs0 Fs1 Fs2 Fs3 Vb hlen
      have hj : j < own_W kk := by omega
      refine GoOn.st (fun t_ k_ => XS.iload X0.here hx rfl (hb hby d_prog_39_method_1_225) rfl k_) ?_
      refine GoOn.st (fun t_ k_ => XS.iconst X0.here hx rfl (hb hby d_prog_39_method_1_227)  k_) ?_
      refine GoOn.st (fun t_ k_ => XS.iloadN X0.here hx rfl (hb hby d_prog_39_method_1_228) rfl k_) ?_
      refine GoOn.st (fun t_ k_ => XS.iconst X0.here hx rfl (hb hby d_prog_39_method_1_229)  k_) ?_
      show GoOn _ _ _ _ (T0.setTop (mkF m 230 #[.val (.ref a1), .val (.int (Int32.ofNat nn)), .val (.int (Int32.ofNat kk)), .val (.int vv), .val (.int (Int32.ofNat oo)), .val (.long q1), .second, .val (.int (Int32.ofNat (nn * oo * own_W kk))), .val (.ref a8), .val (.int (Int32.ofNat o)), .val (.int (Int32.ofNat l_)), .val (.int (Int32.ofNat ((l_ * oo + o) * own_W kk))), .val (.int (Int32.ofNat j)), .val (.int y13), .val (.int y14)] [(.int (1 : Int32)), (.int (Int32.ofNat kk)), (.int (1 : Int32)), (.int (Int32.ofNat j))]))
      refine GoOn.st (fun t_ k_ => XS.iadd X0.here hx rfl (hb hby d_prog_39_method_1_230) rfl k_) ?_
      refine GoOn.st (fun t_ k_ => XS.ishl X0.here hx rfl (hb hby d_prog_39_method_1_231) rfl k_) ?_
      refine GoOn.st (fun t_ k_ => XS.icmpNo X0.here hx rfl (hb hby d_prog_39_method_1_232) rfl (tlt (by rw [own_shl1 sm.k3]; exact (own_lt (by have := own_W_le sm.k3; omega) (by have := own_W_le sm.k3; omega)).mpr (by omega))).2.1 k_) ?_
      refine GoOn.st (fun t_ k_ => XS.iload X0.here hx rfl (hb hby d_prog_39_method_1_235) rfl k_) ?_
      show GoOn _ _ _ _ (T0.setTop (mkF m 237 #[.val (.ref a1), .val (.int (Int32.ofNat nn)), .val (.int (Int32.ofNat kk)), .val (.int vv), .val (.int (Int32.ofNat oo)), .val (.long q1), .second, .val (.int (Int32.ofNat (nn * oo * own_W kk))), .val (.ref a8), .val (.int (Int32.ofNat o)), .val (.int (Int32.ofNat l_)), .val (.int (Int32.ofNat ((l_ * oo + o) * own_W kk))), .val (.int (Int32.ofNat j)), .val (.int y13), .val (.int y14)] [(.int (Int32.ofNat ((l_ * oo + o) * own_W kk)))]))
      refine GoOn.st (fun t_ k_ => XS.iload X0.here hx rfl (hb hby d_prog_39_method_1_237) rfl k_) ?_
      show GoOn _ _ _ _ (T0.setTop (mkF m 239 #[.val (.ref a1), .val (.int (Int32.ofNat nn)), .val (.int (Int32.ofNat kk)), .val (.int vv), .val (.int (Int32.ofNat oo)), .val (.long q1), .second, .val (.int (Int32.ofNat (nn * oo * own_W kk))), .val (.ref a8), .val (.int (Int32.ofNat o)), .val (.int (Int32.ofNat l_)), .val (.int (Int32.ofNat ((l_ * oo + o) * own_W kk))), .val (.int (Int32.ofNat j)), .val (.int y13), .val (.int y14)] [(.int (Int32.ofNat j)), (.int (Int32.ofNat ((l_ * oo + o) * own_W kk)))]))
      refine GoOn.callS (W := 1) (argsL := [(.int (Int32.ofNat j))]) (rest := [(.int (Int32.ofNat ((l_ * oo + o) * own_W kk)))]) X0 hx hZ hown (hw _ (List.mem_of_getElem? (i := 51) rfl)) (hw _ (List.mem_of_getElem? (i := 52) rfl)) (hw _ (List.mem_of_getElem? (i := 53) rfl)) (hw _ (List.mem_of_getElem? (i := 54) rfl)) (by decide) (rm_rev l Z a0 hw (Int32.ofNat j) h0) e0 (by decide) (by decide) (by rw [hml]; rfl) pd_0 rfl rfl (Nat.le_of_eq rfl) (hb hby d_prog_39_method_1_239) (by decide) (by decide) ?_
      rintro _ T1 L1 X1 ⟨z1, rfl, rfl, e1⟩
      rw [List.append_nil] at X1
      refine GoOn.st (fun t_ k_ => XS.bipush X1.here hx rfl (hb hby d_prog_39_method_1_242)  k_) ?_
      refine GoOn.st (fun t_ k_ => XS.iloadN X1.here hx rfl (hb hby d_prog_39_method_1_244) rfl k_) ?_
      refine GoOn.st (fun t_ k_ => XS.iconst X1.here hx rfl (hb hby d_prog_39_method_1_245)  k_) ?_
      show GoOn _ _ _ _ (T1.setTop (mkF m 246 #[.val (.ref a1), .val (.int (Int32.ofNat nn)), .val (.int (Int32.ofNat kk)), .val (.int vv), .val (.int (Int32.ofNat oo)), .val (.long q1), .second, .val (.int (Int32.ofNat (nn * oo * own_W kk))), .val (.ref a8), .val (.int (Int32.ofNat o)), .val (.int (Int32.ofNat l_)), .val (.int (Int32.ofNat ((l_ * oo + o) * own_W kk))), .val (.int (Int32.ofNat j)), .val (.int y13), .val (.int y14)] [(.int (1 : Int32)), (.int (Int32.ofNat kk)), (.int (32 : Int32)), (.int z1), (.int (Int32.ofNat ((l_ * oo + o) * own_W kk)))]))
      refine GoOn.st (fun t_ k_ => XS.iadd X1.here hx rfl (hb hby d_prog_39_method_1_246) rfl k_) ?_
      refine GoOn.st (fun t_ k_ => XS.isub X1.here hx rfl (hb hby d_prog_39_method_1_247) rfl k_) ?_
      refine GoOn.st (fun t_ k_ => XS.iushr X1.here hx rfl (hb hby d_prog_39_method_1_248) rfl k_) ?_
      refine GoOn.st (fun t_ k_ => XS.ior X1.here hx rfl (hb hby d_prog_39_method_1_249) rfl k_) ?_
      show GoOn _ _ _ _ (T1.setTop (mkF m 250 #[.val (.ref a1), .val (.int (Int32.ofNat nn)), .val (.int (Int32.ofNat kk)), .val (.int vv), .val (.int (Int32.ofNat oo)), .val (.long q1), .second, .val (.int (Int32.ofNat (nn * oo * own_W kk))), .val (.ref a8), .val (.int (Int32.ofNat o)), .val (.int (Int32.ofNat l_)), .val (.int (Int32.ofNat ((l_ * oo + o) * own_W kk))), .val (.int (Int32.ofNat j)), .val (.int y13), .val (.int y14)] [(.int ((Int32.ofNat ((l_ * oo + o) * own_W kk)) ||| (((z1).toUInt32 >>> (((32 : Int32) - ((Int32.ofNat kk) + (1 : Int32))) &&& 31).toUInt32).toInt32)))]))
      refine GoOn.st (fun t_ k_ => XS.istore X1.here hx rfl (hb hby d_prog_39_method_1_250) rfl (l' := #[.val (.ref a1), .val (.int (Int32.ofNat nn)), .val (.int (Int32.ofNat kk)), .val (.int vv), .val (.int (Int32.ofNat oo)), .val (.long q1), .second, .val (.int (Int32.ofNat (nn * oo * own_W kk))), .val (.ref a8), .val (.int (Int32.ofNat o)), .val (.int (Int32.ofNat l_)), .val (.int (Int32.ofNat ((l_ * oo + o) * own_W kk))), .val (.int (Int32.ofNat j)), .val (.int ((Int32.ofNat ((l_ * oo + o) * own_W kk)) ||| (((z1).toUInt32 >>> (((32 : Int32) - ((Int32.ofNat kk) + (1 : Int32))) &&& 31).toUInt32).toInt32))), .val (.int y14)]) rfl k_) ?_
      show GoOn _ _ _ _ (T1.setTop (mkF m 252 #[.val (.ref a1), .val (.int (Int32.ofNat nn)), .val (.int (Int32.ofNat kk)), .val (.int vv), .val (.int (Int32.ofNat oo)), .val (.long q1), .second, .val (.int (Int32.ofNat (nn * oo * own_W kk))), .val (.ref a8), .val (.int (Int32.ofNat o)), .val (.int (Int32.ofNat l_)), .val (.int (Int32.ofNat ((l_ * oo + o) * own_W kk))), .val (.int (Int32.ofNat j)), .val (.int ((Int32.ofNat ((l_ * oo + o) * own_W kk)) ||| (((z1).toUInt32 >>> (((32 : Int32) - ((Int32.ofNat kk) + (1 : Int32))) &&& 31).toUInt32).toInt32))), .val (.int y14)] []))
      obtain ⟨i, hi1, hi2, hie⟩ := own_index sm ho hl z1
      rw [hie]
      show GoOn _ _ _ _ (T1.setTop (mkF m 252 #[.val (.ref a1), .val (.int (Int32.ofNat nn)), .val (.int (Int32.ofNat kk)), .val (.int vv), .val (.int (Int32.ofNat oo)), .val (.long q1), .second, .val (.int (Int32.ofNat (nn * oo * own_W kk))), .val (.ref a8), .val (.int (Int32.ofNat o)), .val (.int (Int32.ofNat l_)), .val (.int (Int32.ofNat ((l_ * oo + o) * own_W kk))), .val (.int (Int32.ofNat j)), .val (.int (Int32.ofNat i)), .val (.int y14)] []))
      refine GoOn.st (fun t_ k_ => XS.aload X1.here hx rfl (hb hby d_prog_39_method_1_252) rfl rfl k_) ?_
      refine GoOn.st (fun t_ k_ => XS.iloadN X1.here hx rfl (hb hby d_prog_39_method_1_254) rfl k_) ?_
      show GoOn _ _ _ _ (T1.setTop (mkF m 255 #[.val (.ref a1), .val (.int (Int32.ofNat nn)), .val (.int (Int32.ofNat kk)), .val (.int vv), .val (.int (Int32.ofNat oo)), .val (.long q1), .second, .val (.int (Int32.ofNat (nn * oo * own_W kk))), .val (.ref a8), .val (.int (Int32.ofNat o)), .val (.int (Int32.ofNat l_)), .val (.int (Int32.ofNat ((l_ * oo + o) * own_W kk))), .val (.int (Int32.ofNat j)), .val (.int (Int32.ofNat i)), .val (.int y14)] [(.int vv), (.ref a8)]))
      refine GoOn.callV (W := 0) (argsL := [(.int vv)]) (rest := []) (a := a8) X1 hx hZ hown (hw _ (List.mem_of_getElem? (i := 62) rfl)) (hw _ (List.mem_of_getElem? (i := 63) rfl)) (notFace_of_selects (args := #[]) (mvT hZ (hw _ (List.mem_of_getElem? (i := 65) rfl)))) (hw _ (List.mem_of_getElem? (i := 65) rfl)) (hw _ (List.mem_of_getElem? (i := 64) rfl)) (hw _ (List.mem_of_getElem? (i := 28) rfl)) (hw _ (List.mem_of_getElem? (i := 66) rfl)) (by decide) (rm_nint l Z a0 hw a8 vv S h0 n0 E8 Fs0 Fs1 Fs2 Fs3 g_a8 hp0 hnz hb0 hb1) e1 E8 (by decide) (by decide) (by rw [hml]; rfl) pd_0 rfl rfl (Nat.le_of_eq rfl) (hb hby d_prog_39_method_1_255) (by decide) (by decide) ?_
      rintro _ T2 L2 X2 ⟨z2, S2, rfl, N2q, K2, f2_0, f2_1, f2_2, f2_3, f2_4⟩
      have N2 := Fr.app N0 N2q
      refine GoOn.st (fun t_ k_ => XS.istore X2.here hx rfl (hb hby d_prog_39_method_1_258) rfl (l' := #[.val (.ref a1), .val (.int (Int32.ofNat nn)), .val (.int (Int32.ofNat kk)), .val (.int vv), .val (.int (Int32.ofNat oo)), .val (.long q1), .second, .val (.int (Int32.ofNat (nn * oo * own_W kk))), .val (.ref a8), .val (.int (Int32.ofNat o)), .val (.int (Int32.ofNat l_)), .val (.int (Int32.ofNat ((l_ * oo + o) * own_W kk))), .val (.int (Int32.ofNat j)), .val (.int (Int32.ofNat i)), .val (.int z2)]) rfl k_) ?_
      refine GoOn.st (fun t_ k_ => XS.aloadN X2.here hx rfl (hb hby d_prog_39_method_1_260) rfl rfl k_) ?_
      have F3 := (Fi.keep K2 (ninS n18 nin0))
      obtain ⟨T4, X4, e4, st4⟩ := getF X2 hx hZ hown (host := "") (Or.inl (hw _ (List.mem_of_getElem? (i := 22) rfl))) Via.refl rfl F3 (g := (mkF m 261 #[.val (.ref a1), .val (.int (Int32.ofNat nn)), .val (.int (Int32.ofNat kk)), .val (.int vv), .val (.int (Int32.ofNat oo)), .val (.long q1), .second, .val (.int (Int32.ofNat (nn * oo * own_W kk))), .val (.ref a8), .val (.int (Int32.ofNat o)), .val (.int (Int32.ofNat l_)), .val (.int (Int32.ofNat ((l_ * oo + o) * own_W kk))), .val (.int (Int32.ofNat j)), .val (.int (Int32.ofNat i)), .val (.int z2)] [(.ref a1)])) rfl rfl (hb hby d_prog_39_method_1_261)
      refine GoOn.st st4 ?_
      show GoOn _ _ _ _ (T4.setTop (mkF m 264 #[.val (.ref a1), .val (.int (Int32.ofNat nn)), .val (.int (Int32.ofNat kk)), .val (.int vv), .val (.int (Int32.ofNat oo)), .val (.long q1), .second, .val (.int (Int32.ofNat (nn * oo * own_W kk))), .val (.ref a8), .val (.int (Int32.ofNat o)), .val (.int (Int32.ofNat l_)), .val (.int (Int32.ofNat ((l_ * oo + o) * own_W kk))), .val (.int (Int32.ofNat j)), .val (.int (Int32.ofNat i)), .val (.int z2)] [.null]))
      refine GoOn.st (fun t_ k_ => XS.ifnullYes X4.here hx rfl (pc0 := 264) (pc' := 280) rfl (hb hby d_prog_39_method_1_264) rfl (by decide) (by decide) k_) ?_
      refine GoOn.st (fun t_ k_ => XS.aloadN X4.here hx rfl (hb hby d_prog_39_method_1_280) rfl rfl k_) ?_
      have F5 := (Fb.keep K2 (ninS n18 nin0))
      obtain ⟨T6, X6, e6, st6⟩ := getF X4 hx hZ hown (host := "") (Or.inl (hw _ (List.mem_of_getElem? (i := 24) rfl))) Via.refl e4 F5 (g := (mkF m 281 #[.val (.ref a1), .val (.int (Int32.ofNat nn)), .val (.int (Int32.ofNat kk)), .val (.int vv), .val (.int (Int32.ofNat oo)), .val (.long q1), .second, .val (.int (Int32.ofNat (nn * oo * own_W kk))), .val (.ref a8), .val (.int (Int32.ofNat o)), .val (.int (Int32.ofNat l_)), .val (.int (Int32.ofNat ((l_ * oo + o) * own_W kk))), .val (.int (Int32.ofNat j)), .val (.int (Int32.ofNat i)), .val (.int z2)] [(.ref a1)])) rfl rfl (hb hby d_prog_39_method_1_281)
      refine GoOn.st st6 ?_
      refine GoOn.st (fun t_ k_ => XS.iload X6.here hx rfl (hb hby d_prog_39_method_1_284) rfl k_) ?_
      show GoOn _ _ _ _ (T6.setTop (mkF m 286 #[.val (.ref a1), .val (.int (Int32.ofNat nn)), .val (.int (Int32.ofNat kk)), .val (.int vv), .val (.int (Int32.ofNat oo)), .val (.long q1), .second, .val (.int (Int32.ofNat (nn * oo * own_W kk))), .val (.ref a8), .val (.int (Int32.ofNat o)), .val (.int (Int32.ofNat l_)), .val (.int (Int32.ofNat ((l_ * oo + o) * own_W kk))), .val (.int (Int32.ofNat j)), .val (.int (Int32.ofNat i)), .val (.int z2)] [(.int (Int32.ofNat i)), (.ref b1)]))
      refine GoOn.st (fun t_ k_ => XS.iload X6.here hx rfl (hb hby d_prog_39_method_1_286) rfl k_) ?_
      have F7 := (Vb.keep K2 (ninS n8b nin0))
      obtain ⟨T8, h8, X8, e8, W8, V8, st8⟩ := own_iastore X6 hx hZ e6 F7 (j := (Int32.ofNat i)) ⟨fun q => absurd ((own_lt (b := 0) (by omega) (by decide)).mp q) (Nat.not_lt_zero i), (own_lt (by omega) (by have := own_len_in sm; omega)).mpr hi1⟩ i (own_clamp (by omega)) (by rw [hlen]; exact hi2) (x := z2) (Ls := #[.val (.ref a1), .val (.int (Int32.ofNat nn)), .val (.int (Int32.ofNat kk)), .val (.int vv), .val (.int (Int32.ofNat oo)), .val (.long q1), .second, .val (.int (Int32.ofNat (nn * oo * own_W kk))), .val (.ref a8), .val (.int (Int32.ofNat o)), .val (.int (Int32.ofNat l_)), .val (.int (Int32.ofNat ((l_ * oo + o) * own_W kk))), .val (.int (Int32.ofNat j)), .val (.int (Int32.ofNat i)), .val (.int z2)]) (rest := []) (hb hby d_prog_39_method_1_288)
      replace V8 : Arv Z h8 b1 kb .int (Int32.ofNat (nn * oo * own_W kk)) (List.set vs i (.int z2)) (.int (0 : Int32)) := V8
      have N9 := Fr.snoc X8 N2 g_b1
      refine GoOn.st st8 ?_
      refine GoOn.st (fun t_ k_ => XS.iinc X8.here hx rfl (hb hby d_prog_39_method_1_289) rfl (l' := #[.val (.ref a1), .val (.int (Int32.ofNat nn)), .val (.int (Int32.ofNat kk)), .val (.int vv), .val (.int (Int32.ofNat oo)), .val (.long q1), .second, .val (.int (Int32.ofNat (nn * oo * own_W kk))), .val (.ref a8), .val (.int (Int32.ofNat o)), .val (.int (Int32.ofNat l_)), .val (.int (Int32.ofNat ((l_ * oo + o) * own_W kk))), .val (.int ((Int32.ofNat j) + (1 : Int32))), .val (.int (Int32.ofNat i)), .val (.int z2)]) rfl k_) ?_
      refine GoOn.st (fun t_ k_ => XS.goto X8.here hx rfl (pc0 := 292) (pc' := 225) rfl (hb hby d_prog_39_method_1_292) (by decide) (by decide) k_) ?_
      show GoOn _ _ _ _ (T8.setTop (mkF m 225 #[.val (.ref a1), .val (.int (Int32.ofNat nn)), .val (.int (Int32.ofNat kk)), .val (.int vv), .val (.int (Int32.ofNat oo)), .val (.long q1), .second, .val (.int (Int32.ofNat (nn * oo * own_W kk))), .val (.ref a8), .val (.int (Int32.ofNat o)), .val (.int (Int32.ofNat l_)), .val (.int (Int32.ofNat ((l_ * oo + o) * own_W kk))), .val (.int ((Int32.ofNat j) + (1 : Int32))), .val (.int (Int32.ofNat i)), .val (.int z2)] []))
      rw [own_succ j]
      exact ihr o l_ (j + 1) S2 _ _ _ _ _ _ hA (by omega) ho hl X8 e8 N9 ((K0.trans K2 (allS (Or.inr sz_a8) all0)).wr W8 (Or.inr sz_b1)) (Exa.wr W8 (E1.keep K2)) (Fld.other W8 (Fn.keep K2 (ninS n18 nin0)) (Or.inl n1b)) (Fld.other W8 (Fe.keep K2 (ninS n18 nin0)) (Or.inl n1b)) (Fld.other W8 (Fo.keep K2 (ninS n18 nin0)) (Or.inl n1b)) (Fld.other W8 F5 (Or.inl n1b)) (Fld.other W8 F3 (Or.inl n1b)) (Exa.wr W8 f2_0) (Fld.other W8 f2_1 (Or.inl (Ne.symm n8b))) (Fld.other W8 f2_2 (Or.inl (Ne.symm n8b))) (Fld.other W8 f2_3 (Or.inl (Ne.symm n8b))) (Fld.other W8 f2_4 (Or.inl (Ne.symm n8b))) V8 (by rw [List.length_set]; exact hlen)
theorem ef_minit (m : MethodId) (x0 : Addr) (x1 : Int32) (x2 : Int32) (x3 : Int32) (x4 : Int32) (x5 : Int64) : entryFrame m #[(.ref x0), (.int x1), (.int x2), (.int x3), (.int x4), (.long x5)] 15 = mkF m 0 #[.val (.ref x0), .val (.int x1), .val (.int x2), .val (.int x3), .val (.int x4), .val (.long x5), .second, .unset, .unset, .unset, .unset, .unset, .unset, .unset, .unset] [] := by first | (simp [entryFrame, mkF, argsToLocals, Value.category]; done) | rfl
theorem d_prog_39_method_1_0 : decode prog_39_method_1_code 0 = .ok (.aload_n 0, 1) := by decide +kernel
theorem d_prog_39_method_1_1 : decode prog_39_method_1_code 1 = .ok (.invokespecial 1, 3) := by decide +kernel
theorem d_prog_39_method_1_4 : decode prog_39_method_1_code 4 = .ok (.iload_n 2, 1) := by decide +kernel
theorem d_prog_39_method_1_5 : decode prog_39_method_1_code 5 = .ok (.ifCond .lt 8, 3) := by decide +kernel
theorem d_prog_39_method_1_8 : decode prog_39_method_1_code 8 = .ok (.iload_n 2, 1) := by decide +kernel
theorem d_prog_39_method_1_9 : decode prog_39_method_1_code 9 = .ok (.iload_n 1, 1) := by decide +kernel
theorem d_prog_39_method_1_10 : decode prog_39_method_1_code 10 = .ok (.if_icmp .lt 20, 3) := by decide +kernel
theorem d_prog_39_method_1_30 : decode prog_39_method_1_code 30 = .ok (.iload_n 3, 1) := by decide +kernel
theorem d_prog_39_method_1_31 : decode prog_39_method_1_code 31 = .ok (.iconst 1, 1) := by decide +kernel
theorem d_prog_39_method_1_32 : decode prog_39_method_1_code 32 = .ok (.if_icmp .ge 17, 3) := by decide +kernel
theorem d_prog_39_method_1_49 : decode prog_39_method_1_code 49 = .ok (.iload 4, 2) := by decide +kernel
theorem d_prog_39_method_1_51 : decode prog_39_method_1_code 51 = .ok (.iconst 2, 1) := by decide +kernel
theorem d_prog_39_method_1_52 : decode prog_39_method_1_code 52 = .ok (.if_icmp .lt 9, 3) := by decide +kernel
theorem d_prog_39_method_1_55 : decode prog_39_method_1_code 55 = .ok (.iload 4, 2) := by decide +kernel
theorem d_prog_39_method_1_57 : decode prog_39_method_1_code 57 = .ok (.iconst 3, 1) := by decide +kernel
theorem d_prog_39_method_1_58 : decode prog_39_method_1_code 58 = .ok (.if_icmp .le 18, 3) := by decide +kernel
theorem d_prog_39_method_1_76 : decode prog_39_method_1_code 76 = .ok (.iload_n 2, 1) := by decide +kernel
theorem d_prog_39_method_1_77 : decode prog_39_method_1_code 77 = .ok (.iconst 1, 1) := by decide +kernel
theorem d_prog_39_method_1_78 : decode prog_39_method_1_code 78 = .ok (.iadd, 1) := by decide +kernel
theorem d_prog_39_method_1_79 : decode prog_39_method_1_code 79 = .ok (.bipush 62, 2) := by decide +kernel
theorem d_prog_39_method_1_81 : decode prog_39_method_1_code 81 = .ok (.if_icmp .gt 20, 3) := by decide +kernel
theorem d_prog_39_method_1_84 : decode prog_39_method_1_code 84 = .ok (.iload_n 1, 1) := by decide +kernel
theorem d_prog_39_method_1_85 : decode prog_39_method_1_code 85 = .ok (.i2l, 1) := by decide +kernel
theorem d_prog_39_method_1_86 : decode prog_39_method_1_code 86 = .ok (.iload 4, 2) := by decide +kernel
theorem d_prog_39_method_1_88 : decode prog_39_method_1_code 88 = .ok (.i2l, 1) := by decide +kernel
theorem d_prog_39_method_1_89 : decode prog_39_method_1_code 89 = .ok (.lmul, 1) := by decide +kernel
theorem d_prog_39_method_1_90 : decode prog_39_method_1_code 90 = .ok (.ldc2_w 24, 3) := by decide +kernel
theorem d_prog_39_method_1_93 : decode prog_39_method_1_code 93 = .ok (.iload_n 2, 1) := by decide +kernel
theorem d_prog_39_method_1_94 : decode prog_39_method_1_code 94 = .ok (.iconst 1, 1) := by decide +kernel
theorem d_prog_39_method_1_95 : decode prog_39_method_1_code 95 = .ok (.iadd, 1) := by decide +kernel
theorem d_prog_39_method_1_96 : decode prog_39_method_1_code 96 = .ok (.lshr, 1) := by decide +kernel
theorem d_prog_39_method_1_97 : decode prog_39_method_1_code 97 = .ok (.lcmp, 1) := by decide +kernel
theorem d_prog_39_method_1_98 : decode prog_39_method_1_code 98 = .ok (.ifCond .le 20, 3) := by decide +kernel
theorem d_prog_39_method_1_118 : decode prog_39_method_1_code 118 = .ok (.aload_n 0, 1) := by decide +kernel
theorem d_prog_39_method_1_119 : decode prog_39_method_1_code 119 = .ok (.iload_n 1, 1) := by decide +kernel
theorem d_prog_39_method_1_120 : decode prog_39_method_1_code 120 = .ok (.putfield 29, 3) := by decide +kernel
theorem d_prog_39_method_1_123 : decode prog_39_method_1_code 123 = .ok (.aload_n 0, 1) := by decide +kernel
theorem d_prog_39_method_1_124 : decode prog_39_method_1_code 124 = .ok (.iload_n 2, 1) := by decide +kernel
theorem d_prog_39_method_1_125 : decode prog_39_method_1_code 125 = .ok (.putfield 33, 3) := by decide +kernel
theorem d_prog_39_method_1_128 : decode prog_39_method_1_code 128 = .ok (.aload_n 0, 1) := by decide +kernel
theorem d_prog_39_method_1_129 : decode prog_39_method_1_code 129 = .ok (.iload 4, 2) := by decide +kernel
theorem d_prog_39_method_1_131 : decode prog_39_method_1_code 131 = .ok (.putfield 36, 3) := by decide +kernel
theorem d_prog_39_method_1_134 : decode prog_39_method_1_code 134 = .ok (.iload_n 1, 1) := by decide +kernel
theorem d_prog_39_method_1_135 : decode prog_39_method_1_code 135 = .ok (.iload 4, 2) := by decide +kernel
theorem d_prog_39_method_1_137 : decode prog_39_method_1_code 137 = .ok (.imul, 1) := by decide +kernel
theorem d_prog_39_method_1_138 : decode prog_39_method_1_code 138 = .ok (.iload_n 2, 1) := by decide +kernel
theorem d_prog_39_method_1_139 : decode prog_39_method_1_code 139 = .ok (.iconst 1, 1) := by decide +kernel
theorem d_prog_39_method_1_140 : decode prog_39_method_1_code 140 = .ok (.iadd, 1) := by decide +kernel
theorem d_prog_39_method_1_141 : decode prog_39_method_1_code 141 = .ok (.ishl, 1) := by decide +kernel
theorem d_prog_39_method_1_142 : decode prog_39_method_1_code 142 = .ok (.istore 7, 2) := by decide +kernel
theorem d_prog_39_method_1_144 : decode prog_39_method_1_code 144 = .ok (.aload_n 0, 1) := by decide +kernel
theorem d_prog_39_method_1_145 : decode prog_39_method_1_code 145 = .ok (.iload_n 3, 1) := by decide +kernel
theorem d_prog_39_method_1_146 : decode prog_39_method_1_code 146 = .ok (.sipush 256, 3) := by decide +kernel
theorem d_prog_39_method_1_149 : decode prog_39_method_1_code 149 = .ok (.if_icmp .gt 10, 3) := by decide +kernel
theorem d_prog_39_method_1_159 : decode prog_39_method_1_code 159 = .ok (.aconst_null, 1) := by decide +kernel
theorem d_prog_39_method_1_160 : decode prog_39_method_1_code 160 = .ok (.putfield 39, 3) := by decide +kernel
theorem d_prog_39_method_1_163 : decode prog_39_method_1_code 163 = .ok (.aload_n 0, 1) := by decide +kernel
theorem d_prog_39_method_1_164 : decode prog_39_method_1_code 164 = .ok (.iload_n 3, 1) := by decide +kernel
theorem d_prog_39_method_1_165 : decode prog_39_method_1_code 165 = .ok (.sipush 256, 3) := by decide +kernel
theorem d_prog_39_method_1_168 : decode prog_39_method_1_code 168 = .ok (.if_icmp .gt 7, 3) := by decide +kernel
theorem d_prog_39_method_1_175 : decode prog_39_method_1_code 175 = .ok (.iload 7, 2) := by decide +kernel
theorem d_prog_39_method_1_177 : decode prog_39_method_1_code 177 = .ok (.newarray .int, 2) := by decide +kernel
theorem d_prog_39_method_1_179 : decode prog_39_method_1_code 179 = .ok (.putfield 43, 3) := by decide +kernel
theorem d_prog_39_method_1_182 : decode prog_39_method_1_code 182 = .ok (.new 47, 3) := by decide +kernel
theorem d_prog_39_method_1_185 : decode prog_39_method_1_code 185 = .ok (.dup, 1) := by decide +kernel
theorem d_prog_39_method_1_186 : decode prog_39_method_1_code 186 = .ok (.lload 5, 2) := by decide +kernel
theorem pd_5 : parseMethodDescriptor "(J)V" = some ⟨[.long], none⟩ := by decide +kernel
theorem d_prog_39_method_1_188 : decode prog_39_method_1_code 188 = .ok (.invokespecial 49, 3) := by decide +kernel
theorem d_prog_39_method_1_191 : decode prog_39_method_1_code 191 = .ok (.astore 8, 2) := by decide +kernel
theorem d_prog_39_method_1_193 : decode prog_39_method_1_code 193 = .ok (.iconst 0, 1) := by decide +kernel
theorem d_prog_39_method_1_194 : decode prog_39_method_1_code 194 = .ok (.istore 9, 2) := by decide +kernel
theorem d_prog_39_method_1_152 : decode prog_39_method_1_code 152 = .ok (.iload 7, 2) := by decide +kernel
theorem d_prog_39_method_1_154 : decode prog_39_method_1_code 154 = .ok (.newarray .byte, 2) := by decide +kernel
theorem d_prog_39_method_1_156 : decode prog_39_method_1_code 156 = .ok (.goto 4, 3) := by decide +kernel
theorem d_prog_39_method_1_171 : decode prog_39_method_1_code 171 = .ok (.aconst_null, 1) := by decide +kernel
theorem d_prog_39_method_1_172 : decode prog_39_method_1_code 172 = .ok (.goto 7, 3) := by decide +kernel
set_option maxRecDepth 65536 in
set_option maxHeartbeats 40000000 in
theorem rm_minit (l : Launch) (Z : State) (a0 : Array Value) (hw : ∀ d ∈ tables_1, d.before a0 Z = true) (a1 : Addr) (nn kk oo : Nat) (vv : Int32) (q1 : Int64) (h0 : Heap) (n0 : Nat) (Z0 : n0 ≤ h0.size) (Ea : Exa Z h0 a1 "com/example/frontwise/frontwise/problem/Mnk") (Fn : Fld Z h0 a1 "com/example/frontwise/frontwise/problem/Mnk" "n" "I" (.int (0 : Int32))) (Fepistasis : Fld Z h0 a1 "com/example/frontwise/frontwise/problem/Mnk" "epistasis" "I" (.int (0 : Int32))) (Fobjectives : Fld Z h0 a1 "com/example/frontwise/frontwise/problem/Mnk" "objectives" "I" (.int (0 : Int32))) (Fbt : Fld Z h0 a1 "com/example/frontwise/frontwise/problem/Mnk" "byteTables" "[B" .null) (Fit : Fld Z h0 a1 "com/example/frontwise/frontwise/problem/Mnk" "intTables" "[I" .null) (g_a1 : n0 ≤ a1) (sm : Small nn kk oo) (hv1 : ¬ vv < (1 : Int32)) (hp0 : (0 : Int32) < vv) (hnz : (vv).toInt64 ≠ 0) (hb0 : 0 < (vv.toInt64).toInt) (hb1 : (vv.toInt64).toInt ≤ 512) :
    OwCon l Z (⟨"com/example/frontwise/frontwise/problem/Mnk", "<init>", "(IIIIJ)V"⟩ : MethodName) prog_39_method_1_code 15 none [] ({ frames := 3, cells := 3, slots := 400, locals := 48 } : Room) #[(.ref a1), (.int (Int32.ofNat nn)), (.int (Int32.ofNat kk)), (.int vv), (.int (Int32.ofNat oo)), (.long q1)] h0 (fun v h L => v = none ∧ Fr n0 L ∧ Keep h0 h [a1] ∧ Exa Z h a1 "com/example/frontwise/frontwise/problem/Mnk" ∧ Fld Z h a1 "com/example/frontwise/frontwise/problem/Mnk" "n" "I" (.int (Int32.ofNat nn)) ∧ Fld Z h a1 "com/example/frontwise/frontwise/problem/Mnk" "epistasis" "I" (.int (Int32.ofNat kk))) := by
  refine OwCon.of (plainFor_of_name pn_com_example_frontwise_frontwise_problem_Mnk) ?_
  intro p e s m below meth cd_ s₁ X0 hx hby hml hret hlk hown hnm hZ e0
  have N0 := Fr.nil n0
  refine GoOn.st (fun t_ k_ => castTop (ef_minit m a1 (Int32.ofNat nn) (Int32.ofNat kk) vv (Int32.ofNat oo) q1) k_) ?_
  show GoOn _ _ _ _ (s₁.setTop (mkF m 0 #[.val (.ref a1), .val (.int (Int32.ofNat nn)), .val (.int (Int32.ofNat kk)), .val (.int vv), .val (.int (Int32.ofNat oo)), .val (.long q1), .second, .unset, .unset, .unset, .unset, .unset, .unset, .unset, .unset] []))
  refine GoOn.st (fun t_ k_ => XS.aloadN X0.here hx rfl (hb hby d_prog_39_method_1_0) rfl rfl k_) ?_
  show GoOn _ _ _ _ (s₁.setTop (mkF m 1 #[.val (.ref a1), .val (.int (Int32.ofNat nn)), .val (.int (Int32.ofNat kk)), .val (.int vv), .val (.int (Int32.ofNat oo)), .val (.long q1), .second, .unset, .unset, .unset, .unset, .unset, .unset, .unset, .unset] [(.ref a1)]))
  obtain ⟨T1, X1, e1, st1⟩ := initO X0 hx hZ hown (hw _ (List.mem_of_getElem? (i := 11) rfl)) (hw _ (List.mem_of_getElem? (i := 12) rfl)) (hw _ (List.mem_of_getElem? (i := 13) rfl)) e0 (g := (mkF m 1 #[.val (.ref a1), .val (.int (Int32.ofNat nn)), .val (.int (Int32.ofNat kk)), .val (.int vv), .val (.int (Int32.ofNat oo)), .val (.long q1), .second, .unset, .unset, .unset, .unset, .unset, .unset, .unset, .unset] [(.ref a1)])) rfl (by rw [hml]; rfl) rfl (hb hby d_prog_39_method_1_1) (by decide) (W := 0) (by show 2 * 0 + _ ≤ _; exact Nat.le_of_eq rfl) (by decide)
  refine GoOn.st st1 ?_
  refine GoOn.st (fun t_ k_ => XS.iloadN X1.here hx rfl (hb hby d_prog_39_method_1_4) rfl k_) ?_
  refine GoOn.st (fun t_ k_ => XS.ifNo X1.here hx rfl (hb hby d_prog_39_method_1_5) rfl ((if0 _ _).trans (flt (fun q => absurd ((own_lt (b := 0) (by have := sm.n8; have := sm.k3; have := sm.o3; omega) (by have := sm.n8; have := sm.k3; have := sm.o3; omega)).mp q) (by have := sm.kn; have := sm.n1; have := sm.o2; have := sm.o3; omega))).1) k_) ?_
  refine GoOn.st (fun t_ k_ => XS.iloadN X1.here hx rfl (hb hby d_prog_39_method_1_8) rfl k_) ?_
  show GoOn _ _ _ _ (T1.setTop (mkF m 9 #[.val (.ref a1), .val (.int (Int32.ofNat nn)), .val (.int (Int32.ofNat kk)), .val (.int vv), .val (.int (Int32.ofNat oo)), .val (.long q1), .second, .unset, .unset, .unset, .unset, .unset, .unset, .unset, .unset] [(.int (Int32.ofNat kk))]))
  refine GoOn.st (fun t_ k_ => XS.iloadN X1.here hx rfl (hb hby d_prog_39_method_1_9) rfl k_) ?_
  refine GoOn.st (fun t_ k_ => XS.icmpYes X1.here hx rfl (pc0 := 10) (pc' := 30) rfl (hb hby d_prog_39_method_1_10) rfl (tlt ((own_lt (by have := sm.n8; have := sm.k3; have := sm.o3; omega) (by have := sm.n8; have := sm.k3; have := sm.o3; omega)).mpr (by have := sm.kn; have := sm.n1; have := sm.o2; have := sm.o3; omega))).1 (by decide) (by decide) k_) ?_
  refine GoOn.st (fun t_ k_ => XS.iloadN X1.here hx rfl (hb hby d_prog_39_method_1_30) rfl k_) ?_
  refine GoOn.st (fun t_ k_ => XS.iconst X1.here hx rfl (hb hby d_prog_39_method_1_31)  k_) ?_
  show GoOn _ _ _ _ (T1.setTop (mkF m 32 #[.val (.ref a1), .val (.int (Int32.ofNat nn)), .val (.int (Int32.ofNat kk)), .val (.int vv), .val (.int (Int32.ofNat oo)), .val (.long q1), .second, .unset, .unset, .unset, .unset, .unset, .unset, .unset, .unset] [(.int (1 : Int32)), (.int vv)]))
  refine GoOn.st (fun t_ k_ => XS.icmpYes X1.here hx rfl (pc0 := 32) (pc' := 49) rfl (hb hby d_prog_39_method_1_32) rfl (flt hv1).2.1 (by decide) (by decide) k_) ?_
  refine GoOn.st (fun t_ k_ => XS.iload X1.here hx rfl (hb hby d_prog_39_method_1_49) rfl k_) ?_
  refine GoOn.st (fun t_ k_ => XS.iconst X1.here hx rfl (hb hby d_prog_39_method_1_51)  k_) ?_
  refine GoOn.st (fun t_ k_ => XS.icmpNo X1.here hx rfl (hb hby d_prog_39_method_1_52) rfl (flt (fun q => absurd ((own_lt (b := 2) (by have := sm.n8; have := sm.k3; have := sm.o3; omega) (by have := sm.n8; have := sm.k3; have := sm.o3; omega)).mp q) (by have := sm.kn; have := sm.n1; have := sm.o2; have := sm.o3; omega))).1 k_) ?_
  show GoOn _ _ _ _ (T1.setTop (mkF m 55 #[.val (.ref a1), .val (.int (Int32.ofNat nn)), .val (.int (Int32.ofNat kk)), .val (.int vv), .val (.int (Int32.ofNat oo)), .val (.long q1), .second, .unset, .unset, .unset, .unset, .unset, .unset, .unset, .unset] []))
  refine GoOn.st (fun t_ k_ => XS.iload X1.here hx rfl (hb hby d_prog_39_method_1_55) rfl k_) ?_
  refine GoOn.st (fun t_ k_ => XS.iconst X1.here hx rfl (hb hby d_prog_39_method_1_57)  k_) ?_
  refine GoOn.st (fun t_ k_ => XS.icmpYes X1.here hx rfl (pc0 := 58) (pc' := 76) rfl (hb hby d_prog_39_method_1_58) rfl (flt (fun q => absurd ((own_lt (a := 3) (by have := sm.n8; have := sm.k3; have := sm.o3; omega) (by have := sm.n8; have := sm.k3; have := sm.o3; omega)).mp q) (by have := sm.kn; have := sm.n1; have := sm.o2; have := sm.o3; omega))).2.2.2 (by decide) (by decide) k_) ?_
  refine GoOn.st (fun t_ k_ => XS.iloadN X1.here hx rfl (hb hby d_prog_39_method_1_76) rfl k_) ?_
  show GoOn _ _ _ _ (T1.setTop (mkF m 77 #[.val (.ref a1), .val (.int (Int32.ofNat nn)), .val (.int (Int32.ofNat kk)), .val (.int vv), .val (.int (Int32.ofNat oo)), .val (.long q1), .second, .unset, .unset, .unset, .unset, .unset, .unset, .unset, .unset] [(.int (Int32.ofNat kk))]))
  refine GoOn.st (fun t_ k_ => XS.iconst X1.here hx rfl (hb hby d_prog_39_method_1_77)  k_) ?_
  refine GoOn.st (fun t_ k_ => XS.iadd X1.here hx rfl (hb hby d_prog_39_method_1_78) rfl k_) ?_
  refine GoOn.st (fun t_ k_ => XS.bipush X1.here hx rfl (hb hby d_prog_39_method_1_79)  k_) ?_
  refine GoOn.st (fun t_ k_ => XS.icmpNo X1.here hx rfl (hb hby d_prog_39_method_1_81) rfl (flt (own_c81 sm.k3)).2.2.1 k_) ?_
  show GoOn _ _ _ _ (T1.setTop (mkF m 84 #[.val (.ref a1), .val (.int (Int32.ofNat nn)), .val (.int (Int32.ofNat kk)), .val (.int vv), .val (.int (Int32.ofNat oo)), .val (.long q1), .second, .unset, .unset, .unset, .unset, .unset, .unset, .unset, .unset] []))
  refine GoOn.st (fun t_ k_ => XS.iloadN X1.here hx rfl (hb hby d_prog_39_method_1_84) rfl k_) ?_
  refine GoOn.st (fun t_ k_ => XS.i2l X1.here hx rfl (hb hby d_prog_39_method_1_85) rfl k_) ?_
  refine GoOn.st (fun t_ k_ => XS.iload X1.here hx rfl (hb hby d_prog_39_method_1_86) rfl k_) ?_
  refine GoOn.st (fun t_ k_ => XS.i2l X1.here hx rfl (hb hby d_prog_39_method_1_88) rfl k_) ?_
  show GoOn _ _ _ _ (T1.setTop (mkF m 89 #[.val (.ref a1), .val (.int (Int32.ofNat nn)), .val (.int (Int32.ofNat kk)), .val (.int vv), .val (.int (Int32.ofNat oo)), .val (.long q1), .second, .unset, .unset, .unset, .unset, .unset, .unset, .unset, .unset] [(.long (((Int32.ofNat oo)).toInt64)), (.long (((Int32.ofNat nn)).toInt64))]))
  refine GoOn.st (fun t_ k_ => XS.lmul X1.here hx rfl (hb hby d_prog_39_method_1_89) rfl k_) ?_
  refine GoOn.st (fun t_ k_ => X1.ldc2Long hx hown (mvT hZ (hw _ (List.mem_of_getElem? (i := 14) rfl))) (g := (mkF m 90 #[.val (.ref a1), .val (.int (Int32.ofNat nn)), .val (.int (Int32.ofNat kk)), .val (.int vv), .val (.int (Int32.ofNat oo)), .val (.long q1), .second, .unset, .unset, .unset, .unset, .unset, .unset, .unset, .unset] [(.long ((((Int32.ofNat nn)).toInt64) * (((Int32.ofNat oo)).toInt64)))])) rfl (hb hby d_prog_39_method_1_90) _ k_) ?_
  refine GoOn.st (fun t_ k_ => XS.iloadN X1.here hx rfl (hb hby d_prog_39_method_1_93) rfl k_) ?_
  refine GoOn.st (fun t_ k_ => XS.iconst X1.here hx rfl (hb hby d_prog_39_method_1_94)  k_) ?_
  show GoOn _ _ _ _ (T1.setTop (mkF m 95 #[.val (.ref a1), .val (.int (Int32.ofNat nn)), .val (.int (Int32.ofNat kk)), .val (.int vv), .val (.int (Int32.ofNat oo)), .val (.long q1), .second, .unset, .unset, .unset, .unset, .unset, .unset, .unset, .unset] [(.int (1 : Int32)), (.int (Int32.ofNat kk)), (.long (268435456 : Int64)), (.long ((((Int32.ofNat nn)).toInt64) * (((Int32.ofNat oo)).toInt64)))]))
  refine GoOn.st (fun t_ k_ => XS.iadd X1.here hx rfl (hb hby d_prog_39_method_1_95) rfl k_) ?_
  refine GoOn.st (fun t_ k_ => XS.lshr X1.here hx rfl (hb hby d_prog_39_method_1_96) rfl k_) ?_
  refine GoOn.st (fun t_ k_ => XS.lcmp X1.here hx rfl (hb hby d_prog_39_method_1_97) rfl k_) ?_
  refine GoOn.st (fun t_ k_ => XS.ifYes X1.here hx rfl (pc0 := 98) (pc' := 118) rfl (hb hby d_prog_39_method_1_98) rfl ((if0 _ _).trans (flt (fun q => (own_c98 sm) ((lw_gt ((((Int32.ofNat nn)).toInt64) * (((Int32.ofNat oo)).toInt64)) ((268435456 : Int64) >>> (((Int32.ofNat kk) + (1 : Int32)) &&& 0x3f).toInt64)).mp q))).2.2.2) (by decide) (by decide) k_) ?_
  show GoOn _ _ _ _ (T1.setTop (mkF m 118 #[.val (.ref a1), .val (.int (Int32.ofNat nn)), .val (.int (Int32.ofNat kk)), .val (.int vv), .val (.int (Int32.ofNat oo)), .val (.long q1), .second, .unset, .unset, .unset, .unset, .unset, .unset, .unset, .unset] []))
  refine GoOn.st (fun t_ k_ => XS.aloadN X1.here hx rfl (hb hby d_prog_39_method_1_118) rfl rfl k_) ?_
  refine GoOn.st (fun t_ k_ => XS.iloadN X1.here hx rfl (hb hby d_prog_39_method_1_119) rfl k_) ?_
  obtain ⟨T2, h2, X2, e2, W2, st2⟩ := putF X1 hx hZ hown (host := "") (Or.inl (hw _ (List.mem_of_getElem? (i := 15) rfl))) Via.refl e1 Fn Ea (Or.inr ⟨(hw _ (List.mem_of_getElem? (i := 16) rfl)), rfl, hnm⟩) (hw _ (List.mem_of_getElem? (i := 6) rfl)) (ty := .int) (by decide) rfl rfl (g := (mkF m 120 #[.val (.ref a1), .val (.int (Int32.ofNat nn)), .val (.int (Int32.ofNat kk)), .val (.int vv), .val (.int (Int32.ofNat oo)), .val (.long q1), .second, .unset, .unset, .unset, .unset, .unset, .unset, .unset, .unset] [(.int (Int32.ofNat nn)), (.ref a1)])) rfl rfl (hb hby d_prog_39_method_1_120)
  have Fw2 := Fld.same W2 Fn
  have N3 := Fr.snoc X2 N0 g_a1
  refine GoOn.st st2 ?_
  refine GoOn.st (fun t_ k_ => XS.aloadN X2.here hx rfl (hb hby d_prog_39_method_1_123) rfl rfl k_) ?_
  show GoOn _ _ _ _ (T2.setTop (mkF m 124 #[.val (.ref a1), .val (.int (Int32.ofNat nn)), .val (.int (Int32.ofNat kk)), .val (.int vv), .val (.int (Int32.ofNat oo)), .val (.long q1), .second, .unset, .unset, .unset, .unset, .unset, .unset, .unset, .unset] [(.ref a1)]))
  refine GoOn.st (fun t_ k_ => XS.iloadN X2.here hx rfl (hb hby d_prog_39_method_1_124) rfl k_) ?_
  have F4 := (Exa.wr W2 Ea)
  have F5 := (Fld.other W2 Fepistasis (Or.inr (slot_ne (Or.inr (hw _ (List.mem_of_getElem? (i := 18) rfl))) (Or.inr (hw _ (List.mem_of_getElem? (i := 16) rfl))) (by decide) (t := .int) (t' := .int) (by decide) (by decide))))
  obtain ⟨T6, h6, X6, e6, W6, st6⟩ := putF X2 hx hZ hown (host := "") (Or.inl (hw _ (List.mem_of_getElem? (i := 17) rfl))) Via.refl e2 F5 F4 (Or.inr ⟨(hw _ (List.mem_of_getElem? (i := 18) rfl)), rfl, hnm⟩) (hw _ (List.mem_of_getElem? (i := 6) rfl)) (ty := .int) (by decide) rfl rfl (g := (mkF m 125 #[.val (.ref a1), .val (.int (Int32.ofNat nn)), .val (.int (Int32.ofNat kk)), .val (.int vv), .val (.int (Int32.ofNat oo)), .val (.long q1), .second, .unset, .unset, .unset, .unset, .unset, .unset, .unset, .unset] [(.int (Int32.ofNat kk)), (.ref a1)])) rfl rfl (hb hby d_prog_39_method_1_125)
  have Fw6 := Fld.same W6 F5
  have N7 := Fr.snoc X6 N3 g_a1
  refine GoOn.st st6 ?_
  refine GoOn.st (fun t_ k_ => XS.aloadN X6.here hx rfl (hb hby d_prog_39_method_1_128) rfl rfl k_) ?_
  refine GoOn.st (fun t_ k_ => XS.iload X6.here hx rfl (hb hby d_prog_39_method_1_129) rfl k_) ?_
  show GoOn _ _ _ _ (T6.setTop (mkF m 131 #[.val (.ref a1), .val (.int (Int32.ofNat nn)), .val (.int (Int32.ofNat kk)), .val (.int vv), .val (.int (Int32.ofNat oo)), .val (.long q1), .second, .unset, .unset, .unset, .unset, .unset, .unset, .unset, .unset] [(.int (Int32.ofNat oo)), (.ref a1)]))
  have F8 := (Exa.wr W6 F4)
  have F9 := (Fld.other W6 (Fld.other W2 Fobjectives (Or.inr (slot_ne (Or.inr (hw _ (List.mem_of_getElem? (i := 20) rfl))) (Or.inr (hw _ (List.mem_of_getElem? (i := 16) rfl))) (by decide) (t := .int) (t' := .int) (by decide) (by decide)))) (Or.inr (slot_ne (Or.inr (hw _ (List.mem_of_getElem? (i := 20) rfl))) (Or.inr (hw _ (List.mem_of_getElem? (i := 18) rfl))) (by decide) (t := .int) (t' := .int) (by decide) (by decide))))
  obtain ⟨T10, h10, X10, e10, W10, st10⟩ := putF X6 hx hZ hown (host := "") (Or.inl (hw _ (List.mem_of_getElem? (i := 19) rfl))) Via.refl e6 F9 F8 (Or.inr ⟨(hw _ (List.mem_of_getElem? (i := 20) rfl)), rfl, hnm⟩) (hw _ (List.mem_of_getElem? (i := 6) rfl)) (ty := .int) (by decide) rfl rfl (g := (mkF m 131 #[.val (.ref a1), .val (.int (Int32.ofNat nn)), .val (.int (Int32.ofNat kk)), .val (.int vv), .val (.int (Int32.ofNat oo)), .val (.long q1), .second, .unset, .unset, .unset, .unset, .unset, .unset, .unset, .unset] [(.int (Int32.ofNat oo)), (.ref a1)])) rfl rfl (hb hby d_prog_39_method_1_131)
  have Fw10 := Fld.same W10 F9
  have N11 := Fr.snoc X10 N7 g_a1
  refine GoOn.st st10 ?_
  refine GoOn.st (fun t_ k_ => XS.iloadN X10.here hx rfl (hb hby d_prog_39_method_1_134) rfl k_) ?_
  refine GoOn.st (fun t_ k_ => XS.iload X10.here hx rfl (hb hby d_prog_39_method_1_135) rfl k_) ?_
  refine GoOn.st (fun t_ k_ => XS.imul X10.here hx rfl (hb hby d_prog_39_method_1_137) rfl k_) ?_
  show GoOn _ _ _ _ (T10.setTop (mkF m 138 #[.val (.ref a1), .val (.int (Int32.ofNat nn)), .val (.int (Int32.ofNat kk)), .val (.int vv), .val (.int (Int32.ofNat oo)), .val (.long q1), .second, .unset, .unset, .unset, .unset, .unset, .unset, .unset, .unset] [(.int ((Int32.ofNat nn) * (Int32.ofNat oo)))]))
  refine GoOn.st (fun t_ k_ => XS.iloadN X10.here hx rfl (hb hby d_prog_39_method_1_138) rfl k_) ?_
  refine GoOn.st (fun t_ k_ => XS.iconst X10.here hx rfl (hb hby d_prog_39_method_1_139)  k_) ?_
  refine GoOn.st (fun t_ k_ => XS.iadd X10.here hx rfl (hb hby d_prog_39_method_1_140) rfl k_) ?_
  refine GoOn.st (fun t_ k_ => XS.ishl X10.here hx rfl (hb hby d_prog_39_method_1_141) rfl k_) ?_
  show GoOn _ _ _ _ (T10.setTop (mkF m 142 #[.val (.ref a1), .val (.int (Int32.ofNat nn)), .val (.int (Int32.ofNat kk)), .val (.int vv), .val (.int (Int32.ofNat oo)), .val (.long q1), .second, .unset, .unset, .unset, .unset, .unset, .unset, .unset, .unset] [(.int (((Int32.ofNat nn) * (Int32.ofNat oo)) <<< (((Int32.ofNat kk) + (1 : Int32)) &&& 31)))]))
  refine GoOn.st (fun t_ k_ => XS.istore X10.here hx rfl (hb hby d_prog_39_method_1_142) rfl (l' := #[.val (.ref a1), .val (.int (Int32.ofNat nn)), .val (.int (Int32.ofNat kk)), .val (.int vv), .val (.int (Int32.ofNat oo)), .val (.long q1), .second, .val (.int (((Int32.ofNat nn) * (Int32.ofNat oo)) <<< (((Int32.ofNat kk) + (1 : Int32)) &&& 31))), .unset, .unset, .unset, .unset, .unset, .unset, .unset]) rfl k_) ?_
  show GoOn _ _ _ _ (T10.setTop (mkF m 144 #[.val (.ref a1), .val (.int (Int32.ofNat nn)), .val (.int (Int32.ofNat kk)), .val (.int vv), .val (.int (Int32.ofNat oo)), .val (.long q1), .second, .val (.int (((Int32.ofNat nn) * (Int32.ofNat oo)) <<< (((Int32.ofNat kk) + (1 : Int32)) &&& 31))), .unset, .unset, .unset, .unset, .unset, .unset, .unset] []))
  rw [own_len sm]
  show GoOn _ _ _ _ (T10.setTop (mkF m 144 #[.val (.ref a1), .val (.int (Int32.ofNat nn)), .val (.int (Int32.ofNat kk)), .val (.int vv), .val (.int (Int32.ofNat oo)), .val (.long q1), .second, .val (.int (Int32.ofNat (nn * oo * own_W kk))), .unset, .unset, .unset, .unset, .unset, .unset, .unset] []))
  refine GoOn.st (fun t_ k_ => XS.aloadN X10.here hx rfl (hb hby d_prog_39_method_1_144) rfl rfl k_) ?_
  refine GoOn.st (fun t_ k_ => XS.iloadN X10.here hx rfl (hb hby d_prog_39_method_1_145) rfl k_) ?_
  refine GoOn.st (fun t_ k_ => XS.sipush X10.here hx rfl (hb hby d_prog_39_method_1_146)  k_) ?_
  by_cases hc12 : (256 : Int32) < vv
  · skip
    refine GoOn.st (fun t_ k_ => XS.icmpYes X10.here hx rfl (pc0 := 149) (pc' := 159) rfl (hb hby d_prog_39_method_1_149) rfl (tlt hc12).2.2.1 (by decide) (by decide) k_) ?_
    show GoOn _ _ _ _ (T10.setTop (mkF m 159 #[.val (.ref a1), .val (.int (Int32.ofNat nn)), .val (.int (Int32.ofNat kk)), .val (.int vv), .val (.int (Int32.ofNat oo)), .val (.long q1), .second, .val (.int (Int32.ofNat (nn * oo * own_W kk))), .unset, .unset, .unset, .unset, .unset, .unset, .unset] [(.ref a1)]))
    refine GoOn.st (fun t_ k_ => XS.aconstNull X10.here hx rfl (hb hby d_prog_39_method_1_159)  k_) ?_
    have F13 := (Exa.wr W10 F8)
    have F14 := (Fld.other W10 (Fld.other W6 (Fld.other W2 Fbt (Or.inr (slot_ne (Or.inr (hw _ (List.mem_of_getElem? (i := 23) rfl))) (Or.inr (hw _ (List.mem_of_getElem? (i := 16) rfl))) (by decide) (t := (.array .byte)) (t' := .int) (by decide) (by decide)))) (Or.inr (slot_ne (Or.inr (hw _ (List.mem_of_getElem? (i := 23) rfl))) (Or.inr (hw _ (List.mem_of_getElem? (i := 18) rfl))) (by decide) (t := (.array .byte)) (t' := .int) (by decide) (by decide)))) (Or.inr (slot_ne (Or.inr (hw _ (List.mem_of_getElem? (i := 23) rfl))) (Or.inr (hw _ (List.mem_of_getElem? (i := 20) rfl))) (by decide) (t := (.array .byte)) (t' := .int) (by decide) (by decide))))
    obtain ⟨T15, h15, X15, e15, W15, st15⟩ := putF X10 hx hZ hown (host := "") (Or.inl (hw _ (List.mem_of_getElem? (i := 22) rfl))) Via.refl e10 F14 F13 (Or.inr ⟨(hw _ (List.mem_of_getElem? (i := 23) rfl)), rfl, hnm⟩) (hw _ (List.mem_of_getElem? (i := 6) rfl)) (ty := (.array .byte)) (by decide) rfl rfl (g := (mkF m 160 #[.val (.ref a1), .val (.int (Int32.ofNat nn)), .val (.int (Int32.ofNat kk)), .val (.int vv), .val (.int (Int32.ofNat oo)), .val (.long q1), .second, .val (.int (Int32.ofNat (nn * oo * own_W kk))), .unset, .unset, .unset, .unset, .unset, .unset, .unset] [.null, (.ref a1)])) rfl rfl (hb hby d_prog_39_method_1_160)
    have Fw15 := Fld.same W15 F14
    have N16 := Fr.snoc X15 N11 g_a1
    refine GoOn.st st15 ?_
    refine GoOn.st (fun t_ k_ => XS.aloadN X15.here hx rfl (hb hby d_prog_39_method_1_163) rfl rfl k_) ?_
    refine GoOn.st (fun t_ k_ => XS.iloadN X15.here hx rfl (hb hby d_prog_39_method_1_164) rfl k_) ?_
    show GoOn _ _ _ _ (T15.setTop (mkF m 165 #[.val (.ref a1), .val (.int (Int32.ofNat nn)), .val (.int (Int32.ofNat kk)), .val (.int vv), .val (.int (Int32.ofNat oo)), .val (.long q1), .second, .val (.int (Int32.ofNat (nn * oo * own_W kk))), .unset, .unset, .unset, .unset, .unset, .unset, .unset] [(.int vv), (.ref a1)]))
    refine GoOn.st (fun t_ k_ => XS.sipush X15.here hx rfl (hb hby d_prog_39_method_1_165)  k_) ?_
    refine GoOn.st (fun t_ k_ => XS.icmpYes X15.here hx rfl (pc0 := 168) (pc' := 175) rfl (hb hby d_prog_39_method_1_168) rfl (tlt hc12).2.2.1 (by decide) (by decide) k_) ?_
    refine GoOn.st (fun t_ k_ => XS.iload X15.here hx rfl (hb hby d_prog_39_method_1_175) rfl k_) ?_
    obtain ⟨T17, h17, k17, X17, e17, E17, A17, st17⟩ := newP X15 hx hZ (hw _ (List.mem_of_getElem? (i := 82) rfl)) e15 (g := (mkF m 177 #[.val (.ref a1), .val (.int (Int32.ofNat nn)), .val (.int (Int32.ofNat kk)), .val (.int vv), .val (.int (Int32.ofNat oo)), .val (.long q1), .second, .val (.int (Int32.ofNat (nn * oo * own_W kk))), .unset, .unset, .unset, .unset, .unset, .unset, .unset] [(.int (Int32.ofNat (nn * oo * own_W kk))), (.ref a1)])) rfl (hb hby d_prog_39_method_1_177) rfl (fun q => absurd ((own_lt (b := 0) (by have := own_len_in sm; omega) (by decide)).mp q) (Nat.not_lt_zero _)) (cap := 384) (by rw [own_clamp (by have := own_len_in sm; omega)]; exact own_len_in sm) (by decide) (by decide) (by decide)
    obtain ⟨b17, g17⟩ : ∃ z, z = h15.size := ⟨_, rfl⟩
    rw [← g17] at A17 st17
    have ne_a1_b17 : a1 ≠ b17 := Nat.ne_of_lt (Nat.lt_of_lt_of_le (Exa.wr W15 F13).lt (Nat.le_of_eq g17.symm))
    have g_b17 : n0 ≤ b17 := Nat.le_trans (Nat.le_trans (Nat.le_trans (Nat.le_trans (Nat.le_trans Z0 (Keep.of_wr W2).1) (Keep.of_wr W6).1) (Keep.of_wr W10).1) (Keep.of_wr W15).1) (Nat.le_of_eq g17.symm)
    have sz_b17 : h0.size ≤ b17 := Nat.le_trans (((((Keep.refl h0 [a1]).wr W2 (Or.inl (List.mem_of_getElem? (i := 0) rfl))).wr W6 (Or.inl (List.mem_of_getElem? (i := 0) rfl))).wr W10 (Or.inl (List.mem_of_getElem? (i := 0) rfl))).wr W15 (Or.inl (List.mem_of_getElem? (i := 0) rfl))).1 (Nat.le_of_eq g17.symm)
    have V17 : Arv Z h17 b17 k17 .int (Int32.ofNat (nn * oo * own_W kk)) [] (.int (0 : Int32)) := (Arv.new A17 (fun q => absurd ((own_lt (b := 0) (by have := own_len_in sm; omega) (by decide)).mp q) (Nat.not_lt_zero _))).pad (pad_rep [] _ 0)
    refine GoOn.st st17 ?_
    show GoOn _ _ _ _ (T17.setTop (mkF m 179 #[.val (.ref a1), .val (.int (Int32.ofNat nn)), .val (.int (Int32.ofNat kk)), .val (.int vv), .val (.int (Int32.ofNat oo)), .val (.long q1), .second, .val (.int (Int32.ofNat (nn * oo * own_W kk))), .unset, .unset, .unset, .unset, .unset, .unset, .unset] [(.ref b17), (.ref a1)]))
    have F18 := ((Exa.wr W15 F13).ext E17)
    have F19 := ((Fld.other W15 (Fld.other W10 (Fld.other W6 (Fld.other W2 Fit (Or.inr (slot_ne (Or.inr (hw _ (List.mem_of_getElem? (i := 25) rfl))) (Or.inr (hw _ (List.mem_of_getElem? (i := 16) rfl))) (by decide) (t := (.array .int)) (t' := .int) (by decide) (by decide)))) (Or.inr (slot_ne (Or.inr (hw _ (List.mem_of_getElem? (i := 25) rfl))) (Or.inr (hw _ (List.mem_of_getElem? (i := 18) rfl))) (by decide) (t := (.array .int)) (t' := .int) (by decide) (by decide)))) (Or.inr (slot_ne (Or.inr (hw _ (List.mem_of_getElem? (i := 25) rfl))) (Or.inr (hw _ (List.mem_of_getElem? (i := 20) rfl))) (by decide) (t := (.array .int)) (t' := .int) (by decide) (by decide)))) (Or.inr (slot_ne (Or.inr (hw _ (List.mem_of_getElem? (i := 25) rfl))) (Or.inr (hw _ (List.mem_of_getElem? (i := 23) rfl))) (by decide) (t := (.array .int)) (t' := (.array .byte)) (by decide) (by decide)))).ext E17)
    obtain ⟨T20, h20, X20, e20, W20, st20⟩ := putF X17 hx hZ hown (host := "") (Or.inl (hw _ (List.mem_of_getElem? (i := 24) rfl))) Via.refl e17 F19 F18 (Or.inr ⟨(hw _ (List.mem_of_getElem? (i := 25) rfl)), rfl, hnm⟩) (hw _ (List.mem_of_getElem? (i := 6) rfl)) (ty := (.array .int)) (by decide) rfl rfl (g := (mkF m 179 #[.val (.ref a1), .val (.int (Int32.ofNat nn)), .val (.int (Int32.ofNat kk)), .val (.int vv), .val (.int (Int32.ofNat oo)), .val (.long q1), .second, .val (.int (Int32.ofNat (nn * oo * own_W kk))), .unset, .unset, .unset, .unset, .unset, .unset, .unset] [(.ref b17), (.ref a1)])) rfl rfl (hb hby d_prog_39_method_1_179)
    have Fw20 := Fld.same W20 F19
    have N21 := Fr.snoc X20 N16 g_a1
    refine GoOn.st st20 ?_
    obtain ⟨T22, h22, X22, e22, E22, A22, D22, -, st22⟩ := newO X20 hx hZ hown (hw _ (List.mem_of_getElem? (i := 26) rfl)) (hw _ (List.mem_of_getElem? (i := 27) rfl)) (hw _ (List.mem_of_getElem? (i := 28) rfl)) e20 (g := (mkF m 182 #[.val (.ref a1), .val (.int (Int32.ofNat nn)), .val (.int (Int32.ofNat kk)), .val (.int vv), .val (.int (Int32.ofNat oo)), .val (.long q1), .second, .val (.int (Int32.ofNat (nn * oo * own_W kk))), .unset, .unset, .unset, .unset, .unset, .unset, .unset] [])) rfl (hb hby d_prog_39_method_1_182) (by decide) (by decide)
    obtain ⟨b22, g22⟩ : ∃ z, z = h20.size := ⟨_, rfl⟩
    rw [← g22] at A22 D22 st22
    have ne_a1_b22 : a1 ≠ b22 := Nat.ne_of_lt (Nat.lt_of_lt_of_le (Exa.wr W20 F18).lt (Nat.le_of_eq g22.symm))
    have ne_b17_b22 : b17 ≠ b22 := Nat.ne_of_lt (Nat.lt_of_lt_of_le (Arv.other V17 W20 (Ne.symm ne_a1_b17)).lt (Nat.le_of_eq g22.symm))
    have g_b22 : n0 ≤ b22 := Nat.le_trans (Nat.le_trans (Nat.le_trans (Nat.le_trans (Nat.le_trans (Nat.le_trans (Nat.le_trans Z0 (Keep.of_wr W2).1) (Keep.of_wr W6).1) (Keep.of_wr W10).1) (Keep.of_wr W15).1) E17.1) (Keep.of_wr W20).1) (Nat.le_of_eq g22.symm)
    have sz_b22 : h0.size ≤ b22 := Nat.le_trans (((((((Keep.refl h0 [a1]).wr W2 (Or.inl (List.mem_of_getElem? (i := 0) rfl))).wr W6 (Or.inl (List.mem_of_getElem? (i := 0) rfl))).wr W10 (Or.inl (List.mem_of_getElem? (i := 0) rfl))).wr W15 (Or.inl (List.mem_of_getElem? (i := 0) rfl))).ext E17).wr W20 (Or.inl (List.mem_of_getElem? (i := 0) rfl))).1 (Nat.le_of_eq g22.symm)
    have F_s0_b22 : Fld Z h22 b22 "com/example/frontwise/frontwise/model/RandomStream" "s0" "J" (.long (0 : Int64)) := D22 (Or.inl (hw _ (List.mem_of_getElem? (i := 40) rfl))) (ty := .long) (by decide)
    have F_s1_b22 : Fld Z h22 b22 "com/example/frontwise/frontwise/model/RandomStream" "s1" "J" (.long (0 : Int64)) := D22 (Or.inl (hw _ (List.mem_of_getElem? (i := 42) rfl))) (ty := .long) (by decide)
    have F_s2_b22 : Fld Z h22 b22 "com/example/frontwise/frontwise/model/RandomStream" "s2" "J" (.long (0 : Int64)) := D22 (Or.inl (hw _ (List.mem_of_getElem? (i := 44) rfl))) (ty := .long) (by decide)
    have F_s3_b22 : Fld Z h22 b22 "com/example/frontwise/frontwise/model/RandomStream" "s3" "J" (.long (0 : Int64)) := D22 (Or.inl (hw _ (List.mem_of_getElem? (i := 46) rfl))) (ty := .long) (by decide)
    refine GoOn.st st22 ?_
    refine GoOn.st (fun t_ k_ => XS.dup X22.here hx rfl (hb hby d_prog_39_method_1_185) rfl rfl k_) ?_
    refine GoOn.st (fun t_ k_ => XS.lload X22.here hx rfl (hb hby d_prog_39_method_1_186) rfl k_) ?_
    show GoOn _ _ _ _ (T22.setTop (mkF m 188 #[.val (.ref a1), .val (.int (Int32.ofNat nn)), .val (.int (Int32.ofNat kk)), .val (.int vv), .val (.int (Int32.ofNat oo)), .val (.long q1), .second, .val (.int (Int32.ofNat (nn * oo * own_W kk))), .unset, .unset, .unset, .unset, .unset, .unset, .unset] [(.long q1), (.ref b22), (.ref b22)]))
    refine GoOn.callC (W := 1) (argsL := [(.long q1)]) (rest := [(.ref b22)]) (a := b22) X22 hx hZ hown rfl (hw _ (List.mem_of_getElem? (i := 29) rfl)) (hw _ (List.mem_of_getElem? (i := 30) rfl)) (hw _ (List.mem_of_getElem? (i := 28) rfl)) (hw _ (List.mem_of_getElem? (i := 31) rfl)) (by decide) (rm_rinit l Z a0 hw b22 q1 h22 n0 A22 F_s0_b22 F_s1_b22 F_s2_b22 F_s3_b22 g_b22) e22 (by decide) (by decide) (by rw [hml]; rfl) pd_5 rfl rfl (Nat.le_of_eq rfl) (hb hby d_prog_39_method_1_188) (by decide) (by decide) ?_
    rintro _ T23 L23 X23 ⟨S23, rfl, N23q, K23, f23_0, f23_1, f23_2, f23_3, f23_4⟩
    have N23 := Fr.app N21 N23q
    refine GoOn.st (fun t_ k_ => XS.astore X23.here hx rfl (hb hby d_prog_39_method_1_191) rfl rfl (l' := #[.val (.ref a1), .val (.int (Int32.ofNat nn)), .val (.int (Int32.ofNat kk)), .val (.int vv), .val (.int (Int32.ofNat oo)), .val (.long q1), .second, .val (.int (Int32.ofNat (nn * oo * own_W kk))), .val (.ref b22), .unset, .unset, .unset, .unset, .unset, .unset]) rfl k_) ?_
    refine GoOn.st (fun t_ k_ => XS.iconst X23.here hx rfl (hb hby d_prog_39_method_1_193)  k_) ?_
    refine GoOn.st (fun t_ k_ => XS.istore X23.here hx rfl (hb hby d_prog_39_method_1_194) rfl (l' := #[.val (.ref a1), .val (.int (Int32.ofNat nn)), .val (.int (Int32.ofNat kk)), .val (.int vv), .val (.int (Int32.ofNat oo)), .val (.long q1), .second, .val (.int (Int32.ofNat (nn * oo * own_W kk))), .val (.ref b22), .val (.int (0 : Int32)), .unset, .unset, .unset, .unset, .unset]) rfl k_) ?_
    show GoOn _ _ _ _ (T23.setTop (mkF m 196 #[.val (.ref a1), .val (.int (Int32.ofNat nn)), .val (.int (Int32.ofNat kk)), .val (.int vv), .val (.int (Int32.ofNat oo)), .val (.long q1), .second, .val (.int (Int32.ofNat (nn * oo * own_W kk))), .val (.ref b22), .val (.int (0 : Int32)), .unset, .unset, .unset, .unset, .unset] []))
    show GoOn _ _ _ _ (T23.setTop (mkF m 196 #[.val (.ref a1), .val (.int (Int32.ofNat nn)), .val (.int (Int32.ofNat kk)), .val (.int vv), .val (.int (Int32.ofNat oo)), .val (.long q1), .second, .val (.int (Int32.ofNat (nn * oo * own_W kk))), .val (.ref b22), .val (.int (Int32.ofNat 0)), .unset, .unset, .unset, .unset, .unset] []))
    refine GoOn.st (fun t_ k_ => XS.iload X23.here hx rfl (hb hby d_prog_39_method_1_196) rfl k_) ?_
    refine GoOn.st (fun t_ k_ => XS.iload X23.here hx rfl (hb hby d_prog_39_method_1_198) rfl k_) ?_
    refine GoOn.st (fun t_ k_ => XS.icmpNo X23.here hx rfl (hb hby d_prog_39_method_1_200) rfl (tlt ((own_lt (a := 0) (by decide) (by have := sm.n8; have := sm.k3; have := sm.o3; omega)).mpr (by have := sm.o2; omega))).2.1 k_) ?_
    refine GoOn.st (fun t_ k_ => XS.iconst X23.here hx rfl (hb hby d_prog_39_method_1_203)  k_) ?_
    show GoOn _ _ _ _ (T23.setTop (mkF m 204 #[.val (.ref a1), .val (.int (Int32.ofNat nn)), .val (.int (Int32.ofNat kk)), .val (.int vv), .val (.int (Int32.ofNat oo)), .val (.long q1), .second, .val (.int (Int32.ofNat (nn * oo * own_W kk))), .val (.ref b22), .val (.int (Int32.ofNat 0)), .unset, .unset, .unset, .unset, .unset] [(.int (0 : Int32))]))
    refine GoOn.st (fun t_ k_ => XS.istore X23.here hx rfl (hb hby d_prog_39_method_1_204) rfl (l' := #[.val (.ref a1), .val (.int (Int32.ofNat nn)), .val (.int (Int32.ofNat kk)), .val (.int vv), .val (.int (Int32.ofNat oo)), .val (.long q1), .second, .val (.int (Int32.ofNat (nn * oo * own_W kk))), .val (.ref b22), .val (.int (Int32.ofNat 0)), .val (.int (0 : Int32)), .unset, .unset, .unset, .unset]) rfl k_) ?_
    show GoOn _ _ _ _ (T23.setTop (mkF m 206 #[.val (.ref a1), .val (.int (Int32.ofNat nn)), .val (.int (Int32.ofNat kk)), .val (.int vv), .val (.int (Int32.ofNat oo)), .val (.long q1), .second, .val (.int (Int32.ofNat (nn * oo * own_W kk))), .val (.ref b22), .val (.int (Int32.ofNat 0)), .val (.int (Int32.ofNat 0)), .unset, .unset, .unset, .unset] []))
    refine GoOn.st (fun t_ k_ => XS.iload X23.here hx rfl (hb hby d_prog_39_method_1_206) rfl k_) ?_
    refine GoOn.st (fun t_ k_ => XS.iloadN X23.here hx rfl (hb hby d_prog_39_method_1_208) rfl k_) ?_
    refine GoOn.st (fun t_ k_ => XS.icmpNo X23.here hx rfl (hb hby d_prog_39_method_1_209) rfl (tlt ((own_lt (a := 0) (by decide) (by have := sm.n8; have := sm.k3; have := sm.o3; omega)).mpr sm.n1)).2.1 k_) ?_
    refine GoOn.st (fun t_ k_ => XS.aloadN X23.here hx rfl (hb hby d_prog_39_method_1_212) rfl rfl k_) ?_
    show GoOn _ _ _ _ (T23.setTop (mkF m 213 #[.val (.ref a1), .val (.int (Int32.ofNat nn)), .val (.int (Int32.ofNat kk)), .val (.int vv), .val (.int (Int32.ofNat oo)), .val (.long q1), .second, .val (.int (Int32.ofNat (nn * oo * own_W kk))), .val (.ref b22), .val (.int (Int32.ofNat 0)), .val (.int (Int32.ofNat 0)), .unset, .unset, .unset, .unset] [(.ref a1)]))
    refine GoOn.st (fun t_ k_ => XS.iload X23.here hx rfl (hb hby d_prog_39_method_1_213) rfl k_) ?_
    refine GoOn.st (fun t_ k_ => XS.iload X23.here hx rfl (hb hby d_prog_39_method_1_215) rfl k_) ?_
    show GoOn _ _ _ _ (T23.setTop (mkF m 217 #[.val (.ref a1), .val (.int (Int32.ofNat nn)), .val (.int (Int32.ofNat kk)), .val (.int vv), .val (.int (Int32.ofNat oo)), .val (.long q1), .second, .val (.int (Int32.ofNat (nn * oo * own_W kk))), .val (.ref b22), .val (.int (Int32.ofNat 0)), .val (.int (Int32.ofNat 0)), .unset, .unset, .unset, .unset] [(.int (Int32.ofNat 0)), (.int (Int32.ofNat 0)), (.ref a1)]))
    have F24 := (((Fld.other W20 ((Fld.other W15 Fw10 (Or.inr (slot_ne (Or.inr (hw _ (List.mem_of_getElem? (i := 20) rfl))) (Or.inr (hw _ (List.mem_of_getElem? (i := 23) rfl))) (by decide) (t := .int) (t' := (.array .byte)) (by decide) (by decide)))).ext E17) (Or.inr (slot_ne (Or.inr (hw _ (List.mem_of_getElem? (i := 20) rfl))) (Or.inr (hw _ (List.mem_of_getElem? (i := 25) rfl))) (by decide) (t := .int) (t' := (.array .int)) (by decide) (by decide)))).ext E22).keep K23 (ninS ne_a1_b22 nin0))
    have F25 := (((Fld.other W20 ((Fld.other W15 (Fld.other W10 Fw6 (Or.inr (slot_ne (Or.inr (hw _ (List.mem_of_getElem? (i := 18) rfl))) (Or.inr (hw _ (List.mem_of_getElem? (i := 20) rfl))) (by decide) (t := .int) (t' := .int) (by decide) (by decide)))) (Or.inr (slot_ne (Or.inr (hw _ (List.mem_of_getElem? (i := 18) rfl))) (Or.inr (hw _ (List.mem_of_getElem? (i := 23) rfl))) (by decide) (t := .int) (t' := (.array .byte)) (by decide) (by decide)))).ext E17) (Or.inr (slot_ne (Or.inr (hw _ (List.mem_of_getElem? (i := 18) rfl))) (Or.inr (hw _ (List.mem_of_getElem? (i := 25) rfl))) (by decide) (t := .int) (t' := (.array .int)) (by decide) (by decide)))).ext E22).keep K23 (ninS ne_a1_b22 nin0))
    have F27 := (((Exa.wr W20 F18).ext E22).keep K23)
    refine GoOn.callP (W := 0) (argsL := [(.int (Int32.ofNat 0)), (.int (Int32.ofNat 0))]) (rest := []) (a := a1) X23 hx hZ hown (hw _ (List.mem_of_getElem? (i := 47) rfl)) (hw _ (List.mem_of_getElem? (i := 48) rfl)) (Jvm.Kit.selects_private (by decide) (hw _ (List.mem_of_getElem? (i := 6) rfl)) (hw _ (List.mem_of_getElem? (i := 49) rfl)) (hw _ (List.mem_of_getElem? (i := 48) rfl))) (hw _ (List.mem_of_getElem? (i := 49) rfl)) (hw _ (List.mem_of_getElem? (i := 7) rfl)) (hw _ (List.mem_of_getElem? (i := 50) rfl)) (by decide) (rm_place l Z a0 hw a1 kk oo 0 0 T23.heap F24 F25 sm.k3 (by have := sm.o2; omega) (by decide) sm.o3) rfl F27.cell (by decide) (by decide) (by rw [hml]; rfl) pd_4 rfl rfl (Nat.le_of_eq rfl) (hb hby d_prog_39_method_1_217) (by decide) (by decide) ?_
    rintro _ T26 L26 X26 ⟨rfl, rfl, e26⟩
    rw [List.append_nil] at X26
    refine GoOn.st (fun t_ k_ => XS.istore X26.here hx rfl (hb hby d_prog_39_method_1_220) rfl (l' := #[.val (.ref a1), .val (.int (Int32.ofNat nn)), .val (.int (Int32.ofNat kk)), .val (.int vv), .val (.int (Int32.ofNat oo)), .val (.long q1), .second, .val (.int (Int32.ofNat (nn * oo * own_W kk))), .val (.ref b22), .val (.int (Int32.ofNat 0)), .val (.int (Int32.ofNat 0)), .val (.int (Int32.ofNat ((0 * oo + 0) * own_W kk))), .unset, .unset, .unset]) rfl k_) ?_
    refine GoOn.st (fun t_ k_ => XS.iconst X26.here hx rfl (hb hby d_prog_39_method_1_222)  k_) ?_
    refine GoOn.st (fun t_ k_ => XS.istore X26.here hx rfl (hb hby d_prog_39_method_1_223) rfl (l' := #[.val (.ref a1), .val (.int (Int32.ofNat nn)), .val (.int (Int32.ofNat kk)), .val (.int vv), .val (.int (Int32.ofNat oo)), .val (.long q1), .second, .val (.int (Int32.ofNat (nn * oo * own_W kk))), .val (.ref b22), .val (.int (Int32.ofNat 0)), .val (.int (Int32.ofNat 0)), .val (.int (Int32.ofNat ((0 * oo + 0) * own_W kk))), .val (.int (0 : Int32)), .unset, .unset]) rfl k_) ?_
    show GoOn _ _ _ _ (T26.setTop (mkF m 225 #[.val (.ref a1), .val (.int (Int32.ofNat nn)), .val (.int (Int32.ofNat kk)), .val (.int vv), .val (.int (Int32.ofNat oo)), .val (.long q1), .second, .val (.int (Int32.ofNat (nn * oo * own_W kk))), .val (.ref b22), .val (.int (Int32.ofNat 0)), .val (.int (Int32.ofNat 0)), .val (.int (Int32.ofNat ((0 * oo + 0) * own_W kk))), .val (.int (0 : Int32)), .unset, .unset] []))
    have F28 := (((Arv.other V17 W20 (Ne.symm ne_a1_b17)).ext E22).keep K23 (ninS ne_b17_b22 nin0))
    have hV : Arv Z T23.heap b17 k17 .int (Int32.ofNat (nn * oo * own_W kk)) (List.replicate 384 (.int 0)) (.int 0) := Arv.pad F28 (pad_rep [] _ 384)
    show GoOn _ _ _ _ (T26.setTop (mkF m 225 #[.val (.ref a1), .val (.int (Int32.ofNat nn)), .val (.int (Int32.ofNat kk)), .val (.int vv), .val (.int (Int32.ofNat oo)), .val (.long q1), .second, .val (.int (Int32.ofNat (nn * oo * own_W kk))), .val (.ref b22), .val (.int (Int32.ofNat 0)), .val (.int (Int32.ofNat 0)), .val (.int (Int32.ofNat ((0 * oo + 0) * own_W kk))), .val (.int (Int32.ofNat 0)), .unset, .unset] []))
    refine GoOn.st (fun t_ k_ => XS.iload X26.here hx rfl (hb hby d_prog_39_method_1_225) rfl k_) ?_
    refine GoOn.st (fun t_ k_ => XS.iconst X26.here hx rfl (hb hby d_prog_39_method_1_227)  k_) ?_
    refine GoOn.st (fun t_ k_ => XS.iloadN X26.here hx rfl (hb hby d_prog_39_method_1_228) rfl k_) ?_
    refine GoOn.st (fun t_ k_ => XS.iconst X26.here hx rfl (hb hby d_prog_39_method_1_229)  k_) ?_
    show GoOn _ _ _ _ (T26.setTop (mkF m 230 #[.val (.ref a1), .val (.int (Int32.ofNat nn)), .val (.int (Int32.ofNat kk)), .val (.int vv), .val (.int (Int32.ofNat oo)), .val (.long q1), .second, .val (.int (Int32.ofNat (nn * oo * own_W kk))), .val (.ref b22), .val (.int (Int32.ofNat 0)), .val (.int (Int32.ofNat 0)), .val (.int (Int32.ofNat ((0 * oo + 0) * own_W kk))), .val (.int (Int32.ofNat 0)), .unset, .unset] [(.int (1 : Int32)), (.int (Int32.ofNat kk)), (.int (1 : Int32)), (.int (Int32.ofNat 0))]))
    refine GoOn.st (fun t_ k_ => XS.iadd X26.here hx rfl (hb hby d_prog_39_method_1_230) rfl k_) ?_
    refine GoOn.st (fun t_ k_ => XS.ishl X26.here hx rfl (hb hby d_prog_39_method_1_231) rfl k_) ?_
    refine GoOn.st (fun t_ k_ => XS.icmpNo X26.here hx rfl (hb hby d_prog_39_method_1_232) rfl (tlt (by rw [own_shl1 sm.k3]; exact (own_lt (a := 0) (by decide) (by have := own_W_le sm.k3; omega)).mpr (by have := own_W_le sm.k3; omega))).2.1 k_) ?_
    refine GoOn.st (fun t_ k_ => XS.iload X26.here hx rfl (hb hby d_prog_39_method_1_235) rfl k_) ?_
    show GoOn _ _ _ _ (T26.setTop (mkF m 237 #[.val (.ref a1), .val (.int (Int32.ofNat nn)), .val (.int (Int32.ofNat kk)), .val (.int vv), .val (.int (Int32.ofNat oo)), .val (.long q1), .second, .val (.int (Int32.ofNat (nn * oo * own_W kk))), .val (.ref b22), .val (.int (Int32.ofNat 0)), .val (.int (Int32.ofNat 0)), .val (.int (Int32.ofNat ((0 * oo + 0) * own_W kk))), .val (.int (Int32.ofNat 0)), .unset, .unset] [(.int (Int32.ofNat ((0 * oo + 0) * own_W kk)))]))
    refine GoOn.st (fun t_ k_ => XS.iload X26.here hx rfl (hb hby d_prog_39_method_1_237) rfl k_) ?_
    show GoOn _ _ _ _ (T26.setTop (mkF m 239 #[.val (.ref a1), .val (.int (Int32.ofNat nn)), .val (.int (Int32.ofNat kk)), .val (.int vv), .val (.int (Int32.ofNat oo)), .val (.long q1), .second, .val (.int (Int32.ofNat (nn * oo * own_W kk))), .val (.ref b22), .val (.int (Int32.ofNat 0)), .val (.int (Int32.ofNat 0)), .val (.int (Int32.ofNat ((0 * oo + 0) * own_W kk))), .val (.int (Int32.ofNat 0)), .unset, .unset] [(.int (Int32.ofNat 0)), (.int (Int32.ofNat ((0 * oo + 0) * own_W kk)))]))
    refine GoOn.callS (W := 1) (argsL := [(.int (Int32.ofNat 0))]) (rest := [(.int (Int32.ofNat ((0 * oo + 0) * own_W kk)))]) X26 hx hZ hown (hw _ (List.mem_of_getElem? (i := 51) rfl)) (hw _ (List.mem_of_getElem? (i := 52) rfl)) (hw _ (List.mem_of_getElem? (i := 53) rfl)) (hw _ (List.mem_of_getElem? (i := 54) rfl)) (by decide) (rm_rev l Z a0 hw (Int32.ofNat 0) T23.heap) e26 (by decide) (by decide) (by rw [hml]; rfl) pd_0 rfl rfl (Nat.le_of_eq rfl) (hb hby d_prog_39_method_1_239) (by decide) (by decide) ?_
    rintro _ T29 L29 X29 ⟨z29, rfl, rfl, e29⟩
    rw [List.append_nil] at X29
    refine GoOn.st (fun t_ k_ => XS.bipush X29.here hx rfl (hb hby d_prog_39_method_1_242)  k_) ?_
    refine GoOn.st (fun t_ k_ => XS.iloadN X29.here hx rfl (hb hby d_prog_39_method_1_244) rfl k_) ?_
    refine GoOn.st (fun t_ k_ => XS.iconst X29.here hx rfl (hb hby d_prog_39_method_1_245)  k_) ?_
    show GoOn _ _ _ _ (T29.setTop (mkF m 246 #[.val (.ref a1), .val (.int (Int32.ofNat nn)), .val (.int (Int32.ofNat kk)), .val (.int vv), .val (.int (Int32.ofNat oo)), .val (.long q1), .second, .val (.int (Int32.ofNat (nn * oo * own_W kk))), .val (.ref b22), .val (.int (Int32.ofNat 0)), .val (.int (Int32.ofNat 0)), .val (.int (Int32.ofNat ((0 * oo + 0) * own_W kk))), .val (.int (Int32.ofNat 0)), .unset, .unset] [(.int (1 : Int32)), (.int (Int32.ofNat kk)), (.int (32 : Int32)), (.int z29), (.int (Int32.ofNat ((0 * oo + 0) * own_W kk)))]))
    refine GoOn.st (fun t_ k_ => XS.iadd X29.here hx rfl (hb hby d_prog_39_method_1_246) rfl k_) ?_
    refine GoOn.st (fun t_ k_ => XS.isub X29.here hx rfl (hb hby d_prog_39_method_1_247) rfl k_) ?_
    refine GoOn.st (fun t_ k_ => XS.iushr X29.here hx rfl (hb hby d_prog_39_method_1_248) rfl k_) ?_
    refine GoOn.st (fun t_ k_ => XS.ior X29.here hx rfl (hb hby d_prog_39_method_1_249) rfl k_) ?_
    show GoOn _ _ _ _ (T29.setTop (mkF m 250 #[.val (.ref a1), .val (.int (Int32.ofNat nn)), .val (.int (Int32.ofNat kk)), .val (.int vv), .val (.int (Int32.ofNat oo)), .val (.long q1), .second, .val (.int (Int32.ofNat (nn * oo * own_W kk))), .val (.ref b22), .val (.int (Int32.ofNat 0)), .val (.int (Int32.ofNat 0)), .val (.int (Int32.ofNat ((0 * oo + 0) * own_W kk))), .val (.int (Int32.ofNat 0)), .unset, .unset] [(.int ((Int32.ofNat ((0 * oo + 0) * own_W kk)) ||| (((z29).toUInt32 >>> (((32 : Int32) - ((Int32.ofNat kk) + (1 : Int32))) &&& 31).toUInt32).toInt32)))]))
    refine GoOn.st (fun t_ k_ => XS.istore X29.here hx rfl (hb hby d_prog_39_method_1_250) rfl (l' := #[.val (.ref a1), .val (.int (Int32.ofNat nn)), .val (.int (Int32.ofNat kk)), .val (.int vv), .val (.int (Int32.ofNat oo)), .val (.long q1), .second, .val (.int (Int32.ofNat (nn * oo * own_W kk))), .val (.ref b22), .val (.int (Int32.ofNat 0)), .val (.int (Int32.ofNat 0)), .val (.int (Int32.ofNat ((0 * oo + 0) * own_W kk))), .val (.int (Int32.ofNat 0)), .val (.int ((Int32.ofNat ((0 * oo + 0) * own_W kk)) ||| (((z29).toUInt32 >>> (((32 : Int32) - ((Int32.ofNat kk) + (1 : Int32))) &&& 31).toUInt32).toInt32))), .unset]) rfl k_) ?_
    show GoOn _ _ _ _ (T29.setTop (mkF m 252 #[.val (.ref a1), .val (.int (Int32.ofNat nn)), .val (.int (Int32.ofNat kk)), .val (.int vv), .val (.int (Int32.ofNat oo)), .val (.long q1), .second, .val (.int (Int32.ofNat (nn * oo * own_W kk))), .val (.ref b22), .val (.int (Int32.ofNat 0)), .val (.int (Int32.ofNat 0)), .val (.int (Int32.ofNat ((0 * oo + 0) * own_W kk))), .val (.int (Int32.ofNat 0)), .val (.int ((Int32.ofNat ((0 * oo + 0) * own_W kk)) ||| (((z29).toUInt32 >>> (((32 : Int32) - ((Int32.ofNat kk) + (1 : Int32))) &&& 31).toUInt32).toInt32))), .unset] []))
    obtain ⟨i, hi1, hi2, hie⟩ := own_index sm (o := 0) (l := 0) (by have := sm.o2; omega) sm.n1 z29
    rw [hie]
    show GoOn _ _ _ _ (T29.setTop (mkF m 252 #[.val (.ref a1), .val (.int (Int32.ofNat nn)), .val (.int (Int32.ofNat kk)), .val (.int vv), .val (.int (Int32.ofNat oo)), .val (.long q1), .second, .val (.int (Int32.ofNat (nn * oo * own_W kk))), .val (.ref b22), .val (.int (Int32.ofNat 0)), .val (.int (Int32.ofNat 0)), .val (.int (Int32.ofNat ((0 * oo + 0) * own_W kk))), .val (.int (Int32.ofNat 0)), .val (.int (Int32.ofNat i)), .unset] []))
    refine GoOn.st (fun t_ k_ => XS.aload X29.here hx rfl (hb hby d_prog_39_method_1_252) rfl rfl k_) ?_
    refine GoOn.st (fun t_ k_ => XS.iloadN X29.here hx rfl (hb hby d_prog_39_method_1_254) rfl k_) ?_
    show GoOn _ _ _ _ (T29.setTop (mkF m 255 #[.val (.ref a1), .val (.int (Int32.ofNat nn)), .val (.int (Int32.ofNat kk)), .val (.int vv), .val (.int (Int32.ofNat oo)), .val (.long q1), .second, .val (.int (Int32.ofNat (nn * oo * own_W kk))), .val (.ref b22), .val (.int (Int32.ofNat 0)), .val (.int (Int32.ofNat 0)), .val (.int (Int32.ofNat ((0 * oo + 0) * own_W kk))), .val (.int (Int32.ofNat 0)), .val (.int (Int32.ofNat i)), .unset] [(.int vv), (.ref b22)]))
    refine GoOn.callV (W := 0) (argsL := [(.int vv)]) (rest := []) (a := b22) X29 hx hZ hown (hw _ (List.mem_of_getElem? (i := 62) rfl)) (hw _ (List.mem_of_getElem? (i := 63) rfl)) (notFace_of_selects (args := #[]) (mvT hZ (hw _ (List.mem_of_getElem? (i := 65) rfl)))) (hw _ (List.mem_of_getElem? (i := 65) rfl)) (hw _ (List.mem_of_getElem? (i := 64) rfl)) (hw _ (List.mem_of_getElem? (i := 28) rfl)) (hw _ (List.mem_of_getElem? (i := 66) rfl)) (by decide) (rm_nint l Z a0 hw b22 vv S23 T23.heap n0 f23_0 f23_1 f23_2 f23_3 f23_4 g_b22 hp0 hnz hb0 hb1) e29 f23_0 (by decide) (by decide) (by rw [hml]; rfl) pd_0 rfl rfl (Nat.le_of_eq rfl) (hb hby d_prog_39_method_1_255) (by decide) (by decide) ?_
    rintro _ T30 L30 X30 ⟨z30, S30, rfl, N30q, K30, f30_0, f30_1, f30_2, f30_3, f30_4⟩
    have N30 := Fr.app N23 N30q
    refine GoOn.st (fun t_ k_ => XS.istore X30.here hx rfl (hb hby d_prog_39_method_1_258) rfl (l' := #[.val (.ref a1), .val (.int (Int32.ofNat nn)), .val (.int (Int32.ofNat kk)), .val (.int vv), .val (.int (Int32.ofNat oo)), .val (.long q1), .second, .val (.int (Int32.ofNat (nn * oo * own_W kk))), .val (.ref b22), .val (.int (Int32.ofNat 0)), .val (.int (Int32.ofNat 0)), .val (.int (Int32.ofNat ((0 * oo + 0) * own_W kk))), .val (.int (Int32.ofNat 0)), .val (.int (Int32.ofNat i)), .val (.int z30)]) rfl k_) ?_
    refine GoOn.st (fun t_ k_ => XS.aloadN X30.here hx rfl (hb hby d_prog_39_method_1_260) rfl rfl k_) ?_
    have F31 := ((((Fld.other W20 (Fw15.ext E17) (Or.inr (slot_ne (Or.inr (hw _ (List.mem_of_getElem? (i := 23) rfl))) (Or.inr (hw _ (List.mem_of_getElem? (i := 25) rfl))) (by decide) (t := (.array .byte)) (t' := (.array .int)) (by decide) (by decide)))).ext E22).keep K23 (ninS ne_a1_b22 nin0)).keep K30 (ninS ne_a1_b22 nin0))
    obtain ⟨T32, X32, e32, st32⟩ := getF X30 hx hZ hown (host := "") (Or.inl (hw _ (List.mem_of_getElem? (i := 22) rfl))) Via.refl rfl F31 (g := (mkF m 261 #[.val (.ref a1), .val (.int (Int32.ofNat nn)), .val (.int (Int32.ofNat kk)), .val (.int vv), .val (.int (Int32.ofNat oo)), .val (.long q1), .second, .val (.int (Int32.ofNat (nn * oo * own_W kk))), .val (.ref b22), .val (.int (Int32.ofNat 0)), .val (.int (Int32.ofNat 0)), .val (.int (Int32.ofNat ((0 * oo + 0) * own_W kk))), .val (.int (Int32.ofNat 0)), .val (.int (Int32.ofNat i)), .val (.int z30)] [(.ref a1)])) rfl rfl (hb hby d_prog_39_method_1_261)
    refine GoOn.st st32 ?_
    show GoOn _ _ _ _ (T32.setTop (mkF m 264 #[.val (.ref a1), .val (.int (Int32.ofNat nn)), .val (.int (Int32.ofNat kk)), .val (.int vv), .val (.int (Int32.ofNat oo)), .val (.long q1), .second, .val (.int (Int32.ofNat (nn * oo * own_W kk))), .val (.ref b22), .val (.int (Int32.ofNat 0)), .val (.int (Int32.ofNat 0)), .val (.int (Int32.ofNat ((0 * oo + 0) * own_W kk))), .val (.int (Int32.ofNat 0)), .val (.int (Int32.ofNat i)), .val (.int z30)] [.null]))
    refine GoOn.st (fun t_ k_ => XS.ifnullYes X32.here hx rfl (pc0 := 264) (pc' := 280) rfl (hb hby d_prog_39_method_1_264) rfl (by decide) (by decide) k_) ?_
    refine GoOn.st (fun t_ k_ => XS.aloadN X32.here hx rfl (hb hby d_prog_39_method_1_280) rfl rfl k_) ?_
    have F33 := (((Fw20.ext E22).keep K23 (ninS ne_a1_b22 nin0)).keep K30 (ninS ne_a1_b22 nin0))
    obtain ⟨T34, X34, e34, st34⟩ := getF X32 hx hZ hown (host := "") (Or.inl (hw _ (List.mem_of_getElem? (i := 24) rfl))) Via.refl e32 F33 (g := (mkF m 281 #[.val (.ref a1), .val (.int (Int32.ofNat nn)), .val (.int (Int32.ofNat kk)), .val (.int vv), .val (.int (Int32.ofNat oo)), .val (.long q1), .second, .val (.int (Int32.ofNat (nn * oo * own_W kk))), .val (.ref b22), .val (.int (Int32.ofNat 0)), .val (.int (Int32.ofNat 0)), .val (.int (Int32.ofNat ((0 * oo + 0) * own_W kk))), .val (.int (Int32.ofNat 0)), .val (.int (Int32.ofNat i)), .val (.int z30)] [(.ref a1)])) rfl rfl (hb hby d_prog_39_method_1_281)
    refine GoOn.st st34 ?_
    refine GoOn.st (fun t_ k_ => XS.iload X34.here hx rfl (hb hby d_prog_39_method_1_284) rfl k_) ?_
    show GoOn _ _ _ _ (T34.setTop (mkF m 286 #[.val (.ref a1), .val (.int (Int32.ofNat nn)), .val (.int (Int32.ofNat kk)), .val (.int vv), .val (.int (Int32.ofNat oo)), .val (.long q1), .second, .val (.int (Int32.ofNat (nn * oo * own_W kk))), .val (.ref b22), .val (.int (Int32.ofNat 0)), .val (.int (Int32.ofNat 0)), .val (.int (Int32.ofNat ((0 * oo + 0) * own_W kk))), .val (.int (Int32.ofNat 0)), .val (.int (Int32.ofNat i)), .val (.int z30)] [(.int (Int32.ofNat i)), (.ref b17)]))
    refine GoOn.st (fun t_ k_ => XS.iload X34.here hx rfl (hb hby d_prog_39_method_1_286) rfl k_) ?_
    have F35 := (hV.keep K30 (ninS ne_b17_b22 nin0))
    obtain ⟨T36, h36, X36, e36, W36, V36, st36⟩ := own_iastore X34 hx hZ e34 F35 (j := (Int32.ofNat i)) ⟨fun q => absurd ((own_lt (b := 0) (by omega) (by decide)).mp q) (Nat.not_lt_zero i), (own_lt (by omega) (by have := own_len_in sm; omega)).mpr hi1⟩ i (own_clamp (by omega)) (by rw [List.length_replicate]; exact hi2) (x := z30) (Ls := #[.val (.ref a1), .val (.int (Int32.ofNat nn)), .val (.int (Int32.ofNat kk)), .val (.int vv), .val (.int (Int32.ofNat oo)), .val (.long q1), .second, .val (.int (Int32.ofNat (nn * oo * own_W kk))), .val (.ref b22), .val (.int (Int32.ofNat 0)), .val (.int (Int32.ofNat 0)), .val (.int (Int32.ofNat ((0 * oo + 0) * own_W kk))), .val (.int (Int32.ofNat 0)), .val (.int (Int32.ofNat i)), .val (.int z30)]) (rest := []) (hb hby d_prog_39_method_1_288)
    replace V36 : Arv Z h36 b17 k17 .int (Int32.ofNat (nn * oo * own_W kk)) (List.set (List.replicate 384 (.int 0)) i (.int z30)) (.int (0 : Int32)) := V36
    have N37 := Fr.snoc X36 N30 g_b17
    refine GoOn.st st36 ?_
    refine GoOn.st (fun t_ k_ => XS.iinc X36.here hx rfl (hb hby d_prog_39_method_1_289) rfl (l' := #[.val (.ref a1), .val (.int (Int32.ofNat nn)), .val (.int (Int32.ofNat kk)), .val (.int vv), .val (.int (Int32.ofNat oo)), .val (.long q1), .second, .val (.int (Int32.ofNat (nn * oo * own_W kk))), .val (.ref b22), .val (.int (Int32.ofNat 0)), .val (.int (Int32.ofNat 0)), .val (.int (Int32.ofNat ((0 * oo + 0) * own_W kk))), .val (.int ((Int32.ofNat 0) + (1 : Int32))), .val (.int (Int32.ofNat i)), .val (.int z30)]) rfl k_) ?_
    refine GoOn.st (fun t_ k_ => XS.goto X36.here hx rfl (pc0 := 292) (pc' := 225) rfl (hb hby d_prog_39_method_1_292) (by decide) (by decide) k_) ?_
    show GoOn _ _ _ _ (T36.setTop (mkF m 225 #[.val (.ref a1), .val (.int (Int32.ofNat nn)), .val (.int (Int32.ofNat kk)), .val (.int vv), .val (.int (Int32.ofNat oo)), .val (.long q1), .second, .val (.int (Int32.ofNat (nn * oo * own_W kk))), .val (.ref b22), .val (.int (Int32.ofNat 0)), .val (.int (Int32.ofNat 0)), .val (.int (Int32.ofNat ((0 * oo + 0) * own_W kk))), .val (.int ((Int32.ofNat 0) + (1 : Int32))), .val (.int (Int32.ofNat i)), .val (.int z30)] []))
    rw [own_succ 0]
    exact sg_mi hw a1 b22 b17 k17 nn kk oo vv q1 h0 n0 (rmc := 0) (rms := 0) sm hx hby hml hret hlk hown hnm hZ g_a1 g_b22 g_b17 sz_b22 sz_b17 ne_a1_b22 ne_a1_b17 ne_b17_b22 hp0 hnz hb0 hb1 (oo * nn) (own_W kk - 1) 0 0 (0 + 1) S30 _ _ _ _ _ _ (by rw [Nat.sub_zero, Nat.add_zero]) (by have := own_W_le sm.k3; omega) (by have := sm.o2; omega) sm.n1 X36 e36 N37 (((((((((((Keep.refl h0 [a1]).wr W2 (Or.inl (List.mem_of_getElem? (i := 0) rfl))).wr W6 (Or.inl (List.mem_of_getElem? (i := 0) rfl))).wr W10 (Or.inl (List.mem_of_getElem? (i := 0) rfl))).wr W15 (Or.inl (List.mem_of_getElem? (i := 0) rfl))).ext E17).wr W20 (Or.inl (List.mem_of_getElem? (i := 0) rfl))).ext E22).trans K23 (allS (Or.inr sz_b22) all0)).trans K30 (allS (Or.inr sz_b22) all0)).wr W36 (Or.inr sz_b17)) (Exa.wr W36 (F27.keep K30)) (Fld.other W36 ((((Fld.other W20 ((Fld.other W15 (Fld.other W10 (Fld.other W6 Fw2 (Or.inr (slot_ne (Or.inr (hw _ (List.mem_of_getElem? (i := 16) rfl))) (Or.inr (hw _ (List.mem_of_getElem? (i := 18) rfl))) (by decide) (t := .int) (t' := .int) (by decide) (by decide)))) (Or.inr (slot_ne (Or.inr (hw _ (List.mem_of_getElem? (i := 16) rfl))) (Or.inr (hw _ (List.mem_of_getElem? (i := 20) rfl))) (by decide) (t := .int) (t' := .int) (by decide) (by decide)))) (Or.inr (slot_ne (Or.inr (hw _ (List.mem_of_getElem? (i := 16) rfl))) (Or.inr (hw _ (List.mem_of_getElem? (i := 23) rfl))) (by decide) (t := .int) (t' := (.array .byte)) (by decide) (by decide)))).ext E17) (Or.inr (slot_ne (Or.inr (hw _ (List.mem_of_getElem? (i := 16) rfl))) (Or.inr (hw _ (List.mem_of_getElem? (i := 25) rfl))) (by decide) (t := .int) (t' := (.array .int)) (by decide) (by decide)))).ext E22).keep K23 (ninS ne_a1_b22 nin0)).keep K30 (ninS ne_a1_b22 nin0)) (Or.inl ne_a1_b17)) (Fld.other W36 (F25.keep K30 (ninS ne_a1_b22 nin0)) (Or.inl ne_a1_b17)) (Fld.other W36 (F24.keep K30 (ninS ne_a1_b22 nin0)) (Or.inl ne_a1_b17)) (Fld.other W36 F33 (Or.inl ne_a1_b17)) (Fld.other W36 F31 (Or.inl ne_a1_b17)) (Exa.wr W36 f30_0) (Fld.other W36 f30_1 (Or.inl (Ne.symm ne_b17_b22))) (Fld.other W36 f30_2 (Or.inl (Ne.symm ne_b17_b22))) (Fld.other W36 f30_3 (Or.inl (Ne.symm ne_b17_b22))) (Fld.other W36 f30_4 (Or.inl (Ne.symm ne_b17_b22))) V36 (by rw [List.length_set, List.length_replicate])
  · skip
    refine GoOn.st (fun t_ k_ => XS.icmpNo X10.here hx rfl (hb hby d_prog_39_method_1_149) rfl (flt hc12).2.2.1 k_) ?_
    show GoOn _ _ _ _ (T10.setTop (mkF m 152 #[.val (.ref a1), .val (.int (Int32.ofNat nn)), .val (.int (Int32.ofNat kk)), .val (.int vv), .val (.int (Int32.ofNat oo)), .val (.long q1), .second, .val (.int (Int32.ofNat (nn * oo * own_W kk))), .unset, .unset, .unset, .unset, .unset, .unset, .unset] [(.ref a1)]))
    refine GoOn.st (fun t_ k_ => XS.iload X10.here hx rfl (hb hby d_prog_39_method_1_152) rfl k_) ?_
    obtain ⟨T38, h38, k38, X38, e38, E38, A38, st38⟩ := newP X10 hx hZ (hw _ (List.mem_of_getElem? (i := 21) rfl)) e10 (g := (mkF m 154 #[.val (.ref a1), .val (.int (Int32.ofNat nn)), .val (.int (Int32.ofNat kk)), .val (.int vv), .val (.int (Int32.ofNat oo)), .val (.long q1), .second, .val (.int (Int32.ofNat (nn * oo * own_W kk))), .unset, .unset, .unset, .unset, .unset, .unset, .unset] [(.int (Int32.ofNat (nn * oo * own_W kk))), (.ref a1)])) rfl (hb hby d_prog_39_method_1_154) rfl (fun q => absurd ((own_lt (b := 0) (by have := own_len_in sm; omega) (by decide)).mp q) (Nat.not_lt_zero _)) (cap := 384) (by rw [own_clamp (by have := own_len_in sm; omega)]; exact own_len_in sm) (by decide) (by decide) (by decide)
    obtain ⟨b38, g38⟩ : ∃ z, z = h10.size := ⟨_, rfl⟩
    rw [← g38] at A38 st38
    have ne_a1_b38 : a1 ≠ b38 := Nat.ne_of_lt (Nat.lt_of_lt_of_le (Exa.wr W10 F8).lt (Nat.le_of_eq g38.symm))
    have g_b38 : n0 ≤ b38 := Nat.le_trans (Nat.le_trans (Nat.le_trans (Nat.le_trans Z0 (Keep.of_wr W2).1) (Keep.of_wr W6).1) (Keep.of_wr W10).1) (Nat.le_of_eq g38.symm)
    have sz_b38 : h0.size ≤ b38 := Nat.le_trans ((((Keep.refl h0 [a1]).wr W2 (Or.inl (List.mem_of_getElem? (i := 0) rfl))).wr W6 (Or.inl (List.mem_of_getElem? (i := 0) rfl))).wr W10 (Or.inl (List.mem_of_getElem? (i := 0) rfl))).1 (Nat.le_of_eq g38.symm)
    have V38 : Arv Z h38 b38 k38 .byte (Int32.ofNat (nn * oo * own_W kk)) [] (.int (0 : Int32)) := (Arv.new A38 (fun q => absurd ((own_lt (b := 0) (by have := own_len_in sm; omega) (by decide)).mp q) (Nat.not_lt_zero _))).pad (pad_rep [] _ 0)
    refine GoOn.st st38 ?_
    refine GoOn.st (fun t_ k_ => XS.goto X38.here hx rfl (pc0 := 156) (pc' := 160) rfl (hb hby d_prog_39_method_1_156) (by decide) (by decide) k_) ?_
    have F39 := ((Exa.wr W10 F8).ext E38)
    have F40 := ((Fld.other W10 (Fld.other W6 (Fld.other W2 Fbt (Or.inr (slot_ne (Or.inr (hw _ (List.mem_of_getElem? (i := 23) rfl))) (Or.inr (hw _ (List.mem_of_getElem? (i := 16) rfl))) (by decide) (t := (.array .byte)) (t' := .int) (by decide) (by decide)))) (Or.inr (slot_ne (Or.inr (hw _ (List.mem_of_getElem? (i := 23) rfl))) (Or.inr (hw _ (List.mem_of_getElem? (i := 18) rfl))) (by decide) (t := (.array .byte)) (t' := .int) (by decide) (by decide)))) (Or.inr (slot_ne (Or.inr (hw _ (List.mem_of_getElem? (i := 23) rfl))) (Or.inr (hw _ (List.mem_of_getElem? (i := 20) rfl))) (by decide) (t := (.array .byte)) (t' := .int) (by decide) (by decide)))).ext E38)
    obtain ⟨T41, h41, X41, e41, W41, st41⟩ := putF X38 hx hZ hown (host := "") (Or.inl (hw _ (List.mem_of_getElem? (i := 22) rfl))) Via.refl e38 F40 F39 (Or.inr ⟨(hw _ (List.mem_of_getElem? (i := 23) rfl)), rfl, hnm⟩) (hw _ (List.mem_of_getElem? (i := 6) rfl)) (ty := (.array .byte)) (by decide) rfl rfl (g := (mkF m 160 #[.val (.ref a1), .val (.int (Int32.ofNat nn)), .val (.int (Int32.ofNat kk)), .val (.int vv), .val (.int (Int32.ofNat oo)), .val (.long q1), .second, .val (.int (Int32.ofNat (nn * oo * own_W kk))), .unset, .unset, .unset, .unset, .unset, .unset, .unset] [(.ref b38), (.ref a1)])) rfl rfl (hb hby d_prog_39_method_1_160)
    have Fw41 := Fld.same W41 F40
    have N42 := Fr.snoc X41 N11 g_a1
    refine GoOn.st st41 ?_
    show GoOn _ _ _ _ (T41.setTop (mkF m 163 #[.val (.ref a1), .val (.int (Int32.ofNat nn)), .val (.int (Int32.ofNat kk)), .val (.int vv), .val (.int (Int32.ofNat oo)), .val (.long q1), .second, .val (.int (Int32.ofNat (nn * oo * own_W kk))), .unset, .unset, .unset, .unset, .unset, .unset, .unset] []))
    refine GoOn.st (fun t_ k_ => XS.aloadN X41.here hx rfl (hb hby d_prog_39_method_1_163) rfl rfl k_) ?_
    refine GoOn.st (fun t_ k_ => XS.iloadN X41.here hx rfl (hb hby d_prog_39_method_1_164) rfl k_) ?_
    refine GoOn.st (fun t_ k_ => XS.sipush X41.here hx rfl (hb hby d_prog_39_method_1_165)  k_) ?_
    refine GoOn.st (fun t_ k_ => XS.icmpNo X41.here hx rfl (hb hby d_prog_39_method_1_168) rfl (flt hc12).2.2.1 k_) ?_
    show GoOn _ _ _ _ (T41.setTop (mkF m 171 #[.val (.ref a1), .val (.int (Int32.ofNat nn)), .val (.int (Int32.ofNat kk)), .val (.int vv), .val (.int (Int32.ofNat oo)), .val (.long q1), .second, .val (.int (Int32.ofNat (nn * oo * own_W kk))), .unset, .unset, .unset, .unset, .unset, .unset, .unset] [(.ref a1)]))
    refine GoOn.st (fun t_ k_ => XS.aconstNull X41.here hx rfl (hb hby d_prog_39_method_1_171)  k_) ?_
    refine GoOn.st (fun t_ k_ => XS.goto X41.here hx rfl (pc0 := 172) (pc' := 179) rfl (hb hby d_prog_39_method_1_172) (by decide) (by decide) k_) ?_
    have F43 := (Exa.wr W41 F39)
    have F44 := (Fld.other W41 ((Fld.other W10 (Fld.other W6 (Fld.other W2 Fit (Or.inr (slot_ne (Or.inr (hw _ (List.mem_of_getElem? (i := 25) rfl))) (Or.inr (hw _ (List.mem_of_getElem? (i := 16) rfl))) (by decide) (t := (.array .int)) (t' := .int) (by decide) (by decide)))) (Or.inr (slot_ne (Or.inr (hw _ (List.mem_of_getElem? (i := 25) rfl))) (Or.inr (hw _ (List.mem_of_getElem? (i := 18) rfl))) (by decide) (t := (.array .int)) (t' := .int) (by decide) (by decide)))) (Or.inr (slot_ne (Or.inr (hw _ (List.mem_of_getElem? (i := 25) rfl))) (Or.inr (hw _ (List.mem_of_getElem? (i := 20) rfl))) (by decide) (t := (.array .int)) (t' := .int) (by decide) (by decide)))).ext E38) (Or.inr (slot_ne (Or.inr (hw _ (List.mem_of_getElem? (i := 25) rfl))) (Or.inr (hw _ (List.mem_of_getElem? (i := 23) rfl))) (by decide) (t := (.array .int)) (t' := (.array .byte)) (by decide) (by decide))))
    obtain ⟨T45, h45, X45, e45, W45, st45⟩ := putF X41 hx hZ hown (host := "") (Or.inl (hw _ (List.mem_of_getElem? (i := 24) rfl))) Via.refl e41 F44 F43 (Or.inr ⟨(hw _ (List.mem_of_getElem? (i := 25) rfl)), rfl, hnm⟩) (hw _ (List.mem_of_getElem? (i := 6) rfl)) (ty := (.array .int)) (by decide) rfl rfl (g := (mkF m 179 #[.val (.ref a1), .val (.int (Int32.ofNat nn)), .val (.int (Int32.ofNat kk)), .val (.int vv), .val (.int (Int32.ofNat oo)), .val (.long q1), .second, .val (.int (Int32.ofNat (nn * oo * own_W kk))), .unset, .unset, .unset, .unset, .unset, .unset, .unset] [.null, (.ref a1)])) rfl rfl (hb hby d_prog_39_method_1_179)
    have Fw45 := Fld.same W45 F44
    have N46 := Fr.snoc X45 N42 g_a1
    refine GoOn.st st45 ?_
    obtain ⟨T47, h47, X47, e47, E47, A47, D47, -, st47⟩ := newO X45 hx hZ hown (hw _ (List.mem_of_getElem? (i := 26) rfl)) (hw _ (List.mem_of_getElem? (i := 27) rfl)) (hw _ (List.mem_of_getElem? (i := 28) rfl)) e45 (g := (mkF m 182 #[.val (.ref a1), .val (.int (Int32.ofNat nn)), .val (.int (Int32.ofNat kk)), .val (.int vv), .val (.int (Int32.ofNat oo)), .val (.long q1), .second, .val (.int (Int32.ofNat (nn * oo * own_W kk))), .unset, .unset, .unset, .unset, .unset, .unset, .unset] [])) rfl (hb hby d_prog_39_method_1_182) (by decide) (by decide)
    obtain ⟨b47, g47⟩ : ∃ z, z = h45.size := ⟨_, rfl⟩
    rw [← g47] at A47 D47 st47
    have ne_a1_b47 : a1 ≠ b47 := Nat.ne_of_lt (Nat.lt_of_lt_of_le (Exa.wr W45 F43).lt (Nat.le_of_eq g47.symm))
    have ne_b38_b47 : b38 ≠ b47 := Nat.ne_of_lt (Nat.lt_of_lt_of_le (Arv.other (Arv.other V38 W41 (Ne.symm ne_a1_b38)) W45 (Ne.symm ne_a1_b38)).lt (Nat.le_of_eq g47.symm))
    have g_b47 : n0 ≤ b47 := Nat.le_trans (Nat.le_trans (Nat.le_trans (Nat.le_trans (Nat.le_trans (Nat.le_trans (Nat.le_trans Z0 (Keep.of_wr W2).1) (Keep.of_wr W6).1) (Keep.of_wr W10).1) E38.1) (Keep.of_wr W41).1) (Keep.of_wr W45).1) (Nat.le_of_eq g47.symm)
    have sz_b47 : h0.size ≤ b47 := Nat.le_trans (((((((Keep.refl h0 [a1]).wr W2 (Or.inl (List.mem_of_getElem? (i := 0) rfl))).wr W6 (Or.inl (List.mem_of_getElem? (i := 0) rfl))).wr W10 (Or.inl (List.mem_of_getElem? (i := 0) rfl))).ext E38).wr W41 (Or.inl (List.mem_of_getElem? (i := 0) rfl))).wr W45 (Or.inl (List.mem_of_getElem? (i := 0) rfl))).1 (Nat.le_of_eq g47.symm)
    have F_s0_b47 : Fld Z h47 b47 "com/example/frontwise/frontwise/model/RandomStream" "s0" "J" (.long (0 : Int64)) := D47 (Or.inl (hw _ (List.mem_of_getElem? (i := 40) rfl))) (ty := .long) (by decide)
    have F_s1_b47 : Fld Z h47 b47 "com/example/frontwise/frontwise/model/RandomStream" "s1" "J" (.long (0 : Int64)) := D47 (Or.inl (hw _ (List.mem_of_getElem? (i := 42) rfl))) (ty := .long) (by decide)
    have F_s2_b47 : Fld Z h47 b47 "com/example/frontwise/frontwise/model/RandomStream" "s2" "J" (.long (0 : Int64)) := D47 (Or.inl (hw _ (List.mem_of_getElem? (i := 44) rfl))) (ty := .long) (by decide)
    have F_s3_b47 : Fld Z h47 b47 "com/example/frontwise/frontwise/model/RandomStream" "s3" "J" (.long (0 : Int64)) := D47 (Or.inl (hw _ (List.mem_of_getElem? (i := 46) rfl))) (ty := .long) (by decide)
    refine GoOn.st st47 ?_
    show GoOn _ _ _ _ (T47.setTop (mkF m 185 #[.val (.ref a1), .val (.int (Int32.ofNat nn)), .val (.int (Int32.ofNat kk)), .val (.int vv), .val (.int (Int32.ofNat oo)), .val (.long q1), .second, .val (.int (Int32.ofNat (nn * oo * own_W kk))), .unset, .unset, .unset, .unset, .unset, .unset, .unset] [(.ref b47)]))
    refine GoOn.st (fun t_ k_ => XS.dup X47.here hx rfl (hb hby d_prog_39_method_1_185) rfl rfl k_) ?_
    refine GoOn.st (fun t_ k_ => XS.lload X47.here hx rfl (hb hby d_prog_39_method_1_186) rfl k_) ?_
    show GoOn _ _ _ _ (T47.setTop (mkF m 188 #[.val (.ref a1), .val (.int (Int32.ofNat nn)), .val (.int (Int32.ofNat kk)), .val (.int vv), .val (.int (Int32.ofNat oo)), .val (.long q1), .second, .val (.int (Int32.ofNat (nn * oo * own_W kk))), .unset, .unset, .unset, .unset, .unset, .unset, .unset] [(.long q1), (.ref b47), (.ref b47)]))
    refine GoOn.callC (W := 1) (argsL := [(.long q1)]) (rest := [(.ref b47)]) (a := b47) X47 hx hZ hown rfl (hw _ (List.mem_of_getElem? (i := 29) rfl)) (hw _ (List.mem_of_getElem? (i := 30) rfl)) (hw _ (List.mem_of_getElem? (i := 28) rfl)) (hw _ (List.mem_of_getElem? (i := 31) rfl)) (by decide) (rm_rinit l Z a0 hw b47 q1 h47 n0 A47 F_s0_b47 F_s1_b47 F_s2_b47 F_s3_b47 g_b47) e47 (by decide) (by decide) (by rw [hml]; rfl) pd_5 rfl rfl (Nat.le_of_eq rfl) (hb hby d_prog_39_method_1_188) (by decide) (by decide) ?_
    rintro _ T48 L48 X48 ⟨S48, rfl, N48q, K48, f48_0, f48_1, f48_2, f48_3, f48_4⟩
    have N48 := Fr.app N46 N48q
    refine GoOn.st (fun t_ k_ => XS.astore X48.here hx rfl (hb hby d_prog_39_method_1_191) rfl rfl (l' := #[.val (.ref a1), .val (.int (Int32.ofNat nn)), .val (.int (Int32.ofNat kk)), .val (.int vv), .val (.int (Int32.ofNat oo)), .val (.long q1), .second, .val (.int (Int32.ofNat (nn * oo * own_W kk))), .val (.ref b47), .unset, .unset, .unset, .unset, .unset, .unset]) rfl k_) ?_
    refine GoOn.st (fun t_ k_ => XS.iconst X48.here hx rfl (hb hby d_prog_39_method_1_193)  k_) ?_
    refine GoOn.st (fun t_ k_ => XS.istore X48.here hx rfl (hb hby d_prog_39_method_1_194) rfl (l' := #[.val (.ref a1), .val (.int (Int32.ofNat nn)), .val (.int (Int32.ofNat kk)), .val (.int vv), .val (.int (Int32.ofNat oo)), .val (.long q1), .second, .val (.int (Int32.ofNat (nn * oo * own_W kk))), .val (.ref b47), .val (.int (0 : Int32)), .unset, .unset, .unset, .unset, .unset]) rfl k_) ?_
    show GoOn _ _ _ _ (T48.setTop (mkF m 196 #[.val (.ref a1), .val (.int (Int32.ofNat nn)), .val (.int (Int32.ofNat kk)), .val (.int vv), .val (.int (Int32.ofNat oo)), .val (.long q1), .second, .val (.int (Int32.ofNat (nn * oo * own_W kk))), .val (.ref b47), .val (.int (0 : Int32)), .unset, .unset, .unset, .unset, .unset] []))
    show GoOn _ _ _ _ (T48.setTop (mkF m 196 #[.val (.ref a1), .val (.int (Int32.ofNat nn)), .val (.int (Int32.ofNat kk)), .val (.int vv), .val (.int (Int32.ofNat oo)), .val (.long q1), .second, .val (.int (Int32.ofNat (nn * oo * own_W kk))), .val (.ref b47), .val (.int (Int32.ofNat 0)), .unset, .unset, .unset, .unset, .unset] []))
    refine GoOn.st (fun t_ k_ => XS.iload X48.here hx rfl (hb hby d_prog_39_method_1_196) rfl k_) ?_
    refine GoOn.st (fun t_ k_ => XS.iload X48.here hx rfl (hb hby d_prog_39_method_1_198) rfl k_) ?_
    refine GoOn.st (fun t_ k_ => XS.icmpNo X48.here hx rfl (hb hby d_prog_39_method_1_200) rfl (tlt ((own_lt (a := 0) (by decide) (by have := sm.n8; have := sm.k3; have := sm.o3; omega)).mpr (by have := sm.o2; omega))).2.1 k_) ?_
    refine GoOn.st (fun t_ k_ => XS.iconst X48.here hx rfl (hb hby d_prog_39_method_1_203)  k_) ?_
    show GoOn _ _ _ _ (T48.setTop (mkF m 204 #[.val (.ref a1), .val (.int (Int32.ofNat nn)), .val (.int (Int32.ofNat kk)), .val (.int vv), .val (.int (Int32.ofNat oo)), .val (.long q1), .second, .val (.int (Int32.ofNat (nn * oo * own_W kk))), .val (.ref b47), .val (.int (Int32.ofNat 0)), .unset, .unset, .unset, .unset, .unset] [(.int (0 : Int32))]))
    refine GoOn.st (fun t_ k_ => XS.istore X48.here hx rfl (hb hby d_prog_39_method_1_204) rfl (l' := #[.val (.ref a1), .val (.int (Int32.ofNat nn)), .val (.int (Int32.ofNat kk)), .val (.int vv), .val (.int (Int32.ofNat oo)), .val (.long q1), .second, .val (.int (Int32.ofNat (nn * oo * own_W kk))), .val (.ref b47), .val (.int (Int32.ofNat 0)), .val (.int (0 : Int32)), .unset, .unset, .unset, .unset]) rfl k_) ?_
    show GoOn _ _ _ _ (T48.setTop (mkF m 206 #[.val (.ref a1), .val (.int (Int32.ofNat nn)), .val (.int (Int32.ofNat kk)), .val (.int vv), .val (.int (Int32.ofNat oo)), .val (.long q1), .second, .val (.int (Int32.ofNat (nn * oo * own_W kk))), .val (.ref b47), .val (.int (Int32.ofNat 0)), .val (.int (Int32.ofNat 0)), .unset, .unset, .unset, .unset] []))
    refine GoOn.st (fun t_ k_ => XS.iload X48.here hx rfl (hb hby d_prog_39_method_1_206) rfl k_) ?_
    refine GoOn.st (fun t_ k_ => XS.iloadN X48.here hx rfl (hb hby d_prog_39_method_1_208) rfl k_) ?_
    refine GoOn.st (fun t_ k_ => XS.icmpNo X48.here hx rfl (hb hby d_prog_39_method_1_209) rfl (tlt ((own_lt (a := 0) (by decide) (by have := sm.n8; have := sm.k3; have := sm.o3; omega)).mpr sm.n1)).2.1 k_) ?_
    refine GoOn.st (fun t_ k_ => XS.aloadN X48.here hx rfl (hb hby d_prog_39_method_1_212) rfl rfl k_) ?_
    show GoOn _ _ _ _ (T48.setTop (mkF m 213 #[.val (.ref a1), .val (.int (Int32.ofNat nn)), .val (.int (Int32.ofNat kk)), .val (.int vv), .val (.int (Int32.ofNat oo)), .val (.long q1), .second, .val (.int (Int32.ofNat (nn * oo * own_W kk))), .val (.ref b47), .val (.int (Int32.ofNat 0)), .val (.int (Int32.ofNat 0)), .unset, .unset, .unset, .unset] [(.ref a1)]))
    refine GoOn.st (fun t_ k_ => XS.iload X48.here hx rfl (hb hby d_prog_39_method_1_213) rfl k_) ?_
    refine GoOn.st (fun t_ k_ => XS.iload X48.here hx rfl (hb hby d_prog_39_method_1_215) rfl k_) ?_
    show GoOn _ _ _ _ (T48.setTop (mkF m 217 #[.val (.ref a1), .val (.int (Int32.ofNat nn)), .val (.int (Int32.ofNat kk)), .val (.int vv), .val (.int (Int32.ofNat oo)), .val (.long q1), .second, .val (.int (Int32.ofNat (nn * oo * own_W kk))), .val (.ref b47), .val (.int (Int32.ofNat 0)), .val (.int (Int32.ofNat 0)), .unset, .unset, .unset, .unset] [(.int (Int32.ofNat 0)), (.int (Int32.ofNat 0)), (.ref a1)]))
    have F49 := (((Fld.other W45 (Fld.other W41 (Fw10.ext E38) (Or.inr (slot_ne (Or.inr (hw _ (List.mem_of_getElem? (i := 20) rfl))) (Or.inr (hw _ (List.mem_of_getElem? (i := 23) rfl))) (by decide) (t := .int) (t' := (.array .byte)) (by decide) (by decide)))) (Or.inr (slot_ne (Or.inr (hw _ (List.mem_of_getElem? (i := 20) rfl))) (Or.inr (hw _ (List.mem_of_getElem? (i := 25) rfl))) (by decide) (t := .int) (t' := (.array .int)) (by decide) (by decide)))).ext E47).keep K48 (ninS ne_a1_b47 nin0))
    have F50 := (((Fld.other W45 (Fld.other W41 ((Fld.other W10 Fw6 (Or.inr (slot_ne (Or.inr (hw _ (List.mem_of_getElem? (i := 18) rfl))) (Or.inr (hw _ (List.mem_of_getElem? (i := 20) rfl))) (by decide) (t := .int) (t' := .int) (by decide) (by decide)))).ext E38) (Or.inr (slot_ne (Or.inr (hw _ (List.mem_of_getElem? (i := 18) rfl))) (Or.inr (hw _ (List.mem_of_getElem? (i := 23) rfl))) (by decide) (t := .int) (t' := (.array .byte)) (by decide) (by decide)))) (Or.inr (slot_ne (Or.inr (hw _ (List.mem_of_getElem? (i := 18) rfl))) (Or.inr (hw _ (List.mem_of_getElem? (i := 25) rfl))) (by decide) (t := .int) (t' := (.array .int)) (by decide) (by decide)))).ext E47).keep K48 (ninS ne_a1_b47 nin0))
    have F52 := (((Exa.wr W45 F43).ext E47).keep K48)
    refine GoOn.callP (W := 0) (argsL := [(.int (Int32.ofNat 0)), (.int (Int32.ofNat 0))]) (rest := []) (a := a1) X48 hx hZ hown (hw _ (List.mem_of_getElem? (i := 47) rfl)) (hw _ (List.mem_of_getElem? (i := 48) rfl)) (Jvm.Kit.selects_private (by decide) (hw _ (List.mem_of_getElem? (i := 6) rfl)) (hw _ (List.mem_of_getElem? (i := 49) rfl)) (hw _ (List.mem_of_getElem? (i := 48) rfl))) (hw _ (List.mem_of_getElem? (i := 49) rfl)) (hw _ (List.mem_of_getElem? (i := 7) rfl)) (hw _ (List.mem_of_getElem? (i := 50) rfl)) (by decide) (rm_place l Z a0 hw a1 kk oo 0 0 T48.heap F49 F50 sm.k3 (by have := sm.o2; omega) (by decide) sm.o3) rfl F52.cell (by decide) (by decide) (by rw [hml]; rfl) pd_4 rfl rfl (Nat.le_of_eq rfl) (hb hby d_prog_39_method_1_217) (by decide) (by decide) ?_
    rintro _ T51 L51 X51 ⟨rfl, rfl, e51⟩
    rw [List.append_nil] at X51
    refine GoOn.st (fun t_ k_ => XS.istore X51.here hx rfl (hb hby d_prog_39_method_1_220) rfl (l' := #[.val (.ref a1), .val (.int (Int32.ofNat nn)), .val (.int (Int32.ofNat kk)), .val (.int vv), .val (.int (Int32.ofNat oo)), .val (.long q1), .second, .val (.int (Int32.ofNat (nn * oo * own_W kk))), .val (.ref b47), .val (.int (Int32.ofNat 0)), .val (.int (Int32.ofNat 0)), .val (.int (Int32.ofNat ((0 * oo + 0) * own_W kk))), .unset, .unset, .unset]) rfl k_) ?_
    refine GoOn.st (fun t_ k_ => XS.iconst X51.here hx rfl (hb hby d_prog_39_method_1_222)  k_) ?_
    refine GoOn.st (fun t_ k_ => XS.istore X51.here hx rfl (hb hby d_prog_39_method_1_223) rfl (l' := #[.val (.ref a1), .val (.int (Int32.ofNat nn)), .val (.int (Int32.ofNat kk)), .val (.int vv), .val (.int (Int32.ofNat oo)), .val (.long q1), .second, .val (.int (Int32.ofNat (nn * oo * own_W kk))), .val (.ref b47), .val (.int (Int32.ofNat 0)), .val (.int (Int32.ofNat 0)), .val (.int (Int32.ofNat ((0 * oo + 0) * own_W kk))), .val (.int (0 : Int32)), .unset, .unset]) rfl k_) ?_
    show GoOn _ _ _ _ (T51.setTop (mkF m 225 #[.val (.ref a1), .val (.int (Int32.ofNat nn)), .val (.int (Int32.ofNat kk)), .val (.int vv), .val (.int (Int32.ofNat oo)), .val (.long q1), .second, .val (.int (Int32.ofNat (nn * oo * own_W kk))), .val (.ref b47), .val (.int (Int32.ofNat 0)), .val (.int (Int32.ofNat 0)), .val (.int (Int32.ofNat ((0 * oo + 0) * own_W kk))), .val (.int (0 : Int32)), .unset, .unset] []))
    have F53 := (((Arv.other (Arv.other V38 W41 (Ne.symm ne_a1_b38)) W45 (Ne.symm ne_a1_b38)).ext E47).keep K48 (ninS ne_b38_b47 nin0))
    have hV : Arv Z T48.heap b38 k38 .byte (Int32.ofNat (nn * oo * own_W kk)) (List.replicate 384 (.int 0)) (.int 0) := Arv.pad F53 (pad_rep [] _ 384)
    show GoOn _ _ _ _ (T51.setTop (mkF m 225 #[.val (.ref a1), .val (.int (Int32.ofNat nn)), .val (.int (Int32.ofNat kk)), .val (.int vv), .val (.int (Int32.ofNat oo)), .val (.long q1), .second, .val (.int (Int32.ofNat (nn * oo * own_W kk))), .val (.ref b47), .val (.int (Int32.ofNat 0)), .val (.int (Int32.ofNat 0)), .val (.int (Int32.ofNat ((0 * oo + 0) * own_W kk))), .val (.int (Int32.ofNat 0)), .unset, .unset] []))
    refine GoOn.st (fun t_ k_ => XS.iload X51.here hx rfl (hb hby d_prog_39_method_1_225) rfl k_) ?_
    refine GoOn.st (fun t_ k_ => XS.iconst X51.here hx rfl (hb hby d_prog_39_method_1_227)  k_) ?_
    refine GoOn.st (fun t_ k_ => XS.iloadN X51.here hx rfl (hb hby d_prog_39_method_1_228) rfl k_) ?_
    refine GoOn.st (fun t_ k_ => XS.iconst X51.here hx rfl (hb hby d_prog_39_method_1_229)  k_) ?_
    show GoOn _ _ _ _ (T51.setTop (mkF m 230 #[.val (.ref a1), .val (.int (Int32.ofNat nn)), .val (.int (Int32.ofNat kk)), .val (.int vv), .val (.int (Int32.ofNat oo)), .val (.long q1), .second, .val (.int (Int32.ofNat (nn * oo * own_W kk))), .val (.ref b47), .val (.int (Int32.ofNat 0)), .val (.int (Int32.ofNat 0)), .val (.int (Int32.ofNat ((0 * oo + 0) * own_W kk))), .val (.int (Int32.ofNat 0)), .unset, .unset] [(.int (1 : Int32)), (.int (Int32.ofNat kk)), (.int (1 : Int32)), (.int (Int32.ofNat 0))]))
    refine GoOn.st (fun t_ k_ => XS.iadd X51.here hx rfl (hb hby d_prog_39_method_1_230) rfl k_) ?_
    refine GoOn.st (fun t_ k_ => XS.ishl X51.here hx rfl (hb hby d_prog_39_method_1_231) rfl k_) ?_
    refine GoOn.st (fun t_ k_ => XS.icmpNo X51.here hx rfl (hb hby d_prog_39_method_1_232) rfl (tlt (by rw [own_shl1 sm.k3]; exact (own_lt (a := 0) (by decide) (by have := own_W_le sm.k3; omega)).mpr (by have := own_W_le sm.k3; omega))).2.1 k_) ?_
    refine GoOn.st (fun t_ k_ => XS.iload X51.here hx rfl (hb hby d_prog_39_method_1_235) rfl k_) ?_
    show GoOn _ _ _ _ (T51.setTop (mkF m 237 #[.val (.ref a1), .val (.int (Int32.ofNat nn)), .val (.int (Int32.ofNat kk)), .val (.int vv), .val (.int (Int32.ofNat oo)), .val (.long q1), .second, .val (.int (Int32.ofNat (nn * oo * own_W kk))), .val (.ref b47), .val (.int (Int32.ofNat 0)), .val (.int (Int32.ofNat 0)), .val (.int (Int32.ofNat ((0 * oo + 0) * own_W kk))), .val (.int (Int32.ofNat 0)), .unset, .unset] [(.int (Int32.ofNat ((0 * oo + 0) * own_W kk)))]))
    refine GoOn.st (fun t_ k_ => XS.iload X51.here hx rfl (hb hby d_prog_39_method_1_237) rfl k_) ?_
    show GoOn _ _ _ _ (T51.setTop (mkF m 239 #[.val (.ref a1), .val (.int (Int32.ofNat nn)), .val (.int (Int32.ofNat kk)), .val (.int vv), .val (.int (Int32.ofNat oo)), .val (.long q1), .second, .val (.int (Int32.ofNat (nn * oo * own_W kk))), .val (.ref b47), .val (.int (Int32.ofNat 0)), .val (.int (Int32.ofNat 0)), .val (.int (Int32.ofNat ((0 * oo + 0) * own_W kk))), .val (.int (Int32.ofNat 0)), .unset, .unset] [(.int (Int32.ofNat 0)), (.int (Int32.ofNat ((0 * oo + 0) * own_W kk)))]))
    refine GoOn.callS (W := 1) (argsL := [(.int (Int32.ofNat 0))]) (rest := [(.int (Int32.ofNat ((0 * oo + 0) * own_W kk)))]) X51 hx hZ hown (hw _ (List.mem_of_getElem? (i := 51) rfl)) (hw _ (List.mem_of_getElem? (i := 52) rfl)) (hw _ (List.mem_of_getElem? (i := 53) rfl)) (hw _ (List.mem_of_getElem? (i := 54) rfl)) (by decide) (rm_rev l Z a0 hw (Int32.ofNat 0) T48.heap) e51 (by decide) (by decide) (by rw [hml]; rfl) pd_0 rfl rfl (Nat.le_of_eq rfl) (hb hby d_prog_39_method_1_239) (by decide) (by decide) ?_
    rintro _ T54 L54 X54 ⟨z54, rfl, rfl, e54⟩
    rw [List.append_nil] at X54
    refine GoOn.st (fun t_ k_ => XS.bipush X54.here hx rfl (hb hby d_prog_39_method_1_242)  k_) ?_
    refine GoOn.st (fun t_ k_ => XS.iloadN X54.here hx rfl (hb hby d_prog_39_method_1_244) rfl k_) ?_
    refine GoOn.st (fun t_ k_ => XS.iconst X54.here hx rfl (hb hby d_prog_39_method_1_245)  k_) ?_
    show GoOn _ _ _ _ (T54.setTop (mkF m 246 #[.val (.ref a1), .val (.int (Int32.ofNat nn)), .val (.int (Int32.ofNat kk)), .val (.int vv), .val (.int (Int32.ofNat oo)), .val (.long q1), .second, .val (.int (Int32.ofNat (nn * oo * own_W kk))), .val (.ref b47), .val (.int (Int32.ofNat 0)), .val (.int (Int32.ofNat 0)), .val (.int (Int32.ofNat ((0 * oo + 0) * own_W kk))), .val (.int (Int32.ofNat 0)), .unset, .unset] [(.int (1 : Int32)), (.int (Int32.ofNat kk)), (.int (32 : Int32)), (.int z54), (.int (Int32.ofNat ((0 * oo + 0) * own_W kk)))]))
    refine GoOn.st (fun t_ k_ => XS.iadd X54.here hx rfl (hb hby d_prog_39_method_1_246) rfl k_) ?_
    refine GoOn.st (fun t_ k_ => XS.isub X54.here hx rfl (hb hby d_prog_39_method_1_247) rfl k_) ?_
    refine GoOn.st (fun t_ k_ => XS.iushr X54.here hx rfl (hb hby d_prog_39_method_1_248) rfl k_) ?_
    refine GoOn.st (fun t_ k_ => XS.ior X54.here hx rfl (hb hby d_prog_39_method_1_249) rfl k_) ?_
    show GoOn _ _ _ _ (T54.setTop (mkF m 250 #[.val (.ref a1), .val (.int (Int32.ofNat nn)), .val (.int (Int32.ofNat kk)), .val (.int vv), .val (.int (Int32.ofNat oo)), .val (.long q1), .second, .val (.int (Int32.ofNat (nn * oo * own_W kk))), .val (.ref b47), .val (.int (Int32.ofNat 0)), .val (.int (Int32.ofNat 0)), .val (.int (Int32.ofNat ((0 * oo + 0) * own_W kk))), .val (.int (Int32.ofNat 0)), .unset, .unset] [(.int ((Int32.ofNat ((0 * oo + 0) * own_W kk)) ||| (((z54).toUInt32 >>> (((32 : Int32) - ((Int32.ofNat kk) + (1 : Int32))) &&& 31).toUInt32).toInt32)))]))
    refine GoOn.st (fun t_ k_ => XS.istore X54.here hx rfl (hb hby d_prog_39_method_1_250) rfl (l' := #[.val (.ref a1), .val (.int (Int32.ofNat nn)), .val (.int (Int32.ofNat kk)), .val (.int vv), .val (.int (Int32.ofNat oo)), .val (.long q1), .second, .val (.int (Int32.ofNat (nn * oo * own_W kk))), .val (.ref b47), .val (.int (Int32.ofNat 0)), .val (.int (Int32.ofNat 0)), .val (.int (Int32.ofNat ((0 * oo + 0) * own_W kk))), .val (.int (Int32.ofNat 0)), .val (.int ((Int32.ofNat ((0 * oo + 0) * own_W kk)) ||| (((z54).toUInt32 >>> (((32 : Int32) - ((Int32.ofNat kk) + (1 : Int32))) &&& 31).toUInt32).toInt32))), .unset]) rfl k_) ?_
    show GoOn _ _ _ _ (T54.setTop (mkF m 252 #[.val (.ref a1), .val (.int (Int32.ofNat nn)), .val (.int (Int32.ofNat kk)), .val (.int vv), .val (.int (Int32.ofNat oo)), .val (.long q1), .second, .val (.int (Int32.ofNat (nn * oo * own_W kk))), .val (.ref b47), .val (.int (Int32.ofNat 0)), .val (.int (Int32.ofNat 0)), .val (.int (Int32.ofNat ((0 * oo + 0) * own_W kk))), .val (.int (Int32.ofNat 0)), .val (.int ((Int32.ofNat ((0 * oo + 0) * own_W kk)) ||| (((z54).toUInt32 >>> (((32 : Int32) - ((Int32.ofNat kk) + (1 : Int32))) &&& 31).toUInt32).toInt32))), .unset] []))
    obtain ⟨i, hi1, hi2, hie⟩ := own_index sm (o := 0) (l := 0) (by have := sm.o2; omega) sm.n1 z54
    rw [hie]
    show GoOn _ _ _ _ (T54.setTop (mkF m 252 #[.val (.ref a1), .val (.int (Int32.ofNat nn)), .val (.int (Int32.ofNat kk)), .val (.int vv), .val (.int (Int32.ofNat oo)), .val (.long q1), .second, .val (.int (Int32.ofNat (nn * oo * own_W kk))), .val (.ref b47), .val (.int (Int32.ofNat 0)), .val (.int (Int32.ofNat 0)), .val (.int (Int32.ofNat ((0 * oo + 0) * own_W kk))), .val (.int (Int32.ofNat 0)), .val (.int (Int32.ofNat i)), .unset] []))
    refine GoOn.st (fun t_ k_ => XS.aload X54.here hx rfl (hb hby d_prog_39_method_1_252) rfl rfl k_) ?_
    refine GoOn.st (fun t_ k_ => XS.iloadN X54.here hx rfl (hb hby d_prog_39_method_1_254) rfl k_) ?_
    show GoOn _ _ _ _ (T54.setTop (mkF m 255 #[.val (.ref a1), .val (.int (Int32.ofNat nn)), .val (.int (Int32.ofNat kk)), .val (.int vv), .val (.int (Int32.ofNat oo)), .val (.long q1), .second, .val (.int (Int32.ofNat (nn * oo * own_W kk))), .val (.ref b47), .val (.int (Int32.ofNat 0)), .val (.int (Int32.ofNat 0)), .val (.int (Int32.ofNat ((0 * oo + 0) * own_W kk))), .val (.int (Int32.ofNat 0)), .val (.int (Int32.ofNat i)), .unset] [(.int vv), (.ref b47)]))
    refine GoOn.callV (W := 0) (argsL := [(.int vv)]) (rest := []) (a := b47) X54 hx hZ hown (hw _ (List.mem_of_getElem? (i := 62) rfl)) (hw _ (List.mem_of_getElem? (i := 63) rfl)) (notFace_of_selects (args := #[]) (mvT hZ (hw _ (List.mem_of_getElem? (i := 65) rfl)))) (hw _ (List.mem_of_getElem? (i := 65) rfl)) (hw _ (List.mem_of_getElem? (i := 64) rfl)) (hw _ (List.mem_of_getElem? (i := 28) rfl)) (hw _ (List.mem_of_getElem? (i := 66) rfl)) (by decide) (rm_nint l Z a0 hw b47 vv S48 T48.heap n0 f48_0 f48_1 f48_2 f48_3 f48_4 g_b47 hp0 hnz hb0 hb1) e54 f48_0 (by decide) (by decide) (by rw [hml]; rfl) pd_0 rfl rfl (Nat.le_of_eq rfl) (hb hby d_prog_39_method_1_255) (by decide) (by decide) ?_
    rintro _ T55 L55 X55 ⟨z55, S55, rfl, N55q, K55, f55_0, f55_1, f55_2, f55_3, f55_4⟩
    have N55 := Fr.app N48 N55q
    refine GoOn.st (fun t_ k_ => XS.istore X55.here hx rfl (hb hby d_prog_39_method_1_258) rfl (l' := #[.val (.ref a1), .val (.int (Int32.ofNat nn)), .val (.int (Int32.ofNat kk)), .val (.int vv), .val (.int (Int32.ofNat oo)), .val (.long q1), .second, .val (.int (Int32.ofNat (nn * oo * own_W kk))), .val (.ref b47), .val (.int (Int32.ofNat 0)), .val (.int (Int32.ofNat 0)), .val (.int (Int32.ofNat ((0 * oo + 0) * own_W kk))), .val (.int (Int32.ofNat 0)), .val (.int (Int32.ofNat i)), .val (.int z55)]) rfl k_) ?_
    refine GoOn.st (fun t_ k_ => XS.aloadN X55.here hx rfl (hb hby d_prog_39_method_1_260) rfl rfl k_) ?_
    have F56 := ((((Fld.other W45 Fw41 (Or.inr (slot_ne (Or.inr (hw _ (List.mem_of_getElem? (i := 23) rfl))) (Or.inr (hw _ (List.mem_of_getElem? (i := 25) rfl))) (by decide) (t := (.array .byte)) (t' := (.array .int)) (by decide) (by decide)))).ext E47).keep K48 (ninS ne_a1_b47 nin0)).keep K55 (ninS ne_a1_b47 nin0))
    obtain ⟨T57, X57, e57, st57⟩ := getF X55 hx hZ hown (host := "") (Or.inl (hw _ (List.mem_of_getElem? (i := 22) rfl))) Via.refl rfl F56 (g := (mkF m 261 #[.val (.ref a1), .val (.int (Int32.ofNat nn)), .val (.int (Int32.ofNat kk)), .val (.int vv), .val (.int (Int32.ofNat oo)), .val (.long q1), .second, .val (.int (Int32.ofNat (nn * oo * own_W kk))), .val (.ref b47), .val (.int (Int32.ofNat 0)), .val (.int (Int32.ofNat 0)), .val (.int (Int32.ofNat ((0 * oo + 0) * own_W kk))), .val (.int (Int32.ofNat 0)), .val (.int (Int32.ofNat i)), .val (.int z55)] [(.ref a1)])) rfl rfl (hb hby d_prog_39_method_1_261)
    refine GoOn.st st57 ?_
    show GoOn _ _ _ _ (T57.setTop (mkF m 264 #[.val (.ref a1), .val (.int (Int32.ofNat nn)), .val (.int (Int32.ofNat kk)), .val (.int vv), .val (.int (Int32.ofNat oo)), .val (.long q1), .second, .val (.int (Int32.ofNat (nn * oo * own_W kk))), .val (.ref b47), .val (.int (Int32.ofNat 0)), .val (.int (Int32.ofNat 0)), .val (.int (Int32.ofNat ((0 * oo + 0) * own_W kk))), .val (.int (Int32.ofNat 0)), .val (.int (Int32.ofNat i)), .val (.int z55)] [(.ref b38)]))
    refine GoOn.st (fun t_ k_ => XS.ifnullNo X57.here hx rfl (hb hby d_prog_39_method_1_264) rfl k_) ?_
    refine GoOn.st (fun t_ k_ => XS.aloadN X57.here hx rfl (hb hby d_prog_39_method_1_267) rfl rfl k_) ?_
    obtain ⟨T58, X58, e58, st58⟩ := getF X57 hx hZ hown (host := "") (Or.inl (hw _ (List.mem_of_getElem? (i := 22) rfl))) Via.refl e57 F56 (g := (mkF m 268 #[.val (.ref a1), .val (.int (Int32.ofNat nn)), .val (.int (Int32.ofNat kk)), .val (.int vv), .val (.int (Int32.ofNat oo)), .val (.long q1), .second, .val (.int (Int32.ofNat (nn * oo * own_W kk))), .val (.ref b47), .val (.int (Int32.ofNat 0)), .val (.int (Int32.ofNat 0)), .val (.int (Int32.ofNat ((0 * oo + 0) * own_W kk))), .val (.int (Int32.ofNat 0)), .val (.int (Int32.ofNat i)), .val (.int z55)] [(.ref a1)])) rfl rfl (hb hby d_prog_39_method_1_268)
    refine GoOn.st st58 ?_
    refine GoOn.st (fun t_ k_ => XS.iload X58.here hx rfl (hb hby d_prog_39_method_1_271) rfl k_) ?_
    show GoOn _ _ _ _ (T58.setTop (mkF m 273 #[.val (.ref a1), .val (.int (Int32.ofNat nn)), .val (.int (Int32.ofNat kk)), .val (.int vv), .val (.int (Int32.ofNat oo)), .val (.long q1), .second, .val (.int (Int32.ofNat (nn * oo * own_W kk))), .val (.ref b47), .val (.int (Int32.ofNat 0)), .val (.int (Int32.ofNat 0)), .val (.int (Int32.ofNat ((0 * oo + 0) * own_W kk))), .val (.int (Int32.ofNat 0)), .val (.int (Int32.ofNat i)), .val (.int z55)] [(.int (Int32.ofNat i)), (.ref b38)]))
    refine GoOn.st (fun t_ k_ => XS.iload X58.here hx rfl (hb hby d_prog_39_method_1_273) rfl k_) ?_
    refine GoOn.st (fun t_ k_ => XS.i2b X58.here hx rfl (hb hby d_prog_39_method_1_275) rfl k_) ?_
    have F59 := (hV.keep K55 (ninS ne_b38_b47 nin0))
    obtain ⟨T60, h60, X60, e60, W60, V60, st60⟩ := own_bastore X58 hx hZ e58 F59 (j := (Int32.ofNat i)) ⟨fun q => absurd ((own_lt (b := 0) (by omega) (by decide)).mp q) (Nat.not_lt_zero i), (own_lt (by omega) (by have := own_len_in sm; omega)).mpr hi1⟩ i (own_clamp (by omega)) (by rw [List.length_replicate]; exact hi2) (x := ((z55).toInt8.toInt32)) (Ls := #[.val (.ref a1), .val (.int (Int32.ofNat nn)), .val (.int (Int32.ofNat kk)), .val (.int vv), .val (.int (Int32.ofNat oo)), .val (.long q1), .second, .val (.int (Int32.ofNat (nn * oo * own_W kk))), .val (.ref b47), .val (.int (Int32.ofNat 0)), .val (.int (Int32.ofNat 0)), .val (.int (Int32.ofNat ((0 * oo + 0) * own_W kk))), .val (.int (Int32.ofNat 0)), .val (.int (Int32.ofNat i)), .val (.int z55)]) (rest := []) (hb hby d_prog_39_method_1_276)
    replace V60 : Arv Z h60 b38 k38 .byte (Int32.ofNat (nn * oo * own_W kk)) (List.set (List.replicate 384 (.int 0)) i (.int (nar .byte ((z55).toInt8.toInt32)))) (.int (0 : Int32)) := V60
    have N61 := Fr.snoc X60 N55 g_b38
    refine GoOn.st st60 ?_
    refine GoOn.st (fun t_ k_ => XS.goto X60.here hx rfl (pc0 := 277) (pc' := 289) rfl (hb hby d_prog_39_method_1_277) (by decide) (by decide) k_) ?_
    show GoOn _ _ _ _ (T60.setTop (mkF m 289 #[.val (.ref a1), .val (.int (Int32.ofNat nn)), .val (.int (Int32.ofNat kk)), .val (.int vv), .val (.int (Int32.ofNat oo)), .val (.long q1), .second, .val (.int (Int32.ofNat (nn * oo * own_W kk))), .val (.ref b47), .val (.int (Int32.ofNat 0)), .val (.int (Int32.ofNat 0)), .val (.int (Int32.ofNat ((0 * oo + 0) * own_W kk))), .val (.int (Int32.ofNat 0)), .val (.int (Int32.ofNat i)), .val (.int z55)] []))
    refine GoOn.st (fun t_ k_ => XS.iinc X60.here hx rfl (hb hby d_prog_39_method_1_289) rfl (l' := #[.val (.ref a1), .val (.int (Int32.ofNat nn)), .val (.int (Int32.ofNat kk)), .val (.int vv), .val (.int (Int32.ofNat oo)), .val (.long q1), .second, .val (.int (Int32.ofNat (nn * oo * own_W kk))), .val (.ref b47), .val (.int (Int32.ofNat 0)), .val (.int (Int32.ofNat 0)), .val (.int (Int32.ofNat ((0 * oo + 0) * own_W kk))), .val (.int ((Int32.ofNat 0) + (1 : Int32))), .val (.int (Int32.ofNat i)), .val (.int z55)]) rfl k_) ?_
    refine GoOn.st (fun t_ k_ => XS.goto X60.here hx rfl (pc0 := 292) (pc' := 225) rfl (hb hby d_prog_39_method_1_292) (by decide) (by decide) k_) ?_
    show GoOn _ _ _ _ (T60.setTop (mkF m 225 #[.val (.ref a1), .val (.int (Int32.ofNat nn)), .val (.int (Int32.ofNat kk)), .val (.int vv), .val (.int (Int32.ofNat oo)), .val (.long q1), .second, .val (.int (Int32.ofNat (nn * oo * own_W kk))), .val (.ref b47), .val (.int (Int32.ofNat 0)), .val (.int (Int32.ofNat 0)), .val (.int (Int32.ofNat ((0 * oo + 0) * own_W kk))), .val (.int ((Int32.ofNat 0) + (1 : Int32))), .val (.int (Int32.ofNat i)), .val (.int z55)] []))
    rw [own_succ 0]
    exact sg_mb hw a1 b47 b38 k38 nn kk oo vv q1 h0 n0 (rmc := 0) (rms := 0) sm hx hby hml hret hlk hown hnm hZ g_a1 g_b47 g_b38 sz_b47 sz_b38 ne_a1_b47 ne_a1_b38 ne_b38_b47 hp0 hnz hb0 hb1 (oo * nn) (own_W kk - 1) 0 0 (0 + 1) S55 _ _ _ _ _ _ (by rw [Nat.sub_zero, Nat.add_zero]) (by have := own_W_le sm.k3; omega) (by have := sm.o2; omega) sm.n1 X60 e60 N61 (((((((((((Keep.refl h0 [a1]).wr W2 (Or.inl (List.mem_of_getElem? (i := 0) rfl))).wr W6 (Or.inl (List.mem_of_getElem? (i := 0) rfl))).wr W10 (Or.inl (List.mem_of_getElem? (i := 0) rfl))).ext E38).wr W41 (Or.inl (List.mem_of_getElem? (i := 0) rfl))).wr W45 (Or.inl (List.mem_of_getElem? (i := 0) rfl))).ext E47).trans K48 (allS (Or.inr sz_b47) all0)).trans K55 (allS (Or.inr sz_b47) all0)).wr W60 (Or.inr sz_b38)) (Exa.wr W60 (F52.keep K55)) (Fld.other W60 ((((Fld.other W45 (Fld.other W41 ((Fld.other W10 (Fld.other W6 Fw2 (Or.inr (slot_ne (Or.inr (hw _ (List.mem_of_getElem? (i := 16) rfl))) (Or.inr (hw _ (List.mem_of_getElem? (i := 18) rfl))) (by decide) (t := .int) (t' := .int) (by decide) (by decide)))) (Or.inr (slot_ne (Or.inr (hw _ (List.mem_of_getElem? (i := 16) rfl))) (Or.inr (hw _ (List.mem_of_getElem? (i := 20) rfl))) (by decide) (t := .int) (t' := .int) (by decide) (by decide)))).ext E38) (Or.inr (slot_ne (Or.inr (hw _ (List.mem_of_getElem? (i := 16) rfl))) (Or.inr (hw _ (List.mem_of_getElem? (i := 23) rfl))) (by decide) (t := .int) (t' := (.array .byte)) (by decide) (by decide)))) (Or.inr (slot_ne (Or.inr (hw _ (List.mem_of_getElem? (i := 16) rfl))) (Or.inr (hw _ (List.mem_of_getElem? (i := 25) rfl))) (by decide) (t := .int) (t' := (.array .int)) (by decide) (by decide)))).ext E47).keep K48 (ninS ne_a1_b47 nin0)).keep K55 (ninS ne_a1_b47 nin0)) (Or.inl ne_a1_b38)) (Fld.other W60 (F50.keep K55 (ninS ne_a1_b47 nin0)) (Or.inl ne_a1_b38)) (Fld.other W60 (F49.keep K55 (ninS ne_a1_b47 nin0)) (Or.inl ne_a1_b38)) (Fld.other W60 F56 (Or.inl ne_a1_b38)) (Fld.other W60 (((Fw45.ext E47).keep K48 (ninS ne_a1_b47 nin0)).keep K55 (ninS ne_a1_b47 nin0)) (Or.inl ne_a1_b38)) (Exa.wr W60 f55_0) (Fld.other W60 f55_1 (Or.inl (Ne.symm ne_b38_b47))) (Fld.other W60 f55_2 (Or.inl (Ne.symm ne_b38_b47))) (Fld.other W60 f55_3 (Or.inl (Ne.symm ne_b38_b47))) (Fld.other W60 f55_4 (Or.inl (Ne.symm ne_b38_b47))) V60 (by rw [List.length_set, List.length_replicate])
theorem ef_dep0 (m : MethodId) (x0 : Addr) (x1 : Int32) (x2 : Int32) : entryFrame m #[(.ref x0), (.int x1), (.int x2)] 5 = mkF m 0 #[.val (.ref x0), .val (.int x1), .val (.int x2), .unset, .unset] [] := by first | (simp [entryFrame, mkF, argsToLocals, Value.category]; done) | rfl
theorem d_prog_39_method_6_0 : decode prog_39_method_6_code 0 = .ok (.aload_n 0, 1) := by decide +kernel
theorem d_prog_39_method_6_1 : decode prog_39_method_6_code 1 = .ok (.getfield 33, 3) := by decide +kernel
theorem d_prog_39_method_6_4 : decode prog_39_method_6_code 4 = .ok (.iconst 1, 1) := by decide +kernel
theorem d_prog_39_method_6_5 : decode prog_39_method_6_code 5 = .ok (.iadd, 1) := by decide +kernel
theorem d_prog_39_method_6_6 : decode prog_39_method_6_code 6 = .ok (.newarray .int, 2) := by decide +kernel
theorem d_prog_39_method_6_8 : decode prog_39_method_6_code 8 = .ok (.astore_n 3, 1) := by decide +kernel
theorem d_prog_39_method_6_9 : decode prog_39_method_6_code 9 = .ok (.iconst 0, 1) := by decide +kernel
theorem d_prog_39_method_6_10 : decode prog_39_method_6_code 10 = .ok (.istore 4, 2) := by decide +kernel
theorem d_prog_39_method_6_12 : decode prog_39_method_6_code 12 = .ok (.iload 4, 2) := by decide +kernel
theorem d_prog_39_method_6_14 : decode prog_39_method_6_code 14 = .ok (.aload_n 3, 1) := by decide +kernel
theorem d_prog_39_method_6_15 : decode prog_39_method_6_code 15 = .ok (.arraylength, 1) := by decide +kernel
theorem d_prog_39_method_6_16 : decode prog_39_method_6_code 16 = .ok (.if_icmp .ge 22, 3) := by decide +kernel
theorem d_prog_39_method_6_19 : decode prog_39_method_6_code 19 = .ok (.aload_n 3, 1) := by decide +kernel
theorem d_prog_39_method_6_20 : decode prog_39_method_6_code 20 = .ok (.iload 4, 2) := by decide +kernel
theorem d_prog_39_method_6_22 : decode prog_39_method_6_code 22 = .ok (.iload_n 2, 1) := by decide +kernel
theorem d_prog_39_method_6_23 : decode prog_39_method_6_code 23 = .ok (.iload 4, 2) := by decide +kernel
theorem d_prog_39_method_6_25 : decode prog_39_method_6_code 25 = .ok (.iadd, 1) := by decide +kernel
theorem d_prog_39_method_6_26 : decode prog_39_method_6_code 26 = .ok (.aload_n 0, 1) := by decide +kernel
theorem d_prog_39_method_6_27 : decode prog_39_method_6_code 27 = .ok (.getfield 29, 3) := by decide +kernel
theorem d_prog_39_method_6_30 : decode prog_39_method_6_code 30 = .ok (.irem, 1) := by decide +kernel
theorem d_prog_39_method_6_31 : decode prog_39_method_6_code 31 = .ok (.iastore, 1) := by decide +kernel
theorem d_prog_39_method_6_32 : decode prog_39_method_6_code 32 = .ok (.iinc 4 1, 3) := by decide +kernel
theorem d_prog_39_method_6_35 : decode prog_39_method_6_code 35 = .ok (.goto (-23), 3) := by decide +kernel
theorem d_prog_39_method_6_38 : decode prog_39_method_6_code 38 = .ok (.aload_n 3, 1) := by decide +kernel
theorem d_prog_39_method_6_39 : decode prog_39_method_6_code 39 = .ok (.areturn, 1) := by decide +kernel
set_option maxRecDepth 65536 in
set_option maxHeartbeats 40000000 in
theorem rm_dep0 (l : Launch) (Z : State) (a0 : Array Value) (hw : ∀ d ∈ tables_1, d.before a0 Z = true) (a1 : Addr) (nn ss : Nat) (p1 : Int32) (h0 : Heap) (n0 : Nat) (Z0 : n0 ≤ h0.size) (Fe : Fld Z h0 a1 "com/example/frontwise/frontwise/problem/Mnk" "epistasis" "I" (.int (0 : Int32))) (Fn : Fld Z h0 a1 "com/example/frontwise/frontwise/problem/Mnk" "n" "I" (.int (Int32.ofNat nn))) (hnz : Int32.ofNat nn ≠ 0) :
    OwCon l Z (⟨"com/example/frontwise/frontwise/problem/Mnk", "dependencies", "(II)[I"⟩ : MethodName) prog_39_method_6_code 5 (some (.array .int)) [] ({ frames := 0, cells := 1, slots := 1, locals := 0 } : Room) #[(.ref a1), (.int p1), (.int (Int32.ofNat ss))] h0 (fun v h L => ∃ b kb, v = some (.ref b) ∧ Fr n0 L ∧ Keep h0 h [] ∧ h0.size ≤ b ∧ Arv Z h b kb .int (1 : Int32) [(.int ((Int32.ofNat ss + (0 : Int32)) % Int32.ofNat nn))] (.int 0)) := by
  refine OwCon.of (plainFor_of_name pn_com_example_frontwise_frontwise_problem_Mnk) ?_
  intro p e s m below meth cd_ s₁ X0 hx hby hml hret hlk hown hnm hZ e0
  have N0 := Fr.nil n0
  refine GoOn.st (fun t_ k_ => castTop (ef_dep0 m a1 p1 (Int32.ofNat ss)) k_) ?_
  show GoOn _ _ _ _ (s₁.setTop (mkF m 0 #[.val (.ref a1), .val (.int p1), .val (.int (Int32.ofNat ss)), .unset, .unset] []))
  refine GoOn.st (fun t_ k_ => XS.aloadN X0.here hx rfl (hb hby d_prog_39_method_6_0) rfl rfl k_) ?_
  obtain ⟨T1, X1, e1, st1⟩ := getF X0 hx hZ hown (host := "") (Or.inl (hw _ (List.mem_of_getElem? (i := 17) rfl))) Via.refl e0 Fe (g := (mkF m 1 #[.val (.ref a1), .val (.int p1), .val (.int (Int32.ofNat ss)), .unset, .unset] [(.ref a1)])) rfl rfl (hb hby d_prog_39_method_6_1)
  refine GoOn.st st1 ?_
  refine GoOn.st (fun t_ k_ => XS.iconst X1.here hx rfl (hb hby d_prog_39_method_6_4)  k_) ?_
  refine GoOn.st (fun t_ k_ => XS.iadd X1.here hx rfl (hb hby d_prog_39_method_6_5) rfl k_) ?_
  show GoOn _ _ _ _ (T1.setTop (mkF m 6 #[.val (.ref a1), .val (.int p1), .val (.int (Int32.ofNat ss)), .unset, .unset] [(.int (1 : Int32))]))
  obtain ⟨T2, h2, k2, X2, e2, E2, A2, st2⟩ := newP X1 hx hZ (hw _ (List.mem_of_getElem? (i := 82) rfl)) e1 (g := (mkF m 6 #[.val (.ref a1), .val (.int p1), .val (.int (Int32.ofNat ss)), .unset, .unset] [(.int (1 : Int32))])) rfl (hb hby d_prog_39_method_6_6) rfl (by decide) (cap := 1) (by decide) (by decide) (by decide) (by decide)
  obtain ⟨b2, g2⟩ : ∃ z, z = h0.size := ⟨_, rfl⟩
  rw [← g2] at A2 st2
  have ne_a1_b2 : a1 ≠ b2 := Nat.ne_of_lt (Nat.lt_of_lt_of_le Fe.lt (Nat.le_of_eq g2.symm))
  have g_b2 : n0 ≤ b2 := Nat.le_trans Z0 (Nat.le_of_eq g2.symm)
  have sz_b2 : h0.size ≤ b2 := Nat.le_trans (Keep.refl h0 []).1 (Nat.le_of_eq g2.symm)
  have V2 : Arv Z h2 b2 k2 .int (1 : Int32) [(.int (0 : Int32))] (.int (0 : Int32)) := (Arv.new A2 (by decide)).pad (pad_rep [] _ 1)
  refine GoOn.st st2 ?_
  refine GoOn.st (fun t_ k_ => XS.astoreN X2.here hx rfl (hb hby d_prog_39_method_6_8) rfl rfl (l' := #[.val (.ref a1), .val (.int p1), .val (.int (Int32.ofNat ss)), .val (.ref b2), .unset]) rfl k_) ?_
  refine GoOn.st (fun t_ k_ => XS.iconst X2.here hx rfl (hb hby d_prog_39_method_6_9)  k_) ?_
  refine GoOn.st (fun t_ k_ => XS.istore X2.here hx rfl (hb hby d_prog_39_method_6_10) rfl (l' := #[.val (.ref a1), .val (.int p1), .val (.int (Int32.ofNat ss)), .val (.ref b2), .val (.int (0 : Int32))]) rfl k_) ?_
  show GoOn _ _ _ _ (T2.setTop (mkF m 12 #[.val (.ref a1), .val (.int p1), .val (.int (Int32.ofNat ss)), .val (.ref b2), .val (.int (0 : Int32))] []))
  refine GoOn.st (fun t_ k_ => XS.iload X2.here hx rfl (hb hby d_prog_39_method_6_12) rfl k_) ?_
  refine GoOn.st (fun t_ k_ => XS.aloadN X2.here hx rfl (hb hby d_prog_39_method_6_14) rfl rfl k_) ?_
  refine GoOn.st (fun t_ k_ => own_arrlen X2 hx hZ e2 V2 (hb hby d_prog_39_method_6_15) _ k_) ?_
  refine GoOn.st (fun t_ k_ => XS.icmpNo X2.here hx rfl (hb hby d_prog_39_method_6_16) rfl (tlt (by decide : (0 : Int32) < (1 : Int32))).2.1 k_) ?_
  show GoOn _ _ _ _ (T2.setTop (mkF m 19 #[.val (.ref a1), .val (.int p1), .val (.int (Int32.ofNat ss)), .val (.ref b2), .val (.int (0 : Int32))] []))
  refine GoOn.st (fun t_ k_ => XS.aloadN X2.here hx rfl (hb hby d_prog_39_method_6_19) rfl rfl k_) ?_
  refine GoOn.st (fun t_ k_ => XS.iload X2.here hx rfl (hb hby d_prog_39_method_6_20) rfl k_) ?_
  refine GoOn.st (fun t_ k_ => XS.iloadN X2.here hx rfl (hb hby d_prog_39_method_6_22) rfl k_) ?_
  refine GoOn.st (fun t_ k_ => XS.iload X2.here hx rfl (hb hby d_prog_39_method_6_23) rfl k_) ?_
  show GoOn _ _ _ _ (T2.setTop (mkF m 25 #[.val (.ref a1), .val (.int p1), .val (.int (Int32.ofNat ss)), .val (.ref b2), .val (.int (0 : Int32))] [(.int (0 : Int32)), (.int (Int32.ofNat ss)), (.int (0 : Int32)), (.ref b2)]))
  refine GoOn.st (fun t_ k_ => XS.iadd X2.here hx rfl (hb hby d_prog_39_method_6_25) rfl k_) ?_
  refine GoOn.st (fun t_ k_ => XS.aloadN X2.here hx rfl (hb hby d_prog_39_method_6_26) rfl rfl k_) ?_
  have F3 := (Fn.ext E2)
  obtain ⟨T4, X4, e4, st4⟩ := getF X2 hx hZ hown (host := "") (Or.inl (hw _ (List.mem_of_getElem? (i := 15) rfl))) Via.refl e2 F3 (g := (mkF m 27 #[.val (.ref a1), .val (.int p1), .val (.int (Int32.ofNat ss)), .val (.ref b2), .val (.int (0 : Int32))] [(.ref a1), (.int ((Int32.ofNat ss) + (0 : Int32))), (.int (0 : Int32)), (.ref b2)])) rfl rfl (hb hby d_prog_39_method_6_27)
  refine GoOn.st st4 ?_
  refine GoOn.st (fun t_ k_ => iremM X4 hx rfl (hb hby d_prog_39_method_6_30) rfl hnz k_) ?_
  show GoOn _ _ _ _ (T4.setTop (mkF m 31 #[.val (.ref a1), .val (.int p1), .val (.int (Int32.ofNat ss)), .val (.ref b2), .val (.int (0 : Int32))] [(.int (((Int32.ofNat ss) + (0 : Int32)) % (Int32.ofNat nn))), (.int (0 : Int32)), (.ref b2)]))
  obtain ⟨T5, h5, X5, e5, W5, V5, st5⟩ := own_iastore X4 hx hZ e4 V2 (j := (0 : Int32)) (by decide) 0 (by decide) (show 0 < _ from (by decide : 0 < 1)) (x := (((Int32.ofNat ss) + (0 : Int32)) % (Int32.ofNat nn))) (Ls := #[.val (.ref a1), .val (.int p1), .val (.int (Int32.ofNat ss)), .val (.ref b2), .val (.int (0 : Int32))]) (rest := []) (hb hby d_prog_39_method_6_31)
  replace V5 : Arv Z h5 b2 k2 .int (1 : Int32) [(.int (((Int32.ofNat ss) + (0 : Int32)) % (Int32.ofNat nn)))] (.int (0 : Int32)) := V5
  have N6 := Fr.snoc X5 N0 g_b2
  refine GoOn.st st5 ?_
  refine GoOn.st (fun t_ k_ => XS.iinc X5.here hx rfl (hb hby d_prog_39_method_6_32) rfl (l' := #[.val (.ref a1), .val (.int p1), .val (.int (Int32.ofNat ss)), .val (.ref b2), .val (.int (1 : Int32))]) rfl k_) ?_
  refine GoOn.st (fun t_ k_ => XS.goto X5.here hx rfl (pc0 := 35) (pc' := 12) rfl (hb hby d_prog_39_method_6_35) (by decide) (by decide) k_) ?_
  refine GoOn.st (fun t_ k_ => XS.iload X5.here hx rfl (hb hby d_prog_39_method_6_12) rfl k_) ?_
  show GoOn _ _ _ _ (T5.setTop (mkF m 14 #[.val (.ref a1), .val (.int p1), .val (.int (Int32.ofNat ss)), .val (.ref b2), .val (.int (1 : Int32))] [(.int (1 : Int32))]))
  refine GoOn.st (fun t_ k_ => XS.aloadN X5.here hx rfl (hb hby d_prog_39_method_6_14) rfl rfl k_) ?_
  refine GoOn.st (fun t_ k_ => own_arrlen X5 hx hZ e5 V5 (hb hby d_prog_39_method_6_15) _ k_) ?_
  refine GoOn.st (fun t_ k_ => XS.icmpYes X5.here hx rfl (pc0 := 16) (pc' := 38) rfl (hb hby d_prog_39_method_6_16) rfl (flt (by decide : ¬ ((1 : Int32) < (1 : Int32)))).2.1 (by decide) (by decide) k_) ?_
  refine GoOn.st (fun t_ k_ => XS.aloadN X5.here hx rfl (hb hby d_prog_39_method_6_38) rfl rfl k_) ?_
  show GoOn _ _ _ _ (T5.setTop (mkF m 39 #[.val (.ref a1), .val (.int p1), .val (.int (Int32.ofNat ss)), .val (.ref b2), .val (.int (1 : Int32))] [(.ref b2)]))
  exact GoOn.retA X5 hx hlk hret rfl rfl rfl (hb hby d_prog_39_method_6_39) (by rw [e5]; exact ⟨b2, k2, rfl, N6, (((Keep.refl h0 []).ext E2).wr W5 (Or.inr sz_b2)), sz_b2, V5⟩) (by decide) (by decide)
theorem ef_ent00 (m : MethodId) (x0 : Addr) (x1 : Addr) (x2 : Int32) (x3 : Int32) (x4 : Int32) (x5 : Int32) : entryFrame m #[(.ref x0), (.ref x1), (.int x2), (.int x3), (.int x4), (.int x5)] 7 = mkF m 0 #[.val (.ref x0), .val (.ref x1), .val (.int x2), .val (.int x3), .val (.int x4), .val (.int x5), .unset] [] := by first | (simp [entryFrame, mkF, argsToLocals, Value.category]; done) | rfl
theorem pn_com_example_frontwise_frontwise_problem_MnkDependenciesPinLaw : plainName "com/example/frontwise/frontwise/problem/MnkDependenciesPinLaw" = true := by first | (simp [plainName, overriddenIn]; done) | decide +kernel
theorem d_method_3_0 : decode method_3_code 0 = .ok (.iload_n 2, 1) := by decide +kernel
theorem d_method_3_1 : decode method_3_code 1 = .ok (.iload_n 3, 1) := by decide +kernel
theorem d_method_3_2 : decode method_3_code 2 = .ok (.if_icmp .le 5, 3) := by decide +kernel
theorem d_method_3_7 : decode method_3_code 7 = .ok (.iload 4, 2) := by decide +kernel
theorem d_method_3_9 : decode method_3_code 9 = .ok (.iload_n 2, 1) := by decide +kernel
theorem d_method_3_10 : decode method_3_code 10 = .ok (.iadd, 1) := by decide +kernel
theorem d_method_3_11 : decode method_3_code 11 = .ok (.iload 5, 2) := by decide +kernel
theorem d_method_3_13 : decode method_3_code 13 = .ok (.if_icmp .ge 10, 3) := by decide +kernel
theorem d_method_3_16 : decode method_3_code 16 = .ok (.iload 4, 2) := by decide +kernel
theorem d_method_3_18 : decode method_3_code 18 = .ok (.iload_n 2, 1) := by decide +kernel
theorem d_method_3_19 : decode method_3_code 19 = .ok (.iadd, 1) := by decide +kernel
theorem d_method_3_20 : decode method_3_code 20 = .ok (.goto 10, 3) := by decide +kernel
theorem d_method_3_23 : decode method_3_code 23 = .ok (.iload 4, 2) := by decide +kernel
theorem d_method_3_25 : decode method_3_code 25 = .ok (.iload_n 2, 1) := by decide +kernel
theorem d_method_3_26 : decode method_3_code 26 = .ok (.iadd, 1) := by decide +kernel
theorem d_method_3_27 : decode method_3_code 27 = .ok (.iload 5, 2) := by decide +kernel
theorem d_method_3_29 : decode method_3_code 29 = .ok (.isub, 1) := by decide +kernel
theorem d_method_3_30 : decode method_3_code 30 = .ok (.istore 6, 2) := by decide +kernel
theorem d_method_3_32 : decode method_3_code 32 = .ok (.aload_n 0, 1) := by decide +kernel
theorem d_method_3_33 : decode method_3_code 33 = .ok (.iload_n 2, 1) := by decide +kernel
theorem d_method_3_34 : decode method_3_code 34 = .ok (.iaload, 1) := by decide +kernel
theorem d_method_3_35 : decode method_3_code 35 = .ok (.iload 6, 2) := by decide +kernel
theorem d_method_3_37 : decode method_3_code 37 = .ok (.if_icmp .ne 15, 3) := by decide +kernel
theorem d_method_3_40 : decode method_3_code 40 = .ok (.aload_n 1, 1) := by decide +kernel
theorem d_method_3_41 : decode method_3_code 41 = .ok (.iload_n 2, 1) := by decide +kernel
theorem d_method_3_42 : decode method_3_code 42 = .ok (.iaload, 1) := by decide +kernel
theorem d_method_3_43 : decode method_3_code 43 = .ok (.iload 6, 2) := by decide +kernel
theorem d_method_3_45 : decode method_3_code 45 = .ok (.if_icmp .ne 7, 3) := by decide +kernel
theorem d_method_3_48 : decode method_3_code 48 = .ok (.iconst 1, 1) := by decide +kernel
theorem d_method_3_49 : decode method_3_code 49 = .ok (.goto 4, 3) := by decide +kernel
theorem d_method_3_53 : decode method_3_code 53 = .ok (.ireturn, 1) := by decide +kernel
set_option maxRecDepth 65536 in
set_option maxHeartbeats 40000000 in
theorem rm_ent00 (l : Launch) (Z : State) (a0 : Array Value) (hw : ∀ d ∈ tables_1, d.before a0 Z = true) (b1 b2 : Addr) (kb1 kb2 : ClassId) (nn ss : Nat) (h0 : Heap) (Vb1 : Arv Z h0 b1 kb1 .int (1 : Int32) [(.int ((Int32.ofNat ss + (0 : Int32)) % Int32.ofNat nn))] (.int 0)) (Vb2 : Arv Z h0 b2 kb2 .int (1 : Int32) [(.int ((Int32.ofNat ss + (0 : Int32)) % Int32.ofNat nn))] (.int 0)) (hj : ((Int32.ofNat ss + (0 : Int32)) % Int32.ofNat nn) = (if Int32.ofNat ss + (0 : Int32) < Int32.ofNat nn then Int32.ofNat ss + (0 : Int32) else Int32.ofNat ss + (0 : Int32) - Int32.ofNat nn)) :
    OwCon l Z (⟨"com/example/frontwise/frontwise/problem/MnkDependenciesPinLaw", "entry", "([I[IIIII)Z"⟩ : MethodName) method_3_code 7 (some .boolean) [] ({ frames := 0, cells := 0, slots := 0, locals := 0 } : Room) #[(.ref b1), (.ref b2), (.int (0 : Int32)), (.int (0 : Int32)), (.int (Int32.ofNat ss)), (.int (Int32.ofNat nn))] h0 (OwRet (some (.int 1)) h0) := by
  refine OwCon.of (plainFor_of_name pn_com_example_frontwise_frontwise_problem_MnkDependenciesPinLaw) ?_
  intro p e s m below meth cd_ s₁ X0 hx hby hml hret hlk hown hnm hZ e0
  refine GoOn.st (fun t_ k_ => castTop (ef_ent00 m b1 b2 (0 : Int32) (0 : Int32) (Int32.ofNat ss) (Int32.ofNat nn)) k_) ?_
  show GoOn _ _ _ _ (s₁.setTop (mkF m 0 #[.val (.ref b1), .val (.ref b2), .val (.int (0 : Int32)), .val (.int (0 : Int32)), .val (.int (Int32.ofNat ss)), .val (.int (Int32.ofNat nn)), .unset] []))
  refine GoOn.st (fun t_ k_ => XS.iloadN X0.here hx rfl (hb hby d_method_3_0) rfl k_) ?_
  refine GoOn.st (fun t_ k_ => XS.iloadN X0.here hx rfl (hb hby d_method_3_1) rfl k_) ?_
  refine GoOn.st (fun t_ k_ => XS.icmpYes X0.here hx rfl (pc0 := 2) (pc' := 7) rfl (hb hby d_method_3_2) rfl (flt (by decide : ¬ ((0 : Int32) < (0 : Int32)))).2.2.2 (by decide) (by decide) k_) ?_
  refine GoOn.st (fun t_ k_ => XS.iload X0.here hx rfl (hb hby d_method_3_7) rfl k_) ?_
  show GoOn _ _ _ _ (s₁.setTop (mkF m 9 #[.val (.ref b1), .val (.ref b2), .val (.int (0 : Int32)), .val (.int (0 : Int32)), .val (.int (Int32.ofNat ss)), .val (.int (Int32.ofNat nn)), .unset] [(.int (Int32.ofNat ss))]))
  refine GoOn.st (fun t_ k_ => XS.iloadN X0.here hx rfl (hb hby d_method_3_9) rfl k_) ?_
  refine GoOn.st (fun t_ k_ => XS.iadd X0.here hx rfl (hb hby d_method_3_10) rfl k_) ?_
  refine GoOn.st (fun t_ k_ => XS.iload X0.here hx rfl (hb hby d_method_3_11) rfl k_) ?_
  have dm1 : ∀ zz0 : Int32, zz0 = (if ((Int32.ofNat ss) + (0 : Int32)) < (Int32.ofNat nn) then ((Int32.ofNat ss) + (0 : Int32)) else (((Int32.ofNat ss) + (0 : Int32)) - (Int32.ofNat nn))) → ∀ t_, Steps p.tables e below (s₁.setTop (mkF m 30 #[.val (.ref b1), .val (.ref b2), .val (.int (0 : Int32)), .val (.int (0 : Int32)), .val (.int (Int32.ofNat ss)), .val (.int (Int32.ofNat nn)), .unset] [(.int zz0)])) t_ → Steps p.tables e below (s₁.setTop (mkF m 13 #[.val (.ref b1), .val (.ref b2), .val (.int (0 : Int32)), .val (.int (0 : Int32)), .val (.int (Int32.ofNat ss)), .val (.int (Int32.ofNat nn)), .unset] [(.int (Int32.ofNat nn)), (.int ((Int32.ofNat ss) + (0 : Int32)))])) t_ := by
    intro zz0 hzz0 t_ k_; by_cases hc : ((Int32.ofNat ss) + (0 : Int32)) < (Int32.ofNat nn)
    · rw [hzz0.trans (if_pos hc)] at k_
      refine XS.icmpNo X0.here hx rfl (hb hby d_method_3_13) rfl (tlt hc).2.1 ?_
      show Steps _ _ _ (s₁.setTop (mkF m 16 #[.val (.ref b1), .val (.ref b2), .val (.int (0 : Int32)), .val (.int (0 : Int32)), .val (.int (Int32.ofNat ss)), .val (.int (Int32.ofNat nn)), .unset] [])) _
      refine XS.iload X0.here hx rfl (hb hby d_method_3_16) rfl ?_
      refine XS.iloadN X0.here hx rfl (hb hby d_method_3_18) rfl ?_
      refine XS.iadd X0.here hx rfl (hb hby d_method_3_19) rfl ?_
      refine XS.goto X0.here hx rfl (pc0 := 20) (pc' := 30) rfl (hb hby d_method_3_20) (by decide) (by decide) ?_
      exact k_
    · rw [hzz0.trans (if_neg hc)] at k_
      refine XS.icmpYes X0.here hx rfl (pc0 := 13) (pc' := 23) rfl (hb hby d_method_3_13) rfl (flt hc).2.1 (by decide) (by decide) ?_
      show Steps _ _ _ (s₁.setTop (mkF m 23 #[.val (.ref b1), .val (.ref b2), .val (.int (0 : Int32)), .val (.int (0 : Int32)), .val (.int (Int32.ofNat ss)), .val (.int (Int32.ofNat nn)), .unset] [])) _
      refine XS.iload X0.here hx rfl (hb hby d_method_3_23) rfl ?_
      refine XS.iloadN X0.here hx rfl (hb hby d_method_3_25) rfl ?_
      refine XS.iadd X0.here hx rfl (hb hby d_method_3_26) rfl ?_
      refine XS.iload X0.here hx rfl (hb hby d_method_3_27) rfl ?_
      show Steps _ _ _ (s₁.setTop (mkF m 29 #[.val (.ref b1), .val (.ref b2), .val (.int (0 : Int32)), .val (.int (0 : Int32)), .val (.int (Int32.ofNat ss)), .val (.int (Int32.ofNat nn)), .unset] [(.int (Int32.ofNat nn)), (.int ((Int32.ofNat ss) + (0 : Int32)))])) _
      refine XS.isub X0.here hx rfl (hb hby d_method_3_29) rfl ?_
      exact k_
  refine GoOn.st (dm1 _ rfl) ?_
  show GoOn _ _ _ _ (s₁.setTop (mkF m 30 #[.val (.ref b1), .val (.ref b2), .val (.int (0 : Int32)), .val (.int (0 : Int32)), .val (.int (Int32.ofNat ss)), .val (.int (Int32.ofNat nn)), .unset] [(.int (if ((Int32.ofNat ss) + (0 : Int32)) < (Int32.ofNat nn) then ((Int32.ofNat ss) + (0 : Int32)) else (((Int32.ofNat ss) + (0 : Int32)) - (Int32.ofNat nn))))]))
  refine GoOn.st (fun t_ k_ => XS.istore X0.here hx rfl (hb hby d_method_3_30) rfl (l' := #[.val (.ref b1), .val (.ref b2), .val (.int (0 : Int32)), .val (.int (0 : Int32)), .val (.int (Int32.ofNat ss)), .val (.int (Int32.ofNat nn)), .val (.int (if ((Int32.ofNat ss) + (0 : Int32)) < (Int32.ofNat nn) then ((Int32.ofNat ss) + (0 : Int32)) else (((Int32.ofNat ss) + (0 : Int32)) - (Int32.ofNat nn))))]) rfl k_) ?_
  refine GoOn.st (fun t_ k_ => XS.aloadN X0.here hx rfl (hb hby d_method_3_32) rfl rfl k_) ?_
  refine GoOn.st (fun t_ k_ => XS.iloadN X0.here hx rfl (hb hby d_method_3_33) rfl k_) ?_
  refine GoOn.st (fun t_ k_ => own_iaload X0 hx hZ e0 Vb1 (j := (0 : Int32)) (by decide) (v := (.int ((Int32.ofNat ss + (0 : Int32)) % Int32.ofNat nn))) rfl (hb hby d_method_3_34) _ k_) ?_
  show GoOn _ _ _ _ (s₁.setTop (mkF m 35 #[.val (.ref b1), .val (.ref b2), .val (.int (0 : Int32)), .val (.int (0 : Int32)), .val (.int (Int32.ofNat ss)), .val (.int (Int32.ofNat nn)), .val (.int (if ((Int32.ofNat ss) + (0 : Int32)) < (Int32.ofNat nn) then ((Int32.ofNat ss) + (0 : Int32)) else (((Int32.ofNat ss) + (0 : Int32)) - (Int32.ofNat nn))))] [(.int ((Int32.ofNat ss + (0 : Int32)) % Int32.ofNat nn))]))
  refine GoOn.st (fun t_ k_ => XS.iload X0.here hx rfl (hb hby d_method_3_35) rfl k_) ?_
  refine GoOn.st (fun t_ k_ => XS.icmpNo X0.here hx rfl (hb hby d_method_3_37) rfl (teq hj).2 k_) ?_
  refine GoOn.st (fun t_ k_ => XS.aloadN X0.here hx rfl (hb hby d_method_3_40) rfl rfl k_) ?_
  refine GoOn.st (fun t_ k_ => XS.iloadN X0.here hx rfl (hb hby d_method_3_41) rfl k_) ?_
  show GoOn _ _ _ _ (s₁.setTop (mkF m 42 #[.val (.ref b1), .val (.ref b2), .val (.int (0 : Int32)), .val (.int (0 : Int32)), .val (.int (Int32.ofNat ss)), .val (.int (Int32.ofNat nn)), .val (.int (if ((Int32.ofNat ss) + (0 : Int32)) < (Int32.ofNat nn) then ((Int32.ofNat ss) + (0 : Int32)) else (((Int32.ofNat ss) + (0 : Int32)) - (Int32.ofNat nn))))] [(.int (0 : Int32)), (.ref b2)]))
  refine GoOn.st (fun t_ k_ => own_iaload X0 hx hZ e0 Vb2 (j := (0 : Int32)) (by decide) (v := (.int ((Int32.ofNat ss + (0 : Int32)) % Int32.ofNat nn))) rfl (hb hby d_method_3_42) _ k_) ?_
  refine GoOn.st (fun t_ k_ => XS.iload X0.here hx rfl (hb hby d_method_3_43) rfl k_) ?_
  refine GoOn.st (fun t_ k_ => XS.icmpNo X0.here hx rfl (hb hby d_method_3_45) rfl (teq hj).2 k_) ?_
  refine GoOn.st (fun t_ k_ => XS.iconst X0.here hx rfl (hb hby d_method_3_48)  k_) ?_
  show GoOn _ _ _ _ (s₁.setTop (mkF m 49 #[.val (.ref b1), .val (.ref b2), .val (.int (0 : Int32)), .val (.int (0 : Int32)), .val (.int (Int32.ofNat ss)), .val (.int (Int32.ofNat nn)), .val (.int (if ((Int32.ofNat ss) + (0 : Int32)) < (Int32.ofNat nn) then ((Int32.ofNat ss) + (0 : Int32)) else (((Int32.ofNat ss) + (0 : Int32)) - (Int32.ofNat nn))))] [(.int (1 : Int32))]))
  refine GoOn.st (fun t_ k_ => XS.goto X0.here hx rfl (pc0 := 49) (pc' := 53) rfl (hb hby d_method_3_49) (by decide) (by decide) k_) ?_
  show GoOn _ _ _ _ (s₁.setTop (mkF m 53 #[.val (.ref b1), .val (.ref b2), .val (.int (0 : Int32)), .val (.int (0 : Int32)), .val (.int (Int32.ofNat ss)), .val (.int (Int32.ofNat nn)), .val (.int (if ((Int32.ofNat ss) + (0 : Int32)) < (Int32.ofNat nn) then ((Int32.ofNat ss) + (0 : Int32)) else (((Int32.ofNat ss) + (0 : Int32)) - (Int32.ofNat nn))))] [(.int (1 : Int32))]))
  exact GoOn.retZ X0 hx hlk hret (by simp) rfl (hb hby d_method_3_53) (by rw [e0]; exact ⟨rfl, rfl, rfl⟩) (by decide) (by decide)
theorem ef_ent01 (m : MethodId) (x0 : Addr) (x1 : Addr) (x2 : Int32) (x3 : Int32) (x4 : Int32) (x5 : Int32) : entryFrame m #[(.ref x0), (.ref x1), (.int x2), (.int x3), (.int x4), (.int x5)] 7 = mkF m 0 #[.val (.ref x0), .val (.ref x1), .val (.int x2), .val (.int x3), .val (.int x4), .val (.int x5), .unset] [] := by first | (simp [entryFrame, mkF, argsToLocals, Value.category]; done) | rfl
theorem d_method_3_5 : decode method_3_code 5 = .ok (.iconst 1, 1) := by decide +kernel
theorem d_method_3_6 : decode method_3_code 6 = .ok (.ireturn, 1) := by decide +kernel
set_option maxRecDepth 65536 in
set_option maxHeartbeats 40000000 in
theorem rm_ent01 (l : Launch) (Z : State) (a0 : Array Value) (hw : ∀ d ∈ tables_1, d.before a0 Z = true) (b1 b2 : Addr) (kb1 kb2 : ClassId) (nn ss : Nat) (h0 : Heap) :
    OwCon l Z (⟨"com/example/frontwise/frontwise/problem/MnkDependenciesPinLaw", "entry", "([I[IIIII)Z"⟩ : MethodName) method_3_code 7 (some .boolean) [] ({ frames := 0, cells := 0, slots := 0, locals := 0 } : Room) #[(.ref b1), (.ref b2), (.int (1 : Int32)), (.int (0 : Int32)), (.int (Int32.ofNat ss)), (.int (Int32.ofNat nn))] h0 (OwRet (some (.int 1)) h0) := by
  refine OwCon.of (plainFor_of_name pn_com_example_frontwise_frontwise_problem_MnkDependenciesPinLaw) ?_
  intro p e s m below meth cd_ s₁ X0 hx hby hml hret hlk hown hnm hZ e0
  refine GoOn.st (fun t_ k_ => castTop (ef_ent01 m b1 b2 (1 : Int32) (0 : Int32) (Int32.ofNat ss) (Int32.ofNat nn)) k_) ?_
  show GoOn _ _ _ _ (s₁.setTop (mkF m 0 #[.val (.ref b1), .val (.ref b2), .val (.int (1 : Int32)), .val (.int (0 : Int32)), .val (.int (Int32.ofNat ss)), .val (.int (Int32.ofNat nn)), .unset] []))
  refine GoOn.st (fun t_ k_ => XS.iloadN X0.here hx rfl (hb hby d_method_3_0) rfl k_) ?_
  refine GoOn.st (fun t_ k_ => XS.iloadN X0.here hx rfl (hb hby d_method_3_1) rfl k_) ?_
  refine GoOn.st (fun t_ k_ => XS.icmpNo X0.here hx rfl (hb hby d_method_3_2) rfl (tlt (by decide : (0 : Int32) < (1 : Int32))).2.2.2 k_) ?_
  refine GoOn.st (fun t_ k_ => XS.iconst X0.here hx rfl (hb hby d_method_3_5)  k_) ?_
  show GoOn _ _ _ _ (s₁.setTop (mkF m 6 #[.val (.ref b1), .val (.ref b2), .val (.int (1 : Int32)), .val (.int (0 : Int32)), .val (.int (Int32.ofNat ss)), .val (.int (Int32.ofNat nn)), .unset] [(.int (1 : Int32))]))
  exact GoOn.retZ X0 hx hlk hret (by simp) rfl (hb hby d_method_3_6) (by rw [e0]; exact ⟨rfl, rfl, rfl⟩) (by decide) (by decide)
theorem ef_ent02 (m : MethodId) (x0 : Addr) (x1 : Addr) (x2 : Int32) (x3 : Int32) (x4 : Int32) (x5 : Int32) : entryFrame m #[(.ref x0), (.ref x1), (.int x2), (.int x3), (.int x4), (.int x5)] 7 = mkF m 0 #[.val (.ref x0), .val (.ref x1), .val (.int x2), .val (.int x3), .val (.int x4), .val (.int x5), .unset] [] := by first | (simp [entryFrame, mkF, argsToLocals, Value.category]; done) | rfl
set_option maxRecDepth 65536 in
set_option maxHeartbeats 40000000 in
theorem rm_ent02 (l : Launch) (Z : State) (a0 : Array Value) (hw : ∀ d ∈ tables_1, d.before a0 Z = true) (b1 b2 : Addr) (kb1 kb2 : ClassId) (nn ss : Nat) (h0 : Heap) :
    OwCon l Z (⟨"com/example/frontwise/frontwise/problem/MnkDependenciesPinLaw", "entry", "([I[IIIII)Z"⟩ : MethodName) method_3_code 7 (some .boolean) [] ({ frames := 0, cells := 0, slots := 0, locals := 0 } : Room) #[(.ref b1), (.ref b2), (.int (2 : Int32)), (.int (0 : Int32)), (.int (Int32.ofNat ss)), (.int (Int32.ofNat nn))] h0 (OwRet (some (.int 1)) h0) := by
  refine OwCon.of (plainFor_of_name pn_com_example_frontwise_frontwise_problem_MnkDependenciesPinLaw) ?_
  intro p e s m below meth cd_ s₁ X0 hx hby hml hret hlk hown hnm hZ e0
  refine GoOn.st (fun t_ k_ => castTop (ef_ent02 m b1 b2 (2 : Int32) (0 : Int32) (Int32.ofNat ss) (Int32.ofNat nn)) k_) ?_
  show GoOn _ _ _ _ (s₁.setTop (mkF m 0 #[.val (.ref b1), .val (.ref b2), .val (.int (2 : Int32)), .val (.int (0 : Int32)), .val (.int (Int32.ofNat ss)), .val (.int (Int32.ofNat nn)), .unset] []))
  refine GoOn.st (fun t_ k_ => XS.iloadN X0.here hx rfl (hb hby d_method_3_0) rfl k_) ?_
  refine GoOn.st (fun t_ k_ => XS.iloadN X0.here hx rfl (hb hby d_method_3_1) rfl k_) ?_
  refine GoOn.st (fun t_ k_ => XS.icmpNo X0.here hx rfl (hb hby d_method_3_2) rfl (tlt (by decide : (0 : Int32) < (2 : Int32))).2.2.2 k_) ?_
  refine GoOn.st (fun t_ k_ => XS.iconst X0.here hx rfl (hb hby d_method_3_5)  k_) ?_
  show GoOn _ _ _ _ (s₁.setTop (mkF m 6 #[.val (.ref b1), .val (.ref b2), .val (.int (2 : Int32)), .val (.int (0 : Int32)), .val (.int (Int32.ofNat ss)), .val (.int (Int32.ofNat nn)), .unset] [(.int (1 : Int32))]))
  exact GoOn.retZ X0 hx hlk hret (by simp) rfl (hb hby d_method_3_6) (by rw [e0]; exact ⟨rfl, rfl, rfl⟩) (by decide) (by decide)
theorem ef_ent03 (m : MethodId) (x0 : Addr) (x1 : Addr) (x2 : Int32) (x3 : Int32) (x4 : Int32) (x5 : Int32) : entryFrame m #[(.ref x0), (.ref x1), (.int x2), (.int x3), (.int x4), (.int x5)] 7 = mkF m 0 #[.val (.ref x0), .val (.ref x1), .val (.int x2), .val (.int x3), .val (.int x4), .val (.int x5), .unset] [] := by first | (simp [entryFrame, mkF, argsToLocals, Value.category]; done) | rfl
set_option maxRecDepth 65536 in
set_option maxHeartbeats 40000000 in
theorem rm_ent03 (l : Launch) (Z : State) (a0 : Array Value) (hw : ∀ d ∈ tables_1, d.before a0 Z = true) (b1 b2 : Addr) (kb1 kb2 : ClassId) (nn ss : Nat) (h0 : Heap) :
    OwCon l Z (⟨"com/example/frontwise/frontwise/problem/MnkDependenciesPinLaw", "entry", "([I[IIIII)Z"⟩ : MethodName) method_3_code 7 (some .boolean) [] ({ frames := 0, cells := 0, slots := 0, locals := 0 } : Room) #[(.ref b1), (.ref b2), (.int (3 : Int32)), (.int (0 : Int32)), (.int (Int32.ofNat ss)), (.int (Int32.ofNat nn))] h0 (OwRet (some (.int 1)) h0) := by
  refine OwCon.of (plainFor_of_name pn_com_example_frontwise_frontwise_problem_MnkDependenciesPinLaw) ?_
  intro p e s m below meth cd_ s₁ X0 hx hby hml hret hlk hown hnm hZ e0
  refine GoOn.st (fun t_ k_ => castTop (ef_ent03 m b1 b2 (3 : Int32) (0 : Int32) (Int32.ofNat ss) (Int32.ofNat nn)) k_) ?_
  show GoOn _ _ _ _ (s₁.setTop (mkF m 0 #[.val (.ref b1), .val (.ref b2), .val (.int (3 : Int32)), .val (.int (0 : Int32)), .val (.int (Int32.ofNat ss)), .val (.int (Int32.ofNat nn)), .unset] []))
  refine GoOn.st (fun t_ k_ => XS.iloadN X0.here hx rfl (hb hby d_method_3_0) rfl k_) ?_
  refine GoOn.st (fun t_ k_ => XS.iloadN X0.here hx rfl (hb hby d_method_3_1) rfl k_) ?_
  refine GoOn.st (fun t_ k_ => XS.icmpNo X0.here hx rfl (hb hby d_method_3_2) rfl (tlt (by decide : (0 : Int32) < (3 : Int32))).2.2.2 k_) ?_
  refine GoOn.st (fun t_ k_ => XS.iconst X0.here hx rfl (hb hby d_method_3_5)  k_) ?_
  show GoOn _ _ _ _ (s₁.setTop (mkF m 6 #[.val (.ref b1), .val (.ref b2), .val (.int (3 : Int32)), .val (.int (0 : Int32)), .val (.int (Int32.ofNat ss)), .val (.int (Int32.ofNat nn)), .unset] [(.int (1 : Int32))]))
  exact GoOn.retZ X0 hx hlk hret (by simp) rfl (hb hby d_method_3_6) (by rw [e0]; exact ⟨rfl, rfl, rfl⟩) (by decide) (by decide)
theorem ef_dep1 (m : MethodId) (x0 : Addr) (x1 : Int32) (x2 : Int32) : entryFrame m #[(.ref x0), (.int x1), (.int x2)] 5 = mkF m 0 #[.val (.ref x0), .val (.int x1), .val (.int x2), .unset, .unset] [] := by first | (simp [entryFrame, mkF, argsToLocals, Value.category]; done) | rfl
set_option maxRecDepth 65536 in
set_option maxHeartbeats 40000000 in
theorem rm_dep1 (l : Launch) (Z : State) (a0 : Array Value) (hw : ∀ d ∈ tables_1, d.before a0 Z = true) (a1 : Addr) (nn ss : Nat) (p1 : Int32) (h0 : Heap) (n0 : Nat) (Z0 : n0 ≤ h0.size) (Fe : Fld Z h0 a1 "com/example/frontwise/frontwise/problem/Mnk" "epistasis" "I" (.int (1 : Int32))) (Fn : Fld Z h0 a1 "com/example/frontwise/frontwise/problem/Mnk" "n" "I" (.int (Int32.ofNat nn))) (hnz : Int32.ofNat nn ≠ 0) :
    OwCon l Z (⟨"com/example/frontwise/frontwise/problem/Mnk", "dependencies", "(II)[I"⟩ : MethodName) prog_39_method_6_code 5 (some (.array .int)) [] ({ frames := 0, cells := 1, slots := 2, locals := 0 } : Room) #[(.ref a1), (.int p1), (.int (Int32.ofNat ss))] h0 (fun v h L => ∃ b kb, v = some (.ref b) ∧ Fr n0 L ∧ Keep h0 h [] ∧ h0.size ≤ b ∧ Arv Z h b kb .int (2 : Int32) [(.int ((Int32.ofNat ss + (0 : Int32)) % Int32.ofNat nn)), (.int ((Int32.ofNat ss + (1 : Int32)) % Int32.ofNat nn))] (.int 0)) := by
  refine OwCon.of (plainFor_of_name pn_com_example_frontwise_frontwise_problem_Mnk) ?_
  intro p e s m below meth cd_ s₁ X0 hx hby hml hret hlk hown hnm hZ e0
  have N0 := Fr.nil n0
  refine GoOn.st (fun t_ k_ => castTop (ef_dep1 m a1 p1 (Int32.ofNat ss)) k_) ?_
  show GoOn _ _ _ _ (s₁.setTop (mkF m 0 #[.val (.ref a1), .val (.int p1), .val (.int (Int32.ofNat ss)), .unset, .unset] []))
  refine GoOn.st (fun t_ k_ => XS.aloadN X0.here hx rfl (hb hby d_prog_39_method_6_0) rfl rfl k_) ?_
  obtain ⟨T1, X1, e1, st1⟩ := getF X0 hx hZ hown (host := "") (Or.inl (hw _ (List.mem_of_getElem? (i := 17) rfl))) Via.refl e0 Fe (g := (mkF m 1 #[.val (.ref a1), .val (.int p1), .val (.int (Int32.ofNat ss)), .unset, .unset] [(.ref a1)])) rfl rfl (hb hby d_prog_39_method_6_1)
  refine GoOn.st st1 ?_
  refine GoOn.st (fun t_ k_ => XS.iconst X1.here hx rfl (hb hby d_prog_39_method_6_4)  k_) ?_
  refine GoOn.st (fun t_ k_ => XS.iadd X1.here hx rfl (hb hby d_prog_39_method_6_5) rfl k_) ?_
  show GoOn _ _ _ _ (T1.setTop (mkF m 6 #[.val (.ref a1), .val (.int p1), .val (.int (Int32.ofNat ss)), .unset, .unset] [(.int (2 : Int32))]))
  obtain ⟨T2, h2, k2, X2, e2, E2, A2, st2⟩ := newP X1 hx hZ (hw _ (List.mem_of_getElem? (i := 82) rfl)) e1 (g := (mkF m 6 #[.val (.ref a1), .val (.int p1), .val (.int (Int32.ofNat ss)), .unset, .unset] [(.int (2 : Int32))])) rfl (hb hby d_prog_39_method_6_6) rfl (by decide) (cap := 2) (by decide) (by decide) (by decide) (by decide)
  obtain ⟨b2, g2⟩ : ∃ z, z = h0.size := ⟨_, rfl⟩
  rw [← g2] at A2 st2
  have ne_a1_b2 : a1 ≠ b2 := Nat.ne_of_lt (Nat.lt_of_lt_of_le Fe.lt (Nat.le_of_eq g2.symm))
  have g_b2 : n0 ≤ b2 := Nat.le_trans Z0 (Nat.le_of_eq g2.symm)
  have sz_b2 : h0.size ≤ b2 := Nat.le_trans (Keep.refl h0 []).1 (Nat.le_of_eq g2.symm)
  have V2 : Arv Z h2 b2 k2 .int (2 : Int32) [(.int (0 : Int32)), (.int (0 : Int32))] (.int (0 : Int32)) := (Arv.new A2 (by decide)).pad (pad_rep [] _ 2)
  refine GoOn.st st2 ?_
  refine GoOn.st (fun t_ k_ => XS.astoreN X2.here hx rfl (hb hby d_prog_39_method_6_8) rfl rfl (l' := #[.val (.ref a1), .val (.int p1), .val (.int (Int32.ofNat ss)), .val (.ref b2), .unset]) rfl k_) ?_
  refine GoOn.st (fun t_ k_ => XS.iconst X2.here hx rfl (hb hby d_prog_39_method_6_9)  k_) ?_
  refine GoOn.st (fun t_ k_ => XS.istore X2.here hx rfl (hb hby d_prog_39_method_6_10) rfl (l' := #[.val (.ref a1), .val (.int p1), .val (.int (Int32.ofNat ss)), .val (.ref b2), .val (.int (0 : Int32))]) rfl k_) ?_
  show GoOn _ _ _ _ (T2.setTop (mkF m 12 #[.val (.ref a1), .val (.int p1), .val (.int (Int32.ofNat ss)), .val (.ref b2), .val (.int (0 : Int32))] []))
  refine GoOn.st (fun t_ k_ => XS.iload X2.here hx rfl (hb hby d_prog_39_method_6_12) rfl k_) ?_
  refine GoOn.st (fun t_ k_ => XS.aloadN X2.here hx rfl (hb hby d_prog_39_method_6_14) rfl rfl k_) ?_
  refine GoOn.st (fun t_ k_ => own_arrlen X2 hx hZ e2 V2 (hb hby d_prog_39_method_6_15) _ k_) ?_
  refine GoOn.st (fun t_ k_ => XS.icmpNo X2.here hx rfl (hb hby d_prog_39_method_6_16) rfl (tlt (by decide : (0 : Int32) < (2 : Int32))).2.1 k_) ?_
  show GoOn _ _ _ _ (T2.setTop (mkF m 19 #[.val (.ref a1), .val (.int p1), .val (.int (Int32.ofNat ss)), .val (.ref b2), .val (.int (0 : Int32))] []))
  refine GoOn.st (fun t_ k_ => XS.aloadN X2.here hx rfl (hb hby d_prog_39_method_6_19) rfl rfl k_) ?_
  refine GoOn.st (fun t_ k_ => XS.iload X2.here hx rfl (hb hby d_prog_39_method_6_20) rfl k_) ?_
  refine GoOn.st (fun t_ k_ => XS.iloadN X2.here hx rfl (hb hby d_prog_39_method_6_22) rfl k_) ?_
  refine GoOn.st (fun t_ k_ => XS.iload X2.here hx rfl (hb hby d_prog_39_method_6_23) rfl k_) ?_
  show GoOn _ _ _ _ (T2.setTop (mkF m 25 #[.val (.ref a1), .val (.int p1), .val (.int (Int32.ofNat ss)), .val (.ref b2), .val (.int (0 : Int32))] [(.int (0 : Int32)), (.int (Int32.ofNat ss)), (.int (0 : Int32)), (.ref b2)]))
  refine GoOn.st (fun t_ k_ => XS.iadd X2.here hx rfl (hb hby d_prog_39_method_6_25) rfl k_) ?_
  refine GoOn.st (fun t_ k_ => XS.aloadN X2.here hx rfl (hb hby d_prog_39_method_6_26) rfl rfl k_) ?_
  have F3 := (Fn.ext E2)
  obtain ⟨T4, X4, e4, st4⟩ := getF X2 hx hZ hown (host := "") (Or.inl (hw _ (List.mem_of_getElem? (i := 15) rfl))) Via.refl e2 F3 (g := (mkF m 27 #[.val (.ref a1), .val (.int p1), .val (.int (Int32.ofNat ss)), .val (.ref b2), .val (.int (0 : Int32))] [(.ref a1), (.int ((Int32.ofNat ss) + (0 : Int32))), (.int (0 : Int32)), (.ref b2)])) rfl rfl (hb hby d_prog_39_method_6_27)
  refine GoOn.st st4 ?_
  refine GoOn.st (fun t_ k_ => iremM X4 hx rfl (hb hby d_prog_39_method_6_30) rfl hnz k_) ?_
  show GoOn _ _ _ _ (T4.setTop (mkF m 31 #[.val (.ref a1), .val (.int p1), .val (.int (Int32.ofNat ss)), .val (.ref b2), .val (.int (0 : Int32))] [(.int (((Int32.ofNat ss) + (0 : Int32)) % (Int32.ofNat nn))), (.int (0 : Int32)), (.ref b2)]))
  obtain ⟨T5, h5, X5, e5, W5, V5, st5⟩ := own_iastore X4 hx hZ e4 V2 (j := (0 : Int32)) (by decide) 0 (by decide) (show 0 < _ from (by decide : 0 < 2)) (x := (((Int32.ofNat ss) + (0 : Int32)) % (Int32.ofNat nn))) (Ls := #[.val (.ref a1), .val (.int p1), .val (.int (Int32.ofNat ss)), .val (.ref b2), .val (.int (0 : Int32))]) (rest := []) (hb hby d_prog_39_method_6_31)
  replace V5 : Arv Z h5 b2 k2 .int (2 : Int32) [(.int (((Int32.ofNat ss) + (0 : Int32)) % (Int32.ofNat nn))), (.int (0 : Int32))] (.int (0 : Int32)) := V5
  have N6 := Fr.snoc X5 N0 g_b2
  refine GoOn.st st5 ?_
  refine GoOn.st (fun t_ k_ => XS.iinc X5.here hx rfl (hb hby d_prog_39_method_6_32) rfl (l' := #[.val (.ref a1), .val (.int p1), .val (.int (Int32.ofNat ss)), .val (.ref b2), .val (.int (1 : Int32))]) rfl k_) ?_
  refine GoOn.st (fun t_ k_ => XS.goto X5.here hx rfl (pc0 := 35) (pc' := 12) rfl (hb hby d_prog_39_method_6_35) (by decide) (by decide) k_) ?_
  refine GoOn.st (fun t_ k_ => XS.iload X5.here hx rfl (hb hby d_prog_39_method_6_12) rfl k_) ?_
  show GoOn _ _ _ _ (T5.setTop (mkF m 14 #[.val (.ref a1), .val (.int p1), .val (.int (Int32.ofNat ss)), .val (.ref b2), .val (.int (1 : Int32))] [(.int (1 : Int32))]))
  refine GoOn.st (fun t_ k_ => XS.aloadN X5.here hx rfl (hb hby d_prog_39_method_6_14) rfl rfl k_) ?_
  refine GoOn.st (fun t_ k_ => own_arrlen X5 hx hZ e5 V5 (hb hby d_prog_39_method_6_15) _ k_) ?_
  refine GoOn.st (fun t_ k_ => XS.icmpNo X5.here hx rfl (hb hby d_prog_39_method_6_16) rfl (tlt (by decide : (1 : Int32) < (2 : Int32))).2.1 k_) ?_
  refine GoOn.st (fun t_ k_ => XS.aloadN X5.here hx rfl (hb hby d_prog_39_method_6_19) rfl rfl k_) ?_
  show GoOn _ _ _ _ (T5.setTop (mkF m 20 #[.val (.ref a1), .val (.int p1), .val (.int (Int32.ofNat ss)), .val (.ref b2), .val (.int (1 : Int32))] [(.ref b2)]))
  refine GoOn.st (fun t_ k_ => XS.iload X5.here hx rfl (hb hby d_prog_39_method_6_20) rfl k_) ?_
  refine GoOn.st (fun t_ k_ => XS.iloadN X5.here hx rfl (hb hby d_prog_39_method_6_22) rfl k_) ?_
  refine GoOn.st (fun t_ k_ => XS.iload X5.here hx rfl (hb hby d_prog_39_method_6_23) rfl k_) ?_
  refine GoOn.st (fun t_ k_ => XS.iadd X5.here hx rfl (hb hby d_prog_39_method_6_25) rfl k_) ?_
  show GoOn _ _ _ _ (T5.setTop (mkF m 26 #[.val (.ref a1), .val (.int p1), .val (.int (Int32.ofNat ss)), .val (.ref b2), .val (.int (1 : Int32))] [(.int ((Int32.ofNat ss) + (1 : Int32))), (.int (1 : Int32)), (.ref b2)]))
  refine GoOn.st (fun t_ k_ => XS.aloadN X5.here hx rfl (hb hby d_prog_39_method_6_26) rfl rfl k_) ?_
  have F7 := (Fld.other W5 F3 (Or.inl ne_a1_b2))
  obtain ⟨T8, X8, e8, st8⟩ := getF X5 hx hZ hown (host := "") (Or.inl (hw _ (List.mem_of_getElem? (i := 15) rfl))) Via.refl e5 F7 (g := (mkF m 27 #[.val (.ref a1), .val (.int p1), .val (.int (Int32.ofNat ss)), .val (.ref b2), .val (.int (1 : Int32))] [(.ref a1), (.int ((Int32.ofNat ss) + (1 : Int32))), (.int (1 : Int32)), (.ref b2)])) rfl rfl (hb hby d_prog_39_method_6_27)
  refine GoOn.st st8 ?_
  refine GoOn.st (fun t_ k_ => iremM X8 hx rfl (hb hby d_prog_39_method_6_30) rfl hnz k_) ?_
  obtain ⟨T9, h9, X9, e9, W9, V9, st9⟩ := own_iastore X8 hx hZ e8 V5 (j := (1 : Int32)) (by decide) 1 (by decide) (show 1 < _ from (by decide : 1 < 2)) (x := (((Int32.ofNat ss) + (1 : Int32)) % (Int32.ofNat nn))) (Ls := #[.val (.ref a1), .val (.int p1), .val (.int (Int32.ofNat ss)), .val (.ref b2), .val (.int (1 : Int32))]) (rest := []) (hb hby d_prog_39_method_6_31)
  replace V9 : Arv Z h9 b2 k2 .int (2 : Int32) [(.int (((Int32.ofNat ss) + (0 : Int32)) % (Int32.ofNat nn))), (.int (((Int32.ofNat ss) + (1 : Int32)) % (Int32.ofNat nn)))] (.int (0 : Int32)) := V9
  have N10 := Fr.snoc X9 N6 g_b2
  refine GoOn.st st9 ?_
  show GoOn _ _ _ _ (T9.setTop (mkF m 32 #[.val (.ref a1), .val (.int p1), .val (.int (Int32.ofNat ss)), .val (.ref b2), .val (.int (1 : Int32))] []))
  refine GoOn.st (fun t_ k_ => XS.iinc X9.here hx rfl (hb hby d_prog_39_method_6_32) rfl (l' := #[.val (.ref a1), .val (.int p1), .val (.int (Int32.ofNat ss)), .val (.ref b2), .val (.int (2 : Int32))]) rfl k_) ?_
  refine GoOn.st (fun t_ k_ => XS.goto X9.here hx rfl (pc0 := 35) (pc' := 12) rfl (hb hby d_prog_39_method_6_35) (by decide) (by decide) k_) ?_
  refine GoOn.st (fun t_ k_ => XS.iload X9.here hx rfl (hb hby d_prog_39_method_6_12) rfl k_) ?_
  refine GoOn.st (fun t_ k_ => XS.aloadN X9.here hx rfl (hb hby d_prog_39_method_6_14) rfl rfl k_) ?_
  show GoOn _ _ _ _ (T9.setTop (mkF m 15 #[.val (.ref a1), .val (.int p1), .val (.int (Int32.ofNat ss)), .val (.ref b2), .val (.int (2 : Int32))] [(.ref b2), (.int (2 : Int32))]))
  refine GoOn.st (fun t_ k_ => own_arrlen X9 hx hZ e9 V9 (hb hby d_prog_39_method_6_15) _ k_) ?_
  refine GoOn.st (fun t_ k_ => XS.icmpYes X9.here hx rfl (pc0 := 16) (pc' := 38) rfl (hb hby d_prog_39_method_6_16) rfl (flt (by decide : ¬ ((2 : Int32) < (2 : Int32)))).2.1 (by decide) (by decide) k_) ?_
  refine GoOn.st (fun t_ k_ => XS.aloadN X9.here hx rfl (hb hby d_prog_39_method_6_38) rfl rfl k_) ?_
  show GoOn _ _ _ _ (T9.setTop (mkF m 39 #[.val (.ref a1), .val (.int p1), .val (.int (Int32.ofNat ss)), .val (.ref b2), .val (.int (2 : Int32))] [(.ref b2)]))
  exact GoOn.retA X9 hx hlk hret rfl rfl rfl (hb hby d_prog_39_method_6_39) (by rw [e9]; exact ⟨b2, k2, rfl, N10, ((((Keep.refl h0 []).ext E2).wr W5 (Or.inr sz_b2)).wr W9 (Or.inr sz_b2)), sz_b2, V9⟩) (by decide) (by decide)
theorem ef_ent10 (m : MethodId) (x0 : Addr) (x1 : Addr) (x2 : Int32) (x3 : Int32) (x4 : Int32) (x5 : Int32) : entryFrame m #[(.ref x0), (.ref x1), (.int x2), (.int x3), (.int x4), (.int x5)] 7 = mkF m 0 #[.val (.ref x0), .val (.ref x1), .val (.int x2), .val (.int x3), .val (.int x4), .val (.int x5), .unset] [] := by first | (simp [entryFrame, mkF, argsToLocals, Value.category]; done) | rfl
set_option maxRecDepth 65536 in
set_option maxHeartbeats 40000000 in
theorem rm_ent10 (l : Launch) (Z : State) (a0 : Array Value) (hw : ∀ d ∈ tables_1, d.before a0 Z = true) (b1 b2 : Addr) (kb1 kb2 : ClassId) (nn ss : Nat) (h0 : Heap) (Vb1 : Arv Z h0 b1 kb1 .int (2 : Int32) [(.int ((Int32.ofNat ss + (0 : Int32)) % Int32.ofNat nn)), (.int ((Int32.ofNat ss + (1 : Int32)) % Int32.ofNat nn))] (.int 0)) (Vb2 : Arv Z h0 b2 kb2 .int (2 : Int32) [(.int ((Int32.ofNat ss + (0 : Int32)) % Int32.ofNat nn)), (.int ((Int32.ofNat ss + (1 : Int32)) % Int32.ofNat nn))] (.int 0)) (hj : ((Int32.ofNat ss + (0 : Int32)) % Int32.ofNat nn) = (if Int32.ofNat ss + (0 : Int32) < Int32.ofNat nn then Int32.ofNat ss + (0 : Int32) else Int32.ofNat ss + (0 : Int32) - Int32.ofNat nn)) :
    OwCon l Z (⟨"com/example/frontwise/frontwise/problem/MnkDependenciesPinLaw", "entry", "([I[IIIII)Z"⟩ : MethodName) method_3_code 7 (some .boolean) [] ({ frames := 0, cells := 0, slots := 0, locals := 0 } : Room) #[(.ref b1), (.ref b2), (.int (0 : Int32)), (.int (1 : Int32)), (.int (Int32.ofNat ss)), (.int (Int32.ofNat nn))] h0 (OwRet (some (.int 1)) h0) := by
  refine OwCon.of (plainFor_of_name pn_com_example_frontwise_frontwise_problem_MnkDependenciesPinLaw) ?_
  intro p e s m below meth cd_ s₁ X0 hx hby hml hret hlk hown hnm hZ e0
  refine GoOn.st (fun t_ k_ => castTop (ef_ent10 m b1 b2 (0 : Int32) (1 : Int32) (Int32.ofNat ss) (Int32.ofNat nn)) k_) ?_
  show GoOn _ _ _ _ (s₁.setTop (mkF m 0 #[.val (.ref b1), .val (.ref b2), .val (.int (0 : Int32)), .val (.int (1 : Int32)), .val (.int (Int32.ofNat ss)), .val (.int (Int32.ofNat nn)), .unset] []))
  refine GoOn.st (fun t_ k_ => XS.iloadN X0.here hx rfl (hb hby d_method_3_0) rfl k_) ?_
  refine GoOn.st (fun t_ k_ => XS.iloadN X0.here hx rfl (hb hby d_method_3_1) rfl k_) ?_
  refine GoOn.st (fun t_ k_ => XS.icmpYes X0.here hx rfl (pc0 := 2) (pc' := 7) rfl (hb hby d_method_3_2) rfl (flt (by decide : ¬ ((1 : Int32) < (0 : Int32)))).2.2.2 (by decide) (by decide) k_) ?_
  refine GoOn.st (fun t_ k_ => XS.iload X0.here hx rfl (hb hby d_method_3_7) rfl k_) ?_
  show GoOn _ _ _ _ (s₁.setTop (mkF m 9 #[.val (.ref b1), .val (.ref b2), .val (.int (0 : Int32)), .val (.int (1 : Int32)), .val (.int (Int32.ofNat ss)), .val (.int (Int32.ofNat nn)), .unset] [(.int (Int32.ofNat ss))]))
  refine GoOn.st (fun t_ k_ => XS.iloadN X0.here hx rfl (hb hby d_method_3_9) rfl k_) ?_
  refine GoOn.st (fun t_ k_ => XS.iadd X0.here hx rfl (hb hby d_method_3_10) rfl k_) ?_
  refine GoOn.st (fun t_ k_ => XS.iload X0.here hx rfl (hb hby d_method_3_11) rfl k_) ?_
  have dm1 : ∀ zz0 : Int32, zz0 = (if ((Int32.ofNat ss) + (0 : Int32)) < (Int32.ofNat nn) then ((Int32.ofNat ss) + (0 : Int32)) else (((Int32.ofNat ss) + (0 : Int32)) - (Int32.ofNat nn))) → ∀ t_, Steps p.tables e below (s₁.setTop (mkF m 30 #[.val (.ref b1), .val (.ref b2), .val (.int (0 : Int32)), .val (.int (1 : Int32)), .val (.int (Int32.ofNat ss)), .val (.int (Int32.ofNat nn)), .unset] [(.int zz0)])) t_ → Steps p.tables e below (s₁.setTop (mkF m 13 #[.val (.ref b1), .val (.ref b2), .val (.int (0 : Int32)), .val (.int (1 : Int32)), .val (.int (Int32.ofNat ss)), .val (.int (Int32.ofNat nn)), .unset] [(.int (Int32.ofNat nn)), (.int ((Int32.ofNat ss) + (0 : Int32)))])) t_ := by
    intro zz0 hzz0 t_ k_; by_cases hc : ((Int32.ofNat ss) + (0 : Int32)) < (Int32.ofNat nn)
    · rw [hzz0.trans (if_pos hc)] at k_
      refine XS.icmpNo X0.here hx rfl (hb hby d_method_3_13) rfl (tlt hc).2.1 ?_
      show Steps _ _ _ (s₁.setTop (mkF m 16 #[.val (.ref b1), .val (.ref b2), .val (.int (0 : Int32)), .val (.int (1 : Int32)), .val (.int (Int32.ofNat ss)), .val (.int (Int32.ofNat nn)), .unset] [])) _
      refine XS.iload X0.here hx rfl (hb hby d_method_3_16) rfl ?_
      refine XS.iloadN X0.here hx rfl (hb hby d_method_3_18) rfl ?_
      refine XS.iadd X0.here hx rfl (hb hby d_method_3_19) rfl ?_
      refine XS.goto X0.here hx rfl (pc0 := 20) (pc' := 30) rfl (hb hby d_method_3_20) (by decide) (by decide) ?_
      exact k_
    · rw [hzz0.trans (if_neg hc)] at k_
      refine XS.icmpYes X0.here hx rfl (pc0 := 13) (pc' := 23) rfl (hb hby d_method_3_13) rfl (flt hc).2.1 (by decide) (by decide) ?_
      show Steps _ _ _ (s₁.setTop (mkF m 23 #[.val (.ref b1), .val (.ref b2), .val (.int (0 : Int32)), .val (.int (1 : Int32)), .val (.int (Int32.ofNat ss)), .val (.int (Int32.ofNat nn)), .unset] [])) _
      refine XS.iload X0.here hx rfl (hb hby d_method_3_23) rfl ?_
      refine XS.iloadN X0.here hx rfl (hb hby d_method_3_25) rfl ?_
      refine XS.iadd X0.here hx rfl (hb hby d_method_3_26) rfl ?_
      refine XS.iload X0.here hx rfl (hb hby d_method_3_27) rfl ?_
      show Steps _ _ _ (s₁.setTop (mkF m 29 #[.val (.ref b1), .val (.ref b2), .val (.int (0 : Int32)), .val (.int (1 : Int32)), .val (.int (Int32.ofNat ss)), .val (.int (Int32.ofNat nn)), .unset] [(.int (Int32.ofNat nn)), (.int ((Int32.ofNat ss) + (0 : Int32)))])) _
      refine XS.isub X0.here hx rfl (hb hby d_method_3_29) rfl ?_
      exact k_
  refine GoOn.st (dm1 _ rfl) ?_
  show GoOn _ _ _ _ (s₁.setTop (mkF m 30 #[.val (.ref b1), .val (.ref b2), .val (.int (0 : Int32)), .val (.int (1 : Int32)), .val (.int (Int32.ofNat ss)), .val (.int (Int32.ofNat nn)), .unset] [(.int (if ((Int32.ofNat ss) + (0 : Int32)) < (Int32.ofNat nn) then ((Int32.ofNat ss) + (0 : Int32)) else (((Int32.ofNat ss) + (0 : Int32)) - (Int32.ofNat nn))))]))
  refine GoOn.st (fun t_ k_ => XS.istore X0.here hx rfl (hb hby d_method_3_30) rfl (l' := #[.val (.ref b1), .val (.ref b2), .val (.int (0 : Int32)), .val (.int (1 : Int32)), .val (.int (Int32.ofNat ss)), .val (.int (Int32.ofNat nn)), .val (.int (if ((Int32.ofNat ss) + (0 : Int32)) < (Int32.ofNat nn) then ((Int32.ofNat ss) + (0 : Int32)) else (((Int32.ofNat ss) + (0 : Int32)) - (Int32.ofNat nn))))]) rfl k_) ?_
  refine GoOn.st (fun t_ k_ => XS.aloadN X0.here hx rfl (hb hby d_method_3_32) rfl rfl k_) ?_
  refine GoOn.st (fun t_ k_ => XS.iloadN X0.here hx rfl (hb hby d_method_3_33) rfl k_) ?_
  refine GoOn.st (fun t_ k_ => own_iaload X0 hx hZ e0 Vb1 (j := (0 : Int32)) (by decide) (v := (.int ((Int32.ofNat ss + (0 : Int32)) % Int32.ofNat nn))) rfl (hb hby d_method_3_34) _ k_) ?_
  show GoOn _ _ _ _ (s₁.setTop (mkF m 35 #[.val (.ref b1), .val (.ref b2), .val (.int (0 : Int32)), .val (.int (1 : Int32)), .val (.int (Int32.ofNat ss)), .val (.int (Int32.ofNat nn)), .val (.int (if ((Int32.ofNat ss) + (0 : Int32)) < (Int32.ofNat nn) then ((Int32.ofNat ss) + (0 : Int32)) else (((Int32.ofNat ss) + (0 : Int32)) - (Int32.ofNat nn))))] [(.int ((Int32.ofNat ss + (0 : Int32)) % Int32.ofNat nn))]))
  refine GoOn.st (fun t_ k_ => XS.iload X0.here hx rfl (hb hby d_method_3_35) rfl k_) ?_
  refine GoOn.st (fun t_ k_ => XS.icmpNo X0.here hx rfl (hb hby d_method_3_37) rfl (teq hj).2 k_) ?_
  refine GoOn.st (fun t_ k_ => XS.aloadN X0.here hx rfl (hb hby d_method_3_40) rfl rfl k_) ?_
  refine GoOn.st (fun t_ k_ => XS.iloadN X0.here hx rfl (hb hby d_method_3_41) rfl k_) ?_
  show GoOn _ _ _ _ (s₁.setTop (mkF m 42 #[.val (.ref b1), .val (.ref b2), .val (.int (0 : Int32)), .val (.int (1 : Int32)), .val (.int (Int32.ofNat ss)), .val (.int (Int32.ofNat nn)), .val (.int (if ((Int32.ofNat ss) + (0 : Int32)) < (Int32.ofNat nn) then ((Int32.ofNat ss) + (0 : Int32)) else (((Int32.ofNat ss) + (0 : Int32)) - (Int32.ofNat nn))))] [(.int (0 : Int32)), (.ref b2)]))
  refine GoOn.st (fun t_ k_ => own_iaload X0 hx hZ e0 Vb2 (j := (0 : Int32)) (by decide) (v := (.int ((Int32.ofNat ss + (0 : Int32)) % Int32.ofNat nn))) rfl (hb hby d_method_3_42) _ k_) ?_
  refine GoOn.st (fun t_ k_ => XS.iload X0.here hx rfl (hb hby d_method_3_43) rfl k_) ?_
  refine GoOn.st (fun t_ k_ => XS.icmpNo X0.here hx rfl (hb hby d_method_3_45) rfl (teq hj).2 k_) ?_
  refine GoOn.st (fun t_ k_ => XS.iconst X0.here hx rfl (hb hby d_method_3_48)  k_) ?_
  show GoOn _ _ _ _ (s₁.setTop (mkF m 49 #[.val (.ref b1), .val (.ref b2), .val (.int (0 : Int32)), .val (.int (1 : Int32)), .val (.int (Int32.ofNat ss)), .val (.int (Int32.ofNat nn)), .val (.int (if ((Int32.ofNat ss) + (0 : Int32)) < (Int32.ofNat nn) then ((Int32.ofNat ss) + (0 : Int32)) else (((Int32.ofNat ss) + (0 : Int32)) - (Int32.ofNat nn))))] [(.int (1 : Int32))]))
  refine GoOn.st (fun t_ k_ => XS.goto X0.here hx rfl (pc0 := 49) (pc' := 53) rfl (hb hby d_method_3_49) (by decide) (by decide) k_) ?_
  show GoOn _ _ _ _ (s₁.setTop (mkF m 53 #[.val (.ref b1), .val (.ref b2), .val (.int (0 : Int32)), .val (.int (1 : Int32)), .val (.int (Int32.ofNat ss)), .val (.int (Int32.ofNat nn)), .val (.int (if ((Int32.ofNat ss) + (0 : Int32)) < (Int32.ofNat nn) then ((Int32.ofNat ss) + (0 : Int32)) else (((Int32.ofNat ss) + (0 : Int32)) - (Int32.ofNat nn))))] [(.int (1 : Int32))]))
  exact GoOn.retZ X0 hx hlk hret (by simp) rfl (hb hby d_method_3_53) (by rw [e0]; exact ⟨rfl, rfl, rfl⟩) (by decide) (by decide)
theorem ef_ent11 (m : MethodId) (x0 : Addr) (x1 : Addr) (x2 : Int32) (x3 : Int32) (x4 : Int32) (x5 : Int32) : entryFrame m #[(.ref x0), (.ref x1), (.int x2), (.int x3), (.int x4), (.int x5)] 7 = mkF m 0 #[.val (.ref x0), .val (.ref x1), .val (.int x2), .val (.int x3), .val (.int x4), .val (.int x5), .unset] [] := by first | (simp [entryFrame, mkF, argsToLocals, Value.category]; done) | rfl
set_option maxRecDepth 65536 in
set_option maxHeartbeats 40000000 in
theorem rm_ent11 (l : Launch) (Z : State) (a0 : Array Value) (hw : ∀ d ∈ tables_1, d.before a0 Z = true) (b1 b2 : Addr) (kb1 kb2 : ClassId) (nn ss : Nat) (h0 : Heap) (Vb1 : Arv Z h0 b1 kb1 .int (2 : Int32) [(.int ((Int32.ofNat ss + (0 : Int32)) % Int32.ofNat nn)), (.int ((Int32.ofNat ss + (1 : Int32)) % Int32.ofNat nn))] (.int 0)) (Vb2 : Arv Z h0 b2 kb2 .int (2 : Int32) [(.int ((Int32.ofNat ss + (0 : Int32)) % Int32.ofNat nn)), (.int ((Int32.ofNat ss + (1 : Int32)) % Int32.ofNat nn))] (.int 0)) (hj : ((Int32.ofNat ss + (1 : Int32)) % Int32.ofNat nn) = (if Int32.ofNat ss + (1 : Int32) < Int32.ofNat nn then Int32.ofNat ss + (1 : Int32) else Int32.ofNat ss + (1 : Int32) - Int32.ofNat nn)) :
    OwCon l Z (⟨"com/example/frontwise/frontwise/problem/MnkDependenciesPinLaw", "entry", "([I[IIIII)Z"⟩ : MethodName) method_3_code 7 (some .boolean) [] ({ frames := 0, cells := 0, slots := 0, locals := 0 } : Room) #[(.ref b1), (.ref b2), (.int (1 : Int32)), (.int (1 : Int32)), (.int (Int32.ofNat ss)), (.int (Int32.ofNat nn))] h0 (OwRet (some (.int 1)) h0) := by
  refine OwCon.of (plainFor_of_name pn_com_example_frontwise_frontwise_problem_MnkDependenciesPinLaw) ?_
  intro p e s m below meth cd_ s₁ X0 hx hby hml hret hlk hown hnm hZ e0
  refine GoOn.st (fun t_ k_ => castTop (ef_ent11 m b1 b2 (1 : Int32) (1 : Int32) (Int32.ofNat ss) (Int32.ofNat nn)) k_) ?_
  show GoOn _ _ _ _ (s₁.setTop (mkF m 0 #[.val (.ref b1), .val (.ref b2), .val (.int (1 : Int32)), .val (.int (1 : Int32)), .val (.int (Int32.ofNat ss)), .val (.int (Int32.ofNat nn)), .unset] []))
  refine GoOn.st (fun t_ k_ => XS.iloadN X0.here hx rfl (hb hby d_method_3_0) rfl k_) ?_
  refine GoOn.st (fun t_ k_ => XS.iloadN X0.here hx rfl (hb hby d_method_3_1) rfl k_) ?_
  refine GoOn.st (fun t_ k_ => XS.icmpYes X0.here hx rfl (pc0 := 2) (pc' := 7) rfl (hb hby d_method_3_2) rfl (flt (by decide : ¬ ((1 : Int32) < (1 : Int32)))).2.2.2 (by decide) (by decide) k_) ?_
  refine GoOn.st (fun t_ k_ => XS.iload X0.here hx rfl (hb hby d_method_3_7) rfl k_) ?_
  show GoOn _ _ _ _ (s₁.setTop (mkF m 9 #[.val (.ref b1), .val (.ref b2), .val (.int (1 : Int32)), .val (.int (1 : Int32)), .val (.int (Int32.ofNat ss)), .val (.int (Int32.ofNat nn)), .unset] [(.int (Int32.ofNat ss))]))
  refine GoOn.st (fun t_ k_ => XS.iloadN X0.here hx rfl (hb hby d_method_3_9) rfl k_) ?_
  refine GoOn.st (fun t_ k_ => XS.iadd X0.here hx rfl (hb hby d_method_3_10) rfl k_) ?_
  refine GoOn.st (fun t_ k_ => XS.iload X0.here hx rfl (hb hby d_method_3_11) rfl k_) ?_
  have dm1 : ∀ zz0 : Int32, zz0 = (if ((Int32.ofNat ss) + (1 : Int32)) < (Int32.ofNat nn) then ((Int32.ofNat ss) + (1 : Int32)) else (((Int32.ofNat ss) + (1 : Int32)) - (Int32.ofNat nn))) → ∀ t_, Steps p.tables e below (s₁.setTop (mkF m 30 #[.val (.ref b1), .val (.ref b2), .val (.int (1 : Int32)), .val (.int (1 : Int32)), .val (.int (Int32.ofNat ss)), .val (.int (Int32.ofNat nn)), .unset] [(.int zz0)])) t_ → Steps p.tables e below (s₁.setTop (mkF m 13 #[.val (.ref b1), .val (.ref b2), .val (.int (1 : Int32)), .val (.int (1 : Int32)), .val (.int (Int32.ofNat ss)), .val (.int (Int32.ofNat nn)), .unset] [(.int (Int32.ofNat nn)), (.int ((Int32.ofNat ss) + (1 : Int32)))])) t_ := by
    intro zz0 hzz0 t_ k_; by_cases hc : ((Int32.ofNat ss) + (1 : Int32)) < (Int32.ofNat nn)
    · rw [hzz0.trans (if_pos hc)] at k_
      refine XS.icmpNo X0.here hx rfl (hb hby d_method_3_13) rfl (tlt hc).2.1 ?_
      show Steps _ _ _ (s₁.setTop (mkF m 16 #[.val (.ref b1), .val (.ref b2), .val (.int (1 : Int32)), .val (.int (1 : Int32)), .val (.int (Int32.ofNat ss)), .val (.int (Int32.ofNat nn)), .unset] [])) _
      refine XS.iload X0.here hx rfl (hb hby d_method_3_16) rfl ?_
      refine XS.iloadN X0.here hx rfl (hb hby d_method_3_18) rfl ?_
      refine XS.iadd X0.here hx rfl (hb hby d_method_3_19) rfl ?_
      refine XS.goto X0.here hx rfl (pc0 := 20) (pc' := 30) rfl (hb hby d_method_3_20) (by decide) (by decide) ?_
      exact k_
    · rw [hzz0.trans (if_neg hc)] at k_
      refine XS.icmpYes X0.here hx rfl (pc0 := 13) (pc' := 23) rfl (hb hby d_method_3_13) rfl (flt hc).2.1 (by decide) (by decide) ?_
      show Steps _ _ _ (s₁.setTop (mkF m 23 #[.val (.ref b1), .val (.ref b2), .val (.int (1 : Int32)), .val (.int (1 : Int32)), .val (.int (Int32.ofNat ss)), .val (.int (Int32.ofNat nn)), .unset] [])) _
      refine XS.iload X0.here hx rfl (hb hby d_method_3_23) rfl ?_
      refine XS.iloadN X0.here hx rfl (hb hby d_method_3_25) rfl ?_
      refine XS.iadd X0.here hx rfl (hb hby d_method_3_26) rfl ?_
      refine XS.iload X0.here hx rfl (hb hby d_method_3_27) rfl ?_
      show Steps _ _ _ (s₁.setTop (mkF m 29 #[.val (.ref b1), .val (.ref b2), .val (.int (1 : Int32)), .val (.int (1 : Int32)), .val (.int (Int32.ofNat ss)), .val (.int (Int32.ofNat nn)), .unset] [(.int (Int32.ofNat nn)), (.int ((Int32.ofNat ss) + (1 : Int32)))])) _
      refine XS.isub X0.here hx rfl (hb hby d_method_3_29) rfl ?_
      exact k_
  refine GoOn.st (dm1 _ rfl) ?_
  show GoOn _ _ _ _ (s₁.setTop (mkF m 30 #[.val (.ref b1), .val (.ref b2), .val (.int (1 : Int32)), .val (.int (1 : Int32)), .val (.int (Int32.ofNat ss)), .val (.int (Int32.ofNat nn)), .unset] [(.int (if ((Int32.ofNat ss) + (1 : Int32)) < (Int32.ofNat nn) then ((Int32.ofNat ss) + (1 : Int32)) else (((Int32.ofNat ss) + (1 : Int32)) - (Int32.ofNat nn))))]))
  refine GoOn.st (fun t_ k_ => XS.istore X0.here hx rfl (hb hby d_method_3_30) rfl (l' := #[.val (.ref b1), .val (.ref b2), .val (.int (1 : Int32)), .val (.int (1 : Int32)), .val (.int (Int32.ofNat ss)), .val (.int (Int32.ofNat nn)), .val (.int (if ((Int32.ofNat ss) + (1 : Int32)) < (Int32.ofNat nn) then ((Int32.ofNat ss) + (1 : Int32)) else (((Int32.ofNat ss) + (1 : Int32)) - (Int32.ofNat nn))))]) rfl k_) ?_
  refine GoOn.st (fun t_ k_ => XS.aloadN X0.here hx rfl (hb hby d_method_3_32) rfl rfl k_) ?_
  refine GoOn.st (fun t_ k_ => XS.iloadN X0.here hx rfl (hb hby d_method_3_33) rfl k_) ?_
  refine GoOn.st (fun t_ k_ => own_iaload X0 hx hZ e0 Vb1 (j := (1 : Int32)) (by decide) (v := (.int ((Int32.ofNat ss + (1 : Int32)) % Int32.ofNat nn))) rfl (hb hby d_method_3_34) _ k_) ?_
  show GoOn _ _ _ _ (s₁.setTop (mkF m 35 #[.val (.ref b1), .val (.ref b2), .val (.int (1 : Int32)), .val (.int (1 : Int32)), .val (.int (Int32.ofNat ss)), .val (.int (Int32.ofNat nn)), .val (.int (if ((Int32.ofNat ss) + (1 : Int32)) < (Int32.ofNat nn) then ((Int32.ofNat ss) + (1 : Int32)) else (((Int32.ofNat ss) + (1 : Int32)) - (Int32.ofNat nn))))] [(.int ((Int32.ofNat ss + (1 : Int32)) % Int32.ofNat nn))]))
  refine GoOn.st (fun t_ k_ => XS.iload X0.here hx rfl (hb hby d_method_3_35) rfl k_) ?_
  refine GoOn.st (fun t_ k_ => XS.icmpNo X0.here hx rfl (hb hby d_method_3_37) rfl (teq hj).2 k_) ?_
  refine GoOn.st (fun t_ k_ => XS.aloadN X0.here hx rfl (hb hby d_method_3_40) rfl rfl k_) ?_
  refine GoOn.st (fun t_ k_ => XS.iloadN X0.here hx rfl (hb hby d_method_3_41) rfl k_) ?_
  show GoOn _ _ _ _ (s₁.setTop (mkF m 42 #[.val (.ref b1), .val (.ref b2), .val (.int (1 : Int32)), .val (.int (1 : Int32)), .val (.int (Int32.ofNat ss)), .val (.int (Int32.ofNat nn)), .val (.int (if ((Int32.ofNat ss) + (1 : Int32)) < (Int32.ofNat nn) then ((Int32.ofNat ss) + (1 : Int32)) else (((Int32.ofNat ss) + (1 : Int32)) - (Int32.ofNat nn))))] [(.int (1 : Int32)), (.ref b2)]))
  refine GoOn.st (fun t_ k_ => own_iaload X0 hx hZ e0 Vb2 (j := (1 : Int32)) (by decide) (v := (.int ((Int32.ofNat ss + (1 : Int32)) % Int32.ofNat nn))) rfl (hb hby d_method_3_42) _ k_) ?_
  refine GoOn.st (fun t_ k_ => XS.iload X0.here hx rfl (hb hby d_method_3_43) rfl k_) ?_
  refine GoOn.st (fun t_ k_ => XS.icmpNo X0.here hx rfl (hb hby d_method_3_45) rfl (teq hj).2 k_) ?_
  refine GoOn.st (fun t_ k_ => XS.iconst X0.here hx rfl (hb hby d_method_3_48)  k_) ?_
  show GoOn _ _ _ _ (s₁.setTop (mkF m 49 #[.val (.ref b1), .val (.ref b2), .val (.int (1 : Int32)), .val (.int (1 : Int32)), .val (.int (Int32.ofNat ss)), .val (.int (Int32.ofNat nn)), .val (.int (if ((Int32.ofNat ss) + (1 : Int32)) < (Int32.ofNat nn) then ((Int32.ofNat ss) + (1 : Int32)) else (((Int32.ofNat ss) + (1 : Int32)) - (Int32.ofNat nn))))] [(.int (1 : Int32))]))
  refine GoOn.st (fun t_ k_ => XS.goto X0.here hx rfl (pc0 := 49) (pc' := 53) rfl (hb hby d_method_3_49) (by decide) (by decide) k_) ?_
  show GoOn _ _ _ _ (s₁.setTop (mkF m 53 #[.val (.ref b1), .val (.ref b2), .val (.int (1 : Int32)), .val (.int (1 : Int32)), .val (.int (Int32.ofNat ss)), .val (.int (Int32.ofNat nn)), .val (.int (if ((Int32.ofNat ss) + (1 : Int32)) < (Int32.ofNat nn) then ((Int32.ofNat ss) + (1 : Int32)) else (((Int32.ofNat ss) + (1 : Int32)) - (Int32.ofNat nn))))] [(.int (1 : Int32))]))
  exact GoOn.retZ X0 hx hlk hret (by simp) rfl (hb hby d_method_3_53) (by rw [e0]; exact ⟨rfl, rfl, rfl⟩) (by decide) (by decide)
theorem ef_ent12 (m : MethodId) (x0 : Addr) (x1 : Addr) (x2 : Int32) (x3 : Int32) (x4 : Int32) (x5 : Int32) : entryFrame m #[(.ref x0), (.ref x1), (.int x2), (.int x3), (.int x4), (.int x5)] 7 = mkF m 0 #[.val (.ref x0), .val (.ref x1), .val (.int x2), .val (.int x3), .val (.int x4), .val (.int x5), .unset] [] := by first | (simp [entryFrame, mkF, argsToLocals, Value.category]; done) | rfl
set_option maxRecDepth 65536 in
set_option maxHeartbeats 40000000 in
theorem rm_ent12 (l : Launch) (Z : State) (a0 : Array Value) (hw : ∀ d ∈ tables_1, d.before a0 Z = true) (b1 b2 : Addr) (kb1 kb2 : ClassId) (nn ss : Nat) (h0 : Heap) :
    OwCon l Z (⟨"com/example/frontwise/frontwise/problem/MnkDependenciesPinLaw", "entry", "([I[IIIII)Z"⟩ : MethodName) method_3_code 7 (some .boolean) [] ({ frames := 0, cells := 0, slots := 0, locals := 0 } : Room) #[(.ref b1), (.ref b2), (.int (2 : Int32)), (.int (1 : Int32)), (.int (Int32.ofNat ss)), (.int (Int32.ofNat nn))] h0 (OwRet (some (.int 1)) h0) := by
  refine OwCon.of (plainFor_of_name pn_com_example_frontwise_frontwise_problem_MnkDependenciesPinLaw) ?_
  intro p e s m below meth cd_ s₁ X0 hx hby hml hret hlk hown hnm hZ e0
  refine GoOn.st (fun t_ k_ => castTop (ef_ent12 m b1 b2 (2 : Int32) (1 : Int32) (Int32.ofNat ss) (Int32.ofNat nn)) k_) ?_
  show GoOn _ _ _ _ (s₁.setTop (mkF m 0 #[.val (.ref b1), .val (.ref b2), .val (.int (2 : Int32)), .val (.int (1 : Int32)), .val (.int (Int32.ofNat ss)), .val (.int (Int32.ofNat nn)), .unset] []))
  refine GoOn.st (fun t_ k_ => XS.iloadN X0.here hx rfl (hb hby d_method_3_0) rfl k_) ?_
  refine GoOn.st (fun t_ k_ => XS.iloadN X0.here hx rfl (hb hby d_method_3_1) rfl k_) ?_
  refine GoOn.st (fun t_ k_ => XS.icmpNo X0.here hx rfl (hb hby d_method_3_2) rfl (tlt (by decide : (1 : Int32) < (2 : Int32))).2.2.2 k_) ?_
  refine GoOn.st (fun t_ k_ => XS.iconst X0.here hx rfl (hb hby d_method_3_5)  k_) ?_
  show GoOn _ _ _ _ (s₁.setTop (mkF m 6 #[.val (.ref b1), .val (.ref b2), .val (.int (2 : Int32)), .val (.int (1 : Int32)), .val (.int (Int32.ofNat ss)), .val (.int (Int32.ofNat nn)), .unset] [(.int (1 : Int32))]))
  exact GoOn.retZ X0 hx hlk hret (by simp) rfl (hb hby d_method_3_6) (by rw [e0]; exact ⟨rfl, rfl, rfl⟩) (by decide) (by decide)
theorem ef_ent13 (m : MethodId) (x0 : Addr) (x1 : Addr) (x2 : Int32) (x3 : Int32) (x4 : Int32) (x5 : Int32) : entryFrame m #[(.ref x0), (.ref x1), (.int x2), (.int x3), (.int x4), (.int x5)] 7 = mkF m 0 #[.val (.ref x0), .val (.ref x1), .val (.int x2), .val (.int x3), .val (.int x4), .val (.int x5), .unset] [] := by first | (simp [entryFrame, mkF, argsToLocals, Value.category]; done) | rfl
set_option maxRecDepth 65536 in
set_option maxHeartbeats 40000000 in
theorem rm_ent13 (l : Launch) (Z : State) (a0 : Array Value) (hw : ∀ d ∈ tables_1, d.before a0 Z = true) (b1 b2 : Addr) (kb1 kb2 : ClassId) (nn ss : Nat) (h0 : Heap) :
    OwCon l Z (⟨"com/example/frontwise/frontwise/problem/MnkDependenciesPinLaw", "entry", "([I[IIIII)Z"⟩ : MethodName) method_3_code 7 (some .boolean) [] ({ frames := 0, cells := 0, slots := 0, locals := 0 } : Room) #[(.ref b1), (.ref b2), (.int (3 : Int32)), (.int (1 : Int32)), (.int (Int32.ofNat ss)), (.int (Int32.ofNat nn))] h0 (OwRet (some (.int 1)) h0) := by
  refine OwCon.of (plainFor_of_name pn_com_example_frontwise_frontwise_problem_MnkDependenciesPinLaw) ?_
  intro p e s m below meth cd_ s₁ X0 hx hby hml hret hlk hown hnm hZ e0
  refine GoOn.st (fun t_ k_ => castTop (ef_ent13 m b1 b2 (3 : Int32) (1 : Int32) (Int32.ofNat ss) (Int32.ofNat nn)) k_) ?_
  show GoOn _ _ _ _ (s₁.setTop (mkF m 0 #[.val (.ref b1), .val (.ref b2), .val (.int (3 : Int32)), .val (.int (1 : Int32)), .val (.int (Int32.ofNat ss)), .val (.int (Int32.ofNat nn)), .unset] []))
  refine GoOn.st (fun t_ k_ => XS.iloadN X0.here hx rfl (hb hby d_method_3_0) rfl k_) ?_
  refine GoOn.st (fun t_ k_ => XS.iloadN X0.here hx rfl (hb hby d_method_3_1) rfl k_) ?_
  refine GoOn.st (fun t_ k_ => XS.icmpNo X0.here hx rfl (hb hby d_method_3_2) rfl (tlt (by decide : (1 : Int32) < (3 : Int32))).2.2.2 k_) ?_
  refine GoOn.st (fun t_ k_ => XS.iconst X0.here hx rfl (hb hby d_method_3_5)  k_) ?_
  show GoOn _ _ _ _ (s₁.setTop (mkF m 6 #[.val (.ref b1), .val (.ref b2), .val (.int (3 : Int32)), .val (.int (1 : Int32)), .val (.int (Int32.ofNat ss)), .val (.int (Int32.ofNat nn)), .unset] [(.int (1 : Int32))]))
  exact GoOn.retZ X0 hx hlk hret (by simp) rfl (hb hby d_method_3_6) (by rw [e0]; exact ⟨rfl, rfl, rfl⟩) (by decide) (by decide)
theorem ef_dep2 (m : MethodId) (x0 : Addr) (x1 : Int32) (x2 : Int32) : entryFrame m #[(.ref x0), (.int x1), (.int x2)] 5 = mkF m 0 #[.val (.ref x0), .val (.int x1), .val (.int x2), .unset, .unset] [] := by first | (simp [entryFrame, mkF, argsToLocals, Value.category]; done) | rfl
set_option maxRecDepth 65536 in
set_option maxHeartbeats 40000000 in
theorem rm_dep2 (l : Launch) (Z : State) (a0 : Array Value) (hw : ∀ d ∈ tables_1, d.before a0 Z = true) (a1 : Addr) (nn ss : Nat) (p1 : Int32) (h0 : Heap) (n0 : Nat) (Z0 : n0 ≤ h0.size) (Fe : Fld Z h0 a1 "com/example/frontwise/frontwise/problem/Mnk" "epistasis" "I" (.int (2 : Int32))) (Fn : Fld Z h0 a1 "com/example/frontwise/frontwise/problem/Mnk" "n" "I" (.int (Int32.ofNat nn))) (hnz : Int32.ofNat nn ≠ 0) :
    OwCon l Z (⟨"com/example/frontwise/frontwise/problem/Mnk", "dependencies", "(II)[I"⟩ : MethodName) prog_39_method_6_code 5 (some (.array .int)) [] ({ frames := 0, cells := 1, slots := 3, locals := 0 } : Room) #[(.ref a1), (.int p1), (.int (Int32.ofNat ss))] h0 (fun v h L => ∃ b kb, v = some (.ref b) ∧ Fr n0 L ∧ Keep h0 h [] ∧ h0.size ≤ b ∧ Arv Z h b kb .int (3 : Int32) [(.int ((Int32.ofNat ss + (0 : Int32)) % Int32.ofNat nn)), (.int ((Int32.ofNat ss + (1 : Int32)) % Int32.ofNat nn)), (.int ((Int32.ofNat ss + (2 : Int32)) % Int32.ofNat nn))] (.int 0)) := by
  refine OwCon.of (plainFor_of_name pn_com_example_frontwise_frontwise_problem_Mnk) ?_
  intro p e s m below meth cd_ s₁ X0 hx hby hml hret hlk hown hnm hZ e0
  have N0 := Fr.nil n0
  refine GoOn.st (fun t_ k_ => castTop (ef_dep2 m a1 p1 (Int32.ofNat ss)) k_) ?_
  show GoOn _ _ _ _ (s₁.setTop (mkF m 0 #[.val (.ref a1), .val (.int p1), .val (.int (Int32.ofNat ss)), .unset, .unset] []))
  refine GoOn.st (fun t_ k_ => XS.aloadN X0.here hx rfl (hb hby d_prog_39_method_6_0) rfl rfl k_) ?_
  obtain ⟨T1, X1, e1, st1⟩ := getF X0 hx hZ hown (host := "") (Or.inl (hw _ (List.mem_of_getElem? (i := 17) rfl))) Via.refl e0 Fe (g := (mkF m 1 #[.val (.ref a1), .val (.int p1), .val (.int (Int32.ofNat ss)), .unset, .unset] [(.ref a1)])) rfl rfl (hb hby d_prog_39_method_6_1)
  refine GoOn.st st1 ?_
  refine GoOn.st (fun t_ k_ => XS.iconst X1.here hx rfl (hb hby d_prog_39_method_6_4)  k_) ?_
  refine GoOn.st (fun t_ k_ => XS.iadd X1.here hx rfl (hb hby d_prog_39_method_6_5) rfl k_) ?_
  show GoOn _ _ _ _ (T1.setTop (mkF m 6 #[.val (.ref a1), .val (.int p1), .val (.int (Int32.ofNat ss)), .unset, .unset] [(.int (3 : Int32))]))
  obtain ⟨T2, h2, k2, X2, e2, E2, A2, st2⟩ := newP X1 hx hZ (hw _ (List.mem_of_getElem? (i := 82) rfl)) e1 (g := (mkF m 6 #[.val (.ref a1), .val (.int p1), .val (.int (Int32.ofNat ss)), .unset, .unset] [(.int (3 : Int32))])) rfl (hb hby d_prog_39_method_6_6) rfl (by decide) (cap := 3) (by decide) (by decide) (by decide) (by decide)
  obtain ⟨b2, g2⟩ : ∃ z, z = h0.size := ⟨_, rfl⟩
  rw [← g2] at A2 st2
  have ne_a1_b2 : a1 ≠ b2 := Nat.ne_of_lt (Nat.lt_of_lt_of_le Fe.lt (Nat.le_of_eq g2.symm))
  have g_b2 : n0 ≤ b2 := Nat.le_trans Z0 (Nat.le_of_eq g2.symm)
  have sz_b2 : h0.size ≤ b2 := Nat.le_trans (Keep.refl h0 []).1 (Nat.le_of_eq g2.symm)
  have V2 : Arv Z h2 b2 k2 .int (3 : Int32) [(.int (0 : Int32)), (.int (0 : Int32)), (.int (0 : Int32))] (.int (0 : Int32)) := (Arv.new A2 (by decide)).pad (pad_rep [] _ 3)
  refine GoOn.st st2 ?_
  refine GoOn.st (fun t_ k_ => XS.astoreN X2.here hx rfl (hb hby d_prog_39_method_6_8) rfl rfl (l' := #[.val (.ref a1), .val (.int p1), .val (.int (Int32.ofNat ss)), .val (.ref b2), .unset]) rfl k_) ?_
  refine GoOn.st (fun t_ k_ => XS.iconst X2.here hx rfl (hb hby d_prog_39_method_6_9)  k_) ?_
  refine GoOn.st (fun t_ k_ => XS.istore X2.here hx rfl (hb hby d_prog_39_method_6_10) rfl (l' := #[.val (.ref a1), .val (.int p1), .val (.int (Int32.ofNat ss)), .val (.ref b2), .val (.int (0 : Int32))]) rfl k_) ?_
  show GoOn _ _ _ _ (T2.setTop (mkF m 12 #[.val (.ref a1), .val (.int p1), .val (.int (Int32.ofNat ss)), .val (.ref b2), .val (.int (0 : Int32))] []))
  refine GoOn.st (fun t_ k_ => XS.iload X2.here hx rfl (hb hby d_prog_39_method_6_12) rfl k_) ?_
  refine GoOn.st (fun t_ k_ => XS.aloadN X2.here hx rfl (hb hby d_prog_39_method_6_14) rfl rfl k_) ?_
  refine GoOn.st (fun t_ k_ => own_arrlen X2 hx hZ e2 V2 (hb hby d_prog_39_method_6_15) _ k_) ?_
  refine GoOn.st (fun t_ k_ => XS.icmpNo X2.here hx rfl (hb hby d_prog_39_method_6_16) rfl (tlt (by decide : (0 : Int32) < (3 : Int32))).2.1 k_) ?_
  show GoOn _ _ _ _ (T2.setTop (mkF m 19 #[.val (.ref a1), .val (.int p1), .val (.int (Int32.ofNat ss)), .val (.ref b2), .val (.int (0 : Int32))] []))
  refine GoOn.st (fun t_ k_ => XS.aloadN X2.here hx rfl (hb hby d_prog_39_method_6_19) rfl rfl k_) ?_
  refine GoOn.st (fun t_ k_ => XS.iload X2.here hx rfl (hb hby d_prog_39_method_6_20) rfl k_) ?_
  refine GoOn.st (fun t_ k_ => XS.iloadN X2.here hx rfl (hb hby d_prog_39_method_6_22) rfl k_) ?_
  refine GoOn.st (fun t_ k_ => XS.iload X2.here hx rfl (hb hby d_prog_39_method_6_23) rfl k_) ?_
  show GoOn _ _ _ _ (T2.setTop (mkF m 25 #[.val (.ref a1), .val (.int p1), .val (.int (Int32.ofNat ss)), .val (.ref b2), .val (.int (0 : Int32))] [(.int (0 : Int32)), (.int (Int32.ofNat ss)), (.int (0 : Int32)), (.ref b2)]))
  refine GoOn.st (fun t_ k_ => XS.iadd X2.here hx rfl (hb hby d_prog_39_method_6_25) rfl k_) ?_
  refine GoOn.st (fun t_ k_ => XS.aloadN X2.here hx rfl (hb hby d_prog_39_method_6_26) rfl rfl k_) ?_
  have F3 := (Fn.ext E2)
  obtain ⟨T4, X4, e4, st4⟩ := getF X2 hx hZ hown (host := "") (Or.inl (hw _ (List.mem_of_getElem? (i := 15) rfl))) Via.refl e2 F3 (g := (mkF m 27 #[.val (.ref a1), .val (.int p1), .val (.int (Int32.ofNat ss)), .val (.ref b2), .val (.int (0 : Int32))] [(.ref a1), (.int ((Int32.ofNat ss) + (0 : Int32))), (.int (0 : Int32)), (.ref b2)])) rfl rfl (hb hby d_prog_39_method_6_27)
  refine GoOn.st st4 ?_
  refine GoOn.st (fun t_ k_ => iremM X4 hx rfl (hb hby d_prog_39_method_6_30) rfl hnz k_) ?_
  show GoOn _ _ _ _ (T4.setTop (mkF m 31 #[.val (.ref a1), .val (.int p1), .val (.int (Int32.ofNat ss)), .val (.ref b2), .val (.int (0 : Int32))] [(.int (((Int32.ofNat ss) + (0 : Int32)) % (Int32.ofNat nn))), (.int (0 : Int32)), (.ref b2)]))
  obtain ⟨T5, h5, X5, e5, W5, V5, st5⟩ := own_iastore X4 hx hZ e4 V2 (j := (0 : Int32)) (by decide) 0 (by decide) (show 0 < _ from (by decide : 0 < 3)) (x := (((Int32.ofNat ss) + (0 : Int32)) % (Int32.ofNat nn))) (Ls := #[.val (.ref a1), .val (.int p1), .val (.int (Int32.ofNat ss)), .val (.ref b2), .val (.int (0 : Int32))]) (rest := []) (hb hby d_prog_39_method_6_31)
  replace V5 : Arv Z h5 b2 k2 .int (3 : Int32) [(.int (((Int32.ofNat ss) + (0 : Int32)) % (Int32.ofNat nn))), (.int (0 : Int32)), (.int (0 : Int32))] (.int (0 : Int32)) := V5
  have N6 := Fr.snoc X5 N0 g_b2
  refine GoOn.st st5 ?_
  refine GoOn.st (fun t_ k_ => XS.iinc X5.here hx rfl (hb hby d_prog_39_method_6_32) rfl (l' := #[.val (.ref a1), .val (.int p1), .val (.int (Int32.ofNat ss)), .val (.ref b2), .val (.int (1 : Int32))]) rfl k_) ?_
  refine GoOn.st (fun t_ k_ => XS.goto X5.here hx rfl (pc0 := 35) (pc' := 12) rfl (hb hby d_prog_39_method_6_35) (by decide) (by decide) k_) ?_
  refine GoOn.st (fun t_ k_ => XS.iload X5.here hx rfl (hb hby d_prog_39_method_6_12) rfl k_) ?_
  show GoOn _ _ _ _ (T5.setTop (mkF m 14 #[.val (.ref a1), .val (.int p1), .val (.int (Int32.ofNat ss)), .val (.ref b2), .val (.int (1 : Int32))] [(.int (1 : Int32))]))
  refine GoOn.st (fun t_ k_ => XS.aloadN X5.here hx rfl (hb hby d_prog_39_method_6_14) rfl rfl k_) ?_
  refine GoOn.st (fun t_ k_ => own_arrlen X5 hx hZ e5 V5 (hb hby d_prog_39_method_6_15) _ k_) ?_
  refine GoOn.st (fun t_ k_ => XS.icmpNo X5.here hx rfl (hb hby d_prog_39_method_6_16) rfl (tlt (by decide : (1 : Int32) < (3 : Int32))).2.1 k_) ?_
  refine GoOn.st (fun t_ k_ => XS.aloadN X5.here hx rfl (hb hby d_prog_39_method_6_19) rfl rfl k_) ?_
  show GoOn _ _ _ _ (T5.setTop (mkF m 20 #[.val (.ref a1), .val (.int p1), .val (.int (Int32.ofNat ss)), .val (.ref b2), .val (.int (1 : Int32))] [(.ref b2)]))
  refine GoOn.st (fun t_ k_ => XS.iload X5.here hx rfl (hb hby d_prog_39_method_6_20) rfl k_) ?_
  refine GoOn.st (fun t_ k_ => XS.iloadN X5.here hx rfl (hb hby d_prog_39_method_6_22) rfl k_) ?_
  refine GoOn.st (fun t_ k_ => XS.iload X5.here hx rfl (hb hby d_prog_39_method_6_23) rfl k_) ?_
  refine GoOn.st (fun t_ k_ => XS.iadd X5.here hx rfl (hb hby d_prog_39_method_6_25) rfl k_) ?_
  show GoOn _ _ _ _ (T5.setTop (mkF m 26 #[.val (.ref a1), .val (.int p1), .val (.int (Int32.ofNat ss)), .val (.ref b2), .val (.int (1 : Int32))] [(.int ((Int32.ofNat ss) + (1 : Int32))), (.int (1 : Int32)), (.ref b2)]))
  refine GoOn.st (fun t_ k_ => XS.aloadN X5.here hx rfl (hb hby d_prog_39_method_6_26) rfl rfl k_) ?_
  have F7 := (Fld.other W5 F3 (Or.inl ne_a1_b2))
  obtain ⟨T8, X8, e8, st8⟩ := getF X5 hx hZ hown (host := "") (Or.inl (hw _ (List.mem_of_getElem? (i := 15) rfl))) Via.refl e5 F7 (g := (mkF m 27 #[.val (.ref a1), .val (.int p1), .val (.int (Int32.ofNat ss)), .val (.ref b2), .val (.int (1 : Int32))] [(.ref a1), (.int ((Int32.ofNat ss) + (1 : Int32))), (.int (1 : Int32)), (.ref b2)])) rfl rfl (hb hby d_prog_39_method_6_27)
  refine GoOn.st st8 ?_
  refine GoOn.st (fun t_ k_ => iremM X8 hx rfl (hb hby d_prog_39_method_6_30) rfl hnz k_) ?_
  obtain ⟨T9, h9, X9, e9, W9, V9, st9⟩ := own_iastore X8 hx hZ e8 V5 (j := (1 : Int32)) (by decide) 1 (by decide) (show 1 < _ from (by decide : 1 < 3)) (x := (((Int32.ofNat ss) + (1 : Int32)) % (Int32.ofNat nn))) (Ls := #[.val (.ref a1), .val (.int p1), .val (.int (Int32.ofNat ss)), .val (.ref b2), .val (.int (1 : Int32))]) (rest := []) (hb hby d_prog_39_method_6_31)
  replace V9 : Arv Z h9 b2 k2 .int (3 : Int32) [(.int (((Int32.ofNat ss) + (0 : Int32)) % (Int32.ofNat nn))), (.int (((Int32.ofNat ss) + (1 : Int32)) % (Int32.ofNat nn))), (.int (0 : Int32))] (.int (0 : Int32)) := V9
  have N10 := Fr.snoc X9 N6 g_b2
  refine GoOn.st st9 ?_
  show GoOn _ _ _ _ (T9.setTop (mkF m 32 #[.val (.ref a1), .val (.int p1), .val (.int (Int32.ofNat ss)), .val (.ref b2), .val (.int (1 : Int32))] []))
  refine GoOn.st (fun t_ k_ => XS.iinc X9.here hx rfl (hb hby d_prog_39_method_6_32) rfl (l' := #[.val (.ref a1), .val (.int p1), .val (.int (Int32.ofNat ss)), .val (.ref b2), .val (.int (2 : Int32))]) rfl k_) ?_
  refine GoOn.st (fun t_ k_ => XS.goto X9.here hx rfl (pc0 := 35) (pc' := 12) rfl (hb hby d_prog_39_method_6_35) (by decide) (by decide) k_) ?_
  refine GoOn.st (fun t_ k_ => XS.iload X9.here hx rfl (hb hby d_prog_39_method_6_12) rfl k_) ?_
  refine GoOn.st (fun t_ k_ => XS.aloadN X9.here hx rfl (hb hby d_prog_39_method_6_14) rfl rfl k_) ?_
  show GoOn _ _ _ _ (T9.setTop (mkF m 15 #[.val (.ref a1), .val (.int p1), .val (.int (Int32.ofNat ss)), .val (.ref b2), .val (.int (2 : Int32))] [(.ref b2), (.int (2 : Int32))]))
  refine GoOn.st (fun t_ k_ => own_arrlen X9 hx hZ e9 V9 (hb hby d_prog_39_method_6_15) _ k_) ?_
  refine GoOn.st (fun t_ k_ => XS.icmpNo X9.here hx rfl (hb hby d_prog_39_method_6_16) rfl (tlt (by decide : (2 : Int32) < (3 : Int32))).2.1 k_) ?_
  refine GoOn.st (fun t_ k_ => XS.aloadN X9.here hx rfl (hb hby d_prog_39_method_6_19) rfl rfl k_) ?_
  refine GoOn.st (fun t_ k_ => XS.iload X9.here hx rfl (hb hby d_prog_39_method_6_20) rfl k_) ?_
  show GoOn _ _ _ _ (T9.setTop (mkF m 22 #[.val (.ref a1), .val (.int p1), .val (.int (Int32.ofNat ss)), .val (.ref b2), .val (.int (2 : Int32))] [(.int (2 : Int32)), (.ref b2)]))
  refine GoOn.st (fun t_ k_ => XS.iloadN X9.here hx rfl (hb hby d_prog_39_method_6_22) rfl k_) ?_
  refine GoOn.st (fun t_ k_ => XS.iload X9.here hx rfl (hb hby d_prog_39_method_6_23) rfl k_) ?_
  refine GoOn.st (fun t_ k_ => XS.iadd X9.here hx rfl (hb hby d_prog_39_method_6_25) rfl k_) ?_
  refine GoOn.st (fun t_ k_ => XS.aloadN X9.here hx rfl (hb hby d_prog_39_method_6_26) rfl rfl k_) ?_
  show GoOn _ _ _ _ (T9.setTop (mkF m 27 #[.val (.ref a1), .val (.int p1), .val (.int (Int32.ofNat ss)), .val (.ref b2), .val (.int (2 : Int32))] [(.ref a1), (.int ((Int32.ofNat ss) + (2 : Int32))), (.int (2 : Int32)), (.ref b2)]))
  have F11 := (Fld.other W9 F7 (Or.inl ne_a1_b2))
  obtain ⟨T12, X12, e12, st12⟩ := getF X9 hx hZ hown (host := "") (Or.inl (hw _ (List.mem_of_getElem? (i := 15) rfl))) Via.refl e9 F11 (g := (mkF m 27 #[.val (.ref a1), .val (.int p1), .val (.int (Int32.ofNat ss)), .val (.ref b2), .val (.int (2 : Int32))] [(.ref a1), (.int ((Int32.ofNat ss) + (2 : Int32))), (.int (2 : Int32)), (.ref b2)])) rfl rfl (hb hby d_prog_39_method_6_27)
  refine GoOn.st st12 ?_
  refine GoOn.st (fun t_ k_ => iremM X12 hx rfl (hb hby d_prog_39_method_6_30) rfl hnz k_) ?_
  obtain ⟨T13, h13, X13, e13, W13, V13, st13⟩ := own_iastore X12 hx hZ e12 V9 (j := (2 : Int32)) (by decide) 2 (by decide) (show 2 < _ from (by decide : 2 < 3)) (x := (((Int32.ofNat ss) + (2 : Int32)) % (Int32.ofNat nn))) (Ls := #[.val (.ref a1), .val (.int p1), .val (.int (Int32.ofNat ss)), .val (.ref b2), .val (.int (2 : Int32))]) (rest := []) (hb hby d_prog_39_method_6_31)
  replace V13 : Arv Z h13 b2 k2 .int (3 : Int32) [(.int (((Int32.ofNat ss) + (0 : Int32)) % (Int32.ofNat nn))), (.int (((Int32.ofNat ss) + (1 : Int32)) % (Int32.ofNat nn))), (.int (((Int32.ofNat ss) + (2 : Int32)) % (Int32.ofNat nn)))] (.int (0 : Int32)) := V13
  have N14 := Fr.snoc X13 N10 g_b2
  refine GoOn.st st13 ?_
  refine GoOn.st (fun t_ k_ => XS.iinc X13.here hx rfl (hb hby d_prog_39_method_6_32) rfl (l' := #[.val (.ref a1), .val (.int p1), .val (.int (Int32.ofNat ss)), .val (.ref b2), .val (.int (3 : Int32))]) rfl k_) ?_
  show GoOn _ _ _ _ (T13.setTop (mkF m 35 #[.val (.ref a1), .val (.int p1), .val (.int (Int32.ofNat ss)), .val (.ref b2), .val (.int (3 : Int32))] []))
  refine GoOn.st (fun t_ k_ => XS.goto X13.here hx rfl (pc0 := 35) (pc' := 12) rfl (hb hby d_prog_39_method_6_35) (by decide) (by decide) k_) ?_
  refine GoOn.st (fun t_ k_ => XS.iload X13.here hx rfl (hb hby d_prog_39_method_6_12) rfl k_) ?_
  refine GoOn.st (fun t_ k_ => XS.aloadN X13.here hx rfl (hb hby d_prog_39_method_6_14) rfl rfl k_) ?_
  refine GoOn.st (fun t_ k_ => own_arrlen X13 hx hZ e13 V13 (hb hby d_prog_39_method_6_15) _ k_) ?_
  show GoOn _ _ _ _ (T13.setTop (mkF m 16 #[.val (.ref a1), .val (.int p1), .val (.int (Int32.ofNat ss)), .val (.ref b2), .val (.int (3 : Int32))] [(.int (3 : Int32)), (.int (3 : Int32))]))
  refine GoOn.st (fun t_ k_ => XS.icmpYes X13.here hx rfl (pc0 := 16) (pc' := 38) rfl (hb hby d_prog_39_method_6_16) rfl (flt (by decide : ¬ ((3 : Int32) < (3 : Int32)))).2.1 (by decide) (by decide) k_) ?_
  refine GoOn.st (fun t_ k_ => XS.aloadN X13.here hx rfl (hb hby d_prog_39_method_6_38) rfl rfl k_) ?_
  show GoOn _ _ _ _ (T13.setTop (mkF m 39 #[.val (.ref a1), .val (.int p1), .val (.int (Int32.ofNat ss)), .val (.ref b2), .val (.int (3 : Int32))] [(.ref b2)]))
  exact GoOn.retA X13 hx hlk hret rfl rfl rfl (hb hby d_prog_39_method_6_39) (by rw [e13]; exact ⟨b2, k2, rfl, N14, (((((Keep.refl h0 []).ext E2).wr W5 (Or.inr sz_b2)).wr W9 (Or.inr sz_b2)).wr W13 (Or.inr sz_b2)), sz_b2, V13⟩) (by decide) (by decide)
theorem ef_ent20 (m : MethodId) (x0 : Addr) (x1 : Addr) (x2 : Int32) (x3 : Int32) (x4 : Int32) (x5 : Int32) : entryFrame m #[(.ref x0), (.ref x1), (.int x2), (.int x3), (.int x4), (.int x5)] 7 = mkF m 0 #[.val (.ref x0), .val (.ref x1), .val (.int x2), .val (.int x3), .val (.int x4), .val (.int x5), .unset] [] := by first | (simp [entryFrame, mkF, argsToLocals, Value.category]; done) | rfl
set_option maxRecDepth 65536 in
set_option maxHeartbeats 40000000 in
theorem rm_ent20 (l : Launch) (Z : State) (a0 : Array Value) (hw : ∀ d ∈ tables_1, d.before a0 Z = true) (b1 b2 : Addr) (kb1 kb2 : ClassId) (nn ss : Nat) (h0 : Heap) (Vb1 : Arv Z h0 b1 kb1 .int (3 : Int32) [(.int ((Int32.ofNat ss + (0 : Int32)) % Int32.ofNat nn)), (.int ((Int32.ofNat ss + (1 : Int32)) % Int32.ofNat nn)), (.int ((Int32.ofNat ss + (2 : Int32)) % Int32.ofNat nn))] (.int 0)) (Vb2 : Arv Z h0 b2 kb2 .int (3 : Int32) [(.int ((Int32.ofNat ss + (0 : Int32)) % Int32.ofNat nn)), (.int ((Int32.ofNat ss + (1 : Int32)) % Int32.ofNat nn)), (.int ((Int32.ofNat ss + (2 : Int32)) % Int32.ofNat nn))] (.int 0)) (hj : ((Int32.ofNat ss + (0 : Int32)) % Int32.ofNat nn) = (if Int32.ofNat ss + (0 : Int32) < Int32.ofNat nn then Int32.ofNat ss + (0 : Int32) else Int32.ofNat ss + (0 : Int32) - Int32.ofNat nn)) :
    OwCon l Z (⟨"com/example/frontwise/frontwise/problem/MnkDependenciesPinLaw", "entry", "([I[IIIII)Z"⟩ : MethodName) method_3_code 7 (some .boolean) [] ({ frames := 0, cells := 0, slots := 0, locals := 0 } : Room) #[(.ref b1), (.ref b2), (.int (0 : Int32)), (.int (2 : Int32)), (.int (Int32.ofNat ss)), (.int (Int32.ofNat nn))] h0 (OwRet (some (.int 1)) h0) := by
  refine OwCon.of (plainFor_of_name pn_com_example_frontwise_frontwise_problem_MnkDependenciesPinLaw) ?_
  intro p e s m below meth cd_ s₁ X0 hx hby hml hret hlk hown hnm hZ e0
  refine GoOn.st (fun t_ k_ => castTop (ef_ent20 m b1 b2 (0 : Int32) (2 : Int32) (Int32.ofNat ss) (Int32.ofNat nn)) k_) ?_
  show GoOn _ _ _ _ (s₁.setTop (mkF m 0 #[.val (.ref b1), .val (.ref b2), .val (.int (0 : Int32)), .val (.int (2 : Int32)), .val (.int (Int32.ofNat ss)), .val (.int (Int32.ofNat nn)), .unset] []))
  refine GoOn.st (fun t_ k_ => XS.iloadN X0.here hx rfl (hb hby d_method_3_0) rfl k_) ?_
  refine GoOn.st (fun t_ k_ => XS.iloadN X0.here hx rfl (hb hby d_method_3_1) rfl k_) ?_
  refine GoOn.st (fun t_ k_ => XS.icmpYes X0.here hx rfl (pc0 := 2) (pc' := 7) rfl (hb hby d_method_3_2) rfl (flt (by decide : ¬ ((2 : Int32) < (0 : Int32)))).2.2.2 (by decide) (by decide) k_) ?_
  refine GoOn.st (fun t_ k_ => XS.iload X0.here hx rfl (hb hby d_method_3_7) rfl k_) ?_
  show GoOn _ _ _ _ (s₁.setTop (mkF m 9 #[.val (.ref b1), .val (.ref b2), .val (.int (0 : Int32)), .val (.int (2 : Int32)), .val (.int (Int32.ofNat ss)), .val (.int (Int32.ofNat nn)), .unset] [(.int (Int32.ofNat ss))]))
  refine GoOn.st (fun t_ k_ => XS.iloadN X0.here hx rfl (hb hby d_method_3_9) rfl k_) ?_
  refine GoOn.st (fun t_ k_ => XS.iadd X0.here hx rfl (hb hby d_method_3_10) rfl k_) ?_
  refine GoOn.st (fun t_ k_ => XS.iload X0.here hx rfl (hb hby d_method_3_11) rfl k_) ?_
  have dm1 : ∀ zz0 : Int32, zz0 = (if ((Int32.ofNat ss) + (0 : Int32)) < (Int32.ofNat nn) then ((Int32.ofNat ss) + (0 : Int32)) else (((Int32.ofNat ss) + (0 : Int32)) - (Int32.ofNat nn))) → ∀ t_, Steps p.tables e below (s₁.setTop (mkF m 30 #[.val (.ref b1), .val (.ref b2), .val (.int (0 : Int32)), .val (.int (2 : Int32)), .val (.int (Int32.ofNat ss)), .val (.int (Int32.ofNat nn)), .unset] [(.int zz0)])) t_ → Steps p.tables e below (s₁.setTop (mkF m 13 #[.val (.ref b1), .val (.ref b2), .val (.int (0 : Int32)), .val (.int (2 : Int32)), .val (.int (Int32.ofNat ss)), .val (.int (Int32.ofNat nn)), .unset] [(.int (Int32.ofNat nn)), (.int ((Int32.ofNat ss) + (0 : Int32)))])) t_ := by
    intro zz0 hzz0 t_ k_; by_cases hc : ((Int32.ofNat ss) + (0 : Int32)) < (Int32.ofNat nn)
    · rw [hzz0.trans (if_pos hc)] at k_
      refine XS.icmpNo X0.here hx rfl (hb hby d_method_3_13) rfl (tlt hc).2.1 ?_
      show Steps _ _ _ (s₁.setTop (mkF m 16 #[.val (.ref b1), .val (.ref b2), .val (.int (0 : Int32)), .val (.int (2 : Int32)), .val (.int (Int32.ofNat ss)), .val (.int (Int32.ofNat nn)), .unset] [])) _
      refine XS.iload X0.here hx rfl (hb hby d_method_3_16) rfl ?_
      refine XS.iloadN X0.here hx rfl (hb hby d_method_3_18) rfl ?_
      refine XS.iadd X0.here hx rfl (hb hby d_method_3_19) rfl ?_
      refine XS.goto X0.here hx rfl (pc0 := 20) (pc' := 30) rfl (hb hby d_method_3_20) (by decide) (by decide) ?_
      exact k_
    · rw [hzz0.trans (if_neg hc)] at k_
      refine XS.icmpYes X0.here hx rfl (pc0 := 13) (pc' := 23) rfl (hb hby d_method_3_13) rfl (flt hc).2.1 (by decide) (by decide) ?_
      show Steps _ _ _ (s₁.setTop (mkF m 23 #[.val (.ref b1), .val (.ref b2), .val (.int (0 : Int32)), .val (.int (2 : Int32)), .val (.int (Int32.ofNat ss)), .val (.int (Int32.ofNat nn)), .unset] [])) _
      refine XS.iload X0.here hx rfl (hb hby d_method_3_23) rfl ?_
      refine XS.iloadN X0.here hx rfl (hb hby d_method_3_25) rfl ?_
      refine XS.iadd X0.here hx rfl (hb hby d_method_3_26) rfl ?_
      refine XS.iload X0.here hx rfl (hb hby d_method_3_27) rfl ?_
      show Steps _ _ _ (s₁.setTop (mkF m 29 #[.val (.ref b1), .val (.ref b2), .val (.int (0 : Int32)), .val (.int (2 : Int32)), .val (.int (Int32.ofNat ss)), .val (.int (Int32.ofNat nn)), .unset] [(.int (Int32.ofNat nn)), (.int ((Int32.ofNat ss) + (0 : Int32)))])) _
      refine XS.isub X0.here hx rfl (hb hby d_method_3_29) rfl ?_
      exact k_
  refine GoOn.st (dm1 _ rfl) ?_
  show GoOn _ _ _ _ (s₁.setTop (mkF m 30 #[.val (.ref b1), .val (.ref b2), .val (.int (0 : Int32)), .val (.int (2 : Int32)), .val (.int (Int32.ofNat ss)), .val (.int (Int32.ofNat nn)), .unset] [(.int (if ((Int32.ofNat ss) + (0 : Int32)) < (Int32.ofNat nn) then ((Int32.ofNat ss) + (0 : Int32)) else (((Int32.ofNat ss) + (0 : Int32)) - (Int32.ofNat nn))))]))
  refine GoOn.st (fun t_ k_ => XS.istore X0.here hx rfl (hb hby d_method_3_30) rfl (l' := #[.val (.ref b1), .val (.ref b2), .val (.int (0 : Int32)), .val (.int (2 : Int32)), .val (.int (Int32.ofNat ss)), .val (.int (Int32.ofNat nn)), .val (.int (if ((Int32.ofNat ss) + (0 : Int32)) < (Int32.ofNat nn) then ((Int32.ofNat ss) + (0 : Int32)) else (((Int32.ofNat ss) + (0 : Int32)) - (Int32.ofNat nn))))]) rfl k_) ?_
  refine GoOn.st (fun t_ k_ => XS.aloadN X0.here hx rfl (hb hby d_method_3_32) rfl rfl k_) ?_
  refine GoOn.st (fun t_ k_ => XS.iloadN X0.here hx rfl (hb hby d_method_3_33) rfl k_) ?_
  refine GoOn.st (fun t_ k_ => own_iaload X0 hx hZ e0 Vb1 (j := (0 : Int32)) (by decide) (v := (.int ((Int32.ofNat ss + (0 : Int32)) % Int32.ofNat nn))) rfl (hb hby d_method_3_34) _ k_) ?_
  show GoOn _ _ _ _ (s₁.setTop (mkF m 35 #[.val (.ref b1), .val (.ref b2), .val (.int (0 : Int32)), .val (.int (2 : Int32)), .val (.int (Int32.ofNat ss)), .val (.int (Int32.ofNat nn)), .val (.int (if ((Int32.ofNat ss) + (0 : Int32)) < (Int32.ofNat nn) then ((Int32.ofNat ss) + (0 : Int32)) else (((Int32.ofNat ss) + (0 : Int32)) - (Int32.ofNat nn))))] [(.int ((Int32.ofNat ss + (0 : Int32)) % Int32.ofNat nn))]))
  refine GoOn.st (fun t_ k_ => XS.iload X0.here hx rfl (hb hby d_method_3_35) rfl k_) ?_
  refine GoOn.st (fun t_ k_ => XS.icmpNo X0.here hx rfl (hb hby d_method_3_37) rfl (teq hj).2 k_) ?_
  refine GoOn.st (fun t_ k_ => XS.aloadN X0.here hx rfl (hb hby d_method_3_40) rfl rfl k_) ?_
  refine GoOn.st (fun t_ k_ => XS.iloadN X0.here hx rfl (hb hby d_method_3_41) rfl k_) ?_
  show GoOn _ _ _ _ (s₁.setTop (mkF m 42 #[.val (.ref b1), .val (.ref b2), .val (.int (0 : Int32)), .val (.int (2 : Int32)), .val (.int (Int32.ofNat ss)), .val (.int (Int32.ofNat nn)), .val (.int (if ((Int32.ofNat ss) + (0 : Int32)) < (Int32.ofNat nn) then ((Int32.ofNat ss) + (0 : Int32)) else (((Int32.ofNat ss) + (0 : Int32)) - (Int32.ofNat nn))))] [(.int (0 : Int32)), (.ref b2)]))
  refine GoOn.st (fun t_ k_ => own_iaload X0 hx hZ e0 Vb2 (j := (0 : Int32)) (by decide) (v := (.int ((Int32.ofNat ss + (0 : Int32)) % Int32.ofNat nn))) rfl (hb hby d_method_3_42) _ k_) ?_
  refine GoOn.st (fun t_ k_ => XS.iload X0.here hx rfl (hb hby d_method_3_43) rfl k_) ?_
  refine GoOn.st (fun t_ k_ => XS.icmpNo X0.here hx rfl (hb hby d_method_3_45) rfl (teq hj).2 k_) ?_
  refine GoOn.st (fun t_ k_ => XS.iconst X0.here hx rfl (hb hby d_method_3_48)  k_) ?_
  show GoOn _ _ _ _ (s₁.setTop (mkF m 49 #[.val (.ref b1), .val (.ref b2), .val (.int (0 : Int32)), .val (.int (2 : Int32)), .val (.int (Int32.ofNat ss)), .val (.int (Int32.ofNat nn)), .val (.int (if ((Int32.ofNat ss) + (0 : Int32)) < (Int32.ofNat nn) then ((Int32.ofNat ss) + (0 : Int32)) else (((Int32.ofNat ss) + (0 : Int32)) - (Int32.ofNat nn))))] [(.int (1 : Int32))]))
  refine GoOn.st (fun t_ k_ => XS.goto X0.here hx rfl (pc0 := 49) (pc' := 53) rfl (hb hby d_method_3_49) (by decide) (by decide) k_) ?_
  show GoOn _ _ _ _ (s₁.setTop (mkF m 53 #[.val (.ref b1), .val (.ref b2), .val (.int (0 : Int32)), .val (.int (2 : Int32)), .val (.int (Int32.ofNat ss)), .val (.int (Int32.ofNat nn)), .val (.int (if ((Int32.ofNat ss) + (0 : Int32)) < (Int32.ofNat nn) then ((Int32.ofNat ss) + (0 : Int32)) else (((Int32.ofNat ss) + (0 : Int32)) - (Int32.ofNat nn))))] [(.int (1 : Int32))]))
  exact GoOn.retZ X0 hx hlk hret (by simp) rfl (hb hby d_method_3_53) (by rw [e0]; exact ⟨rfl, rfl, rfl⟩) (by decide) (by decide)
theorem ef_ent21 (m : MethodId) (x0 : Addr) (x1 : Addr) (x2 : Int32) (x3 : Int32) (x4 : Int32) (x5 : Int32) : entryFrame m #[(.ref x0), (.ref x1), (.int x2), (.int x3), (.int x4), (.int x5)] 7 = mkF m 0 #[.val (.ref x0), .val (.ref x1), .val (.int x2), .val (.int x3), .val (.int x4), .val (.int x5), .unset] [] := by first | (simp [entryFrame, mkF, argsToLocals, Value.category]; done) | rfl
set_option maxRecDepth 65536 in
set_option maxHeartbeats 40000000 in
theorem rm_ent21 (l : Launch) (Z : State) (a0 : Array Value) (hw : ∀ d ∈ tables_1, d.before a0 Z = true) (b1 b2 : Addr) (kb1 kb2 : ClassId) (nn ss : Nat) (h0 : Heap) (Vb1 : Arv Z h0 b1 kb1 .int (3 : Int32) [(.int ((Int32.ofNat ss + (0 : Int32)) % Int32.ofNat nn)), (.int ((Int32.ofNat ss + (1 : Int32)) % Int32.ofNat nn)), (.int ((Int32.ofNat ss + (2 : Int32)) % Int32.ofNat nn))] (.int 0)) (Vb2 : Arv Z h0 b2 kb2 .int (3 : Int32) [(.int ((Int32.ofNat ss + (0 : Int32)) % Int32.ofNat nn)), (.int ((Int32.ofNat ss + (1 : Int32)) % Int32.ofNat nn)), (.int ((Int32.ofNat ss + (2 : Int32)) % Int32.ofNat nn))] (.int 0)) (hj : ((Int32.ofNat ss + (1 : Int32)) % Int32.ofNat nn) = (if Int32.ofNat ss + (1 : Int32) < Int32.ofNat nn then Int32.ofNat ss + (1 : Int32) else Int32.ofNat ss + (1 : Int32) - Int32.ofNat nn)) :
    OwCon l Z (⟨"com/example/frontwise/frontwise/problem/MnkDependenciesPinLaw", "entry", "([I[IIIII)Z"⟩ : MethodName) method_3_code 7 (some .boolean) [] ({ frames := 0, cells := 0, slots := 0, locals := 0 } : Room) #[(.ref b1), (.ref b2), (.int (1 : Int32)), (.int (2 : Int32)), (.int (Int32.ofNat ss)), (.int (Int32.ofNat nn))] h0 (OwRet (some (.int 1)) h0) := by
  refine OwCon.of (plainFor_of_name pn_com_example_frontwise_frontwise_problem_MnkDependenciesPinLaw) ?_
  intro p e s m below meth cd_ s₁ X0 hx hby hml hret hlk hown hnm hZ e0
  refine GoOn.st (fun t_ k_ => castTop (ef_ent21 m b1 b2 (1 : Int32) (2 : Int32) (Int32.ofNat ss) (Int32.ofNat nn)) k_) ?_
  show GoOn _ _ _ _ (s₁.setTop (mkF m 0 #[.val (.ref b1), .val (.ref b2), .val (.int (1 : Int32)), .val (.int (2 : Int32)), .val (.int (Int32.ofNat ss)), .val (.int (Int32.ofNat nn)), .unset] []))
  refine GoOn.st (fun t_ k_ => XS.iloadN X0.here hx rfl (hb hby d_method_3_0) rfl k_) ?_
  refine GoOn.st (fun t_ k_ => XS.iloadN X0.here hx rfl (hb hby d_method_3_1) rfl k_) ?_
  refine GoOn.st (fun t_ k_ => XS.icmpYes X0.here hx rfl (pc0 := 2) (pc' := 7) rfl (hb hby d_method_3_2) rfl (flt (by decide : ¬ ((2 : Int32) < (1 : Int32)))).2.2.2 (by decide) (by decide) k_) ?_
  refine GoOn.st (fun t_ k_ => XS.iload X0.here hx rfl (hb hby d_method_3_7) rfl k_) ?_
  show GoOn _ _ _ _ (s₁.setTop (mkF m 9 #[.val (.ref b1), .val (.ref b2), .val (.int (1 : Int32)), .val (.int (2 : Int32)), .val (.int (Int32.ofNat ss)), .val (.int (Int32.ofNat nn)), .unset] [(.int (Int32.ofNat ss))]))
  refine GoOn.st (fun t_ k_ => XS.iloadN X0.here hx rfl (hb hby d_method_3_9) rfl k_) ?_
  refine GoOn.st (fun t_ k_ => XS.iadd X0.here hx rfl (hb hby d_method_3_10) rfl k_) ?_
  refine GoOn.st (fun t_ k_ => XS.iload X0.here hx rfl (hb hby d_method_3_11) rfl k_) ?_
  have dm1 : ∀ zz0 : Int32, zz0 = (if ((Int32.ofNat ss) + (1 : Int32)) < (Int32.ofNat nn) then ((Int32.ofNat ss) + (1 : Int32)) else (((Int32.ofNat ss) + (1 : Int32)) - (Int32.ofNat nn))) → ∀ t_, Steps p.tables e below (s₁.setTop (mkF m 30 #[.val (.ref b1), .val (.ref b2), .val (.int (1 : Int32)), .val (.int (2 : Int32)), .val (.int (Int32.ofNat ss)), .val (.int (Int32.ofNat nn)), .unset] [(.int zz0)])) t_ → Steps p.tables e below (s₁.setTop (mkF m 13 #[.val (.ref b1), .val (.ref b2), .val (.int (1 : Int32)), .val (.int (2 : Int32)), .val (.int (Int32.ofNat ss)), .val (.int (Int32.ofNat nn)), .unset] [(.int (Int32.ofNat nn)), (.int ((Int32.ofNat ss) + (1 : Int32)))])) t_ := by
    intro zz0 hzz0 t_ k_; by_cases hc : ((Int32.ofNat ss) + (1 : Int32)) < (Int32.ofNat nn)
    · rw [hzz0.trans (if_pos hc)] at k_
      refine XS.icmpNo X0.here hx rfl (hb hby d_method_3_13) rfl (tlt hc).2.1 ?_
      show Steps _ _ _ (s₁.setTop (mkF m 16 #[.val (.ref b1), .val (.ref b2), .val (.int (1 : Int32)), .val (.int (2 : Int32)), .val (.int (Int32.ofNat ss)), .val (.int (Int32.ofNat nn)), .unset] [])) _
      refine XS.iload X0.here hx rfl (hb hby d_method_3_16) rfl ?_
      refine XS.iloadN X0.here hx rfl (hb hby d_method_3_18) rfl ?_
      refine XS.iadd X0.here hx rfl (hb hby d_method_3_19) rfl ?_
      refine XS.goto X0.here hx rfl (pc0 := 20) (pc' := 30) rfl (hb hby d_method_3_20) (by decide) (by decide) ?_
      exact k_
    · rw [hzz0.trans (if_neg hc)] at k_
      refine XS.icmpYes X0.here hx rfl (pc0 := 13) (pc' := 23) rfl (hb hby d_method_3_13) rfl (flt hc).2.1 (by decide) (by decide) ?_
      show Steps _ _ _ (s₁.setTop (mkF m 23 #[.val (.ref b1), .val (.ref b2), .val (.int (1 : Int32)), .val (.int (2 : Int32)), .val (.int (Int32.ofNat ss)), .val (.int (Int32.ofNat nn)), .unset] [])) _
      refine XS.iload X0.here hx rfl (hb hby d_method_3_23) rfl ?_
      refine XS.iloadN X0.here hx rfl (hb hby d_method_3_25) rfl ?_
      refine XS.iadd X0.here hx rfl (hb hby d_method_3_26) rfl ?_
      refine XS.iload X0.here hx rfl (hb hby d_method_3_27) rfl ?_
      show Steps _ _ _ (s₁.setTop (mkF m 29 #[.val (.ref b1), .val (.ref b2), .val (.int (1 : Int32)), .val (.int (2 : Int32)), .val (.int (Int32.ofNat ss)), .val (.int (Int32.ofNat nn)), .unset] [(.int (Int32.ofNat nn)), (.int ((Int32.ofNat ss) + (1 : Int32)))])) _
      refine XS.isub X0.here hx rfl (hb hby d_method_3_29) rfl ?_
      exact k_
  refine GoOn.st (dm1 _ rfl) ?_
  show GoOn _ _ _ _ (s₁.setTop (mkF m 30 #[.val (.ref b1), .val (.ref b2), .val (.int (1 : Int32)), .val (.int (2 : Int32)), .val (.int (Int32.ofNat ss)), .val (.int (Int32.ofNat nn)), .unset] [(.int (if ((Int32.ofNat ss) + (1 : Int32)) < (Int32.ofNat nn) then ((Int32.ofNat ss) + (1 : Int32)) else (((Int32.ofNat ss) + (1 : Int32)) - (Int32.ofNat nn))))]))
  refine GoOn.st (fun t_ k_ => XS.istore X0.here hx rfl (hb hby d_method_3_30) rfl (l' := #[.val (.ref b1), .val (.ref b2), .val (.int (1 : Int32)), .val (.int (2 : Int32)), .val (.int (Int32.ofNat ss)), .val (.int (Int32.ofNat nn)), .val (.int (if ((Int32.ofNat ss) + (1 : Int32)) < (Int32.ofNat nn) then ((Int32.ofNat ss) + (1 : Int32)) else (((Int32.ofNat ss) + (1 : Int32)) - (Int32.ofNat nn))))]) rfl k_) ?_
  refine GoOn.st (fun t_ k_ => XS.aloadN X0.here hx rfl (hb hby d_method_3_32) rfl rfl k_) ?_
  refine GoOn.st (fun t_ k_ => XS.iloadN X0.here hx rfl (hb hby d_method_3_33) rfl k_) ?_
  refine GoOn.st (fun t_ k_ => own_iaload X0 hx hZ e0 Vb1 (j := (1 : Int32)) (by decide) (v := (.int ((Int32.ofNat ss + (1 : Int32)) % Int32.ofNat nn))) rfl (hb hby d_method_3_34) _ k_) ?_
  show GoOn _ _ _ _ (s₁.setTop (mkF m 35 #[.val (.ref b1), .val (.ref b2), .val (.int (1 : Int32)), .val (.int (2 : Int32)), .val (.int (Int32.ofNat ss)), .val (.int (Int32.ofNat nn)), .val (.int (if ((Int32.ofNat ss) + (1 : Int32)) < (Int32.ofNat nn) then ((Int32.ofNat ss) + (1 : Int32)) else (((Int32.ofNat ss) + (1 : Int32)) - (Int32.ofNat nn))))] [(.int ((Int32.ofNat ss + (1 : Int32)) % Int32.ofNat nn))]))
  refine GoOn.st (fun t_ k_ => XS.iload X0.here hx rfl (hb hby d_method_3_35) rfl k_) ?_
  refine GoOn.st (fun t_ k_ => XS.icmpNo X0.here hx rfl (hb hby d_method_3_37) rfl (teq hj).2 k_) ?_
  refine GoOn.st (fun t_ k_ => XS.aloadN X0.here hx rfl (hb hby d_method_3_40) rfl rfl k_) ?_
  refine GoOn.st (fun t_ k_ => XS.iloadN X0.here hx rfl (hb hby d_method_3_41) rfl k_) ?_
  show GoOn _ _ _ _ (s₁.setTop (mkF m 42 #[.val (.ref b1), .val (.ref b2), .val (.int (1 : Int32)), .val (.int (2 : Int32)), .val (.int (Int32.ofNat ss)), .val (.int (Int32.ofNat nn)), .val (.int (if ((Int32.ofNat ss) + (1 : Int32)) < (Int32.ofNat nn) then ((Int32.ofNat ss) + (1 : Int32)) else (((Int32.ofNat ss) + (1 : Int32)) - (Int32.ofNat nn))))] [(.int (1 : Int32)), (.ref b2)]))
  refine GoOn.st (fun t_ k_ => own_iaload X0 hx hZ e0 Vb2 (j := (1 : Int32)) (by decide) (v := (.int ((Int32.ofNat ss + (1 : Int32)) % Int32.ofNat nn))) rfl (hb hby d_method_3_42) _ k_) ?_
  refine GoOn.st (fun t_ k_ => XS.iload X0.here hx rfl (hb hby d_method_3_43) rfl k_) ?_
  refine GoOn.st (fun t_ k_ => XS.icmpNo X0.here hx rfl (hb hby d_method_3_45) rfl (teq hj).2 k_) ?_
  refine GoOn.st (fun t_ k_ => XS.iconst X0.here hx rfl (hb hby d_method_3_48)  k_) ?_
  show GoOn _ _ _ _ (s₁.setTop (mkF m 49 #[.val (.ref b1), .val (.ref b2), .val (.int (1 : Int32)), .val (.int (2 : Int32)), .val (.int (Int32.ofNat ss)), .val (.int (Int32.ofNat nn)), .val (.int (if ((Int32.ofNat ss) + (1 : Int32)) < (Int32.ofNat nn) then ((Int32.ofNat ss) + (1 : Int32)) else (((Int32.ofNat ss) + (1 : Int32)) - (Int32.ofNat nn))))] [(.int (1 : Int32))]))
  refine GoOn.st (fun t_ k_ => XS.goto X0.here hx rfl (pc0 := 49) (pc' := 53) rfl (hb hby d_method_3_49) (by decide) (by decide) k_) ?_
  show GoOn _ _ _ _ (s₁.setTop (mkF m 53 #[.val (.ref b1), .val (.ref b2), .val (.int (1 : Int32)), .val (.int (2 : Int32)), .val (.int (Int32.ofNat ss)), .val (.int (Int32.ofNat nn)), .val (.int (if ((Int32.ofNat ss) + (1 : Int32)) < (Int32.ofNat nn) then ((Int32.ofNat ss) + (1 : Int32)) else (((Int32.ofNat ss) + (1 : Int32)) - (Int32.ofNat nn))))] [(.int (1 : Int32))]))
  exact GoOn.retZ X0 hx hlk hret (by simp) rfl (hb hby d_method_3_53) (by rw [e0]; exact ⟨rfl, rfl, rfl⟩) (by decide) (by decide)
theorem ef_ent22 (m : MethodId) (x0 : Addr) (x1 : Addr) (x2 : Int32) (x3 : Int32) (x4 : Int32) (x5 : Int32) : entryFrame m #[(.ref x0), (.ref x1), (.int x2), (.int x3), (.int x4), (.int x5)] 7 = mkF m 0 #[.val (.ref x0), .val (.ref x1), .val (.int x2), .val (.int x3), .val (.int x4), .val (.int x5), .unset] [] := by first | (simp [entryFrame, mkF, argsToLocals, Value.category]; done) | rfl
set_option maxRecDepth 65536 in
set_option maxHeartbeats 40000000 in
theorem rm_ent22 (l : Launch) (Z : State) (a0 : Array Value) (hw : ∀ d ∈ tables_1, d.before a0 Z = true) (b1 b2 : Addr) (kb1 kb2 : ClassId) (nn ss : Nat) (h0 : Heap) (Vb1 : Arv Z h0 b1 kb1 .int (3 : Int32) [(.int ((Int32.ofNat ss + (0 : Int32)) % Int32.ofNat nn)), (.int ((Int32.ofNat ss + (1 : Int32)) % Int32.ofNat nn)), (.int ((Int32.ofNat ss + (2 : Int32)) % Int32.ofNat nn))] (.int 0)) (Vb2 : Arv Z h0 b2 kb2 .int (3 : Int32) [(.int ((Int32.ofNat ss + (0 : Int32)) % Int32.ofNat nn)), (.int ((Int32.ofNat ss + (1 : Int32)) % Int32.ofNat nn)), (.int ((Int32.ofNat ss + (2 : Int32)) % Int32.ofNat nn))] (.int 0)) (hj : ((Int32.ofNat ss + (2 : Int32)) % Int32.ofNat nn) = (if Int32.ofNat ss + (2 : Int32) < Int32.ofNat nn then Int32.ofNat ss + (2 : Int32) else Int32.ofNat ss + (2 : Int32) - Int32.ofNat nn)) :
    OwCon l Z (⟨"com/example/frontwise/frontwise/problem/MnkDependenciesPinLaw", "entry", "([I[IIIII)Z"⟩ : MethodName) method_3_code 7 (some .boolean) [] ({ frames := 0, cells := 0, slots := 0, locals := 0 } : Room) #[(.ref b1), (.ref b2), (.int (2 : Int32)), (.int (2 : Int32)), (.int (Int32.ofNat ss)), (.int (Int32.ofNat nn))] h0 (OwRet (some (.int 1)) h0) := by
  refine OwCon.of (plainFor_of_name pn_com_example_frontwise_frontwise_problem_MnkDependenciesPinLaw) ?_
  intro p e s m below meth cd_ s₁ X0 hx hby hml hret hlk hown hnm hZ e0
  refine GoOn.st (fun t_ k_ => castTop (ef_ent22 m b1 b2 (2 : Int32) (2 : Int32) (Int32.ofNat ss) (Int32.ofNat nn)) k_) ?_
  show GoOn _ _ _ _ (s₁.setTop (mkF m 0 #[.val (.ref b1), .val (.ref b2), .val (.int (2 : Int32)), .val (.int (2 : Int32)), .val (.int (Int32.ofNat ss)), .val (.int (Int32.ofNat nn)), .unset] []))
  refine GoOn.st (fun t_ k_ => XS.iloadN X0.here hx rfl (hb hby d_method_3_0) rfl k_) ?_
  refine GoOn.st (fun t_ k_ => XS.iloadN X0.here hx rfl (hb hby d_method_3_1) rfl k_) ?_
  refine GoOn.st (fun t_ k_ => XS.icmpYes X0.here hx rfl (pc0 := 2) (pc' := 7) rfl (hb hby d_method_3_2) rfl (flt (by decide : ¬ ((2 : Int32) < (2 : Int32)))).2.2.2 (by decide) (by decide) k_) ?_
  refine GoOn.st (fun t_ k_ => XS.iload X0.here hx rfl (hb hby d_method_3_7) rfl k_) ?_
  show GoOn _ _ _ _ (s₁.setTop (mkF m 9 #[.val (.ref b1), .val (.ref b2), .val (.int (2 : Int32)), .val (.int (2 : Int32)), .val (.int (Int32.ofNat ss)), .val (.int (Int32.ofNat nn)), .unset] [(.int (Int32.ofNat ss))]))
  refine GoOn.st (fun t_ k_ => XS.iloadN X0.here hx rfl (hb hby d_method_3_9) rfl k_) ?_
  refine GoOn.st (fun t_ k_ => XS.iadd X0.here hx rfl (hb hby d_method_3_10) rfl k_) ?_
  refine GoOn.st (fun t_ k_ => XS.iload X0.here hx rfl (hb hby d_method_3_11) rfl k_) ?_
  have dm1 : ∀ zz0 : Int32, zz0 = (if ((Int32.ofNat ss) + (2 : Int32)) < (Int32.ofNat nn) then ((Int32.ofNat ss) + (2 : Int32)) else (((Int32.ofNat ss) + (2 : Int32)) - (Int32.ofNat nn))) → ∀ t_, Steps p.tables e below (s₁.setTop (mkF m 30 #[.val (.ref b1), .val (.ref b2), .val (.int (2 : Int32)), .val (.int (2 : Int32)), .val (.int (Int32.ofNat ss)), .val (.int (Int32.ofNat nn)), .unset] [(.int zz0)])) t_ → Steps p.tables e below (s₁.setTop (mkF m 13 #[.val (.ref b1), .val (.ref b2), .val (.int (2 : Int32)), .val (.int (2 : Int32)), .val (.int (Int32.ofNat ss)), .val (.int (Int32.ofNat nn)), .unset] [(.int (Int32.ofNat nn)), (.int ((Int32.ofNat ss) + (2 : Int32)))])) t_ := by
    intro zz0 hzz0 t_ k_; by_cases hc : ((Int32.ofNat ss) + (2 : Int32)) < (Int32.ofNat nn)
    · rw [hzz0.trans (if_pos hc)] at k_
      refine XS.icmpNo X0.here hx rfl (hb hby d_method_3_13) rfl (tlt hc).2.1 ?_
      show Steps _ _ _ (s₁.setTop (mkF m 16 #[.val (.ref b1), .val (.ref b2), .val (.int (2 : Int32)), .val (.int (2 : Int32)), .val (.int (Int32.ofNat ss)), .val (.int (Int32.ofNat nn)), .unset] [])) _
      refine XS.iload X0.here hx rfl (hb hby d_method_3_16) rfl ?_
      refine XS.iloadN X0.here hx rfl (hb hby d_method_3_18) rfl ?_
      refine XS.iadd X0.here hx rfl (hb hby d_method_3_19) rfl ?_
      refine XS.goto X0.here hx rfl (pc0 := 20) (pc' := 30) rfl (hb hby d_method_3_20) (by decide) (by decide) ?_
      exact k_
    · rw [hzz0.trans (if_neg hc)] at k_
      refine XS.icmpYes X0.here hx rfl (pc0 := 13) (pc' := 23) rfl (hb hby d_method_3_13) rfl (flt hc).2.1 (by decide) (by decide) ?_
      show Steps _ _ _ (s₁.setTop (mkF m 23 #[.val (.ref b1), .val (.ref b2), .val (.int (2 : Int32)), .val (.int (2 : Int32)), .val (.int (Int32.ofNat ss)), .val (.int (Int32.ofNat nn)), .unset] [])) _
      refine XS.iload X0.here hx rfl (hb hby d_method_3_23) rfl ?_
      refine XS.iloadN X0.here hx rfl (hb hby d_method_3_25) rfl ?_
      refine XS.iadd X0.here hx rfl (hb hby d_method_3_26) rfl ?_
      refine XS.iload X0.here hx rfl (hb hby d_method_3_27) rfl ?_
      show Steps _ _ _ (s₁.setTop (mkF m 29 #[.val (.ref b1), .val (.ref b2), .val (.int (2 : Int32)), .val (.int (2 : Int32)), .val (.int (Int32.ofNat ss)), .val (.int (Int32.ofNat nn)), .unset] [(.int (Int32.ofNat nn)), (.int ((Int32.ofNat ss) + (2 : Int32)))])) _
      refine XS.isub X0.here hx rfl (hb hby d_method_3_29) rfl ?_
      exact k_
  refine GoOn.st (dm1 _ rfl) ?_
  show GoOn _ _ _ _ (s₁.setTop (mkF m 30 #[.val (.ref b1), .val (.ref b2), .val (.int (2 : Int32)), .val (.int (2 : Int32)), .val (.int (Int32.ofNat ss)), .val (.int (Int32.ofNat nn)), .unset] [(.int (if ((Int32.ofNat ss) + (2 : Int32)) < (Int32.ofNat nn) then ((Int32.ofNat ss) + (2 : Int32)) else (((Int32.ofNat ss) + (2 : Int32)) - (Int32.ofNat nn))))]))
  refine GoOn.st (fun t_ k_ => XS.istore X0.here hx rfl (hb hby d_method_3_30) rfl (l' := #[.val (.ref b1), .val (.ref b2), .val (.int (2 : Int32)), .val (.int (2 : Int32)), .val (.int (Int32.ofNat ss)), .val (.int (Int32.ofNat nn)), .val (.int (if ((Int32.ofNat ss) + (2 : Int32)) < (Int32.ofNat nn) then ((Int32.ofNat ss) + (2 : Int32)) else (((Int32.ofNat ss) + (2 : Int32)) - (Int32.ofNat nn))))]) rfl k_) ?_
  refine GoOn.st (fun t_ k_ => XS.aloadN X0.here hx rfl (hb hby d_method_3_32) rfl rfl k_) ?_
  refine GoOn.st (fun t_ k_ => XS.iloadN X0.here hx rfl (hb hby d_method_3_33) rfl k_) ?_
  refine GoOn.st (fun t_ k_ => own_iaload X0 hx hZ e0 Vb1 (j := (2 : Int32)) (by decide) (v := (.int ((Int32.ofNat ss + (2 : Int32)) % Int32.ofNat nn))) rfl (hb hby d_method_3_34) _ k_) ?_
  show GoOn _ _ _ _ (s₁.setTop (mkF m 35 #[.val (.ref b1), .val (.ref b2), .val (.int (2 : Int32)), .val (.int (2 : Int32)), .val (.int (Int32.ofNat ss)), .val (.int (Int32.ofNat nn)), .val (.int (if ((Int32.ofNat ss) + (2 : Int32)) < (Int32.ofNat nn) then ((Int32.ofNat ss) + (2 : Int32)) else (((Int32.ofNat ss) + (2 : Int32)) - (Int32.ofNat nn))))] [(.int ((Int32.ofNat ss + (2 : Int32)) % Int32.ofNat nn))]))
  refine GoOn.st (fun t_ k_ => XS.iload X0.here hx rfl (hb hby d_method_3_35) rfl k_) ?_
  refine GoOn.st (fun t_ k_ => XS.icmpNo X0.here hx rfl (hb hby d_method_3_37) rfl (teq hj).2 k_) ?_
  refine GoOn.st (fun t_ k_ => XS.aloadN X0.here hx rfl (hb hby d_method_3_40) rfl rfl k_) ?_
  refine GoOn.st (fun t_ k_ => XS.iloadN X0.here hx rfl (hb hby d_method_3_41) rfl k_) ?_
  show GoOn _ _ _ _ (s₁.setTop (mkF m 42 #[.val (.ref b1), .val (.ref b2), .val (.int (2 : Int32)), .val (.int (2 : Int32)), .val (.int (Int32.ofNat ss)), .val (.int (Int32.ofNat nn)), .val (.int (if ((Int32.ofNat ss) + (2 : Int32)) < (Int32.ofNat nn) then ((Int32.ofNat ss) + (2 : Int32)) else (((Int32.ofNat ss) + (2 : Int32)) - (Int32.ofNat nn))))] [(.int (2 : Int32)), (.ref b2)]))
  refine GoOn.st (fun t_ k_ => own_iaload X0 hx hZ e0 Vb2 (j := (2 : Int32)) (by decide) (v := (.int ((Int32.ofNat ss + (2 : Int32)) % Int32.ofNat nn))) rfl (hb hby d_method_3_42) _ k_) ?_
  refine GoOn.st (fun t_ k_ => XS.iload X0.here hx rfl (hb hby d_method_3_43) rfl k_) ?_
  refine GoOn.st (fun t_ k_ => XS.icmpNo X0.here hx rfl (hb hby d_method_3_45) rfl (teq hj).2 k_) ?_
  refine GoOn.st (fun t_ k_ => XS.iconst X0.here hx rfl (hb hby d_method_3_48)  k_) ?_
  show GoOn _ _ _ _ (s₁.setTop (mkF m 49 #[.val (.ref b1), .val (.ref b2), .val (.int (2 : Int32)), .val (.int (2 : Int32)), .val (.int (Int32.ofNat ss)), .val (.int (Int32.ofNat nn)), .val (.int (if ((Int32.ofNat ss) + (2 : Int32)) < (Int32.ofNat nn) then ((Int32.ofNat ss) + (2 : Int32)) else (((Int32.ofNat ss) + (2 : Int32)) - (Int32.ofNat nn))))] [(.int (1 : Int32))]))
  refine GoOn.st (fun t_ k_ => XS.goto X0.here hx rfl (pc0 := 49) (pc' := 53) rfl (hb hby d_method_3_49) (by decide) (by decide) k_) ?_
  show GoOn _ _ _ _ (s₁.setTop (mkF m 53 #[.val (.ref b1), .val (.ref b2), .val (.int (2 : Int32)), .val (.int (2 : Int32)), .val (.int (Int32.ofNat ss)), .val (.int (Int32.ofNat nn)), .val (.int (if ((Int32.ofNat ss) + (2 : Int32)) < (Int32.ofNat nn) then ((Int32.ofNat ss) + (2 : Int32)) else (((Int32.ofNat ss) + (2 : Int32)) - (Int32.ofNat nn))))] [(.int (1 : Int32))]))
  exact GoOn.retZ X0 hx hlk hret (by simp) rfl (hb hby d_method_3_53) (by rw [e0]; exact ⟨rfl, rfl, rfl⟩) (by decide) (by decide)
theorem ef_ent23 (m : MethodId) (x0 : Addr) (x1 : Addr) (x2 : Int32) (x3 : Int32) (x4 : Int32) (x5 : Int32) : entryFrame m #[(.ref x0), (.ref x1), (.int x2), (.int x3), (.int x4), (.int x5)] 7 = mkF m 0 #[.val (.ref x0), .val (.ref x1), .val (.int x2), .val (.int x3), .val (.int x4), .val (.int x5), .unset] [] := by first | (simp [entryFrame, mkF, argsToLocals, Value.category]; done) | rfl
set_option maxRecDepth 65536 in
set_option maxHeartbeats 40000000 in
theorem rm_ent23 (l : Launch) (Z : State) (a0 : Array Value) (hw : ∀ d ∈ tables_1, d.before a0 Z = true) (b1 b2 : Addr) (kb1 kb2 : ClassId) (nn ss : Nat) (h0 : Heap) :
    OwCon l Z (⟨"com/example/frontwise/frontwise/problem/MnkDependenciesPinLaw", "entry", "([I[IIIII)Z"⟩ : MethodName) method_3_code 7 (some .boolean) [] ({ frames := 0, cells := 0, slots := 0, locals := 0 } : Room) #[(.ref b1), (.ref b2), (.int (3 : Int32)), (.int (2 : Int32)), (.int (Int32.ofNat ss)), (.int (Int32.ofNat nn))] h0 (OwRet (some (.int 1)) h0) := by
  refine OwCon.of (plainFor_of_name pn_com_example_frontwise_frontwise_problem_MnkDependenciesPinLaw) ?_
  intro p e s m below meth cd_ s₁ X0 hx hby hml hret hlk hown hnm hZ e0
  refine GoOn.st (fun t_ k_ => castTop (ef_ent23 m b1 b2 (3 : Int32) (2 : Int32) (Int32.ofNat ss) (Int32.ofNat nn)) k_) ?_
  show GoOn _ _ _ _ (s₁.setTop (mkF m 0 #[.val (.ref b1), .val (.ref b2), .val (.int (3 : Int32)), .val (.int (2 : Int32)), .val (.int (Int32.ofNat ss)), .val (.int (Int32.ofNat nn)), .unset] []))
  refine GoOn.st (fun t_ k_ => XS.iloadN X0.here hx rfl (hb hby d_method_3_0) rfl k_) ?_
  refine GoOn.st (fun t_ k_ => XS.iloadN X0.here hx rfl (hb hby d_method_3_1) rfl k_) ?_
  refine GoOn.st (fun t_ k_ => XS.icmpNo X0.here hx rfl (hb hby d_method_3_2) rfl (tlt (by decide : (2 : Int32) < (3 : Int32))).2.2.2 k_) ?_
  refine GoOn.st (fun t_ k_ => XS.iconst X0.here hx rfl (hb hby d_method_3_5)  k_) ?_
  show GoOn _ _ _ _ (s₁.setTop (mkF m 6 #[.val (.ref b1), .val (.ref b2), .val (.int (3 : Int32)), .val (.int (2 : Int32)), .val (.int (Int32.ofNat ss)), .val (.int (Int32.ofNat nn)), .unset] [(.int (1 : Int32))]))
  exact GoOn.retZ X0 hx hlk hret (by simp) rfl (hb hby d_method_3_6) (by rw [e0]; exact ⟨rfl, rfl, rfl⟩) (by decide) (by decide)
theorem ef_dep3 (m : MethodId) (x0 : Addr) (x1 : Int32) (x2 : Int32) : entryFrame m #[(.ref x0), (.int x1), (.int x2)] 5 = mkF m 0 #[.val (.ref x0), .val (.int x1), .val (.int x2), .unset, .unset] [] := by first | (simp [entryFrame, mkF, argsToLocals, Value.category]; done) | rfl
set_option maxRecDepth 65536 in
set_option maxHeartbeats 40000000 in
theorem rm_dep3 (l : Launch) (Z : State) (a0 : Array Value) (hw : ∀ d ∈ tables_1, d.before a0 Z = true) (a1 : Addr) (nn ss : Nat) (p1 : Int32) (h0 : Heap) (n0 : Nat) (Z0 : n0 ≤ h0.size) (Fe : Fld Z h0 a1 "com/example/frontwise/frontwise/problem/Mnk" "epistasis" "I" (.int (3 : Int32))) (Fn : Fld Z h0 a1 "com/example/frontwise/frontwise/problem/Mnk" "n" "I" (.int (Int32.ofNat nn))) (hnz : Int32.ofNat nn ≠ 0) :
    OwCon l Z (⟨"com/example/frontwise/frontwise/problem/Mnk", "dependencies", "(II)[I"⟩ : MethodName) prog_39_method_6_code 5 (some (.array .int)) [] ({ frames := 0, cells := 1, slots := 4, locals := 0 } : Room) #[(.ref a1), (.int p1), (.int (Int32.ofNat ss))] h0 (fun v h L => ∃ b kb, v = some (.ref b) ∧ Fr n0 L ∧ Keep h0 h [] ∧ h0.size ≤ b ∧ Arv Z h b kb .int (4 : Int32) [(.int ((Int32.ofNat ss + (0 : Int32)) % Int32.ofNat nn)), (.int ((Int32.ofNat ss + (1 : Int32)) % Int32.ofNat nn)), (.int ((Int32.ofNat ss + (2 : Int32)) % Int32.ofNat nn)), (.int ((Int32.ofNat ss + (3 : Int32)) % Int32.ofNat nn))] (.int 0)) := by
  refine OwCon.of (plainFor_of_name pn_com_example_frontwise_frontwise_problem_Mnk) ?_
  intro p e s m below meth cd_ s₁ X0 hx hby hml hret hlk hown hnm hZ e0
  have N0 := Fr.nil n0
  refine GoOn.st (fun t_ k_ => castTop (ef_dep3 m a1 p1 (Int32.ofNat ss)) k_) ?_
  show GoOn _ _ _ _ (s₁.setTop (mkF m 0 #[.val (.ref a1), .val (.int p1), .val (.int (Int32.ofNat ss)), .unset, .unset] []))
  refine GoOn.st (fun t_ k_ => XS.aloadN X0.here hx rfl (hb hby d_prog_39_method_6_0) rfl rfl k_) ?_
  obtain ⟨T1, X1, e1, st1⟩ := getF X0 hx hZ hown (host := "") (Or.inl (hw _ (List.mem_of_getElem? (i := 17) rfl))) Via.refl e0 Fe (g := (mkF m 1 #[.val (.ref a1), .val (.int p1), .val (.int (Int32.ofNat ss)), .unset, .unset] [(.ref a1)])) rfl rfl (hb hby d_prog_39_method_6_1)
  refine GoOn.st st1 ?_
  refine GoOn.st (fun t_ k_ => XS.iconst X1.here hx rfl (hb hby d_prog_39_method_6_4)  k_) ?_
  refine GoOn.st (fun t_ k_ => XS.iadd X1.here hx rfl (hb hby d_prog_39_method_6_5) rfl k_) ?_
  show GoOn _ _ _ _ (T1.setTop (mkF m 6 #[.val (.ref a1), .val (.int p1), .val (.int (Int32.ofNat ss)), .unset, .unset] [(.int (4 : Int32))]))
  obtain ⟨T2, h2, k2, X2, e2, E2, A2, st2⟩ := newP X1 hx hZ (hw _ (List.mem_of_getElem? (i := 82) rfl)) e1 (g := (mkF m 6 #[.val (.ref a1), .val (.int p1), .val (.int (Int32.ofNat ss)), .unset, .unset] [(.int (4 : Int32))])) rfl (hb hby d_prog_39_method_6_6) rfl (by decide) (cap := 4) (by decide) (by decide) (by decide) (by decide)
  obtain ⟨b2, g2⟩ : ∃ z, z = h0.size := ⟨_, rfl⟩
  rw [← g2] at A2 st2
  have ne_a1_b2 : a1 ≠ b2 := Nat.ne_of_lt (Nat.lt_of_lt_of_le Fe.lt (Nat.le_of_eq g2.symm))
  have g_b2 : n0 ≤ b2 := Nat.le_trans Z0 (Nat.le_of_eq g2.symm)
  have sz_b2 : h0.size ≤ b2 := Nat.le_trans (Keep.refl h0 []).1 (Nat.le_of_eq g2.symm)
  have V2 : Arv Z h2 b2 k2 .int (4 : Int32) [(.int (0 : Int32)), (.int (0 : Int32)), (.int (0 : Int32)), (.int (0 : Int32))] (.int (0 : Int32)) := (Arv.new A2 (by decide)).pad (pad_rep [] _ 4)
  refine GoOn.st st2 ?_
  refine GoOn.st (fun t_ k_ => XS.astoreN X2.here hx rfl (hb hby d_prog_39_method_6_8) rfl rfl (l' := #[.val (.ref a1), .val (.int p1), .val (.int (Int32.ofNat ss)), .val (.ref b2), .unset]) rfl k_) ?_
  refine GoOn.st (fun t_ k_ => XS.iconst X2.here hx rfl (hb hby d_prog_39_method_6_9)  k_) ?_
  refine GoOn.st (fun t_ k_ => XS.istore X2.here hx rfl (hb hby d_prog_39_method_6_10) rfl (l' := #[.val (.ref a1), .val (.int p1), .val (.int (Int32.ofNat ss)), .val (.ref b2), .val (.int (0 : Int32))]) rfl k_) ?_
  show GoOn _ _ _ _ (T2.setTop (mkF m 12 #[.val (.ref a1), .val (.int p1), .val (.int (Int32.ofNat ss)), .val (.ref b2), .val (.int (0 : Int32))] []))
  refine GoOn.st (fun t_ k_ => XS.iload X2.here hx rfl (hb hby d_prog_39_method_6_12) rfl k_) ?_
  refine GoOn.st (fun t_ k_ => XS.aloadN X2.here hx rfl (hb hby d_prog_39_method_6_14) rfl rfl k_) ?_
  refine GoOn.st (fun t_ k_ => own_arrlen X2 hx hZ e2 V2 (hb hby d_prog_39_method_6_15) _ k_) ?_
  refine GoOn.st (fun t_ k_ => XS.icmpNo X2.here hx rfl (hb hby d_prog_39_method_6_16) rfl (tlt (by decide : (0 : Int32) < (4 : Int32))).2.1 k_) ?_
  show GoOn _ _ _ _ (T2.setTop (mkF m 19 #[.val (.ref a1), .val (.int p1), .val (.int (Int32.ofNat ss)), .val (.ref b2), .val (.int (0 : Int32))] []))
  refine GoOn.st (fun t_ k_ => XS.aloadN X2.here hx rfl (hb hby d_prog_39_method_6_19) rfl rfl k_) ?_
  refine GoOn.st (fun t_ k_ => XS.iload X2.here hx rfl (hb hby d_prog_39_method_6_20) rfl k_) ?_
  refine GoOn.st (fun t_ k_ => XS.iloadN X2.here hx rfl (hb hby d_prog_39_method_6_22) rfl k_) ?_
  refine GoOn.st (fun t_ k_ => XS.iload X2.here hx rfl (hb hby d_prog_39_method_6_23) rfl k_) ?_
  show GoOn _ _ _ _ (T2.setTop (mkF m 25 #[.val (.ref a1), .val (.int p1), .val (.int (Int32.ofNat ss)), .val (.ref b2), .val (.int (0 : Int32))] [(.int (0 : Int32)), (.int (Int32.ofNat ss)), (.int (0 : Int32)), (.ref b2)]))
  refine GoOn.st (fun t_ k_ => XS.iadd X2.here hx rfl (hb hby d_prog_39_method_6_25) rfl k_) ?_
  refine GoOn.st (fun t_ k_ => XS.aloadN X2.here hx rfl (hb hby d_prog_39_method_6_26) rfl rfl k_) ?_
  have F3 := (Fn.ext E2)
  obtain ⟨T4, X4, e4, st4⟩ := getF X2 hx hZ hown (host := "") (Or.inl (hw _ (List.mem_of_getElem? (i := 15) rfl))) Via.refl e2 F3 (g := (mkF m 27 #[.val (.ref a1), .val (.int p1), .val (.int (Int32.ofNat ss)), .val (.ref b2), .val (.int (0 : Int32))] [(.ref a1), (.int ((Int32.ofNat ss) + (0 : Int32))), (.int (0 : Int32)), (.ref b2)])) rfl rfl (hb hby d_prog_39_method_6_27)
  refine GoOn.st st4 ?_
  refine GoOn.st (fun t_ k_ => iremM X4 hx rfl (hb hby d_prog_39_method_6_30) rfl hnz k_) ?_
  show GoOn _ _ _ _ (T4.setTop (mkF m 31 #[.val (.ref a1), .val (.int p1), .val (.int (Int32.ofNat ss)), .val (.ref b2), .val (.int (0 : Int32))] [(.int (((Int32.ofNat ss) + (0 : Int32)) % (Int32.ofNat nn))), (.int (0 : Int32)), (.ref b2)]))
  obtain ⟨T5, h5, X5, e5, W5, V5, st5⟩ := own_iastore X4 hx hZ e4 V2 (j := (0 : Int32)) (by decide) 0 (by decide) (show 0 < _ from (by decide : 0 < 4)) (x := (((Int32.ofNat ss) + (0 : Int32)) % (Int32.ofNat nn))) (Ls := #[.val (.ref a1), .val (.int p1), .val (.int (Int32.ofNat ss)), .val (.ref b2), .val (.int (0 : Int32))]) (rest := []) (hb hby d_prog_39_method_6_31)
  replace V5 : Arv Z h5 b2 k2 .int (4 : Int32) [(.int (((Int32.ofNat ss) + (0 : Int32)) % (Int32.ofNat nn))), (.int (0 : Int32)), (.int (0 : Int32)), (.int (0 : Int32))] (.int (0 : Int32)) := V5
  have N6 := Fr.snoc X5 N0 g_b2
  refine GoOn.st st5 ?_
  refine GoOn.st (fun t_ k_ => XS.iinc X5.here hx rfl (hb hby d_prog_39_method_6_32) rfl (l' := #[.val (.ref a1), .val (.int p1), .val (.int (Int32.ofNat ss)), .val (.ref b2), .val (.int (1 : Int32))]) rfl k_) ?_
  refine GoOn.st (fun t_ k_ => XS.goto X5.here hx rfl (pc0 := 35) (pc' := 12) rfl (hb hby d_prog_39_method_6_35) (by decide) (by decide) k_) ?_
  refine GoOn.st (fun t_ k_ => XS.iload X5.here hx rfl (hb hby d_prog_39_method_6_12) rfl k_) ?_
  show GoOn _ _ _ _ (T5.setTop (mkF m 14 #[.val (.ref a1), .val (.int p1), .val (.int (Int32.ofNat ss)), .val (.ref b2), .val (.int (1 : Int32))] [(.int (1 : Int32))]))
  refine GoOn.st (fun t_ k_ => XS.aloadN X5.here hx rfl (hb hby d_prog_39_method_6_14) rfl rfl k_) ?_
  refine GoOn.st (fun t_ k_ => own_arrlen X5 hx hZ e5 V5 (hb hby d_prog_39_method_6_15) _ k_) ?_
  refine GoOn.st (fun t_ k_ => XS.icmpNo X5.here hx rfl (hb hby d_prog_39_method_6_16) rfl (tlt (by decide : (1 : Int32) < (4 : Int32))).2.1 k_) ?_
  refine GoOn.st (fun t_ k_ => XS.aloadN X5.here hx rfl (hb hby d_prog_39_method_6_19) rfl rfl k_) ?_
  show GoOn _ _ _ _ (T5.setTop (mkF m 20 #[.val (.ref a1), .val (.int p1), .val (.int (Int32.ofNat ss)), .val (.ref b2), .val (.int (1 : Int32))] [(.ref b2)]))
  refine GoOn.st (fun t_ k_ => XS.iload X5.here hx rfl (hb hby d_prog_39_method_6_20) rfl k_) ?_
  refine GoOn.st (fun t_ k_ => XS.iloadN X5.here hx rfl (hb hby d_prog_39_method_6_22) rfl k_) ?_
  refine GoOn.st (fun t_ k_ => XS.iload X5.here hx rfl (hb hby d_prog_39_method_6_23) rfl k_) ?_
  refine GoOn.st (fun t_ k_ => XS.iadd X5.here hx rfl (hb hby d_prog_39_method_6_25) rfl k_) ?_
  show GoOn _ _ _ _ (T5.setTop (mkF m 26 #[.val (.ref a1), .val (.int p1), .val (.int (Int32.ofNat ss)), .val (.ref b2), .val (.int (1 : Int32))] [(.int ((Int32.ofNat ss) + (1 : Int32))), (.int (1 : Int32)), (.ref b2)]))
  refine GoOn.st (fun t_ k_ => XS.aloadN X5.here hx rfl (hb hby d_prog_39_method_6_26) rfl rfl k_) ?_
  have F7 := (Fld.other W5 F3 (Or.inl ne_a1_b2))
  obtain ⟨T8, X8, e8, st8⟩ := getF X5 hx hZ hown (host := "") (Or.inl (hw _ (List.mem_of_getElem? (i := 15) rfl))) Via.refl e5 F7 (g := (mkF m 27 #[.val (.ref a1), .val (.int p1), .val (.int (Int32.ofNat ss)), .val (.ref b2), .val (.int (1 : Int32))] [(.ref a1), (.int ((Int32.ofNat ss) + (1 : Int32))), (.int (1 : Int32)), (.ref b2)])) rfl rfl (hb hby d_prog_39_method_6_27)
  refine GoOn.st st8 ?_
  refine GoOn.st (fun t_ k_ => iremM X8 hx rfl (hb hby d_prog_39_method_6_30) rfl hnz k_) ?_
  obtain ⟨T9, h9, X9, e9, W9, V9, st9⟩ := own_iastore X8 hx hZ e8 V5 (j := (1 : Int32)) (by decide) 1 (by decide) (show 1 < _ from (by decide : 1 < 4)) (x := (((Int32.ofNat ss) + (1 : Int32)) % (Int32.ofNat nn))) (Ls := #[.val (.ref a1), .val (.int p1), .val (.int (Int32.ofNat ss)), .val (.ref b2), .val (.int (1 : Int32))]) (rest := []) (hb hby d_prog_39_method_6_31)
  replace V9 : Arv Z h9 b2 k2 .int (4 : Int32) [(.int (((Int32.ofNat ss) + (0 : Int32)) % (Int32.ofNat nn))), (.int (((Int32.ofNat ss) + (1 : Int32)) % (Int32.ofNat nn))), (.int (0 : Int32)), (.int (0 : Int32))] (.int (0 : Int32)) := V9
  have N10 := Fr.snoc X9 N6 g_b2
  refine GoOn.st st9 ?_
  show GoOn _ _ _ _ (T9.setTop (mkF m 32 #[.val (.ref a1), .val (.int p1), .val (.int (Int32.ofNat ss)), .val (.ref b2), .val (.int (1 : Int32))] []))
  refine GoOn.st (fun t_ k_ => XS.iinc X9.here hx rfl (hb hby d_prog_39_method_6_32) rfl (l' := #[.val (.ref a1), .val (.int p1), .val (.int (Int32.ofNat ss)), .val (.ref b2), .val (.int (2 : Int32))]) rfl k_) ?_
  refine GoOn.st (fun t_ k_ => XS.goto X9.here hx rfl (pc0 := 35) (pc' := 12) rfl (hb hby d_prog_39_method_6_35) (by decide) (by decide) k_) ?_
  refine GoOn.st (fun t_ k_ => XS.iload X9.here hx rfl (hb hby d_prog_39_method_6_12) rfl k_) ?_
  refine GoOn.st (fun t_ k_ => XS.aloadN X9.here hx rfl (hb hby d_prog_39_method_6_14) rfl rfl k_) ?_
  show GoOn _ _ _ _ (T9.setTop (mkF m 15 #[.val (.ref a1), .val (.int p1), .val (.int (Int32.ofNat ss)), .val (.ref b2), .val (.int (2 : Int32))] [(.ref b2), (.int (2 : Int32))]))
  refine GoOn.st (fun t_ k_ => own_arrlen X9 hx hZ e9 V9 (hb hby d_prog_39_method_6_15) _ k_) ?_
  refine GoOn.st (fun t_ k_ => XS.icmpNo X9.here hx rfl (hb hby d_prog_39_method_6_16) rfl (tlt (by decide : (2 : Int32) < (4 : Int32))).2.1 k_) ?_
  refine GoOn.st (fun t_ k_ => XS.aloadN X9.here hx rfl (hb hby d_prog_39_method_6_19) rfl rfl k_) ?_
  refine GoOn.st (fun t_ k_ => XS.iload X9.here hx rfl (hb hby d_prog_39_method_6_20) rfl k_) ?_
  show GoOn _ _ _ _ (T9.setTop (mkF m 22 #[.val (.ref a1), .val (.int p1), .val (.int (Int32.ofNat ss)), .val (.ref b2), .val (.int (2 : Int32))] [(.int (2 : Int32)), (.ref b2)]))
  refine GoOn.st (fun t_ k_ => XS.iloadN X9.here hx rfl (hb hby d_prog_39_method_6_22) rfl k_) ?_
  refine GoOn.st (fun t_ k_ => XS.iload X9.here hx rfl (hb hby d_prog_39_method_6_23) rfl k_) ?_
  refine GoOn.st (fun t_ k_ => XS.iadd X9.here hx rfl (hb hby d_prog_39_method_6_25) rfl k_) ?_
  refine GoOn.st (fun t_ k_ => XS.aloadN X9.here hx rfl (hb hby d_prog_39_method_6_26) rfl rfl k_) ?_
  show GoOn _ _ _ _ (T9.setTop (mkF m 27 #[.val (.ref a1), .val (.int p1), .val (.int (Int32.ofNat ss)), .val (.ref b2), .val (.int (2 : Int32))] [(.ref a1), (.int ((Int32.ofNat ss) + (2 : Int32))), (.int (2 : Int32)), (.ref b2)]))
  have F11 := (Fld.other W9 F7 (Or.inl ne_a1_b2))
  obtain ⟨T12, X12, e12, st12⟩ := getF X9 hx hZ hown (host := "") (Or.inl (hw _ (List.mem_of_getElem? (i := 15) rfl))) Via.refl e9 F11 (g := (mkF m 27 #[.val (.ref a1), .val (.int p1), .val (.int (Int32.ofNat ss)), .val (.ref b2), .val (.int (2 : Int32))] [(.ref a1), (.int ((Int32.ofNat ss) + (2 : Int32))), (.int (2 : Int32)), (.ref b2)])) rfl rfl (hb hby d_prog_39_method_6_27)
  refine GoOn.st st12 ?_
  refine GoOn.st (fun t_ k_ => iremM X12 hx rfl (hb hby d_prog_39_method_6_30) rfl hnz k_) ?_
  obtain ⟨T13, h13, X13, e13, W13, V13, st13⟩ := own_iastore X12 hx hZ e12 V9 (j := (2 : Int32)) (by decide) 2 (by decide) (show 2 < _ from (by decide : 2 < 4)) (x := (((Int32.ofNat ss) + (2 : Int32)) % (Int32.ofNat nn))) (Ls := #[.val (.ref a1), .val (.int p1), .val (.int (Int32.ofNat ss)), .val (.ref b2), .val (.int (2 : Int32))]) (rest := []) (hb hby d_prog_39_method_6_31)
  replace V13 : Arv Z h13 b2 k2 .int (4 : Int32) [(.int (((Int32.ofNat ss) + (0 : Int32)) % (Int32.ofNat nn))), (.int (((Int32.ofNat ss) + (1 : Int32)) % (Int32.ofNat nn))), (.int (((Int32.ofNat ss) + (2 : Int32)) % (Int32.ofNat nn))), (.int (0 : Int32))] (.int (0 : Int32)) := V13
  have N14 := Fr.snoc X13 N10 g_b2
  refine GoOn.st st13 ?_
  refine GoOn.st (fun t_ k_ => XS.iinc X13.here hx rfl (hb hby d_prog_39_method_6_32) rfl (l' := #[.val (.ref a1), .val (.int p1), .val (.int (Int32.ofNat ss)), .val (.ref b2), .val (.int (3 : Int32))]) rfl k_) ?_
  show GoOn _ _ _ _ (T13.setTop (mkF m 35 #[.val (.ref a1), .val (.int p1), .val (.int (Int32.ofNat ss)), .val (.ref b2), .val (.int (3 : Int32))] []))
  refine GoOn.st (fun t_ k_ => XS.goto X13.here hx rfl (pc0 := 35) (pc' := 12) rfl (hb hby d_prog_39_method_6_35) (by decide) (by decide) k_) ?_
  refine GoOn.st (fun t_ k_ => XS.iload X13.here hx rfl (hb hby d_prog_39_method_6_12) rfl k_) ?_
  refine GoOn.st (fun t_ k_ => XS.aloadN X13.here hx rfl (hb hby d_prog_39_method_6_14) rfl rfl k_) ?_
  refine GoOn.st (fun t_ k_ => own_arrlen X13 hx hZ e13 V13 (hb hby d_prog_39_method_6_15) _ k_) ?_
  show GoOn _ _ _ _ (T13.setTop (mkF m 16 #[.val (.ref a1), .val (.int p1), .val (.int (Int32.ofNat ss)), .val (.ref b2), .val (.int (3 : Int32))] [(.int (4 : Int32)), (.int (3 : Int32))]))
  refine GoOn.st (fun t_ k_ => XS.icmpNo X13.here hx rfl (hb hby d_prog_39_method_6_16) rfl (tlt (by decide : (3 : Int32) < (4 : Int32))).2.1 k_) ?_
  refine GoOn.st (fun t_ k_ => XS.aloadN X13.here hx rfl (hb hby d_prog_39_method_6_19) rfl rfl k_) ?_
  refine GoOn.st (fun t_ k_ => XS.iload X13.here hx rfl (hb hby d_prog_39_method_6_20) rfl k_) ?_
  refine GoOn.st (fun t_ k_ => XS.iloadN X13.here hx rfl (hb hby d_prog_39_method_6_22) rfl k_) ?_
  show GoOn _ _ _ _ (T13.setTop (mkF m 23 #[.val (.ref a1), .val (.int p1), .val (.int (Int32.ofNat ss)), .val (.ref b2), .val (.int (3 : Int32))] [(.int (Int32.ofNat ss)), (.int (3 : Int32)), (.ref b2)]))
  refine GoOn.st (fun t_ k_ => XS.iload X13.here hx rfl (hb hby d_prog_39_method_6_23) rfl k_) ?_
  refine GoOn.st (fun t_ k_ => XS.iadd X13.here hx rfl (hb hby d_prog_39_method_6_25) rfl k_) ?_
  refine GoOn.st (fun t_ k_ => XS.aloadN X13.here hx rfl (hb hby d_prog_39_method_6_26) rfl rfl k_) ?_
  have F15 := (Fld.other W13 F11 (Or.inl ne_a1_b2))
  obtain ⟨T16, X16, e16, st16⟩ := getF X13 hx hZ hown (host := "") (Or.inl (hw _ (List.mem_of_getElem? (i := 15) rfl))) Via.refl e13 F15 (g := (mkF m 27 #[.val (.ref a1), .val (.int p1), .val (.int (Int32.ofNat ss)), .val (.ref b2), .val (.int (3 : Int32))] [(.ref a1), (.int ((Int32.ofNat ss) + (3 : Int32))), (.int (3 : Int32)), (.ref b2)])) rfl rfl (hb hby d_prog_39_method_6_27)
  refine GoOn.st st16 ?_
  show GoOn _ _ _ _ (T16.setTop (mkF m 30 #[.val (.ref a1), .val (.int p1), .val (.int (Int32.ofNat ss)), .val (.ref b2), .val (.int (3 : Int32))] [(.int (Int32.ofNat nn)), (.int ((Int32.ofNat ss) + (3 : Int32))), (.int (3 : Int32)), (.ref b2)]))
  refine GoOn.st (fun t_ k_ => iremM X16 hx rfl (hb hby d_prog_39_method_6_30) rfl hnz k_) ?_
  obtain ⟨T17, h17, X17, e17, W17, V17, st17⟩ := own_iastore X16 hx hZ e16 V13 (j := (3 : Int32)) (by decide) 3 (by decide) (show 3 < _ from (by decide : 3 < 4)) (x := (((Int32.ofNat ss) + (3 : Int32)) % (Int32.ofNat nn))) (Ls := #[.val (.ref a1), .val (.int p1), .val (.int (Int32.ofNat ss)), .val (.ref b2), .val (.int (3 : Int32))]) (rest := []) (hb hby d_prog_39_method_6_31)
  replace V17 : Arv Z h17 b2 k2 .int (4 : Int32) [(.int (((Int32.ofNat ss) + (0 : Int32)) % (Int32.ofNat nn))), (.int (((Int32.ofNat ss) + (1 : Int32)) % (Int32.ofNat nn))), (.int (((Int32.ofNat ss) + (2 : Int32)) % (Int32.ofNat nn))), (.int (((Int32.ofNat ss) + (3 : Int32)) % (Int32.ofNat nn)))] (.int (0 : Int32)) := V17
  have N18 := Fr.snoc X17 N14 g_b2
  refine GoOn.st st17 ?_
  refine GoOn.st (fun t_ k_ => XS.iinc X17.here hx rfl (hb hby d_prog_39_method_6_32) rfl (l' := #[.val (.ref a1), .val (.int p1), .val (.int (Int32.ofNat ss)), .val (.ref b2), .val (.int (4 : Int32))]) rfl k_) ?_
  refine GoOn.st (fun t_ k_ => XS.goto X17.here hx rfl (pc0 := 35) (pc' := 12) rfl (hb hby d_prog_39_method_6_35) (by decide) (by decide) k_) ?_
  show GoOn _ _ _ _ (T17.setTop (mkF m 12 #[.val (.ref a1), .val (.int p1), .val (.int (Int32.ofNat ss)), .val (.ref b2), .val (.int (4 : Int32))] []))
  refine GoOn.st (fun t_ k_ => XS.iload X17.here hx rfl (hb hby d_prog_39_method_6_12) rfl k_) ?_
  refine GoOn.st (fun t_ k_ => XS.aloadN X17.here hx rfl (hb hby d_prog_39_method_6_14) rfl rfl k_) ?_
  refine GoOn.st (fun t_ k_ => own_arrlen X17 hx hZ e17 V17 (hb hby d_prog_39_method_6_15) _ k_) ?_
  refine GoOn.st (fun t_ k_ => XS.icmpYes X17.here hx rfl (pc0 := 16) (pc' := 38) rfl (hb hby d_prog_39_method_6_16) rfl (flt (by decide : ¬ ((4 : Int32) < (4 : Int32)))).2.1 (by decide) (by decide) k_) ?_
  show GoOn _ _ _ _ (T17.setTop (mkF m 38 #[.val (.ref a1), .val (.int p1), .val (.int (Int32.ofNat ss)), .val (.ref b2), .val (.int (4 : Int32))] []))
  refine GoOn.st (fun t_ k_ => XS.aloadN X17.here hx rfl (hb hby d_prog_39_method_6_38) rfl rfl k_) ?_
  show GoOn _ _ _ _ (T17.setTop (mkF m 39 #[.val (.ref a1), .val (.int p1), .val (.int (Int32.ofNat ss)), .val (.ref b2), .val (.int (4 : Int32))] [(.ref b2)]))
  exact GoOn.retA X17 hx hlk hret rfl rfl rfl (hb hby d_prog_39_method_6_39) (by rw [e17]; exact ⟨b2, k2, rfl, N18, ((((((Keep.refl h0 []).ext E2).wr W5 (Or.inr sz_b2)).wr W9 (Or.inr sz_b2)).wr W13 (Or.inr sz_b2)).wr W17 (Or.inr sz_b2)), sz_b2, V17⟩) (by decide) (by decide)
theorem ef_ent30 (m : MethodId) (x0 : Addr) (x1 : Addr) (x2 : Int32) (x3 : Int32) (x4 : Int32) (x5 : Int32) : entryFrame m #[(.ref x0), (.ref x1), (.int x2), (.int x3), (.int x4), (.int x5)] 7 = mkF m 0 #[.val (.ref x0), .val (.ref x1), .val (.int x2), .val (.int x3), .val (.int x4), .val (.int x5), .unset] [] := by first | (simp [entryFrame, mkF, argsToLocals, Value.category]; done) | rfl
set_option maxRecDepth 65536 in
set_option maxHeartbeats 40000000 in
theorem rm_ent30 (l : Launch) (Z : State) (a0 : Array Value) (hw : ∀ d ∈ tables_1, d.before a0 Z = true) (b1 b2 : Addr) (kb1 kb2 : ClassId) (nn ss : Nat) (h0 : Heap) (Vb1 : Arv Z h0 b1 kb1 .int (4 : Int32) [(.int ((Int32.ofNat ss + (0 : Int32)) % Int32.ofNat nn)), (.int ((Int32.ofNat ss + (1 : Int32)) % Int32.ofNat nn)), (.int ((Int32.ofNat ss + (2 : Int32)) % Int32.ofNat nn)), (.int ((Int32.ofNat ss + (3 : Int32)) % Int32.ofNat nn))] (.int 0)) (Vb2 : Arv Z h0 b2 kb2 .int (4 : Int32) [(.int ((Int32.ofNat ss + (0 : Int32)) % Int32.ofNat nn)), (.int ((Int32.ofNat ss + (1 : Int32)) % Int32.ofNat nn)), (.int ((Int32.ofNat ss + (2 : Int32)) % Int32.ofNat nn)), (.int ((Int32.ofNat ss + (3 : Int32)) % Int32.ofNat nn))] (.int 0)) (hj : ((Int32.ofNat ss + (0 : Int32)) % Int32.ofNat nn) = (if Int32.ofNat ss + (0 : Int32) < Int32.ofNat nn then Int32.ofNat ss + (0 : Int32) else Int32.ofNat ss + (0 : Int32) - Int32.ofNat nn)) :
    OwCon l Z (⟨"com/example/frontwise/frontwise/problem/MnkDependenciesPinLaw", "entry", "([I[IIIII)Z"⟩ : MethodName) method_3_code 7 (some .boolean) [] ({ frames := 0, cells := 0, slots := 0, locals := 0 } : Room) #[(.ref b1), (.ref b2), (.int (0 : Int32)), (.int (3 : Int32)), (.int (Int32.ofNat ss)), (.int (Int32.ofNat nn))] h0 (OwRet (some (.int 1)) h0) := by
  refine OwCon.of (plainFor_of_name pn_com_example_frontwise_frontwise_problem_MnkDependenciesPinLaw) ?_
  intro p e s m below meth cd_ s₁ X0 hx hby hml hret hlk hown hnm hZ e0
  refine GoOn.st (fun t_ k_ => castTop (ef_ent30 m b1 b2 (0 : Int32) (3 : Int32) (Int32.ofNat ss) (Int32.ofNat nn)) k_) ?_
  show GoOn _ _ _ _ (s₁.setTop (mkF m 0 #[.val (.ref b1), .val (.ref b2), .val (.int (0 : Int32)), .val (.int (3 : Int32)), .val (.int (Int32.ofNat ss)), .val (.int (Int32.ofNat nn)), .unset] []))
  refine GoOn.st (fun t_ k_ => XS.iloadN X0.here hx rfl (hb hby d_method_3_0) rfl k_) ?_
  refine GoOn.st (fun t_ k_ => XS.iloadN X0.here hx rfl (hb hby d_method_3_1) rfl k_) ?_
  refine GoOn.st (fun t_ k_ => XS.icmpYes X0.here hx rfl (pc0 := 2) (pc' := 7) rfl (hb hby d_method_3_2) rfl (flt (by decide : ¬ ((3 : Int32) < (0 : Int32)))).2.2.2 (by decide) (by decide) k_) ?_
  refine GoOn.st (fun t_ k_ => XS.iload X0.here hx rfl (hb hby d_method_3_7) rfl k_) ?_
  show GoOn _ _ _ _ (s₁.setTop (mkF m 9 #[.val (.ref b1), .val (.ref b2), .val (.int (0 : Int32)), .val (.int (3 : Int32)), .val (.int (Int32.ofNat ss)), .val (.int (Int32.ofNat nn)), .unset] [(.int (Int32.ofNat ss))]))
  refine GoOn.st (fun t_ k_ => XS.iloadN X0.here hx rfl (hb hby d_method_3_9) rfl k_) ?_
  refine GoOn.st (fun t_ k_ => XS.iadd X0.here hx rfl (hb hby d_method_3_10) rfl k_) ?_
  refine GoOn.st (fun t_ k_ => XS.iload X0.here hx rfl (hb hby d_method_3_11) rfl k_) ?_
  have dm1 : ∀ zz0 : Int32, zz0 = (if ((Int32.ofNat ss) + (0 : Int32)) < (Int32.ofNat nn) then ((Int32.ofNat ss) + (0 : Int32)) else (((Int32.ofNat ss) + (0 : Int32)) - (Int32.ofNat nn))) → ∀ t_, Steps p.tables e below (s₁.setTop (mkF m 30 #[.val (.ref b1), .val (.ref b2), .val (.int (0 : Int32)), .val (.int (3 : Int32)), .val (.int (Int32.ofNat ss)), .val (.int (Int32.ofNat nn)), .unset] [(.int zz0)])) t_ → Steps p.tables e below (s₁.setTop (mkF m 13 #[.val (.ref b1), .val (.ref b2), .val (.int (0 : Int32)), .val (.int (3 : Int32)), .val (.int (Int32.ofNat ss)), .val (.int (Int32.ofNat nn)), .unset] [(.int (Int32.ofNat nn)), (.int ((Int32.ofNat ss) + (0 : Int32)))])) t_ := by
    intro zz0 hzz0 t_ k_; by_cases hc : ((Int32.ofNat ss) + (0 : Int32)) < (Int32.ofNat nn)
    · rw [hzz0.trans (if_pos hc)] at k_
      refine XS.icmpNo X0.here hx rfl (hb hby d_method_3_13) rfl (tlt hc).2.1 ?_
      show Steps _ _ _ (s₁.setTop (mkF m 16 #[.val (.ref b1), .val (.ref b2), .val (.int (0 : Int32)), .val (.int (3 : Int32)), .val (.int (Int32.ofNat ss)), .val (.int (Int32.ofNat nn)), .unset] [])) _
      refine XS.iload X0.here hx rfl (hb hby d_method_3_16) rfl ?_
      refine XS.iloadN X0.here hx rfl (hb hby d_method_3_18) rfl ?_
      refine XS.iadd X0.here hx rfl (hb hby d_method_3_19) rfl ?_
      refine XS.goto X0.here hx rfl (pc0 := 20) (pc' := 30) rfl (hb hby d_method_3_20) (by decide) (by decide) ?_
      exact k_
    · rw [hzz0.trans (if_neg hc)] at k_
      refine XS.icmpYes X0.here hx rfl (pc0 := 13) (pc' := 23) rfl (hb hby d_method_3_13) rfl (flt hc).2.1 (by decide) (by decide) ?_
      show Steps _ _ _ (s₁.setTop (mkF m 23 #[.val (.ref b1), .val (.ref b2), .val (.int (0 : Int32)), .val (.int (3 : Int32)), .val (.int (Int32.ofNat ss)), .val (.int (Int32.ofNat nn)), .unset] [])) _
      refine XS.iload X0.here hx rfl (hb hby d_method_3_23) rfl ?_
      refine XS.iloadN X0.here hx rfl (hb hby d_method_3_25) rfl ?_
      refine XS.iadd X0.here hx rfl (hb hby d_method_3_26) rfl ?_
      refine XS.iload X0.here hx rfl (hb hby d_method_3_27) rfl ?_
      show Steps _ _ _ (s₁.setTop (mkF m 29 #[.val (.ref b1), .val (.ref b2), .val (.int (0 : Int32)), .val (.int (3 : Int32)), .val (.int (Int32.ofNat ss)), .val (.int (Int32.ofNat nn)), .unset] [(.int (Int32.ofNat nn)), (.int ((Int32.ofNat ss) + (0 : Int32)))])) _
      refine XS.isub X0.here hx rfl (hb hby d_method_3_29) rfl ?_
      exact k_
  refine GoOn.st (dm1 _ rfl) ?_
  show GoOn _ _ _ _ (s₁.setTop (mkF m 30 #[.val (.ref b1), .val (.ref b2), .val (.int (0 : Int32)), .val (.int (3 : Int32)), .val (.int (Int32.ofNat ss)), .val (.int (Int32.ofNat nn)), .unset] [(.int (if ((Int32.ofNat ss) + (0 : Int32)) < (Int32.ofNat nn) then ((Int32.ofNat ss) + (0 : Int32)) else (((Int32.ofNat ss) + (0 : Int32)) - (Int32.ofNat nn))))]))
  refine GoOn.st (fun t_ k_ => XS.istore X0.here hx rfl (hb hby d_method_3_30) rfl (l' := #[.val (.ref b1), .val (.ref b2), .val (.int (0 : Int32)), .val (.int (3 : Int32)), .val (.int (Int32.ofNat ss)), .val (.int (Int32.ofNat nn)), .val (.int (if ((Int32.ofNat ss) + (0 : Int32)) < (Int32.ofNat nn) then ((Int32.ofNat ss) + (0 : Int32)) else (((Int32.ofNat ss) + (0 : Int32)) - (Int32.ofNat nn))))]) rfl k_) ?_
  refine GoOn.st (fun t_ k_ => XS.aloadN X0.here hx rfl (hb hby d_method_3_32) rfl rfl k_) ?_
  refine GoOn.st (fun t_ k_ => XS.iloadN X0.here hx rfl (hb hby d_method_3_33) rfl k_) ?_
  refine GoOn.st (fun t_ k_ => own_iaload X0 hx hZ e0 Vb1 (j := (0 : Int32)) (by decide) (v := (.int ((Int32.ofNat ss + (0 : Int32)) % Int32.ofNat nn))) rfl (hb hby d_method_3_34) _ k_) ?_
  show GoOn _ _ _ _ (s₁.setTop (mkF m 35 #[.val (.ref b1), .val (.ref b2), .val (.int (0 : Int32)), .val (.int (3 : Int32)), .val (.int (Int32.ofNat ss)), .val (.int (Int32.ofNat nn)), .val (.int (if ((Int32.ofNat ss) + (0 : Int32)) < (Int32.ofNat nn) then ((Int32.ofNat ss) + (0 : Int32)) else (((Int32.ofNat ss) + (0 : Int32)) - (Int32.ofNat nn))))] [(.int ((Int32.ofNat ss + (0 : Int32)) % Int32.ofNat nn))]))
  refine GoOn.st (fun t_ k_ => XS.iload X0.here hx rfl (hb hby d_method_3_35) rfl k_) ?_
  refine GoOn.st (fun t_ k_ => XS.icmpNo X0.here hx rfl (hb hby d_method_3_37) rfl (teq hj).2 k_) ?_
  refine GoOn.st (fun t_ k_ => XS.aloadN X0.here hx rfl (hb hby d_method_3_40) rfl rfl k_) ?_
  refine GoOn.st (fun t_ k_ => XS.iloadN X0.here hx rfl (hb hby d_method_3_41) rfl k_) ?_
  show GoOn _ _ _ _ (s₁.setTop (mkF m 42 #[.val (.ref b1), .val (.ref b2), .val (.int (0 : Int32)), .val (.int (3 : Int32)), .val (.int (Int32.ofNat ss)), .val (.int (Int32.ofNat nn)), .val (.int (if ((Int32.ofNat ss) + (0 : Int32)) < (Int32.ofNat nn) then ((Int32.ofNat ss) + (0 : Int32)) else (((Int32.ofNat ss) + (0 : Int32)) - (Int32.ofNat nn))))] [(.int (0 : Int32)), (.ref b2)]))
  refine GoOn.st (fun t_ k_ => own_iaload X0 hx hZ e0 Vb2 (j := (0 : Int32)) (by decide) (v := (.int ((Int32.ofNat ss + (0 : Int32)) % Int32.ofNat nn))) rfl (hb hby d_method_3_42) _ k_) ?_
  refine GoOn.st (fun t_ k_ => XS.iload X0.here hx rfl (hb hby d_method_3_43) rfl k_) ?_
  refine GoOn.st (fun t_ k_ => XS.icmpNo X0.here hx rfl (hb hby d_method_3_45) rfl (teq hj).2 k_) ?_
  refine GoOn.st (fun t_ k_ => XS.iconst X0.here hx rfl (hb hby d_method_3_48)  k_) ?_
  show GoOn _ _ _ _ (s₁.setTop (mkF m 49 #[.val (.ref b1), .val (.ref b2), .val (.int (0 : Int32)), .val (.int (3 : Int32)), .val (.int (Int32.ofNat ss)), .val (.int (Int32.ofNat nn)), .val (.int (if ((Int32.ofNat ss) + (0 : Int32)) < (Int32.ofNat nn) then ((Int32.ofNat ss) + (0 : Int32)) else (((Int32.ofNat ss) + (0 : Int32)) - (Int32.ofNat nn))))] [(.int (1 : Int32))]))
  refine GoOn.st (fun t_ k_ => XS.goto X0.here hx rfl (pc0 := 49) (pc' := 53) rfl (hb hby d_method_3_49) (by decide) (by decide) k_) ?_
  show GoOn _ _ _ _ (s₁.setTop (mkF m 53 #[.val (.ref b1), .val (.ref b2), .val (.int (0 : Int32)), .val (.int (3 : Int32)), .val (.int (Int32.ofNat ss)), .val (.int (Int32.ofNat nn)), .val (.int (if ((Int32.ofNat ss) + (0 : Int32)) < (Int32.ofNat nn) then ((Int32.ofNat ss) + (0 : Int32)) else (((Int32.ofNat ss) + (0 : Int32)) - (Int32.ofNat nn))))] [(.int (1 : Int32))]))
  exact GoOn.retZ X0 hx hlk hret (by simp) rfl (hb hby d_method_3_53) (by rw [e0]; exact ⟨rfl, rfl, rfl⟩) (by decide) (by decide)
theorem ef_ent31 (m : MethodId) (x0 : Addr) (x1 : Addr) (x2 : Int32) (x3 : Int32) (x4 : Int32) (x5 : Int32) : entryFrame m #[(.ref x0), (.ref x1), (.int x2), (.int x3), (.int x4), (.int x5)] 7 = mkF m 0 #[.val (.ref x0), .val (.ref x1), .val (.int x2), .val (.int x3), .val (.int x4), .val (.int x5), .unset] [] := by first | (simp [entryFrame, mkF, argsToLocals, Value.category]; done) | rfl
set_option maxRecDepth 65536 in
set_option maxHeartbeats 40000000 in
theorem rm_ent31 (l : Launch) (Z : State) (a0 : Array Value) (hw : ∀ d ∈ tables_1, d.before a0 Z = true) (b1 b2 : Addr) (kb1 kb2 : ClassId) (nn ss : Nat) (h0 : Heap) (Vb1 : Arv Z h0 b1 kb1 .int (4 : Int32) [(.int ((Int32.ofNat ss + (0 : Int32)) % Int32.ofNat nn)), (.int ((Int32.ofNat ss + (1 : Int32)) % Int32.ofNat nn)), (.int ((Int32.ofNat ss + (2 : Int32)) % Int32.ofNat nn)), (.int ((Int32.ofNat ss + (3 : Int32)) % Int32.ofNat nn))] (.int 0)) (Vb2 : Arv Z h0 b2 kb2 .int (4 : Int32) [(.int ((Int32.ofNat ss + (0 : Int32)) % Int32.ofNat nn)), (.int ((Int32.ofNat ss + (1 : Int32)) % Int32.ofNat nn)), (.int ((Int32.ofNat ss + (2 : Int32)) % Int32.ofNat nn)), (.int ((Int32.ofNat ss + (3 : Int32)) % Int32.ofNat nn))] (.int 0)) (hj : ((Int32.ofNat ss + (1 : Int32)) % Int32.ofNat nn) = (if Int32.ofNat ss + (1 : Int32) < Int32.ofNat nn then Int32.ofNat ss + (1 : Int32) else Int32.ofNat ss + (1 : Int32) - Int32.ofNat nn)) :
    OwCon l Z (⟨"com/example/frontwise/frontwise/problem/MnkDependenciesPinLaw", "entry", "([I[IIIII)Z"⟩ : MethodName) method_3_code 7 (some .boolean) [] ({ frames := 0, cells := 0, slots := 0, locals := 0 } : Room) #[(.ref b1), (.ref b2), (.int (1 : Int32)), (.int (3 : Int32)), (.int (Int32.ofNat ss)), (.int (Int32.ofNat nn))] h0 (OwRet (some (.int 1)) h0) := by
  refine OwCon.of (plainFor_of_name pn_com_example_frontwise_frontwise_problem_MnkDependenciesPinLaw) ?_
  intro p e s m below meth cd_ s₁ X0 hx hby hml hret hlk hown hnm hZ e0
  refine GoOn.st (fun t_ k_ => castTop (ef_ent31 m b1 b2 (1 : Int32) (3 : Int32) (Int32.ofNat ss) (Int32.ofNat nn)) k_) ?_
  show GoOn _ _ _ _ (s₁.setTop (mkF m 0 #[.val (.ref b1), .val (.ref b2), .val (.int (1 : Int32)), .val (.int (3 : Int32)), .val (.int (Int32.ofNat ss)), .val (.int (Int32.ofNat nn)), .unset] []))
  refine GoOn.st (fun t_ k_ => XS.iloadN X0.here hx rfl (hb hby d_method_3_0) rfl k_) ?_
  refine GoOn.st (fun t_ k_ => XS.iloadN X0.here hx rfl (hb hby d_method_3_1) rfl k_) ?_
  refine GoOn.st (fun t_ k_ => XS.icmpYes X0.here hx rfl (pc0 := 2) (pc' := 7) rfl (hb hby d_method_3_2) rfl (flt (by decide : ¬ ((3 : Int32) < (1 : Int32)))).2.2.2 (by decide) (by decide) k_) ?_
  refine GoOn.st (fun t_ k_ => XS.iload X0.here hx rfl (hb hby d_method_3_7) rfl k_) ?_
  show GoOn _ _ _ _ (s₁.setTop (mkF m 9 #[.val (.ref b1), .val (.ref b2), .val (.int (1 : Int32)), .val (.int (3 : Int32)), .val (.int (Int32.ofNat ss)), .val (.int (Int32.ofNat nn)), .unset] [(.int (Int32.ofNat ss))]))
  refine GoOn.st (fun t_ k_ => XS.iloadN X0.here hx rfl (hb hby d_method_3_9) rfl k_) ?_
  refine GoOn.st (fun t_ k_ => XS.iadd X0.here hx rfl (hb hby d_method_3_10) rfl k_) ?_
  refine GoOn.st (fun t_ k_ => XS.iload X0.here hx rfl (hb hby d_method_3_11) rfl k_) ?_
  have dm1 : ∀ zz0 : Int32, zz0 = (if ((Int32.ofNat ss) + (1 : Int32)) < (Int32.ofNat nn) then ((Int32.ofNat ss) + (1 : Int32)) else (((Int32.ofNat ss) + (1 : Int32)) - (Int32.ofNat nn))) → ∀ t_, Steps p.tables e below (s₁.setTop (mkF m 30 #[.val (.ref b1), .val (.ref b2), .val (.int (1 : Int32)), .val (.int (3 : Int32)), .val (.int (Int32.ofNat ss)), .val (.int (Int32.ofNat nn)), .unset] [(.int zz0)])) t_ → Steps p.tables e below (s₁.setTop (mkF m 13 #[.val (.ref b1), .val (.ref b2), .val (.int (1 : Int32)), .val (.int (3 : Int32)), .val (.int (Int32.ofNat ss)), .val (.int (Int32.ofNat nn)), .unset] [(.int (Int32.ofNat nn)), (.int ((Int32.ofNat ss) + (1 : Int32)))])) t_ := by
    intro zz0 hzz0 t_ k_; by_cases hc : ((Int32.ofNat ss) + (1 : Int32)) < (Int32.ofNat nn)
    · rw [hzz0.trans (if_pos hc)] at k_
      refine XS.icmpNo X0.here hx rfl (hb hby d_method_3_13) rfl (tlt hc).2.1 ?_
      show Steps _ _ _ (s₁.setTop (mkF m 16 #[.val (.ref b1), .val (.ref b2), .val (.int (1 : Int32)), .val (.int (3 : Int32)), .val (.int (Int32.ofNat ss)), .val (.int (Int32.ofNat nn)), .unset] [])) _
      refine XS.iload X0.here hx rfl (hb hby d_method_3_16) rfl ?_
      refine XS.iloadN X0.here hx rfl (hb hby d_method_3_18) rfl ?_
      refine XS.iadd X0.here hx rfl (hb hby d_method_3_19) rfl ?_
      refine XS.goto X0.here hx rfl (pc0 := 20) (pc' := 30) rfl (hb hby d_method_3_20) (by decide) (by decide) ?_
      exact k_
    · rw [hzz0.trans (if_neg hc)] at k_
      refine XS.icmpYes X0.here hx rfl (pc0 := 13) (pc' := 23) rfl (hb hby d_method_3_13) rfl (flt hc).2.1 (by decide) (by decide) ?_
      show Steps _ _ _ (s₁.setTop (mkF m 23 #[.val (.ref b1), .val (.ref b2), .val (.int (1 : Int32)), .val (.int (3 : Int32)), .val (.int (Int32.ofNat ss)), .val (.int (Int32.ofNat nn)), .unset] [])) _
      refine XS.iload X0.here hx rfl (hb hby d_method_3_23) rfl ?_
      refine XS.iloadN X0.here hx rfl (hb hby d_method_3_25) rfl ?_
      refine XS.iadd X0.here hx rfl (hb hby d_method_3_26) rfl ?_
      refine XS.iload X0.here hx rfl (hb hby d_method_3_27) rfl ?_
      show Steps _ _ _ (s₁.setTop (mkF m 29 #[.val (.ref b1), .val (.ref b2), .val (.int (1 : Int32)), .val (.int (3 : Int32)), .val (.int (Int32.ofNat ss)), .val (.int (Int32.ofNat nn)), .unset] [(.int (Int32.ofNat nn)), (.int ((Int32.ofNat ss) + (1 : Int32)))])) _
      refine XS.isub X0.here hx rfl (hb hby d_method_3_29) rfl ?_
      exact k_
  refine GoOn.st (dm1 _ rfl) ?_
  show GoOn _ _ _ _ (s₁.setTop (mkF m 30 #[.val (.ref b1), .val (.ref b2), .val (.int (1 : Int32)), .val (.int (3 : Int32)), .val (.int (Int32.ofNat ss)), .val (.int (Int32.ofNat nn)), .unset] [(.int (if ((Int32.ofNat ss) + (1 : Int32)) < (Int32.ofNat nn) then ((Int32.ofNat ss) + (1 : Int32)) else (((Int32.ofNat ss) + (1 : Int32)) - (Int32.ofNat nn))))]))
  refine GoOn.st (fun t_ k_ => XS.istore X0.here hx rfl (hb hby d_method_3_30) rfl (l' := #[.val (.ref b1), .val (.ref b2), .val (.int (1 : Int32)), .val (.int (3 : Int32)), .val (.int (Int32.ofNat ss)), .val (.int (Int32.ofNat nn)), .val (.int (if ((Int32.ofNat ss) + (1 : Int32)) < (Int32.ofNat nn) then ((Int32.ofNat ss) + (1 : Int32)) else (((Int32.ofNat ss) + (1 : Int32)) - (Int32.ofNat nn))))]) rfl k_) ?_
  refine GoOn.st (fun t_ k_ => XS.aloadN X0.here hx rfl (hb hby d_method_3_32) rfl rfl k_) ?_
  refine GoOn.st (fun t_ k_ => XS.iloadN X0.here hx rfl (hb hby d_method_3_33) rfl k_) ?_
  refine GoOn.st (fun t_ k_ => own_iaload X0 hx hZ e0 Vb1 (j := (1 : Int32)) (by decide) (v := (.int ((Int32.ofNat ss + (1 : Int32)) % Int32.ofNat nn))) rfl (hb hby d_method_3_34) _ k_) ?_
  show GoOn _ _ _ _ (s₁.setTop (mkF m 35 #[.val (.ref b1), .val (.ref b2), .val (.int (1 : Int32)), .val (.int (3 : Int32)), .val (.int (Int32.ofNat ss)), .val (.int (Int32.ofNat nn)), .val (.int (if ((Int32.ofNat ss) + (1 : Int32)) < (Int32.ofNat nn) then ((Int32.ofNat ss) + (1 : Int32)) else (((Int32.ofNat ss) + (1 : Int32)) - (Int32.ofNat nn))))] [(.int ((Int32.ofNat ss + (1 : Int32)) % Int32.ofNat nn))]))
  refine GoOn.st (fun t_ k_ => XS.iload X0.here hx rfl (hb hby d_method_3_35) rfl k_) ?_
  refine GoOn.st (fun t_ k_ => XS.icmpNo X0.here hx rfl (hb hby d_method_3_37) rfl (teq hj).2 k_) ?_
  refine GoOn.st (fun t_ k_ => XS.aloadN X0.here hx rfl (hb hby d_method_3_40) rfl rfl k_) ?_
  refine GoOn.st (fun t_ k_ => XS.iloadN X0.here hx rfl (hb hby d_method_3_41) rfl k_) ?_
  show GoOn _ _ _ _ (s₁.setTop (mkF m 42 #[.val (.ref b1), .val (.ref b2), .val (.int (1 : Int32)), .val (.int (3 : Int32)), .val (.int (Int32.ofNat ss)), .val (.int (Int32.ofNat nn)), .val (.int (if ((Int32.ofNat ss) + (1 : Int32)) < (Int32.ofNat nn) then ((Int32.ofNat ss) + (1 : Int32)) else (((Int32.ofNat ss) + (1 : Int32)) - (Int32.ofNat nn))))] [(.int (1 : Int32)), (.ref b2)]))
  refine GoOn.st (fun t_ k_ => own_iaload X0 hx hZ e0 Vb2 (j := (1 : Int32)) (by decide) (v := (.int ((Int32.ofNat ss + (1 : Int32)) % Int32.ofNat nn))) rfl (hb hby d_method_3_42) _ k_) ?_
  refine GoOn.st (fun t_ k_ => XS.iload X0.here hx rfl (hb hby d_method_3_43) rfl k_) ?_
  refine GoOn.st (fun t_ k_ => XS.icmpNo X0.here hx rfl (hb hby d_method_3_45) rfl (teq hj).2 k_) ?_
  refine GoOn.st (fun t_ k_ => XS.iconst X0.here hx rfl (hb hby d_method_3_48)  k_) ?_
  show GoOn _ _ _ _ (s₁.setTop (mkF m 49 #[.val (.ref b1), .val (.ref b2), .val (.int (1 : Int32)), .val (.int (3 : Int32)), .val (.int (Int32.ofNat ss)), .val (.int (Int32.ofNat nn)), .val (.int (if ((Int32.ofNat ss) + (1 : Int32)) < (Int32.ofNat nn) then ((Int32.ofNat ss) + (1 : Int32)) else (((Int32.ofNat ss) + (1 : Int32)) - (Int32.ofNat nn))))] [(.int (1 : Int32))]))
  refine GoOn.st (fun t_ k_ => XS.goto X0.here hx rfl (pc0 := 49) (pc' := 53) rfl (hb hby d_method_3_49) (by decide) (by decide) k_) ?_
  show GoOn _ _ _ _ (s₁.setTop (mkF m 53 #[.val (.ref b1), .val (.ref b2), .val (.int (1 : Int32)), .val (.int (3 : Int32)), .val (.int (Int32.ofNat ss)), .val (.int (Int32.ofNat nn)), .val (.int (if ((Int32.ofNat ss) + (1 : Int32)) < (Int32.ofNat nn) then ((Int32.ofNat ss) + (1 : Int32)) else (((Int32.ofNat ss) + (1 : Int32)) - (Int32.ofNat nn))))] [(.int (1 : Int32))]))
  exact GoOn.retZ X0 hx hlk hret (by simp) rfl (hb hby d_method_3_53) (by rw [e0]; exact ⟨rfl, rfl, rfl⟩) (by decide) (by decide)
theorem ef_ent32 (m : MethodId) (x0 : Addr) (x1 : Addr) (x2 : Int32) (x3 : Int32) (x4 : Int32) (x5 : Int32) : entryFrame m #[(.ref x0), (.ref x1), (.int x2), (.int x3), (.int x4), (.int x5)] 7 = mkF m 0 #[.val (.ref x0), .val (.ref x1), .val (.int x2), .val (.int x3), .val (.int x4), .val (.int x5), .unset] [] := by first | (simp [entryFrame, mkF, argsToLocals, Value.category]; done) | rfl
set_option maxRecDepth 65536 in
set_option maxHeartbeats 40000000 in
theorem rm_ent32 (l : Launch) (Z : State) (a0 : Array Value) (hw : ∀ d ∈ tables_1, d.before a0 Z = true) (b1 b2 : Addr) (kb1 kb2 : ClassId) (nn ss : Nat) (h0 : Heap) (Vb1 : Arv Z h0 b1 kb1 .int (4 : Int32) [(.int ((Int32.ofNat ss + (0 : Int32)) % Int32.ofNat nn)), (.int ((Int32.ofNat ss + (1 : Int32)) % Int32.ofNat nn)), (.int ((Int32.ofNat ss + (2 : Int32)) % Int32.ofNat nn)), (.int ((Int32.ofNat ss + (3 : Int32)) % Int32.ofNat nn))] (.int 0)) (Vb2 : Arv Z h0 b2 kb2 .int (4 : Int32) [(.int ((Int32.ofNat ss + (0 : Int32)) % Int32.ofNat nn)), (.int ((Int32.ofNat ss + (1 : Int32)) % Int32.ofNat nn)), (.int ((Int32.ofNat ss + (2 : Int32)) % Int32.ofNat nn)), (.int ((Int32.ofNat ss + (3 : Int32)) % Int32.ofNat nn))] (.int 0)) (hj : ((Int32.ofNat ss + (2 : Int32)) % Int32.ofNat nn) = (if Int32.ofNat ss + (2 : Int32) < Int32.ofNat nn then Int32.ofNat ss + (2 : Int32) else Int32.ofNat ss + (2 : Int32) - Int32.ofNat nn)) :
    OwCon l Z (⟨"com/example/frontwise/frontwise/problem/MnkDependenciesPinLaw", "entry", "([I[IIIII)Z"⟩ : MethodName) method_3_code 7 (some .boolean) [] ({ frames := 0, cells := 0, slots := 0, locals := 0 } : Room) #[(.ref b1), (.ref b2), (.int (2 : Int32)), (.int (3 : Int32)), (.int (Int32.ofNat ss)), (.int (Int32.ofNat nn))] h0 (OwRet (some (.int 1)) h0) := by
  refine OwCon.of (plainFor_of_name pn_com_example_frontwise_frontwise_problem_MnkDependenciesPinLaw) ?_
  intro p e s m below meth cd_ s₁ X0 hx hby hml hret hlk hown hnm hZ e0
  refine GoOn.st (fun t_ k_ => castTop (ef_ent32 m b1 b2 (2 : Int32) (3 : Int32) (Int32.ofNat ss) (Int32.ofNat nn)) k_) ?_
  show GoOn _ _ _ _ (s₁.setTop (mkF m 0 #[.val (.ref b1), .val (.ref b2), .val (.int (2 : Int32)), .val (.int (3 : Int32)), .val (.int (Int32.ofNat ss)), .val (.int (Int32.ofNat nn)), .unset] []))
  refine GoOn.st (fun t_ k_ => XS.iloadN X0.here hx rfl (hb hby d_method_3_0) rfl k_) ?_
  refine GoOn.st (fun t_ k_ => XS.iloadN X0.here hx rfl (hb hby d_method_3_1) rfl k_) ?_
  refine GoOn.st (fun t_ k_ => XS.icmpYes X0.here hx rfl (pc0 := 2) (pc' := 7) rfl (hb hby d_method_3_2) rfl (flt (by decide : ¬ ((3 : Int32) < (2 : Int32)))).2.2.2 (by decide) (by decide) k_) ?_
  refine GoOn.st (fun t_ k_ => XS.iload X0.here hx rfl (hb hby d_method_3_7) rfl k_) ?_
  show GoOn _ _ _ _ (s₁.setTop (mkF m 9 #[.val (.ref b1), .val (.ref b2), .val (.int (2 : Int32)), .val (.int (3 : Int32)), .val (.int (Int32.ofNat ss)), .val (.int (Int32.ofNat nn)), .unset] [(.int (Int32.ofNat ss))]))
  refine GoOn.st (fun t_ k_ => XS.iloadN X0.here hx rfl (hb hby d_method_3_9) rfl k_) ?_
  refine GoOn.st (fun t_ k_ => XS.iadd X0.here hx rfl (hb hby d_method_3_10) rfl k_) ?_
  refine GoOn.st (fun t_ k_ => XS.iload X0.here hx rfl (hb hby d_method_3_11) rfl k_) ?_
  have dm1 : ∀ zz0 : Int32, zz0 = (if ((Int32.ofNat ss) + (2 : Int32)) < (Int32.ofNat nn) then ((Int32.ofNat ss) + (2 : Int32)) else (((Int32.ofNat ss) + (2 : Int32)) - (Int32.ofNat nn))) → ∀ t_, Steps p.tables e below (s₁.setTop (mkF m 30 #[.val (.ref b1), .val (.ref b2), .val (.int (2 : Int32)), .val (.int (3 : Int32)), .val (.int (Int32.ofNat ss)), .val (.int (Int32.ofNat nn)), .unset] [(.int zz0)])) t_ → Steps p.tables e below (s₁.setTop (mkF m 13 #[.val (.ref b1), .val (.ref b2), .val (.int (2 : Int32)), .val (.int (3 : Int32)), .val (.int (Int32.ofNat ss)), .val (.int (Int32.ofNat nn)), .unset] [(.int (Int32.ofNat nn)), (.int ((Int32.ofNat ss) + (2 : Int32)))])) t_ := by
    intro zz0 hzz0 t_ k_; by_cases hc : ((Int32.ofNat ss) + (2 : Int32)) < (Int32.ofNat nn)
    · rw [hzz0.trans (if_pos hc)] at k_
      refine XS.icmpNo X0.here hx rfl (hb hby d_method_3_13) rfl (tlt hc).2.1 ?_
      show Steps _ _ _ (s₁.setTop (mkF m 16 #[.val (.ref b1), .val (.ref b2), .val (.int (2 : Int32)), .val (.int (3 : Int32)), .val (.int (Int32.ofNat ss)), .val (.int (Int32.ofNat nn)), .unset] [])) _
      refine XS.iload X0.here hx rfl (hb hby d_method_3_16) rfl ?_
      refine XS.iloadN X0.here hx rfl (hb hby d_method_3_18) rfl ?_
      refine XS.iadd X0.here hx rfl (hb hby d_method_3_19) rfl ?_
      refine XS.goto X0.here hx rfl (pc0 := 20) (pc' := 30) rfl (hb hby d_method_3_20) (by decide) (by decide) ?_
      exact k_
    · rw [hzz0.trans (if_neg hc)] at k_
      refine XS.icmpYes X0.here hx rfl (pc0 := 13) (pc' := 23) rfl (hb hby d_method_3_13) rfl (flt hc).2.1 (by decide) (by decide) ?_
      show Steps _ _ _ (s₁.setTop (mkF m 23 #[.val (.ref b1), .val (.ref b2), .val (.int (2 : Int32)), .val (.int (3 : Int32)), .val (.int (Int32.ofNat ss)), .val (.int (Int32.ofNat nn)), .unset] [])) _
      refine XS.iload X0.here hx rfl (hb hby d_method_3_23) rfl ?_
      refine XS.iloadN X0.here hx rfl (hb hby d_method_3_25) rfl ?_
      refine XS.iadd X0.here hx rfl (hb hby d_method_3_26) rfl ?_
      refine XS.iload X0.here hx rfl (hb hby d_method_3_27) rfl ?_
      show Steps _ _ _ (s₁.setTop (mkF m 29 #[.val (.ref b1), .val (.ref b2), .val (.int (2 : Int32)), .val (.int (3 : Int32)), .val (.int (Int32.ofNat ss)), .val (.int (Int32.ofNat nn)), .unset] [(.int (Int32.ofNat nn)), (.int ((Int32.ofNat ss) + (2 : Int32)))])) _
      refine XS.isub X0.here hx rfl (hb hby d_method_3_29) rfl ?_
      exact k_
  refine GoOn.st (dm1 _ rfl) ?_
  show GoOn _ _ _ _ (s₁.setTop (mkF m 30 #[.val (.ref b1), .val (.ref b2), .val (.int (2 : Int32)), .val (.int (3 : Int32)), .val (.int (Int32.ofNat ss)), .val (.int (Int32.ofNat nn)), .unset] [(.int (if ((Int32.ofNat ss) + (2 : Int32)) < (Int32.ofNat nn) then ((Int32.ofNat ss) + (2 : Int32)) else (((Int32.ofNat ss) + (2 : Int32)) - (Int32.ofNat nn))))]))
  refine GoOn.st (fun t_ k_ => XS.istore X0.here hx rfl (hb hby d_method_3_30) rfl (l' := #[.val (.ref b1), .val (.ref b2), .val (.int (2 : Int32)), .val (.int (3 : Int32)), .val (.int (Int32.ofNat ss)), .val (.int (Int32.ofNat nn)), .val (.int (if ((Int32.ofNat ss) + (2 : Int32)) < (Int32.ofNat nn) then ((Int32.ofNat ss) + (2 : Int32)) else (((Int32.ofNat ss) + (2 : Int32)) - (Int32.ofNat nn))))]) rfl k_) ?_
  refine GoOn.st (fun t_ k_ => XS.aloadN X0.here hx rfl (hb hby d_method_3_32) rfl rfl k_) ?_
  refine GoOn.st (fun t_ k_ => XS.iloadN X0.here hx rfl (hb hby d_method_3_33) rfl k_) ?_
  refine GoOn.st (fun t_ k_ => own_iaload X0 hx hZ e0 Vb1 (j := (2 : Int32)) (by decide) (v := (.int ((Int32.ofNat ss + (2 : Int32)) % Int32.ofNat nn))) rfl (hb hby d_method_3_34) _ k_) ?_
  show GoOn _ _ _ _ (s₁.setTop (mkF m 35 #[.val (.ref b1), .val (.ref b2), .val (.int (2 : Int32)), .val (.int (3 : Int32)), .val (.int (Int32.ofNat ss)), .val (.int (Int32.ofNat nn)), .val (.int (if ((Int32.ofNat ss) + (2 : Int32)) < (Int32.ofNat nn) then ((Int32.ofNat ss) + (2 : Int32)) else (((Int32.ofNat ss) + (2 : Int32)) - (Int32.ofNat nn))))] [(.int ((Int32.ofNat ss + (2 : Int32)) % Int32.ofNat nn))]))
  refine GoOn.st (fun t_ k_ => XS.iload X0.here hx rfl (hb hby d_method_3_35) rfl k_) ?_
  refine GoOn.st (fun t_ k_ => XS.icmpNo X0.here hx rfl (hb hby d_method_3_37) rfl (teq hj).2 k_) ?_
  refine GoOn.st (fun t_ k_ => XS.aloadN X0.here hx rfl (hb hby d_method_3_40) rfl rfl k_) ?_
  refine GoOn.st (fun t_ k_ => XS.iloadN X0.here hx rfl (hb hby d_method_3_41) rfl k_) ?_
  show GoOn _ _ _ _ (s₁.setTop (mkF m 42 #[.val (.ref b1), .val (.ref b2), .val (.int (2 : Int32)), .val (.int (3 : Int32)), .val (.int (Int32.ofNat ss)), .val (.int (Int32.ofNat nn)), .val (.int (if ((Int32.ofNat ss) + (2 : Int32)) < (Int32.ofNat nn) then ((Int32.ofNat ss) + (2 : Int32)) else (((Int32.ofNat ss) + (2 : Int32)) - (Int32.ofNat nn))))] [(.int (2 : Int32)), (.ref b2)]))
  refine GoOn.st (fun t_ k_ => own_iaload X0 hx hZ e0 Vb2 (j := (2 : Int32)) (by decide) (v := (.int ((Int32.ofNat ss + (2 : Int32)) % Int32.ofNat nn))) rfl (hb hby d_method_3_42) _ k_) ?_
  refine GoOn.st (fun t_ k_ => XS.iload X0.here hx rfl (hb hby d_method_3_43) rfl k_) ?_
  refine GoOn.st (fun t_ k_ => XS.icmpNo X0.here hx rfl (hb hby d_method_3_45) rfl (teq hj).2 k_) ?_
  refine GoOn.st (fun t_ k_ => XS.iconst X0.here hx rfl (hb hby d_method_3_48)  k_) ?_
  show GoOn _ _ _ _ (s₁.setTop (mkF m 49 #[.val (.ref b1), .val (.ref b2), .val (.int (2 : Int32)), .val (.int (3 : Int32)), .val (.int (Int32.ofNat ss)), .val (.int (Int32.ofNat nn)), .val (.int (if ((Int32.ofNat ss) + (2 : Int32)) < (Int32.ofNat nn) then ((Int32.ofNat ss) + (2 : Int32)) else (((Int32.ofNat ss) + (2 : Int32)) - (Int32.ofNat nn))))] [(.int (1 : Int32))]))
  refine GoOn.st (fun t_ k_ => XS.goto X0.here hx rfl (pc0 := 49) (pc' := 53) rfl (hb hby d_method_3_49) (by decide) (by decide) k_) ?_
  show GoOn _ _ _ _ (s₁.setTop (mkF m 53 #[.val (.ref b1), .val (.ref b2), .val (.int (2 : Int32)), .val (.int (3 : Int32)), .val (.int (Int32.ofNat ss)), .val (.int (Int32.ofNat nn)), .val (.int (if ((Int32.ofNat ss) + (2 : Int32)) < (Int32.ofNat nn) then ((Int32.ofNat ss) + (2 : Int32)) else (((Int32.ofNat ss) + (2 : Int32)) - (Int32.ofNat nn))))] [(.int (1 : Int32))]))
  exact GoOn.retZ X0 hx hlk hret (by simp) rfl (hb hby d_method_3_53) (by rw [e0]; exact ⟨rfl, rfl, rfl⟩) (by decide) (by decide)
theorem ef_ent33 (m : MethodId) (x0 : Addr) (x1 : Addr) (x2 : Int32) (x3 : Int32) (x4 : Int32) (x5 : Int32) : entryFrame m #[(.ref x0), (.ref x1), (.int x2), (.int x3), (.int x4), (.int x5)] 7 = mkF m 0 #[.val (.ref x0), .val (.ref x1), .val (.int x2), .val (.int x3), .val (.int x4), .val (.int x5), .unset] [] := by first | (simp [entryFrame, mkF, argsToLocals, Value.category]; done) | rfl
set_option maxRecDepth 65536 in
set_option maxHeartbeats 40000000 in
theorem rm_ent33 (l : Launch) (Z : State) (a0 : Array Value) (hw : ∀ d ∈ tables_1, d.before a0 Z = true) (b1 b2 : Addr) (kb1 kb2 : ClassId) (nn ss : Nat) (h0 : Heap) (Vb1 : Arv Z h0 b1 kb1 .int (4 : Int32) [(.int ((Int32.ofNat ss + (0 : Int32)) % Int32.ofNat nn)), (.int ((Int32.ofNat ss + (1 : Int32)) % Int32.ofNat nn)), (.int ((Int32.ofNat ss + (2 : Int32)) % Int32.ofNat nn)), (.int ((Int32.ofNat ss + (3 : Int32)) % Int32.ofNat nn))] (.int 0)) (Vb2 : Arv Z h0 b2 kb2 .int (4 : Int32) [(.int ((Int32.ofNat ss + (0 : Int32)) % Int32.ofNat nn)), (.int ((Int32.ofNat ss + (1 : Int32)) % Int32.ofNat nn)), (.int ((Int32.ofNat ss + (2 : Int32)) % Int32.ofNat nn)), (.int ((Int32.ofNat ss + (3 : Int32)) % Int32.ofNat nn))] (.int 0)) (hj : ((Int32.ofNat ss + (3 : Int32)) % Int32.ofNat nn) = (if Int32.ofNat ss + (3 : Int32) < Int32.ofNat nn then Int32.ofNat ss + (3 : Int32) else Int32.ofNat ss + (3 : Int32) - Int32.ofNat nn)) :
    OwCon l Z (⟨"com/example/frontwise/frontwise/problem/MnkDependenciesPinLaw", "entry", "([I[IIIII)Z"⟩ : MethodName) method_3_code 7 (some .boolean) [] ({ frames := 0, cells := 0, slots := 0, locals := 0 } : Room) #[(.ref b1), (.ref b2), (.int (3 : Int32)), (.int (3 : Int32)), (.int (Int32.ofNat ss)), (.int (Int32.ofNat nn))] h0 (OwRet (some (.int 1)) h0) := by
  refine OwCon.of (plainFor_of_name pn_com_example_frontwise_frontwise_problem_MnkDependenciesPinLaw) ?_
  intro p e s m below meth cd_ s₁ X0 hx hby hml hret hlk hown hnm hZ e0
  refine GoOn.st (fun t_ k_ => castTop (ef_ent33 m b1 b2 (3 : Int32) (3 : Int32) (Int32.ofNat ss) (Int32.ofNat nn)) k_) ?_
  show GoOn _ _ _ _ (s₁.setTop (mkF m 0 #[.val (.ref b1), .val (.ref b2), .val (.int (3 : Int32)), .val (.int (3 : Int32)), .val (.int (Int32.ofNat ss)), .val (.int (Int32.ofNat nn)), .unset] []))
  refine GoOn.st (fun t_ k_ => XS.iloadN X0.here hx rfl (hb hby d_method_3_0) rfl k_) ?_
  refine GoOn.st (fun t_ k_ => XS.iloadN X0.here hx rfl (hb hby d_method_3_1) rfl k_) ?_
  refine GoOn.st (fun t_ k_ => XS.icmpYes X0.here hx rfl (pc0 := 2) (pc' := 7) rfl (hb hby d_method_3_2) rfl (flt (by decide : ¬ ((3 : Int32) < (3 : Int32)))).2.2.2 (by decide) (by decide) k_) ?_
  refine GoOn.st (fun t_ k_ => XS.iload X0.here hx rfl (hb hby d_method_3_7) rfl k_) ?_
  show GoOn _ _ _ _ (s₁.setTop (mkF m 9 #[.val (.ref b1), .val (.ref b2), .val (.int (3 : Int32)), .val (.int (3 : Int32)), .val (.int (Int32.ofNat ss)), .val (.int (Int32.ofNat nn)), .unset] [(.int (Int32.ofNat ss))]))
  refine GoOn.st (fun t_ k_ => XS.iloadN X0.here hx rfl (hb hby d_method_3_9) rfl k_) ?_
  refine GoOn.st (fun t_ k_ => XS.iadd X0.here hx rfl (hb hby d_method_3_10) rfl k_) ?_
  refine GoOn.st (fun t_ k_ => XS.iload X0.here hx rfl (hb hby d_method_3_11) rfl k_) ?_
  have dm1 : ∀ zz0 : Int32, zz0 = (if ((Int32.ofNat ss) + (3 : Int32)) < (Int32.ofNat nn) then ((Int32.ofNat ss) + (3 : Int32)) else (((Int32.ofNat ss) + (3 : Int32)) - (Int32.ofNat nn))) → ∀ t_, Steps p.tables e below (s₁.setTop (mkF m 30 #[.val (.ref b1), .val (.ref b2), .val (.int (3 : Int32)), .val (.int (3 : Int32)), .val (.int (Int32.ofNat ss)), .val (.int (Int32.ofNat nn)), .unset] [(.int zz0)])) t_ → Steps p.tables e below (s₁.setTop (mkF m 13 #[.val (.ref b1), .val (.ref b2), .val (.int (3 : Int32)), .val (.int (3 : Int32)), .val (.int (Int32.ofNat ss)), .val (.int (Int32.ofNat nn)), .unset] [(.int (Int32.ofNat nn)), (.int ((Int32.ofNat ss) + (3 : Int32)))])) t_ := by
    intro zz0 hzz0 t_ k_; by_cases hc : ((Int32.ofNat ss) + (3 : Int32)) < (Int32.ofNat nn)
    · rw [hzz0.trans (if_pos hc)] at k_
      refine XS.icmpNo X0.here hx rfl (hb hby d_method_3_13) rfl (tlt hc).2.1 ?_
      show Steps _ _ _ (s₁.setTop (mkF m 16 #[.val (.ref b1), .val (.ref b2), .val (.int (3 : Int32)), .val (.int (3 : Int32)), .val (.int (Int32.ofNat ss)), .val (.int (Int32.ofNat nn)), .unset] [])) _
      refine XS.iload X0.here hx rfl (hb hby d_method_3_16) rfl ?_
      refine XS.iloadN X0.here hx rfl (hb hby d_method_3_18) rfl ?_
      refine XS.iadd X0.here hx rfl (hb hby d_method_3_19) rfl ?_
      refine XS.goto X0.here hx rfl (pc0 := 20) (pc' := 30) rfl (hb hby d_method_3_20) (by decide) (by decide) ?_
      exact k_
    · rw [hzz0.trans (if_neg hc)] at k_
      refine XS.icmpYes X0.here hx rfl (pc0 := 13) (pc' := 23) rfl (hb hby d_method_3_13) rfl (flt hc).2.1 (by decide) (by decide) ?_
      show Steps _ _ _ (s₁.setTop (mkF m 23 #[.val (.ref b1), .val (.ref b2), .val (.int (3 : Int32)), .val (.int (3 : Int32)), .val (.int (Int32.ofNat ss)), .val (.int (Int32.ofNat nn)), .unset] [])) _
      refine XS.iload X0.here hx rfl (hb hby d_method_3_23) rfl ?_
      refine XS.iloadN X0.here hx rfl (hb hby d_method_3_25) rfl ?_
      refine XS.iadd X0.here hx rfl (hb hby d_method_3_26) rfl ?_
      refine XS.iload X0.here hx rfl (hb hby d_method_3_27) rfl ?_
      show Steps _ _ _ (s₁.setTop (mkF m 29 #[.val (.ref b1), .val (.ref b2), .val (.int (3 : Int32)), .val (.int (3 : Int32)), .val (.int (Int32.ofNat ss)), .val (.int (Int32.ofNat nn)), .unset] [(.int (Int32.ofNat nn)), (.int ((Int32.ofNat ss) + (3 : Int32)))])) _
      refine XS.isub X0.here hx rfl (hb hby d_method_3_29) rfl ?_
      exact k_
  refine GoOn.st (dm1 _ rfl) ?_
  show GoOn _ _ _ _ (s₁.setTop (mkF m 30 #[.val (.ref b1), .val (.ref b2), .val (.int (3 : Int32)), .val (.int (3 : Int32)), .val (.int (Int32.ofNat ss)), .val (.int (Int32.ofNat nn)), .unset] [(.int (if ((Int32.ofNat ss) + (3 : Int32)) < (Int32.ofNat nn) then ((Int32.ofNat ss) + (3 : Int32)) else (((Int32.ofNat ss) + (3 : Int32)) - (Int32.ofNat nn))))]))
  refine GoOn.st (fun t_ k_ => XS.istore X0.here hx rfl (hb hby d_method_3_30) rfl (l' := #[.val (.ref b1), .val (.ref b2), .val (.int (3 : Int32)), .val (.int (3 : Int32)), .val (.int (Int32.ofNat ss)), .val (.int (Int32.ofNat nn)), .val (.int (if ((Int32.ofNat ss) + (3 : Int32)) < (Int32.ofNat nn) then ((Int32.ofNat ss) + (3 : Int32)) else (((Int32.ofNat ss) + (3 : Int32)) - (Int32.ofNat nn))))]) rfl k_) ?_
  refine GoOn.st (fun t_ k_ => XS.aloadN X0.here hx rfl (hb hby d_method_3_32) rfl rfl k_) ?_
  refine GoOn.st (fun t_ k_ => XS.iloadN X0.here hx rfl (hb hby d_method_3_33) rfl k_) ?_
  refine GoOn.st (fun t_ k_ => own_iaload X0 hx hZ e0 Vb1 (j := (3 : Int32)) (by decide) (v := (.int ((Int32.ofNat ss + (3 : Int32)) % Int32.ofNat nn))) rfl (hb hby d_method_3_34) _ k_) ?_
  show GoOn _ _ _ _ (s₁.setTop (mkF m 35 #[.val (.ref b1), .val (.ref b2), .val (.int (3 : Int32)), .val (.int (3 : Int32)), .val (.int (Int32.ofNat ss)), .val (.int (Int32.ofNat nn)), .val (.int (if ((Int32.ofNat ss) + (3 : Int32)) < (Int32.ofNat nn) then ((Int32.ofNat ss) + (3 : Int32)) else (((Int32.ofNat ss) + (3 : Int32)) - (Int32.ofNat nn))))] [(.int ((Int32.ofNat ss + (3 : Int32)) % Int32.ofNat nn))]))
  refine GoOn.st (fun t_ k_ => XS.iload X0.here hx rfl (hb hby d_method_3_35) rfl k_) ?_
  refine GoOn.st (fun t_ k_ => XS.icmpNo X0.here hx rfl (hb hby d_method_3_37) rfl (teq hj).2 k_) ?_
  refine GoOn.st (fun t_ k_ => XS.aloadN X0.here hx rfl (hb hby d_method_3_40) rfl rfl k_) ?_
  refine GoOn.st (fun t_ k_ => XS.iloadN X0.here hx rfl (hb hby d_method_3_41) rfl k_) ?_
  show GoOn _ _ _ _ (s₁.setTop (mkF m 42 #[.val (.ref b1), .val (.ref b2), .val (.int (3 : Int32)), .val (.int (3 : Int32)), .val (.int (Int32.ofNat ss)), .val (.int (Int32.ofNat nn)), .val (.int (if ((Int32.ofNat ss) + (3 : Int32)) < (Int32.ofNat nn) then ((Int32.ofNat ss) + (3 : Int32)) else (((Int32.ofNat ss) + (3 : Int32)) - (Int32.ofNat nn))))] [(.int (3 : Int32)), (.ref b2)]))
  refine GoOn.st (fun t_ k_ => own_iaload X0 hx hZ e0 Vb2 (j := (3 : Int32)) (by decide) (v := (.int ((Int32.ofNat ss + (3 : Int32)) % Int32.ofNat nn))) rfl (hb hby d_method_3_42) _ k_) ?_
  refine GoOn.st (fun t_ k_ => XS.iload X0.here hx rfl (hb hby d_method_3_43) rfl k_) ?_
  refine GoOn.st (fun t_ k_ => XS.icmpNo X0.here hx rfl (hb hby d_method_3_45) rfl (teq hj).2 k_) ?_
  refine GoOn.st (fun t_ k_ => XS.iconst X0.here hx rfl (hb hby d_method_3_48)  k_) ?_
  show GoOn _ _ _ _ (s₁.setTop (mkF m 49 #[.val (.ref b1), .val (.ref b2), .val (.int (3 : Int32)), .val (.int (3 : Int32)), .val (.int (Int32.ofNat ss)), .val (.int (Int32.ofNat nn)), .val (.int (if ((Int32.ofNat ss) + (3 : Int32)) < (Int32.ofNat nn) then ((Int32.ofNat ss) + (3 : Int32)) else (((Int32.ofNat ss) + (3 : Int32)) - (Int32.ofNat nn))))] [(.int (1 : Int32))]))
  refine GoOn.st (fun t_ k_ => XS.goto X0.here hx rfl (pc0 := 49) (pc' := 53) rfl (hb hby d_method_3_49) (by decide) (by decide) k_) ?_
  show GoOn _ _ _ _ (s₁.setTop (mkF m 53 #[.val (.ref b1), .val (.ref b2), .val (.int (3 : Int32)), .val (.int (3 : Int32)), .val (.int (Int32.ofNat ss)), .val (.int (Int32.ofNat nn)), .val (.int (if ((Int32.ofNat ss) + (3 : Int32)) < (Int32.ofNat nn) then ((Int32.ofNat ss) + (3 : Int32)) else (((Int32.ofNat ss) + (3 : Int32)) - (Int32.ofNat nn))))] [(.int (1 : Int32))]))
  exact GoOn.retZ X0 hx hlk hret (by simp) rfl (hb hby d_method_3_53) (by rw [e0]; exact ⟨rfl, rfl, rfl⟩) (by decide) (by decide)
theorem ef_law (m : MethodId) (x0 : Int32) (x1 : Int32) (x2 : Int32) (x3 : Int64) : entryFrame m #[(.int x0), (.int x1), (.int x2), (.long x3)] maxLocals = mkF m 0 #[.val (.int x0), .val (.int x1), .val (.int x2), .val (.long x3), .second, .unset, .unset, .unset, .unset, .unset, .unset, .unset, .unset, .unset] [] := by first | (simp [entryFrame, mkF, argsToLocals, Value.category, maxLocals]; done) | rfl
theorem pd_6 : parseMethodDescriptor "(IIIIJ)V" = some ⟨[.int, .int, .int, .int, .long], none⟩ := by decide +kernel
theorem pd_7 : parseMethodDescriptor "(II)[I" = some ⟨[.int, .int], some (.array .int)⟩ := by decide +kernel
theorem pd_8 : parseMethodDescriptor "([I[IIIII)Z" = some ⟨[(.array .int), (.array .int), .int, .int, .int, .int], some .boolean⟩ := by decide +kernel
set_option maxRecDepth 65536 in
set_option maxHeartbeats 40000000 in
theorem rm_law (l : Launch) (Z : State) (a0 : Array Value) (hw : ∀ d ∈ tables_1, d.before a0 Z = true) (ws : List Jvm.Cond) (p1 p2 p3 : Int32) (q1 : Int64) (h0 : Heap) (n0 : Nat) (Z0 : n0 ≤ h0.size) :
    OwCon l Z x code maxLocals ret ws room_1 #[(.int p1), (.int p2), (.int p3), (.long q1)] h0 (fun v h L => v = some (.int 1) ∧ Fr n0 L) := by
  refine OwCon.of (plainFor_of_name pn_com_example_frontwise_frontwise_problem_MnkDependenciesPinLaw) ?_
  intro p e s m below meth cd_ s₁ X0 hx hby hml hret hlk hown hnm hZ e0
  have N0 := Fr.nil n0
  refine GoOn.st (fun t_ k_ => castTop (ef_law m p1 p2 p3 q1) k_) ?_
  show GoOn _ _ _ _ (s₁.setTop (mkF m 0 #[.val (.int p1), .val (.int p2), .val (.int p3), .val (.long q1), .second, .unset, .unset, .unset, .unset, .unset, .unset, .unset, .unset, .unset] []))
  refine GoOn.st (fun t_ k_ => XS.iconst X0.here hx rfl (hb hby at_0)  k_) ?_
  refine GoOn.st (fun t_ k_ => XS.iloadN X0.here hx rfl (hb hby at_1) rfl k_) ?_
  refine GoOn.st (fun t_ k_ => XS.bipush X0.here hx rfl (hb hby at_2)  k_) ?_
  refine GoOn.st (fun t_ k_ => XS.iand X0.here hx rfl (hb hby at_4) rfl k_) ?_
  show GoOn _ _ _ _ (s₁.setTop (mkF m 5 #[.val (.int p1), .val (.int p2), .val (.int p3), .val (.long q1), .second, .unset, .unset, .unset, .unset, .unset, .unset, .unset, .unset, .unset] [(.int (p1 &&& (7 : Int32))), (.int (1 : Int32))]))
  refine GoOn.st (fun t_ k_ => XS.iadd X0.here hx rfl (hb hby at_5) rfl k_) ?_
  refine GoOn.st (fun t_ k_ => XS.istore X0.here hx rfl (hb hby at_6) rfl (l' := #[.val (.int p1), .val (.int p2), .val (.int p3), .val (.long q1), .second, .val (.int ((1 : Int32) + (p1 &&& (7 : Int32)))), .unset, .unset, .unset, .unset, .unset, .unset, .unset, .unset]) rfl k_) ?_
  show GoOn _ _ _ _ (s₁.setTop (mkF m 8 #[.val (.int p1), .val (.int p2), .val (.int p3), .val (.long q1), .second, .val (.int ((1 : Int32) + (p1 &&& (7 : Int32)))), .unset, .unset, .unset, .unset, .unset, .unset, .unset, .unset] []))
  obtain ⟨n', hn', en'⟩ := own_mask p1 3 (by decide)
  rw [show p1 &&& (7 : Int32) = Int32.ofNat n' from en', show (1 : Int32) + Int32.ofNat n' = Int32.ofNat (1 + n') from (Int32.ofNat_add 1 n').symm]
  obtain ⟨nn, enn⟩ : ∃ z, z = 1 + n' := ⟨_, rfl⟩
  rw [← enn]
  show GoOn _ _ _ _ (s₁.setTop (mkF m 8 #[.val (.int p1), .val (.int p2), .val (.int p3), .val (.long q1), .second, .val (.int (Int32.ofNat nn)), .unset, .unset, .unset, .unset, .unset, .unset, .unset, .unset] []))
  refine GoOn.st (fun t_ k_ => XS.iloadN X0.here hx rfl (hb hby at_8) rfl k_) ?_
  refine GoOn.st (fun t_ k_ => XS.iconst X0.here hx rfl (hb hby at_9)  k_) ?_
  refine GoOn.st (fun t_ k_ => XS.iushr X0.here hx rfl (hb hby at_10) rfl k_) ?_
  refine GoOn.st (fun t_ k_ => XS.iconst X0.here hx rfl (hb hby at_11)  k_) ?_
  show GoOn _ _ _ _ (s₁.setTop (mkF m 12 #[.val (.int p1), .val (.int p2), .val (.int p3), .val (.long q1), .second, .val (.int (Int32.ofNat nn)), .unset, .unset, .unset, .unset, .unset, .unset, .unset, .unset] [(.int (3 : Int32)), (.int (((p1).toUInt32 >>> ((3 : Int32) &&& 31).toUInt32).toInt32))]))
  refine GoOn.st (fun t_ k_ => XS.iand X0.here hx rfl (hb hby at_12) rfl k_) ?_
  refine GoOn.st (fun t_ k_ => XS.iload X0.here hx rfl (hb hby at_13) rfl k_) ?_
  refine GoOn.st (fun t_ k_ => XS.iconst X0.here hx rfl (hb hby at_15)  k_) ?_
  refine GoOn.st (fun t_ k_ => XS.isub X0.here hx rfl (hb hby at_16) rfl k_) ?_
  show GoOn _ _ _ _ (s₁.setTop (mkF m 17 #[.val (.int p1), .val (.int p2), .val (.int p3), .val (.long q1), .second, .val (.int (Int32.ofNat nn)), .unset, .unset, .unset, .unset, .unset, .unset, .unset, .unset] [(.int ((Int32.ofNat nn) - (1 : Int32))), (.int ((((p1).toUInt32 >>> ((3 : Int32) &&& 31).toUInt32).toInt32) &&& (3 : Int32)))]))
  refine GoOn.callS (W := 0) (argsL := [(.int ((((p1).toUInt32 >>> ((3 : Int32) &&& 31).toUInt32).toInt32) &&& (3 : Int32))), (.int ((Int32.ofNat nn) - (1 : Int32)))]) (rest := []) X0 hx hZ hown (hw _ (List.mem_of_getElem? (i := 0) rfl)) (hw _ (List.mem_of_getElem? (i := 1) rfl)) (hw _ (List.mem_of_getElem? (i := 2) rfl)) (hw _ (List.mem_of_getElem? (i := 3) rfl)) (by decide) (rm_min l Z a0 hw ((((p1).toUInt32 >>> ((3 : Int32) &&& 31).toUInt32).toInt32) &&& (3 : Int32)) ((Int32.ofNat nn) - (1 : Int32)) h0) e0 (by decide) (by decide) (by rw [hml]; rfl) pd_4 rfl rfl (Nat.le_of_eq rfl) (hb hby at_17) (by decide) (by decide) ?_
  rintro _ T1 L1 X1 ⟨rfl, rfl, e1⟩
  rw [List.append_nil] at X1
  refine GoOn.st (fun t_ k_ => XS.istore X1.here hx rfl (hb hby at_20) rfl (l' := #[.val (.int p1), .val (.int p2), .val (.int p3), .val (.long q1), .second, .val (.int (Int32.ofNat nn)), .val (.int (own_min ((((p1).toUInt32 >>> ((3 : Int32) &&& 31).toUInt32).toInt32) &&& (3 : Int32)) ((Int32.ofNat nn) - (1 : Int32)))), .unset, .unset, .unset, .unset, .unset, .unset, .unset]) rfl k_) ?_
  show GoOn _ _ _ _ (T1.setTop (mkF m 22 #[.val (.int p1), .val (.int p2), .val (.int p3), .val (.long q1), .second, .val (.int (Int32.ofNat nn)), .val (.int (own_min ((((p1).toUInt32 >>> ((3 : Int32) &&& 31).toUInt32).toInt32) &&& (3 : Int32)) ((Int32.ofNat nn) - (1 : Int32)))), .unset, .unset, .unset, .unset, .unset, .unset, .unset] []))
  obtain ⟨kk, hk3, hkn, ekk⟩ := own_kmin (((p1).toUInt32 >>> ((3 : Int32) &&& 31).toUInt32).toInt32) nn (by omega) (by omega)
  rw [show (own_min ((((p1).toUInt32 >>> ((3 : Int32) &&& 31).toUInt32).toInt32) &&& (3 : Int32)) ((Int32.ofNat nn) - (1 : Int32))) = Int32.ofNat kk from ekk]
  show GoOn _ _ _ _ (T1.setTop (mkF m 22 #[.val (.int p1), .val (.int p2), .val (.int p3), .val (.long q1), .second, .val (.int (Int32.ofNat nn)), .val (.int (Int32.ofNat kk)), .unset, .unset, .unset, .unset, .unset, .unset, .unset] []))
  obtain ⟨o', ho', eo'⟩ := own_mask ((p1.toUInt32 >>> ((5 : Int32) &&& 31).toUInt32).toInt32) 1 (by decide)
  obtain ⟨oo, eoo⟩ : ∃ z, z = 2 + o' := ⟨_, rfl⟩
  obtain ⟨v', hv', ev'⟩ := own_mask ((p1.toUInt32 >>> ((6 : Int32) &&& 31).toUInt32).toInt32) 9 (by decide)
  obtain ⟨vn, evn⟩ : ∃ z, z = 1 + v' := ⟨_, rfl⟩
  have sm : Small nn kk oo := ⟨by omega, by omega, hk3, hkn, by omega, by omega⟩
  refine GoOn.st (fun t_ k_ => XS.iconst X1.here hx rfl (hb hby at_22)  k_) ?_
  refine GoOn.st (fun t_ k_ => XS.iloadN X1.here hx rfl (hb hby at_23) rfl k_) ?_
  refine GoOn.st (fun t_ k_ => XS.iconst X1.here hx rfl (hb hby at_24)  k_) ?_
  refine GoOn.st (fun t_ k_ => XS.iushr X1.here hx rfl (hb hby at_25) rfl k_) ?_
  show GoOn _ _ _ _ (T1.setTop (mkF m 26 #[.val (.int p1), .val (.int p2), .val (.int p3), .val (.long q1), .second, .val (.int (Int32.ofNat nn)), .val (.int (Int32.ofNat kk)), .unset, .unset, .unset, .unset, .unset, .unset, .unset] [(.int (((p1).toUInt32 >>> ((5 : Int32) &&& 31).toUInt32).toInt32)), (.int (2 : Int32))]))
  refine GoOn.st (fun t_ k_ => XS.iconst X1.here hx rfl (hb hby at_26)  k_) ?_
  refine GoOn.st (fun t_ k_ => XS.iand X1.here hx rfl (hb hby at_27) rfl k_) ?_
  refine GoOn.st (fun t_ k_ => XS.iadd X1.here hx rfl (hb hby at_28) rfl k_) ?_
  refine GoOn.st (fun t_ k_ => XS.istore X1.here hx rfl (hb hby at_29) rfl (l' := #[.val (.int p1), .val (.int p2), .val (.int p3), .val (.long q1), .second, .val (.int (Int32.ofNat nn)), .val (.int (Int32.ofNat kk)), .val (.int ((2 : Int32) + ((((p1).toUInt32 >>> ((5 : Int32) &&& 31).toUInt32).toInt32) &&& (1 : Int32)))), .unset, .unset, .unset, .unset, .unset, .unset]) rfl k_) ?_
  show GoOn _ _ _ _ (T1.setTop (mkF m 31 #[.val (.int p1), .val (.int p2), .val (.int p3), .val (.long q1), .second, .val (.int (Int32.ofNat nn)), .val (.int (Int32.ofNat kk)), .val (.int ((2 : Int32) + ((((p1).toUInt32 >>> ((5 : Int32) &&& 31).toUInt32).toInt32) &&& (1 : Int32)))), .unset, .unset, .unset, .unset, .unset, .unset] []))
  rw [show ((2 : Int32) + ((((p1).toUInt32 >>> ((5 : Int32) &&& 31).toUInt32).toInt32) &&& (1 : Int32))) = Int32.ofNat oo from by rw [eoo, Int32.ofNat_add, ← eo']; rfl]
  show GoOn _ _ _ _ (T1.setTop (mkF m 31 #[.val (.int p1), .val (.int p2), .val (.int p3), .val (.long q1), .second, .val (.int (Int32.ofNat nn)), .val (.int (Int32.ofNat kk)), .val (.int (Int32.ofNat oo)), .unset, .unset, .unset, .unset, .unset, .unset] []))
  refine GoOn.st (fun t_ k_ => XS.iconst X1.here hx rfl (hb hby at_31)  k_) ?_
  refine GoOn.st (fun t_ k_ => XS.iloadN X1.here hx rfl (hb hby at_32) rfl k_) ?_
  refine GoOn.st (fun t_ k_ => XS.bipush X1.here hx rfl (hb hby at_33)  k_) ?_
  refine GoOn.st (fun t_ k_ => XS.iushr X1.here hx rfl (hb hby at_35) rfl k_) ?_
  show GoOn _ _ _ _ (T1.setTop (mkF m 36 #[.val (.int p1), .val (.int p2), .val (.int p3), .val (.long q1), .second, .val (.int (Int32.ofNat nn)), .val (.int (Int32.ofNat kk)), .val (.int (Int32.ofNat oo)), .unset, .unset, .unset, .unset, .unset, .unset] [(.int (((p1).toUInt32 >>> ((6 : Int32) &&& 31).toUInt32).toInt32)), (.int (1 : Int32))]))
  refine GoOn.st (fun t_ k_ => XS.sipush X1.here hx rfl (hb hby at_36)  k_) ?_
  refine GoOn.st (fun t_ k_ => XS.iand X1.here hx rfl (hb hby at_39) rfl k_) ?_
  refine GoOn.st (fun t_ k_ => XS.iadd X1.here hx rfl (hb hby at_40) rfl k_) ?_
  refine GoOn.st (fun t_ k_ => XS.istore X1.here hx rfl (hb hby at_41) rfl (l' := #[.val (.int p1), .val (.int p2), .val (.int p3), .val (.long q1), .second, .val (.int (Int32.ofNat nn)), .val (.int (Int32.ofNat kk)), .val (.int (Int32.ofNat oo)), .val (.int ((1 : Int32) + ((((p1).toUInt32 >>> ((6 : Int32) &&& 31).toUInt32).toInt32) &&& (511 : Int32)))), .unset, .unset, .unset, .unset, .unset]) rfl k_) ?_
  show GoOn _ _ _ _ (T1.setTop (mkF m 43 #[.val (.int p1), .val (.int p2), .val (.int p3), .val (.long q1), .second, .val (.int (Int32.ofNat nn)), .val (.int (Int32.ofNat kk)), .val (.int (Int32.ofNat oo)), .val (.int ((1 : Int32) + ((((p1).toUInt32 >>> ((6 : Int32) &&& 31).toUInt32).toInt32) &&& (511 : Int32)))), .unset, .unset, .unset, .unset, .unset] []))
  rw [show ((1 : Int32) + ((((p1).toUInt32 >>> ((6 : Int32) &&& 31).toUInt32).toInt32) &&& (511 : Int32))) = Int32.ofNat vn from by rw [evn, Int32.ofNat_add, ← ev']; rfl]
  show GoOn _ _ _ _ (T1.setTop (mkF m 43 #[.val (.int p1), .val (.int p2), .val (.int p3), .val (.long q1), .second, .val (.int (Int32.ofNat nn)), .val (.int (Int32.ofNat kk)), .val (.int (Int32.ofNat oo)), .val (.int (Int32.ofNat vn)), .unset, .unset, .unset, .unset, .unset] []))
  refine GoOn.st (fun t_ k_ => XS.iloadN X1.here hx rfl (hb hby at_43) rfl k_) ?_
  refine GoOn.st (fun t_ k_ => X1.ldcInt hx hown (mvT hZ (hw _ (List.mem_of_getElem? (i := 4) rfl))) (g := (mkF m 44 #[.val (.int p1), .val (.int p2), .val (.int p3), .val (.long q1), .second, .val (.int (Int32.ofNat nn)), .val (.int (Int32.ofNat kk)), .val (.int (Int32.ofNat oo)), .val (.int (Int32.ofNat vn)), .unset, .unset, .unset, .unset, .unset] [(.int p2)])) rfl (hb hby at_44) _ k_) ?_
  refine GoOn.st (fun t_ k_ => XS.iand X1.here hx rfl (hb hby at_46) rfl k_) ?_
  refine GoOn.st (fun t_ k_ => XS.iload X1.here hx rfl (hb hby at_47) rfl k_) ?_
  show GoOn _ _ _ _ (T1.setTop (mkF m 49 #[.val (.int p1), .val (.int p2), .val (.int p3), .val (.long q1), .second, .val (.int (Int32.ofNat nn)), .val (.int (Int32.ofNat kk)), .val (.int (Int32.ofNat oo)), .val (.int (Int32.ofNat vn)), .unset, .unset, .unset, .unset, .unset] [(.int (Int32.ofNat oo)), (.int (p2 &&& (2147483647 : Int32)))]))
  refine GoOn.st (fun t_ k_ => iremM X1 hx rfl (hb hby at_49) rfl (own_nz (by omega) (by omega)) k_) ?_
  refine GoOn.st (fun t_ k_ => XS.istore X1.here hx rfl (hb hby at_50) rfl (l' := #[.val (.int p1), .val (.int p2), .val (.int p3), .val (.long q1), .second, .val (.int (Int32.ofNat nn)), .val (.int (Int32.ofNat kk)), .val (.int (Int32.ofNat oo)), .val (.int (Int32.ofNat vn)), .val (.int ((p2 &&& (2147483647 : Int32)) % (Int32.ofNat oo))), .unset, .unset, .unset, .unset]) rfl k_) ?_
  refine GoOn.st (fun t_ k_ => XS.iloadN X1.here hx rfl (hb hby at_52) rfl k_) ?_
  refine GoOn.st (fun t_ k_ => X1.ldcInt hx hown (mvT hZ (hw _ (List.mem_of_getElem? (i := 4) rfl))) (g := (mkF m 53 #[.val (.int p1), .val (.int p2), .val (.int p3), .val (.long q1), .second, .val (.int (Int32.ofNat nn)), .val (.int (Int32.ofNat kk)), .val (.int (Int32.ofNat oo)), .val (.int (Int32.ofNat vn)), .val (.int ((p2 &&& (2147483647 : Int32)) % (Int32.ofNat oo))), .unset, .unset, .unset, .unset] [(.int p3)])) rfl (hb hby at_53) _ k_) ?_
  show GoOn _ _ _ _ (T1.setTop (mkF m 55 #[.val (.int p1), .val (.int p2), .val (.int p3), .val (.long q1), .second, .val (.int (Int32.ofNat nn)), .val (.int (Int32.ofNat kk)), .val (.int (Int32.ofNat oo)), .val (.int (Int32.ofNat vn)), .val (.int ((p2 &&& (2147483647 : Int32)) % (Int32.ofNat oo))), .unset, .unset, .unset, .unset] [(.int (2147483647 : Int32)), (.int p3)]))
  refine GoOn.st (fun t_ k_ => XS.iand X1.here hx rfl (hb hby at_55) rfl k_) ?_
  refine GoOn.st (fun t_ k_ => XS.iload X1.here hx rfl (hb hby at_56) rfl k_) ?_
  refine GoOn.st (fun t_ k_ => iremM X1 hx rfl (hb hby at_58) rfl (own_nz (by omega) (by omega)) k_) ?_
  refine GoOn.st (fun t_ k_ => XS.istore X1.here hx rfl (hb hby at_59) rfl (l' := #[.val (.int p1), .val (.int p2), .val (.int p3), .val (.long q1), .second, .val (.int (Int32.ofNat nn)), .val (.int (Int32.ofNat kk)), .val (.int (Int32.ofNat oo)), .val (.int (Int32.ofNat vn)), .val (.int ((p2 &&& (2147483647 : Int32)) % (Int32.ofNat oo))), .val (.int ((p3 &&& (2147483647 : Int32)) % (Int32.ofNat nn))), .unset, .unset, .unset]) rfl k_) ?_
  show GoOn _ _ _ _ (T1.setTop (mkF m 61 #[.val (.int p1), .val (.int p2), .val (.int p3), .val (.long q1), .second, .val (.int (Int32.ofNat nn)), .val (.int (Int32.ofNat kk)), .val (.int (Int32.ofNat oo)), .val (.int (Int32.ofNat vn)), .val (.int ((p2 &&& (2147483647 : Int32)) % (Int32.ofNat oo))), .val (.int ((p3 &&& (2147483647 : Int32)) % (Int32.ofNat nn))), .unset, .unset, .unset] []))
  obtain ⟨ob, e_ob⟩ : ∃ z : Int32, z = ((p2 &&& (2147483647 : Int32)) % (Int32.ofNat oo)) := ⟨_, rfl⟩
  rw [← e_ob]
  obtain ⟨ss, hss, ess⟩ := own_rem p3 nn (by omega) (by omega)
  rw [show ((p3 &&& (2147483647 : Int32)) % (Int32.ofNat nn)) = Int32.ofNat ss from ess]
  show GoOn _ _ _ _ (T1.setTop (mkF m 61 #[.val (.int p1), .val (.int p2), .val (.int p3), .val (.long q1), .second, .val (.int (Int32.ofNat nn)), .val (.int (Int32.ofNat kk)), .val (.int (Int32.ofNat oo)), .val (.int (Int32.ofNat vn)), .val (.int ob), .val (.int (Int32.ofNat ss)), .unset, .unset, .unset] []))
  obtain ⟨T2, h2, X2, e2, E2, A2, D2, -, st2⟩ := newO X1 hx hZ hown (hw _ (List.mem_of_getElem? (i := 5) rfl)) (hw _ (List.mem_of_getElem? (i := 6) rfl)) (hw _ (List.mem_of_getElem? (i := 7) rfl)) e1 (g := (mkF m 61 #[.val (.int p1), .val (.int p2), .val (.int p3), .val (.long q1), .second, .val (.int (Int32.ofNat nn)), .val (.int (Int32.ofNat kk)), .val (.int (Int32.ofNat oo)), .val (.int (Int32.ofNat vn)), .val (.int ob), .val (.int (Int32.ofNat ss)), .unset, .unset, .unset] [])) rfl (hb hby at_61) (by decide) (by decide)
  obtain ⟨b2, g2⟩ : ∃ z, z = h0.size := ⟨_, rfl⟩
  rw [← g2] at A2 D2 st2
  have g_b2 : n0 ≤ b2 := Nat.le_trans Z0 (Nat.le_of_eq g2.symm)
  have F_n_b2 : Fld Z h2 b2 "com/example/frontwise/frontwise/problem/Mnk" "n" "I" (.int (0 : Int32)) := D2 (Or.inr (hw _ (List.mem_of_getElem? (i := 16) rfl))) (ty := .int) (by decide)
  have F_epistasis_b2 : Fld Z h2 b2 "com/example/frontwise/frontwise/problem/Mnk" "epistasis" "I" (.int (0 : Int32)) := D2 (Or.inr (hw _ (List.mem_of_getElem? (i := 18) rfl))) (ty := .int) (by decide)
  have F_objectives_b2 : Fld Z h2 b2 "com/example/frontwise/frontwise/problem/Mnk" "objectives" "I" (.int (0 : Int32)) := D2 (Or.inr (hw _ (List.mem_of_getElem? (i := 20) rfl))) (ty := .int) (by decide)
  have F_byteTables_b2 : Fld Z h2 b2 "com/example/frontwise/frontwise/problem/Mnk" "byteTables" "[B" .null := D2 (Or.inr (hw _ (List.mem_of_getElem? (i := 23) rfl))) (ty := (.array .byte)) (by decide)
  have F_intTables_b2 : Fld Z h2 b2 "com/example/frontwise/frontwise/problem/Mnk" "intTables" "[I" .null := D2 (Or.inr (hw _ (List.mem_of_getElem? (i := 25) rfl))) (ty := (.array .int)) (by decide)
  refine GoOn.st st2 ?_
  refine GoOn.st (fun t_ k_ => XS.dup X2.here hx rfl (hb hby at_64) rfl rfl k_) ?_
  refine GoOn.st (fun t_ k_ => XS.iload X2.here hx rfl (hb hby at_65) rfl k_) ?_
  refine GoOn.st (fun t_ k_ => XS.iload X2.here hx rfl (hb hby at_67) rfl k_) ?_
  show GoOn _ _ _ _ (T2.setTop (mkF m 69 #[.val (.int p1), .val (.int p2), .val (.int p3), .val (.long q1), .second, .val (.int (Int32.ofNat nn)), .val (.int (Int32.ofNat kk)), .val (.int (Int32.ofNat oo)), .val (.int (Int32.ofNat vn)), .val (.int ob), .val (.int (Int32.ofNat ss)), .unset, .unset, .unset] [(.int (Int32.ofNat kk)), (.int (Int32.ofNat nn)), (.ref b2), (.ref b2)]))
  refine GoOn.st (fun t_ k_ => XS.iload X2.here hx rfl (hb hby at_69) rfl k_) ?_
  refine GoOn.st (fun t_ k_ => XS.iload X2.here hx rfl (hb hby at_71) rfl k_) ?_
  refine GoOn.st (fun t_ k_ => XS.lloadN X2.here hx rfl (hb hby at_73) rfl k_) ?_
  show GoOn _ _ _ _ (T2.setTop (mkF m 74 #[.val (.int p1), .val (.int p2), .val (.int p3), .val (.long q1), .second, .val (.int (Int32.ofNat nn)), .val (.int (Int32.ofNat kk)), .val (.int (Int32.ofNat oo)), .val (.int (Int32.ofNat vn)), .val (.int ob), .val (.int (Int32.ofNat ss)), .unset, .unset, .unset] [(.long q1), (.int (Int32.ofNat oo)), (.int (Int32.ofNat vn)), (.int (Int32.ofNat kk)), (.int (Int32.ofNat nn)), (.ref b2), (.ref b2)]))
  refine GoOn.callC (W := 1) (argsL := [(.int (Int32.ofNat nn)), (.int (Int32.ofNat kk)), (.int (Int32.ofNat vn)), (.int (Int32.ofNat oo)), (.long q1)]) (rest := [(.ref b2)]) (a := b2) X2 hx hZ hown rfl (hw _ (List.mem_of_getElem? (i := 8) rfl)) (hw _ (List.mem_of_getElem? (i := 9) rfl)) (hw _ (List.mem_of_getElem? (i := 7) rfl)) (hw _ (List.mem_of_getElem? (i := 10) rfl)) (by decide) (rm_minit l Z a0 hw b2 nn kk oo (Int32.ofNat vn) q1 h2 n0 (Nat.le_trans Z0 E2.1) A2 F_n_b2 F_epistasis_b2 F_objectives_b2 F_byteTables_b2 F_intTables_b2 g_b2 sm (own_v1 (by omega) (by omega)) (own_v2 (by omega) (by omega)) (own_v3 (by omega) (by omega)) (own_v4 (by omega) (by omega)) (own_v5 (by omega) (by omega))) e2 (by decide) (by decide) (by rw [hml]; rfl) pd_6 rfl rfl (Nat.le_of_eq rfl) (hb hby at_74) (by decide) (by decide) ?_
  rintro _ T3 L3 X3 ⟨rfl, N3q, K3, f3_0, f3_1, f3_2⟩
  have N3 := Fr.app N0 N3q
  refine GoOn.st (fun t_ k_ => XS.astore X3.here hx rfl (hb hby at_77) rfl rfl (l' := #[.val (.int p1), .val (.int p2), .val (.int p3), .val (.long q1), .second, .val (.int (Int32.ofNat nn)), .val (.int (Int32.ofNat kk)), .val (.int (Int32.ofNat oo)), .val (.int (Int32.ofNat vn)), .val (.int ob), .val (.int (Int32.ofNat ss)), .val (.ref b2), .unset, .unset]) rfl k_) ?_
  show GoOn _ _ _ _ (T3.setTop (mkF m 79 #[.val (.int p1), .val (.int p2), .val (.int p3), .val (.long q1), .second, .val (.int (Int32.ofNat nn)), .val (.int (Int32.ofNat kk)), .val (.int (Int32.ofNat oo)), .val (.int (Int32.ofNat vn)), .val (.int ob), .val (.int (Int32.ofNat ss)), .val (.ref b2), .unset, .unset] []))
  have hk4 : kk = 0 ∨ kk = 1 ∨ kk = 2 ∨ kk = 3 := by omega
  rcases hk4 with rfl | rfl | rfl | rfl
  · skip
    show GoOn _ _ _ _ (T3.setTop (mkF m 79 #[.val (.int p1), .val (.int p2), .val (.int p3), .val (.long q1), .second, .val (.int (Int32.ofNat nn)), .val (.int (0 : Int32)), .val (.int (Int32.ofNat oo)), .val (.int (Int32.ofNat vn)), .val (.int ob), .val (.int (Int32.ofNat ss)), .val (.ref b2), .unset, .unset] []))
    refine GoOn.st (fun t_ k_ => XS.aload X3.here hx rfl (hb hby at_79) rfl rfl k_) ?_
    refine GoOn.st (fun t_ k_ => XS.iload X3.here hx rfl (hb hby at_81) rfl k_) ?_
    refine GoOn.st (fun t_ k_ => XS.iload X3.here hx rfl (hb hby at_83) rfl k_) ?_
    show GoOn _ _ _ _ (T3.setTop (mkF m 85 #[.val (.int p1), .val (.int p2), .val (.int p3), .val (.long q1), .second, .val (.int (Int32.ofNat nn)), .val (.int (0 : Int32)), .val (.int (Int32.ofNat oo)), .val (.int (Int32.ofNat vn)), .val (.int ob), .val (.int (Int32.ofNat ss)), .val (.ref b2), .unset, .unset] [(.int (Int32.ofNat ss)), (.int ob), (.ref b2)]))
    refine GoOn.callV (W := 0) (argsL := [(.int ob), (.int (Int32.ofNat ss))]) (rest := []) (a := b2) X3 hx hZ hown (hw _ (List.mem_of_getElem? (i := 77) rfl)) (hw _ (List.mem_of_getElem? (i := 78) rfl)) (notFace_of_selects (args := #[]) (mvT hZ (hw _ (List.mem_of_getElem? (i := 80) rfl)))) (hw _ (List.mem_of_getElem? (i := 80) rfl)) (hw _ (List.mem_of_getElem? (i := 79) rfl)) (hw _ (List.mem_of_getElem? (i := 7) rfl)) (hw _ (List.mem_of_getElem? (i := 81) rfl)) (by decide) (rm_dep0 l Z a0 hw b2 nn ss ob T3.heap n0 (Nat.le_trans (Nat.le_trans Z0 E2.1) K3.1) f3_2 f3_1 (own_nz (by omega) (by omega))) rfl f3_0 (by decide) (by decide) (by rw [hml]; rfl) pd_7 rfl rfl (Nat.le_of_eq rfl) (hb hby at_85) (by decide) (by decide) ?_
    rintro _ T4 L4 X4 ⟨bb4, kb4, rfl, N4q, K4, sb4, V4⟩
    have N4 := Fr.app N3 N4q
    have ne_b2_bb4 : b2 ≠ bb4 := Nat.ne_of_lt (Nat.lt_of_lt_of_le f3_0.lt sb4)
    refine GoOn.st (fun t_ k_ => XS.astore X4.here hx rfl (hb hby at_88) rfl rfl (l' := #[.val (.int p1), .val (.int p2), .val (.int p3), .val (.long q1), .second, .val (.int (Int32.ofNat nn)), .val (.int (0 : Int32)), .val (.int (Int32.ofNat oo)), .val (.int (Int32.ofNat vn)), .val (.int ob), .val (.int (Int32.ofNat ss)), .val (.ref b2), .val (.ref bb4), .unset]) rfl k_) ?_
    refine GoOn.st (fun t_ k_ => XS.aload X4.here hx rfl (hb hby at_90) rfl rfl k_) ?_
    refine GoOn.st (fun t_ k_ => XS.iload X4.here hx rfl (hb hby at_92) rfl k_) ?_
    show GoOn _ _ _ _ (T4.setTop (mkF m 94 #[.val (.int p1), .val (.int p2), .val (.int p3), .val (.long q1), .second, .val (.int (Int32.ofNat nn)), .val (.int (0 : Int32)), .val (.int (Int32.ofNat oo)), .val (.int (Int32.ofNat vn)), .val (.int ob), .val (.int (Int32.ofNat ss)), .val (.ref b2), .val (.ref bb4), .unset] [(.int ob), (.ref b2)]))
    refine GoOn.st (fun t_ k_ => XS.iconst X4.here hx rfl (hb hby at_94)  k_) ?_
    refine GoOn.st (fun t_ k_ => XS.iadd X4.here hx rfl (hb hby at_95) rfl k_) ?_
    refine GoOn.st (fun t_ k_ => XS.iload X4.here hx rfl (hb hby at_96) rfl k_) ?_
    refine GoOn.st (fun t_ k_ => iremM X4 hx rfl (hb hby at_98) rfl (own_nz (by omega) (by omega)) k_) ?_
    show GoOn _ _ _ _ (T4.setTop (mkF m 99 #[.val (.int p1), .val (.int p2), .val (.int p3), .val (.long q1), .second, .val (.int (Int32.ofNat nn)), .val (.int (0 : Int32)), .val (.int (Int32.ofNat oo)), .val (.int (Int32.ofNat vn)), .val (.int ob), .val (.int (Int32.ofNat ss)), .val (.ref b2), .val (.ref bb4), .unset] [(.int ((ob + (1 : Int32)) % (Int32.ofNat oo))), (.ref b2)]))
    refine GoOn.st (fun t_ k_ => XS.iload X4.here hx rfl (hb hby at_99) rfl k_) ?_
    show GoOn _ _ _ _ (T4.setTop (mkF m 101 #[.val (.int p1), .val (.int p2), .val (.int p3), .val (.long q1), .second, .val (.int (Int32.ofNat nn)), .val (.int (0 : Int32)), .val (.int (Int32.ofNat oo)), .val (.int (Int32.ofNat vn)), .val (.int ob), .val (.int (Int32.ofNat ss)), .val (.ref b2), .val (.ref bb4), .unset] [(.int (Int32.ofNat ss)), (.int ((ob + (1 : Int32)) % (Int32.ofNat oo))), (.ref b2)]))
    have F5 := (f3_0.keep K4)
    have F6 := (f3_2.keep K4 nin0)
    have F7 := (f3_1.keep K4 nin0)
    refine GoOn.callV (W := 0) (argsL := [(.int ((ob + (1 : Int32)) % (Int32.ofNat oo))), (.int (Int32.ofNat ss))]) (rest := []) (a := b2) X4 hx hZ hown (hw _ (List.mem_of_getElem? (i := 77) rfl)) (hw _ (List.mem_of_getElem? (i := 78) rfl)) (notFace_of_selects (args := #[]) (mvT hZ (hw _ (List.mem_of_getElem? (i := 80) rfl)))) (hw _ (List.mem_of_getElem? (i := 80) rfl)) (hw _ (List.mem_of_getElem? (i := 79) rfl)) (hw _ (List.mem_of_getElem? (i := 7) rfl)) (hw _ (List.mem_of_getElem? (i := 81) rfl)) (by decide) (rm_dep0 l Z a0 hw b2 nn ss ((ob + (1 : Int32)) % (Int32.ofNat oo)) T4.heap n0 (Nat.le_trans (Nat.le_trans (Nat.le_trans Z0 E2.1) K3.1) K4.1) F6 F7 (own_nz (by omega) (by omega))) rfl F5 (by decide) (by decide) (by rw [hml]; rfl) pd_7 rfl rfl (Nat.le_of_eq rfl) (hb hby at_101) (by decide) (by decide) ?_
    rintro _ T8 L8 X8 ⟨bb8, kb8, rfl, N8q, K8, sb8, V8⟩
    have N8 := Fr.app N4 N8q
    have ne_b2_bb8 : b2 ≠ bb8 := Nat.ne_of_lt (Nat.lt_of_lt_of_le F5.lt sb8)
    have ne_bb4_bb8 : bb4 ≠ bb8 := Nat.ne_of_lt (Nat.lt_of_lt_of_le V4.lt sb8)
    refine GoOn.st (fun t_ k_ => XS.astore X8.here hx rfl (hb hby at_104) rfl rfl (l' := #[.val (.int p1), .val (.int p2), .val (.int p3), .val (.long q1), .second, .val (.int (Int32.ofNat nn)), .val (.int (0 : Int32)), .val (.int (Int32.ofNat oo)), .val (.int (Int32.ofNat vn)), .val (.int ob), .val (.int (Int32.ofNat ss)), .val (.ref b2), .val (.ref bb4), .val (.ref bb8)]) rfl k_) ?_
    refine GoOn.st (fun t_ k_ => XS.aload X8.here hx rfl (hb hby at_106) rfl rfl k_) ?_
    refine GoOn.st (fun t_ k_ => XS.aload X8.here hx rfl (hb hby at_108) rfl rfl k_) ?_
    show GoOn _ _ _ _ (T8.setTop (mkF m 110 #[.val (.int p1), .val (.int p2), .val (.int p3), .val (.long q1), .second, .val (.int (Int32.ofNat nn)), .val (.int (0 : Int32)), .val (.int (Int32.ofNat oo)), .val (.int (Int32.ofNat vn)), .val (.int ob), .val (.int (Int32.ofNat ss)), .val (.ref b2), .val (.ref bb4), .val (.ref bb8)] [(.ref bb8), (.ref bb4)]))
    refine GoOn.st (fun t_ k_ => Jvm.RoadKit.acmp (g := (mkF m 110 #[.val (.int p1), .val (.int p2), .val (.int p3), .val (.long q1), .second, .val (.int (Int32.ofNat nn)), .val (.int (0 : Int32)), .val (.int (Int32.ofNat oo)), .val (.int (Int32.ofNat vn)), .val (.int ob), .val (.int (Int32.ofNat ss)), .val (.ref b2), .val (.ref bb4), .val (.ref bb8)] [(.ref bb8), (.ref bb4)])) X8 hx rfl rfl rfl (pc0 := 110) (pc' := 115) (same := false) rfl (hb hby at_110) rfl (decide_eq_false fun q => ne_bb4_bb8 (Value.ref.inj q)) (by decide) (by decide) k_) ?_
    refine GoOn.st (fun t_ k_ => XS.aload X8.here hx rfl (hb hby at_115) rfl rfl k_) ?_
    have F9 := (V4.keep K8 nin0)
    refine GoOn.st (fun t_ k_ => own_arrlen X8 hx hZ rfl F9 (hb hby at_117) _ k_) ?_
    refine GoOn.st (fun t_ k_ => XS.iload X8.here hx rfl (hb hby at_118) rfl k_) ?_
    show GoOn _ _ _ _ (T8.setTop (mkF m 120 #[.val (.int p1), .val (.int p2), .val (.int p3), .val (.long q1), .second, .val (.int (Int32.ofNat nn)), .val (.int (0 : Int32)), .val (.int (Int32.ofNat oo)), .val (.int (Int32.ofNat vn)), .val (.int ob), .val (.int (Int32.ofNat ss)), .val (.ref b2), .val (.ref bb4), .val (.ref bb8)] [(.int (0 : Int32)), (.int (1 : Int32))]))
    refine GoOn.st (fun t_ k_ => XS.iconst X8.here hx rfl (hb hby at_120)  k_) ?_
    refine GoOn.st (fun t_ k_ => XS.iadd X8.here hx rfl (hb hby at_121) rfl k_) ?_
    refine GoOn.st (fun t_ k_ => XS.icmpNo X8.here hx rfl (hb hby at_122) rfl (teq (by decide : (1 : Int32) = (1 : Int32))).2 k_) ?_
    refine GoOn.st (fun t_ k_ => XS.aload X8.here hx rfl (hb hby at_125) rfl rfl k_) ?_
    show GoOn _ _ _ _ (T8.setTop (mkF m 127 #[.val (.int p1), .val (.int p2), .val (.int p3), .val (.long q1), .second, .val (.int (Int32.ofNat nn)), .val (.int (0 : Int32)), .val (.int (Int32.ofNat oo)), .val (.int (Int32.ofNat vn)), .val (.int ob), .val (.int (Int32.ofNat ss)), .val (.ref b2), .val (.ref bb4), .val (.ref bb8)] [(.ref bb8)]))
    refine GoOn.st (fun t_ k_ => own_arrlen X8 hx hZ rfl V8 (hb hby at_127) _ k_) ?_
    refine GoOn.st (fun t_ k_ => XS.iload X8.here hx rfl (hb hby at_128) rfl k_) ?_
    refine GoOn.st (fun t_ k_ => XS.iconst X8.here hx rfl (hb hby at_130)  k_) ?_
    refine GoOn.st (fun t_ k_ => XS.iadd X8.here hx rfl (hb hby at_131) rfl k_) ?_
    show GoOn _ _ _ _ (T8.setTop (mkF m 132 #[.val (.int p1), .val (.int p2), .val (.int p3), .val (.long q1), .second, .val (.int (Int32.ofNat nn)), .val (.int (0 : Int32)), .val (.int (Int32.ofNat oo)), .val (.int (Int32.ofNat vn)), .val (.int ob), .val (.int (Int32.ofNat ss)), .val (.ref b2), .val (.ref bb4), .val (.ref bb8)] [(.int (1 : Int32)), (.int (1 : Int32))]))
    refine GoOn.st (fun t_ k_ => XS.icmpYes X8.here hx rfl (pc0 := 132) (pc' := 137) rfl (hb hby at_132) rfl (teq (by decide : (1 : Int32) = (1 : Int32))).1 (by decide) (by decide) k_) ?_
    refine GoOn.st (fun t_ k_ => XS.aload X8.here hx rfl (hb hby at_137) rfl rfl k_) ?_
    refine GoOn.st (fun t_ k_ => XS.aload X8.here hx rfl (hb hby at_139) rfl rfl k_) ?_
    refine GoOn.st (fun t_ k_ => XS.iconst X8.here hx rfl (hb hby at_141)  k_) ?_
    show GoOn _ _ _ _ (T8.setTop (mkF m 142 #[.val (.int p1), .val (.int p2), .val (.int p3), .val (.long q1), .second, .val (.int (Int32.ofNat nn)), .val (.int (0 : Int32)), .val (.int (Int32.ofNat oo)), .val (.int (Int32.ofNat vn)), .val (.int ob), .val (.int (Int32.ofNat ss)), .val (.ref b2), .val (.ref bb4), .val (.ref bb8)] [(.int (0 : Int32)), (.ref bb8), (.ref bb4)]))
    refine GoOn.st (fun t_ k_ => XS.iload X8.here hx rfl (hb hby at_142) rfl k_) ?_
    refine GoOn.st (fun t_ k_ => XS.iload X8.here hx rfl (hb hby at_144) rfl k_) ?_
    refine GoOn.st (fun t_ k_ => XS.iload X8.here hx rfl (hb hby at_146) rfl k_) ?_
    show GoOn _ _ _ _ (T8.setTop (mkF m 148 #[.val (.int p1), .val (.int p2), .val (.int p3), .val (.long q1), .second, .val (.int (Int32.ofNat nn)), .val (.int (0 : Int32)), .val (.int (Int32.ofNat oo)), .val (.int (Int32.ofNat vn)), .val (.int ob), .val (.int (Int32.ofNat ss)), .val (.ref b2), .val (.ref bb4), .val (.ref bb8)] [(.int (Int32.ofNat nn)), (.int (Int32.ofNat ss)), (.int (0 : Int32)), (.int (0 : Int32)), (.ref bb8), (.ref bb4)]))
    refine GoOn.callS (W := 0) (argsL := [(.ref bb4), (.ref bb8), (.int (0 : Int32)), (.int (0 : Int32)), (.int (Int32.ofNat ss)), (.int (Int32.ofNat nn))]) (rest := []) X8 hx hZ hown (hw _ (List.mem_of_getElem? (i := 83) rfl)) (hw _ (List.mem_of_getElem? (i := 84) rfl)) (hw _ (List.mem_of_getElem? (i := 85) rfl)) (hw _ (List.mem_of_getElem? (i := 86) rfl)) (by decide) (rm_ent00 l Z a0 hw bb4 bb8 kb4 kb8 nn ss T8.heap F9 V8 (own_wrap (j := 0) (by omega) (by omega) (by omega) (by decide))) rfl (by decide) (by decide) (by rw [hml]; rfl) pd_8 rfl rfl (Nat.le_of_eq rfl) (hb hby at_148) (by decide) (by decide) ?_
    rintro _ T10 L10 X10 ⟨rfl, rfl, e10⟩
    rw [List.append_nil] at X10
    refine GoOn.st (fun t_ k_ => XS.ifNo X10.here hx rfl (hb hby at_151) rfl ((if0 _ _).trans (feq (by decide : ¬ ((1 : Int32) = (0 : Int32)))).1) k_) ?_
    refine GoOn.st (fun t_ k_ => XS.aload X10.here hx rfl (hb hby at_154) rfl rfl k_) ?_
    refine GoOn.st (fun t_ k_ => XS.aload X10.here hx rfl (hb hby at_156) rfl rfl k_) ?_
    show GoOn _ _ _ _ (T10.setTop (mkF m 158 #[.val (.int p1), .val (.int p2), .val (.int p3), .val (.long q1), .second, .val (.int (Int32.ofNat nn)), .val (.int (0 : Int32)), .val (.int (Int32.ofNat oo)), .val (.int (Int32.ofNat vn)), .val (.int ob), .val (.int (Int32.ofNat ss)), .val (.ref b2), .val (.ref bb4), .val (.ref bb8)] [(.ref bb8), (.ref bb4)]))
    refine GoOn.st (fun t_ k_ => XS.iconst X10.here hx rfl (hb hby at_158)  k_) ?_
    refine GoOn.st (fun t_ k_ => XS.iload X10.here hx rfl (hb hby at_159) rfl k_) ?_
    refine GoOn.st (fun t_ k_ => XS.iload X10.here hx rfl (hb hby at_161) rfl k_) ?_
    refine GoOn.st (fun t_ k_ => XS.iload X10.here hx rfl (hb hby at_163) rfl k_) ?_
    show GoOn _ _ _ _ (T10.setTop (mkF m 165 #[.val (.int p1), .val (.int p2), .val (.int p3), .val (.long q1), .second, .val (.int (Int32.ofNat nn)), .val (.int (0 : Int32)), .val (.int (Int32.ofNat oo)), .val (.int (Int32.ofNat vn)), .val (.int ob), .val (.int (Int32.ofNat ss)), .val (.ref b2), .val (.ref bb4), .val (.ref bb8)] [(.int (Int32.ofNat nn)), (.int (Int32.ofNat ss)), (.int (0 : Int32)), (.int (1 : Int32)), (.ref bb8), (.ref bb4)]))
    refine GoOn.callS (W := 0) (argsL := [(.ref bb4), (.ref bb8), (.int (1 : Int32)), (.int (0 : Int32)), (.int (Int32.ofNat ss)), (.int (Int32.ofNat nn))]) (rest := []) X10 hx hZ hown (hw _ (List.mem_of_getElem? (i := 83) rfl)) (hw _ (List.mem_of_getElem? (i := 84) rfl)) (hw _ (List.mem_of_getElem? (i := 85) rfl)) (hw _ (List.mem_of_getElem? (i := 86) rfl)) (by decide) (rm_ent01 l Z a0 hw bb4 bb8 kb4 kb8 nn ss T8.heap) e10 (by decide) (by decide) (by rw [hml]; rfl) pd_8 rfl rfl (Nat.le_of_eq rfl) (hb hby at_165) (by decide) (by decide) ?_
    rintro _ T11 L11 X11 ⟨rfl, rfl, e11⟩
    rw [List.append_nil] at X11
    refine GoOn.st (fun t_ k_ => XS.ifNo X11.here hx rfl (hb hby at_168) rfl ((if0 _ _).trans (feq (by decide : ¬ ((1 : Int32) = (0 : Int32)))).1) k_) ?_
    refine GoOn.st (fun t_ k_ => XS.aload X11.here hx rfl (hb hby at_171) rfl rfl k_) ?_
    refine GoOn.st (fun t_ k_ => XS.aload X11.here hx rfl (hb hby at_173) rfl rfl k_) ?_
    show GoOn _ _ _ _ (T11.setTop (mkF m 175 #[.val (.int p1), .val (.int p2), .val (.int p3), .val (.long q1), .second, .val (.int (Int32.ofNat nn)), .val (.int (0 : Int32)), .val (.int (Int32.ofNat oo)), .val (.int (Int32.ofNat vn)), .val (.int ob), .val (.int (Int32.ofNat ss)), .val (.ref b2), .val (.ref bb4), .val (.ref bb8)] [(.ref bb8), (.ref bb4)]))
    refine GoOn.st (fun t_ k_ => XS.iconst X11.here hx rfl (hb hby at_175)  k_) ?_
    refine GoOn.st (fun t_ k_ => XS.iload X11.here hx rfl (hb hby at_176) rfl k_) ?_
    refine GoOn.st (fun t_ k_ => XS.iload X11.here hx rfl (hb hby at_178) rfl k_) ?_
    refine GoOn.st (fun t_ k_ => XS.iload X11.here hx rfl (hb hby at_180) rfl k_) ?_
    show GoOn _ _ _ _ (T11.setTop (mkF m 182 #[.val (.int p1), .val (.int p2), .val (.int p3), .val (.long q1), .second, .val (.int (Int32.ofNat nn)), .val (.int (0 : Int32)), .val (.int (Int32.ofNat oo)), .val (.int (Int32.ofNat vn)), .val (.int ob), .val (.int (Int32.ofNat ss)), .val (.ref b2), .val (.ref bb4), .val (.ref bb8)] [(.int (Int32.ofNat nn)), (.int (Int32.ofNat ss)), (.int (0 : Int32)), (.int (2 : Int32)), (.ref bb8), (.ref bb4)]))
    refine GoOn.callS (W := 0) (argsL := [(.ref bb4), (.ref bb8), (.int (2 : Int32)), (.int (0 : Int32)), (.int (Int32.ofNat ss)), (.int (Int32.ofNat nn))]) (rest := []) X11 hx hZ hown (hw _ (List.mem_of_getElem? (i := 83) rfl)) (hw _ (List.mem_of_getElem? (i := 84) rfl)) (hw _ (List.mem_of_getElem? (i := 85) rfl)) (hw _ (List.mem_of_getElem? (i := 86) rfl)) (by decide) (rm_ent02 l Z a0 hw bb4 bb8 kb4 kb8 nn ss T8.heap) e11 (by decide) (by decide) (by rw [hml]; rfl) pd_8 rfl rfl (Nat.le_of_eq rfl) (hb hby at_182) (by decide) (by decide) ?_
    rintro _ T12 L12 X12 ⟨rfl, rfl, e12⟩
    rw [List.append_nil] at X12
    refine GoOn.st (fun t_ k_ => XS.ifNo X12.here hx rfl (hb hby at_185) rfl ((if0 _ _).trans (feq (by decide : ¬ ((1 : Int32) = (0 : Int32)))).1) k_) ?_
    refine GoOn.st (fun t_ k_ => XS.aload X12.here hx rfl (hb hby at_188) rfl rfl k_) ?_
    refine GoOn.st (fun t_ k_ => XS.aload X12.here hx rfl (hb hby at_190) rfl rfl k_) ?_
    show GoOn _ _ _ _ (T12.setTop (mkF m 192 #[.val (.int p1), .val (.int p2), .val (.int p3), .val (.long q1), .second, .val (.int (Int32.ofNat nn)), .val (.int (0 : Int32)), .val (.int (Int32.ofNat oo)), .val (.int (Int32.ofNat vn)), .val (.int ob), .val (.int (Int32.ofNat ss)), .val (.ref b2), .val (.ref bb4), .val (.ref bb8)] [(.ref bb8), (.ref bb4)]))
    refine GoOn.st (fun t_ k_ => XS.iconst X12.here hx rfl (hb hby at_192)  k_) ?_
    refine GoOn.st (fun t_ k_ => XS.iload X12.here hx rfl (hb hby at_193) rfl k_) ?_
    refine GoOn.st (fun t_ k_ => XS.iload X12.here hx rfl (hb hby at_195) rfl k_) ?_
    refine GoOn.st (fun t_ k_ => XS.iload X12.here hx rfl (hb hby at_197) rfl k_) ?_
    show GoOn _ _ _ _ (T12.setTop (mkF m 199 #[.val (.int p1), .val (.int p2), .val (.int p3), .val (.long q1), .second, .val (.int (Int32.ofNat nn)), .val (.int (0 : Int32)), .val (.int (Int32.ofNat oo)), .val (.int (Int32.ofNat vn)), .val (.int ob), .val (.int (Int32.ofNat ss)), .val (.ref b2), .val (.ref bb4), .val (.ref bb8)] [(.int (Int32.ofNat nn)), (.int (Int32.ofNat ss)), (.int (0 : Int32)), (.int (3 : Int32)), (.ref bb8), (.ref bb4)]))
    refine GoOn.callS (W := 0) (argsL := [(.ref bb4), (.ref bb8), (.int (3 : Int32)), (.int (0 : Int32)), (.int (Int32.ofNat ss)), (.int (Int32.ofNat nn))]) (rest := []) X12 hx hZ hown (hw _ (List.mem_of_getElem? (i := 83) rfl)) (hw _ (List.mem_of_getElem? (i := 84) rfl)) (hw _ (List.mem_of_getElem? (i := 85) rfl)) (hw _ (List.mem_of_getElem? (i := 86) rfl)) (by decide) (rm_ent03 l Z a0 hw bb4 bb8 kb4 kb8 nn ss T8.heap) e12 (by decide) (by decide) (by rw [hml]; rfl) pd_8 rfl rfl (Nat.le_of_eq rfl) (hb hby at_199) (by decide) (by decide) ?_
    rintro _ T13 L13 X13 ⟨rfl, rfl, e13⟩
    rw [List.append_nil] at X13
    refine GoOn.st (fun t_ k_ => XS.ifNo X13.here hx rfl (hb hby at_202) rfl ((if0 _ _).trans (feq (by decide : ¬ ((1 : Int32) = (0 : Int32)))).1) k_) ?_
    refine GoOn.st (fun t_ k_ => XS.iconst X13.here hx rfl (hb hby at_205)  k_) ?_
    refine GoOn.st (fun t_ k_ => XS.goto X13.here hx rfl (pc0 := 206) (pc' := 210) rfl (hb hby at_206) (by decide) (by decide) k_) ?_
    show GoOn _ _ _ _ (T13.setTop (mkF m 210 #[.val (.int p1), .val (.int p2), .val (.int p3), .val (.long q1), .second, .val (.int (Int32.ofNat nn)), .val (.int (0 : Int32)), .val (.int (Int32.ofNat oo)), .val (.int (Int32.ofNat vn)), .val (.int ob), .val (.int (Int32.ofNat ss)), .val (.ref b2), .val (.ref bb4), .val (.ref bb8)] [(.int (1 : Int32))]))
    exact GoOn.retZ X13 hx hlk hret (by simp) rfl (hb hby at_210) ⟨rfl, N8⟩ (by decide) (by decide)
  · skip
    show GoOn _ _ _ _ (T3.setTop (mkF m 79 #[.val (.int p1), .val (.int p2), .val (.int p3), .val (.long q1), .second, .val (.int (Int32.ofNat nn)), .val (.int (1 : Int32)), .val (.int (Int32.ofNat oo)), .val (.int (Int32.ofNat vn)), .val (.int ob), .val (.int (Int32.ofNat ss)), .val (.ref b2), .unset, .unset] []))
    refine GoOn.st (fun t_ k_ => XS.aload X3.here hx rfl (hb hby at_79) rfl rfl k_) ?_
    refine GoOn.st (fun t_ k_ => XS.iload X3.here hx rfl (hb hby at_81) rfl k_) ?_
    refine GoOn.st (fun t_ k_ => XS.iload X3.here hx rfl (hb hby at_83) rfl k_) ?_
    show GoOn _ _ _ _ (T3.setTop (mkF m 85 #[.val (.int p1), .val (.int p2), .val (.int p3), .val (.long q1), .second, .val (.int (Int32.ofNat nn)), .val (.int (1 : Int32)), .val (.int (Int32.ofNat oo)), .val (.int (Int32.ofNat vn)), .val (.int ob), .val (.int (Int32.ofNat ss)), .val (.ref b2), .unset, .unset] [(.int (Int32.ofNat ss)), (.int ob), (.ref b2)]))
    refine GoOn.callV (W := 0) (argsL := [(.int ob), (.int (Int32.ofNat ss))]) (rest := []) (a := b2) X3 hx hZ hown (hw _ (List.mem_of_getElem? (i := 77) rfl)) (hw _ (List.mem_of_getElem? (i := 78) rfl)) (notFace_of_selects (args := #[]) (mvT hZ (hw _ (List.mem_of_getElem? (i := 80) rfl)))) (hw _ (List.mem_of_getElem? (i := 80) rfl)) (hw _ (List.mem_of_getElem? (i := 79) rfl)) (hw _ (List.mem_of_getElem? (i := 7) rfl)) (hw _ (List.mem_of_getElem? (i := 81) rfl)) (by decide) (rm_dep1 l Z a0 hw b2 nn ss ob T3.heap n0 (Nat.le_trans (Nat.le_trans Z0 E2.1) K3.1) f3_2 f3_1 (own_nz (by omega) (by omega))) rfl f3_0 (by decide) (by decide) (by rw [hml]; rfl) pd_7 rfl rfl (Nat.le_of_eq rfl) (hb hby at_85) (by decide) (by decide) ?_
    rintro _ T14 L14 X14 ⟨bb14, kb14, rfl, N14q, K14, sb14, V14⟩
    have N14 := Fr.app N3 N14q
    have ne_b2_bb14 : b2 ≠ bb14 := Nat.ne_of_lt (Nat.lt_of_lt_of_le f3_0.lt sb14)
    refine GoOn.st (fun t_ k_ => XS.astore X14.here hx rfl (hb hby at_88) rfl rfl (l' := #[.val (.int p1), .val (.int p2), .val (.int p3), .val (.long q1), .second, .val (.int (Int32.ofNat nn)), .val (.int (1 : Int32)), .val (.int (Int32.ofNat oo)), .val (.int (Int32.ofNat vn)), .val (.int ob), .val (.int (Int32.ofNat ss)), .val (.ref b2), .val (.ref bb14), .unset]) rfl k_) ?_
    refine GoOn.st (fun t_ k_ => XS.aload X14.here hx rfl (hb hby at_90) rfl rfl k_) ?_
    refine GoOn.st (fun t_ k_ => XS.iload X14.here hx rfl (hb hby at_92) rfl k_) ?_
    show GoOn _ _ _ _ (T14.setTop (mkF m 94 #[.val (.int p1), .val (.int p2), .val (.int p3), .val (.long q1), .second, .val (.int (Int32.ofNat nn)), .val (.int (1 : Int32)), .val (.int (Int32.ofNat oo)), .val (.int (Int32.ofNat vn)), .val (.int ob), .val (.int (Int32.ofNat ss)), .val (.ref b2), .val (.ref bb14), .unset] [(.int ob), (.ref b2)]))
    refine GoOn.st (fun t_ k_ => XS.iconst X14.here hx rfl (hb hby at_94)  k_) ?_
    refine GoOn.st (fun t_ k_ => XS.iadd X14.here hx rfl (hb hby at_95) rfl k_) ?_
    refine GoOn.st (fun t_ k_ => XS.iload X14.here hx rfl (hb hby at_96) rfl k_) ?_
    refine GoOn.st (fun t_ k_ => iremM X14 hx rfl (hb hby at_98) rfl (own_nz (by omega) (by omega)) k_) ?_
    show GoOn _ _ _ _ (T14.setTop (mkF m 99 #[.val (.int p1), .val (.int p2), .val (.int p3), .val (.long q1), .second, .val (.int (Int32.ofNat nn)), .val (.int (1 : Int32)), .val (.int (Int32.ofNat oo)), .val (.int (Int32.ofNat vn)), .val (.int ob), .val (.int (Int32.ofNat ss)), .val (.ref b2), .val (.ref bb14), .unset] [(.int ((ob + (1 : Int32)) % (Int32.ofNat oo))), (.ref b2)]))
    refine GoOn.st (fun t_ k_ => XS.iload X14.here hx rfl (hb hby at_99) rfl k_) ?_
    show GoOn _ _ _ _ (T14.setTop (mkF m 101 #[.val (.int p1), .val (.int p2), .val (.int p3), .val (.long q1), .second, .val (.int (Int32.ofNat nn)), .val (.int (1 : Int32)), .val (.int (Int32.ofNat oo)), .val (.int (Int32.ofNat vn)), .val (.int ob), .val (.int (Int32.ofNat ss)), .val (.ref b2), .val (.ref bb14), .unset] [(.int (Int32.ofNat ss)), (.int ((ob + (1 : Int32)) % (Int32.ofNat oo))), (.ref b2)]))
    have F15 := (f3_0.keep K14)
    have F16 := (f3_2.keep K14 nin0)
    have F17 := (f3_1.keep K14 nin0)
    refine GoOn.callV (W := 0) (argsL := [(.int ((ob + (1 : Int32)) % (Int32.ofNat oo))), (.int (Int32.ofNat ss))]) (rest := []) (a := b2) X14 hx hZ hown (hw _ (List.mem_of_getElem? (i := 77) rfl)) (hw _ (List.mem_of_getElem? (i := 78) rfl)) (notFace_of_selects (args := #[]) (mvT hZ (hw _ (List.mem_of_getElem? (i := 80) rfl)))) (hw _ (List.mem_of_getElem? (i := 80) rfl)) (hw _ (List.mem_of_getElem? (i := 79) rfl)) (hw _ (List.mem_of_getElem? (i := 7) rfl)) (hw _ (List.mem_of_getElem? (i := 81) rfl)) (by decide) (rm_dep1 l Z a0 hw b2 nn ss ((ob + (1 : Int32)) % (Int32.ofNat oo)) T14.heap n0 (Nat.le_trans (Nat.le_trans (Nat.le_trans Z0 E2.1) K3.1) K14.1) F16 F17 (own_nz (by omega) (by omega))) rfl F15 (by decide) (by decide) (by rw [hml]; rfl) pd_7 rfl rfl (Nat.le_of_eq rfl) (hb hby at_101) (by decide) (by decide) ?_
    rintro _ T18 L18 X18 ⟨bb18, kb18, rfl, N18q, K18, sb18, V18⟩
    have N18 := Fr.app N14 N18q
    have ne_b2_bb18 : b2 ≠ bb18 := Nat.ne_of_lt (Nat.lt_of_lt_of_le F15.lt sb18)
    have ne_bb14_bb18 : bb14 ≠ bb18 := Nat.ne_of_lt (Nat.lt_of_lt_of_le V14.lt sb18)
    refine GoOn.st (fun t_ k_ => XS.astore X18.here hx rfl (hb hby at_104) rfl rfl (l' := #[.val (.int p1), .val (.int p2), .val (.int p3), .val (.long q1), .second, .val (.int (Int32.ofNat nn)), .val (.int (1 : Int32)), .val (.int (Int32.ofNat oo)), .val (.int (Int32.ofNat vn)), .val (.int ob), .val (.int (Int32.ofNat ss)), .val (.ref b2), .val (.ref bb14), .val (.ref bb18)]) rfl k_) ?_
    refine GoOn.st (fun t_ k_ => XS.aload X18.here hx rfl (hb hby at_106) rfl rfl k_) ?_
    refine GoOn.st (fun t_ k_ => XS.aload X18.here hx rfl (hb hby at_108) rfl rfl k_) ?_
    show GoOn _ _ _ _ (T18.setTop (mkF m 110 #[.val (.int p1), .val (.int p2), .val (.int p3), .val (.long q1), .second, .val (.int (Int32.ofNat nn)), .val (.int (1 : Int32)), .val (.int (Int32.ofNat oo)), .val (.int (Int32.ofNat vn)), .val (.int ob), .val (.int (Int32.ofNat ss)), .val (.ref b2), .val (.ref bb14), .val (.ref bb18)] [(.ref bb18), (.ref bb14)]))
    refine GoOn.st (fun t_ k_ => Jvm.RoadKit.acmp (g := (mkF m 110 #[.val (.int p1), .val (.int p2), .val (.int p3), .val (.long q1), .second, .val (.int (Int32.ofNat nn)), .val (.int (1 : Int32)), .val (.int (Int32.ofNat oo)), .val (.int (Int32.ofNat vn)), .val (.int ob), .val (.int (Int32.ofNat ss)), .val (.ref b2), .val (.ref bb14), .val (.ref bb18)] [(.ref bb18), (.ref bb14)])) X18 hx rfl rfl rfl (pc0 := 110) (pc' := 115) (same := false) rfl (hb hby at_110) rfl (decide_eq_false fun q => ne_bb14_bb18 (Value.ref.inj q)) (by decide) (by decide) k_) ?_
    refine GoOn.st (fun t_ k_ => XS.aload X18.here hx rfl (hb hby at_115) rfl rfl k_) ?_
    have F19 := (V14.keep K18 nin0)
    refine GoOn.st (fun t_ k_ => own_arrlen X18 hx hZ rfl F19 (hb hby at_117) _ k_) ?_
    refine GoOn.st (fun t_ k_ => XS.iload X18.here hx rfl (hb hby at_118) rfl k_) ?_
    show GoOn _ _ _ _ (T18.setTop (mkF m 120 #[.val (.int p1), .val (.int p2), .val (.int p3), .val (.long q1), .second, .val (.int (Int32.ofNat nn)), .val (.int (1 : Int32)), .val (.int (Int32.ofNat oo)), .val (.int (Int32.ofNat vn)), .val (.int ob), .val (.int (Int32.ofNat ss)), .val (.ref b2), .val (.ref bb14), .val (.ref bb18)] [(.int (1 : Int32)), (.int (2 : Int32))]))
    refine GoOn.st (fun t_ k_ => XS.iconst X18.here hx rfl (hb hby at_120)  k_) ?_
    refine GoOn.st (fun t_ k_ => XS.iadd X18.here hx rfl (hb hby at_121) rfl k_) ?_
    refine GoOn.st (fun t_ k_ => XS.icmpNo X18.here hx rfl (hb hby at_122) rfl (teq (by decide : (2 : Int32) = (2 : Int32))).2 k_) ?_
    refine GoOn.st (fun t_ k_ => XS.aload X18.here hx rfl (hb hby at_125) rfl rfl k_) ?_
    show GoOn _ _ _ _ (T18.setTop (mkF m 127 #[.val (.int p1), .val (.int p2), .val (.int p3), .val (.long q1), .second, .val (.int (Int32.ofNat nn)), .val (.int (1 : Int32)), .val (.int (Int32.ofNat oo)), .val (.int (Int32.ofNat vn)), .val (.int ob), .val (.int (Int32.ofNat ss)), .val (.ref b2), .val (.ref bb14), .val (.ref bb18)] [(.ref bb18)]))
    refine GoOn.st (fun t_ k_ => own_arrlen X18 hx hZ rfl V18 (hb hby at_127) _ k_) ?_
    refine GoOn.st (fun t_ k_ => XS.iload X18.here hx rfl (hb hby at_128) rfl k_) ?_
    refine GoOn.st (fun t_ k_ => XS.iconst X18.here hx rfl (hb hby at_130)  k_) ?_
    refine GoOn.st (fun t_ k_ => XS.iadd X18.here hx rfl (hb hby at_131) rfl k_) ?_
    show GoOn _ _ _ _ (T18.setTop (mkF m 132 #[.val (.int p1), .val (.int p2), .val (.int p3), .val (.long q1), .second, .val (.int (Int32.ofNat nn)), .val (.int (1 : Int32)), .val (.int (Int32.ofNat oo)), .val (.int (Int32.ofNat vn)), .val (.int ob), .val (.int (Int32.ofNat ss)), .val (.ref b2), .val (.ref bb14), .val (.ref bb18)] [(.int (2 : Int32)), (.int (2 : Int32))]))
    refine GoOn.st (fun t_ k_ => XS.icmpYes X18.here hx rfl (pc0 := 132) (pc' := 137) rfl (hb hby at_132) rfl (teq (by decide : (2 : Int32) = (2 : Int32))).1 (by decide) (by decide) k_) ?_
    refine GoOn.st (fun t_ k_ => XS.aload X18.here hx rfl (hb hby at_137) rfl rfl k_) ?_
    refine GoOn.st (fun t_ k_ => XS.aload X18.here hx rfl (hb hby at_139) rfl rfl k_) ?_
    refine GoOn.st (fun t_ k_ => XS.iconst X18.here hx rfl (hb hby at_141)  k_) ?_
    show GoOn _ _ _ _ (T18.setTop (mkF m 142 #[.val (.int p1), .val (.int p2), .val (.int p3), .val (.long q1), .second, .val (.int (Int32.ofNat nn)), .val (.int (1 : Int32)), .val (.int (Int32.ofNat oo)), .val (.int (Int32.ofNat vn)), .val (.int ob), .val (.int (Int32.ofNat ss)), .val (.ref b2), .val (.ref bb14), .val (.ref bb18)] [(.int (0 : Int32)), (.ref bb18), (.ref bb14)]))
    refine GoOn.st (fun t_ k_ => XS.iload X18.here hx rfl (hb hby at_142) rfl k_) ?_
    refine GoOn.st (fun t_ k_ => XS.iload X18.here hx rfl (hb hby at_144) rfl k_) ?_
    refine GoOn.st (fun t_ k_ => XS.iload X18.here hx rfl (hb hby at_146) rfl k_) ?_
    show GoOn _ _ _ _ (T18.setTop (mkF m 148 #[.val (.int p1), .val (.int p2), .val (.int p3), .val (.long q1), .second, .val (.int (Int32.ofNat nn)), .val (.int (1 : Int32)), .val (.int (Int32.ofNat oo)), .val (.int (Int32.ofNat vn)), .val (.int ob), .val (.int (Int32.ofNat ss)), .val (.ref b2), .val (.ref bb14), .val (.ref bb18)] [(.int (Int32.ofNat nn)), (.int (Int32.ofNat ss)), (.int (1 : Int32)), (.int (0 : Int32)), (.ref bb18), (.ref bb14)]))
    refine GoOn.callS (W := 0) (argsL := [(.ref bb14), (.ref bb18), (.int (0 : Int32)), (.int (1 : Int32)), (.int (Int32.ofNat ss)), (.int (Int32.ofNat nn))]) (rest := []) X18 hx hZ hown (hw _ (List.mem_of_getElem? (i := 83) rfl)) (hw _ (List.mem_of_getElem? (i := 84) rfl)) (hw _ (List.mem_of_getElem? (i := 85) rfl)) (hw _ (List.mem_of_getElem? (i := 86) rfl)) (by decide) (rm_ent10 l Z a0 hw bb14 bb18 kb14 kb18 nn ss T18.heap F19 V18 (own_wrap (j := 0) (by omega) (by omega) (by omega) (by decide))) rfl (by decide) (by decide) (by rw [hml]; rfl) pd_8 rfl rfl (Nat.le_of_eq rfl) (hb hby at_148) (by decide) (by decide) ?_
    rintro _ T20 L20 X20 ⟨rfl, rfl, e20⟩
    rw [List.append_nil] at X20
    refine GoOn.st (fun t_ k_ => XS.ifNo X20.here hx rfl (hb hby at_151) rfl ((if0 _ _).trans (feq (by decide : ¬ ((1 : Int32) = (0 : Int32)))).1) k_) ?_
    refine GoOn.st (fun t_ k_ => XS.aload X20.here hx rfl (hb hby at_154) rfl rfl k_) ?_
    refine GoOn.st (fun t_ k_ => XS.aload X20.here hx rfl (hb hby at_156) rfl rfl k_) ?_
    show GoOn _ _ _ _ (T20.setTop (mkF m 158 #[.val (.int p1), .val (.int p2), .val (.int p3), .val (.long q1), .second, .val (.int (Int32.ofNat nn)), .val (.int (1 : Int32)), .val (.int (Int32.ofNat oo)), .val (.int (Int32.ofNat vn)), .val (.int ob), .val (.int (Int32.ofNat ss)), .val (.ref b2), .val (.ref bb14), .val (.ref bb18)] [(.ref bb18), (.ref bb14)]))
    refine GoOn.st (fun t_ k_ => XS.iconst X20.here hx rfl (hb hby at_158)  k_) ?_
    refine GoOn.st (fun t_ k_ => XS.iload X20.here hx rfl (hb hby at_159) rfl k_) ?_
    refine GoOn.st (fun t_ k_ => XS.iload X20.here hx rfl (hb hby at_161) rfl k_) ?_
    refine GoOn.st (fun t_ k_ => XS.iload X20.here hx rfl (hb hby at_163) rfl k_) ?_
    show GoOn _ _ _ _ (T20.setTop (mkF m 165 #[.val (.int p1), .val (.int p2), .val (.int p3), .val (.long q1), .second, .val (.int (Int32.ofNat nn)), .val (.int (1 : Int32)), .val (.int (Int32.ofNat oo)), .val (.int (Int32.ofNat vn)), .val (.int ob), .val (.int (Int32.ofNat ss)), .val (.ref b2), .val (.ref bb14), .val (.ref bb18)] [(.int (Int32.ofNat nn)), (.int (Int32.ofNat ss)), (.int (1 : Int32)), (.int (1 : Int32)), (.ref bb18), (.ref bb14)]))
    refine GoOn.callS (W := 0) (argsL := [(.ref bb14), (.ref bb18), (.int (1 : Int32)), (.int (1 : Int32)), (.int (Int32.ofNat ss)), (.int (Int32.ofNat nn))]) (rest := []) X20 hx hZ hown (hw _ (List.mem_of_getElem? (i := 83) rfl)) (hw _ (List.mem_of_getElem? (i := 84) rfl)) (hw _ (List.mem_of_getElem? (i := 85) rfl)) (hw _ (List.mem_of_getElem? (i := 86) rfl)) (by decide) (rm_ent11 l Z a0 hw bb14 bb18 kb14 kb18 nn ss T18.heap F19 V18 (own_wrap (j := 1) (by omega) (by omega) (by omega) (by decide))) e20 (by decide) (by decide) (by rw [hml]; rfl) pd_8 rfl rfl (Nat.le_of_eq rfl) (hb hby at_165) (by decide) (by decide) ?_
    rintro _ T21 L21 X21 ⟨rfl, rfl, e21⟩
    rw [List.append_nil] at X21
    refine GoOn.st (fun t_ k_ => XS.ifNo X21.here hx rfl (hb hby at_168) rfl ((if0 _ _).trans (feq (by decide : ¬ ((1 : Int32) = (0 : Int32)))).1) k_) ?_
    refine GoOn.st (fun t_ k_ => XS.aload X21.here hx rfl (hb hby at_171) rfl rfl k_) ?_
    refine GoOn.st (fun t_ k_ => XS.aload X21.here hx rfl (hb hby at_173) rfl rfl k_) ?_
    show GoOn _ _ _ _ (T21.setTop (mkF m 175 #[.val (.int p1), .val (.int p2), .val (.int p3), .val (.long q1), .second, .val (.int (Int32.ofNat nn)), .val (.int (1 : Int32)), .val (.int (Int32.ofNat oo)), .val (.int (Int32.ofNat vn)), .val (.int ob), .val (.int (Int32.ofNat ss)), .val (.ref b2), .val (.ref bb14), .val (.ref bb18)] [(.ref bb18), (.ref bb14)]))
    refine GoOn.st (fun t_ k_ => XS.iconst X21.here hx rfl (hb hby at_175)  k_) ?_
    refine GoOn.st (fun t_ k_ => XS.iload X21.here hx rfl (hb hby at_176) rfl k_) ?_
    refine GoOn.st (fun t_ k_ => XS.iload X21.here hx rfl (hb hby at_178) rfl k_) ?_
    refine GoOn.st (fun t_ k_ => XS.iload X21.here hx rfl (hb hby at_180) rfl k_) ?_
    show GoOn _ _ _ _ (T21.setTop (mkF m 182 #[.val (.int p1), .val (.int p2), .val (.int p3), .val (.long q1), .second, .val (.int (Int32.ofNat nn)), .val (.int (1 : Int32)), .val (.int (Int32.ofNat oo)), .val (.int (Int32.ofNat vn)), .val (.int ob), .val (.int (Int32.ofNat ss)), .val (.ref b2), .val (.ref bb14), .val (.ref bb18)] [(.int (Int32.ofNat nn)), (.int (Int32.ofNat ss)), (.int (1 : Int32)), (.int (2 : Int32)), (.ref bb18), (.ref bb14)]))
    refine GoOn.callS (W := 0) (argsL := [(.ref bb14), (.ref bb18), (.int (2 : Int32)), (.int (1 : Int32)), (.int (Int32.ofNat ss)), (.int (Int32.ofNat nn))]) (rest := []) X21 hx hZ hown (hw _ (List.mem_of_getElem? (i := 83) rfl)) (hw _ (List.mem_of_getElem? (i := 84) rfl)) (hw _ (List.mem_of_getElem? (i := 85) rfl)) (hw _ (List.mem_of_getElem? (i := 86) rfl)) (by decide) (rm_ent12 l Z a0 hw bb14 bb18 kb14 kb18 nn ss T18.heap) e21 (by decide) (by decide) (by rw [hml]; rfl) pd_8 rfl rfl (Nat.le_of_eq rfl) (hb hby at_182) (by decide) (by decide) ?_
    rintro _ T22 L22 X22 ⟨rfl, rfl, e22⟩
    rw [List.append_nil] at X22
    refine GoOn.st (fun t_ k_ => XS.ifNo X22.here hx rfl (hb hby at_185) rfl ((if0 _ _).trans (feq (by decide : ¬ ((1 : Int32) = (0 : Int32)))).1) k_) ?_
    refine GoOn.st (fun t_ k_ => XS.aload X22.here hx rfl (hb hby at_188) rfl rfl k_) ?_
    refine GoOn.st (fun t_ k_ => XS.aload X22.here hx rfl (hb hby at_190) rfl rfl k_) ?_
    show GoOn _ _ _ _ (T22.setTop (mkF m 192 #[.val (.int p1), .val (.int p2), .val (.int p3), .val (.long q1), .second, .val (.int (Int32.ofNat nn)), .val (.int (1 : Int32)), .val (.int (Int32.ofNat oo)), .val (.int (Int32.ofNat vn)), .val (.int ob), .val (.int (Int32.ofNat ss)), .val (.ref b2), .val (.ref bb14), .val (.ref bb18)] [(.ref bb18), (.ref bb14)]))
    refine GoOn.st (fun t_ k_ => XS.iconst X22.here hx rfl (hb hby at_192)  k_) ?_
    refine GoOn.st (fun t_ k_ => XS.iload X22.here hx rfl (hb hby at_193) rfl k_) ?_
    refine GoOn.st (fun t_ k_ => XS.iload X22.here hx rfl (hb hby at_195) rfl k_) ?_
    refine GoOn.st (fun t_ k_ => XS.iload X22.here hx rfl (hb hby at_197) rfl k_) ?_
    show GoOn _ _ _ _ (T22.setTop (mkF m 199 #[.val (.int p1), .val (.int p2), .val (.int p3), .val (.long q1), .second, .val (.int (Int32.ofNat nn)), .val (.int (1 : Int32)), .val (.int (Int32.ofNat oo)), .val (.int (Int32.ofNat vn)), .val (.int ob), .val (.int (Int32.ofNat ss)), .val (.ref b2), .val (.ref bb14), .val (.ref bb18)] [(.int (Int32.ofNat nn)), (.int (Int32.ofNat ss)), (.int (1 : Int32)), (.int (3 : Int32)), (.ref bb18), (.ref bb14)]))
    refine GoOn.callS (W := 0) (argsL := [(.ref bb14), (.ref bb18), (.int (3 : Int32)), (.int (1 : Int32)), (.int (Int32.ofNat ss)), (.int (Int32.ofNat nn))]) (rest := []) X22 hx hZ hown (hw _ (List.mem_of_getElem? (i := 83) rfl)) (hw _ (List.mem_of_getElem? (i := 84) rfl)) (hw _ (List.mem_of_getElem? (i := 85) rfl)) (hw _ (List.mem_of_getElem? (i := 86) rfl)) (by decide) (rm_ent13 l Z a0 hw bb14 bb18 kb14 kb18 nn ss T18.heap) e22 (by decide) (by decide) (by rw [hml]; rfl) pd_8 rfl rfl (Nat.le_of_eq rfl) (hb hby at_199) (by decide) (by decide) ?_
    rintro _ T23 L23 X23 ⟨rfl, rfl, e23⟩
    rw [List.append_nil] at X23
    refine GoOn.st (fun t_ k_ => XS.ifNo X23.here hx rfl (hb hby at_202) rfl ((if0 _ _).trans (feq (by decide : ¬ ((1 : Int32) = (0 : Int32)))).1) k_) ?_
    refine GoOn.st (fun t_ k_ => XS.iconst X23.here hx rfl (hb hby at_205)  k_) ?_
    refine GoOn.st (fun t_ k_ => XS.goto X23.here hx rfl (pc0 := 206) (pc' := 210) rfl (hb hby at_206) (by decide) (by decide) k_) ?_
    show GoOn _ _ _ _ (T23.setTop (mkF m 210 #[.val (.int p1), .val (.int p2), .val (.int p3), .val (.long q1), .second, .val (.int (Int32.ofNat nn)), .val (.int (1 : Int32)), .val (.int (Int32.ofNat oo)), .val (.int (Int32.ofNat vn)), .val (.int ob), .val (.int (Int32.ofNat ss)), .val (.ref b2), .val (.ref bb14), .val (.ref bb18)] [(.int (1 : Int32))]))
    exact GoOn.retZ X23 hx hlk hret (by simp) rfl (hb hby at_210) ⟨rfl, N18⟩ (by decide) (by decide)
  · skip
    show GoOn _ _ _ _ (T3.setTop (mkF m 79 #[.val (.int p1), .val (.int p2), .val (.int p3), .val (.long q1), .second, .val (.int (Int32.ofNat nn)), .val (.int (2 : Int32)), .val (.int (Int32.ofNat oo)), .val (.int (Int32.ofNat vn)), .val (.int ob), .val (.int (Int32.ofNat ss)), .val (.ref b2), .unset, .unset] []))
    refine GoOn.st (fun t_ k_ => XS.aload X3.here hx rfl (hb hby at_79) rfl rfl k_) ?_
    refine GoOn.st (fun t_ k_ => XS.iload X3.here hx rfl (hb hby at_81) rfl k_) ?_
    refine GoOn.st (fun t_ k_ => XS.iload X3.here hx rfl (hb hby at_83) rfl k_) ?_
    show GoOn _ _ _ _ (T3.setTop (mkF m 85 #[.val (.int p1), .val (.int p2), .val (.int p3), .val (.long q1), .second, .val (.int (Int32.ofNat nn)), .val (.int (2 : Int32)), .val (.int (Int32.ofNat oo)), .val (.int (Int32.ofNat vn)), .val (.int ob), .val (.int (Int32.ofNat ss)), .val (.ref b2), .unset, .unset] [(.int (Int32.ofNat ss)), (.int ob), (.ref b2)]))
    refine GoOn.callV (W := 0) (argsL := [(.int ob), (.int (Int32.ofNat ss))]) (rest := []) (a := b2) X3 hx hZ hown (hw _ (List.mem_of_getElem? (i := 77) rfl)) (hw _ (List.mem_of_getElem? (i := 78) rfl)) (notFace_of_selects (args := #[]) (mvT hZ (hw _ (List.mem_of_getElem? (i := 80) rfl)))) (hw _ (List.mem_of_getElem? (i := 80) rfl)) (hw _ (List.mem_of_getElem? (i := 79) rfl)) (hw _ (List.mem_of_getElem? (i := 7) rfl)) (hw _ (List.mem_of_getElem? (i := 81) rfl)) (by decide) (rm_dep2 l Z a0 hw b2 nn ss ob T3.heap n0 (Nat.le_trans (Nat.le_trans Z0 E2.1) K3.1) f3_2 f3_1 (own_nz (by omega) (by omega))) rfl f3_0 (by decide) (by decide) (by rw [hml]; rfl) pd_7 rfl rfl (Nat.le_of_eq rfl) (hb hby at_85) (by decide) (by decide) ?_
    rintro _ T24 L24 X24 ⟨bb24, kb24, rfl, N24q, K24, sb24, V24⟩
    have N24 := Fr.app N3 N24q
    have ne_b2_bb24 : b2 ≠ bb24 := Nat.ne_of_lt (Nat.lt_of_lt_of_le f3_0.lt sb24)
    refine GoOn.st (fun t_ k_ => XS.astore X24.here hx rfl (hb hby at_88) rfl rfl (l' := #[.val (.int p1), .val (.int p2), .val (.int p3), .val (.long q1), .second, .val (.int (Int32.ofNat nn)), .val (.int (2 : Int32)), .val (.int (Int32.ofNat oo)), .val (.int (Int32.ofNat vn)), .val (.int ob), .val (.int (Int32.ofNat ss)), .val (.ref b2), .val (.ref bb24), .unset]) rfl k_) ?_
    refine GoOn.st (fun t_ k_ => XS.aload X24.here hx rfl (hb hby at_90) rfl rfl k_) ?_
    refine GoOn.st (fun t_ k_ => XS.iload X24.here hx rfl (hb hby at_92) rfl k_) ?_
    show GoOn _ _ _ _ (T24.setTop (mkF m 94 #[.val (.int p1), .val (.int p2), .val (.int p3), .val (.long q1), .second, .val (.int (Int32.ofNat nn)), .val (.int (2 : Int32)), .val (.int (Int32.ofNat oo)), .val (.int (Int32.ofNat vn)), .val (.int ob), .val (.int (Int32.ofNat ss)), .val (.ref b2), .val (.ref bb24), .unset] [(.int ob), (.ref b2)]))
    refine GoOn.st (fun t_ k_ => XS.iconst X24.here hx rfl (hb hby at_94)  k_) ?_
    refine GoOn.st (fun t_ k_ => XS.iadd X24.here hx rfl (hb hby at_95) rfl k_) ?_
    refine GoOn.st (fun t_ k_ => XS.iload X24.here hx rfl (hb hby at_96) rfl k_) ?_
    refine GoOn.st (fun t_ k_ => iremM X24 hx rfl (hb hby at_98) rfl (own_nz (by omega) (by omega)) k_) ?_
    show GoOn _ _ _ _ (T24.setTop (mkF m 99 #[.val (.int p1), .val (.int p2), .val (.int p3), .val (.long q1), .second, .val (.int (Int32.ofNat nn)), .val (.int (2 : Int32)), .val (.int (Int32.ofNat oo)), .val (.int (Int32.ofNat vn)), .val (.int ob), .val (.int (Int32.ofNat ss)), .val (.ref b2), .val (.ref bb24), .unset] [(.int ((ob + (1 : Int32)) % (Int32.ofNat oo))), (.ref b2)]))
    refine GoOn.st (fun t_ k_ => XS.iload X24.here hx rfl (hb hby at_99) rfl k_) ?_
    show GoOn _ _ _ _ (T24.setTop (mkF m 101 #[.val (.int p1), .val (.int p2), .val (.int p3), .val (.long q1), .second, .val (.int (Int32.ofNat nn)), .val (.int (2 : Int32)), .val (.int (Int32.ofNat oo)), .val (.int (Int32.ofNat vn)), .val (.int ob), .val (.int (Int32.ofNat ss)), .val (.ref b2), .val (.ref bb24), .unset] [(.int (Int32.ofNat ss)), (.int ((ob + (1 : Int32)) % (Int32.ofNat oo))), (.ref b2)]))
    have F25 := (f3_0.keep K24)
    have F26 := (f3_2.keep K24 nin0)
    have F27 := (f3_1.keep K24 nin0)
    refine GoOn.callV (W := 0) (argsL := [(.int ((ob + (1 : Int32)) % (Int32.ofNat oo))), (.int (Int32.ofNat ss))]) (rest := []) (a := b2) X24 hx hZ hown (hw _ (List.mem_of_getElem? (i := 77) rfl)) (hw _ (List.mem_of_getElem? (i := 78) rfl)) (notFace_of_selects (args := #[]) (mvT hZ (hw _ (List.mem_of_getElem? (i := 80) rfl)))) (hw _ (List.mem_of_getElem? (i := 80) rfl)) (hw _ (List.mem_of_getElem? (i := 79) rfl)) (hw _ (List.mem_of_getElem? (i := 7) rfl)) (hw _ (List.mem_of_getElem? (i := 81) rfl)) (by decide) (rm_dep2 l Z a0 hw b2 nn ss ((ob + (1 : Int32)) % (Int32.ofNat oo)) T24.heap n0 (Nat.le_trans (Nat.le_trans (Nat.le_trans Z0 E2.1) K3.1) K24.1) F26 F27 (own_nz (by omega) (by omega))) rfl F25 (by decide) (by decide) (by rw [hml]; rfl) pd_7 rfl rfl (Nat.le_of_eq rfl) (hb hby at_101) (by decide) (by decide) ?_
    rintro _ T28 L28 X28 ⟨bb28, kb28, rfl, N28q, K28, sb28, V28⟩
    have N28 := Fr.app N24 N28q
    have ne_b2_bb28 : b2 ≠ bb28 := Nat.ne_of_lt (Nat.lt_of_lt_of_le F25.lt sb28)
    have ne_bb24_bb28 : bb24 ≠ bb28 := Nat.ne_of_lt (Nat.lt_of_lt_of_le V24.lt sb28)
    refine GoOn.st (fun t_ k_ => XS.astore X28.here hx rfl (hb hby at_104) rfl rfl (l' := #[.val (.int p1), .val (.int p2), .val (.int p3), .val (.long q1), .second, .val (.int (Int32.ofNat nn)), .val (.int (2 : Int32)), .val (.int (Int32.ofNat oo)), .val (.int (Int32.ofNat vn)), .val (.int ob), .val (.int (Int32.ofNat ss)), .val (.ref b2), .val (.ref bb24), .val (.ref bb28)]) rfl k_) ?_
    refine GoOn.st (fun t_ k_ => XS.aload X28.here hx rfl (hb hby at_106) rfl rfl k_) ?_
    refine GoOn.st (fun t_ k_ => XS.aload X28.here hx rfl (hb hby at_108) rfl rfl k_) ?_
    show GoOn _ _ _ _ (T28.setTop (mkF m 110 #[.val (.int p1), .val (.int p2), .val (.int p3), .val (.long q1), .second, .val (.int (Int32.ofNat nn)), .val (.int (2 : Int32)), .val (.int (Int32.ofNat oo)), .val (.int (Int32.ofNat vn)), .val (.int ob), .val (.int (Int32.ofNat ss)), .val (.ref b2), .val (.ref bb24), .val (.ref bb28)] [(.ref bb28), (.ref bb24)]))
    refine GoOn.st (fun t_ k_ => Jvm.RoadKit.acmp (g := (mkF m 110 #[.val (.int p1), .val (.int p2), .val (.int p3), .val (.long q1), .second, .val (.int (Int32.ofNat nn)), .val (.int (2 : Int32)), .val (.int (Int32.ofNat oo)), .val (.int (Int32.ofNat vn)), .val (.int ob), .val (.int (Int32.ofNat ss)), .val (.ref b2), .val (.ref bb24), .val (.ref bb28)] [(.ref bb28), (.ref bb24)])) X28 hx rfl rfl rfl (pc0 := 110) (pc' := 115) (same := false) rfl (hb hby at_110) rfl (decide_eq_false fun q => ne_bb24_bb28 (Value.ref.inj q)) (by decide) (by decide) k_) ?_
    refine GoOn.st (fun t_ k_ => XS.aload X28.here hx rfl (hb hby at_115) rfl rfl k_) ?_
    have F29 := (V24.keep K28 nin0)
    refine GoOn.st (fun t_ k_ => own_arrlen X28 hx hZ rfl F29 (hb hby at_117) _ k_) ?_
    refine GoOn.st (fun t_ k_ => XS.iload X28.here hx rfl (hb hby at_118) rfl k_) ?_
    show GoOn _ _ _ _ (T28.setTop (mkF m 120 #[.val (.int p1), .val (.int p2), .val (.int p3), .val (.long q1), .second, .val (.int (Int32.ofNat nn)), .val (.int (2 : Int32)), .val (.int (Int32.ofNat oo)), .val (.int (Int32.ofNat vn)), .val (.int ob), .val (.int (Int32.ofNat ss)), .val (.ref b2), .val (.ref bb24), .val (.ref bb28)] [(.int (2 : Int32)), (.int (3 : Int32))]))
    refine GoOn.st (fun t_ k_ => XS.iconst X28.here hx rfl (hb hby at_120)  k_) ?_
    refine GoOn.st (fun t_ k_ => XS.iadd X28.here hx rfl (hb hby at_121) rfl k_) ?_
    refine GoOn.st (fun t_ k_ => XS.icmpNo X28.here hx rfl (hb hby at_122) rfl (teq (by decide : (3 : Int32) = (3 : Int32))).2 k_) ?_
    refine GoOn.st (fun t_ k_ => XS.aload X28.here hx rfl (hb hby at_125) rfl rfl k_) ?_
    show GoOn _ _ _ _ (T28.setTop (mkF m 127 #[.val (.int p1), .val (.int p2), .val (.int p3), .val (.long q1), .second, .val (.int (Int32.ofNat nn)), .val (.int (2 : Int32)), .val (.int (Int32.ofNat oo)), .val (.int (Int32.ofNat vn)), .val (.int ob), .val (.int (Int32.ofNat ss)), .val (.ref b2), .val (.ref bb24), .val (.ref bb28)] [(.ref bb28)]))
    refine GoOn.st (fun t_ k_ => own_arrlen X28 hx hZ rfl V28 (hb hby at_127) _ k_) ?_
    refine GoOn.st (fun t_ k_ => XS.iload X28.here hx rfl (hb hby at_128) rfl k_) ?_
    refine GoOn.st (fun t_ k_ => XS.iconst X28.here hx rfl (hb hby at_130)  k_) ?_
    refine GoOn.st (fun t_ k_ => XS.iadd X28.here hx rfl (hb hby at_131) rfl k_) ?_
    show GoOn _ _ _ _ (T28.setTop (mkF m 132 #[.val (.int p1), .val (.int p2), .val (.int p3), .val (.long q1), .second, .val (.int (Int32.ofNat nn)), .val (.int (2 : Int32)), .val (.int (Int32.ofNat oo)), .val (.int (Int32.ofNat vn)), .val (.int ob), .val (.int (Int32.ofNat ss)), .val (.ref b2), .val (.ref bb24), .val (.ref bb28)] [(.int (3 : Int32)), (.int (3 : Int32))]))
    refine GoOn.st (fun t_ k_ => XS.icmpYes X28.here hx rfl (pc0 := 132) (pc' := 137) rfl (hb hby at_132) rfl (teq (by decide : (3 : Int32) = (3 : Int32))).1 (by decide) (by decide) k_) ?_
    refine GoOn.st (fun t_ k_ => XS.aload X28.here hx rfl (hb hby at_137) rfl rfl k_) ?_
    refine GoOn.st (fun t_ k_ => XS.aload X28.here hx rfl (hb hby at_139) rfl rfl k_) ?_
    refine GoOn.st (fun t_ k_ => XS.iconst X28.here hx rfl (hb hby at_141)  k_) ?_
    show GoOn _ _ _ _ (T28.setTop (mkF m 142 #[.val (.int p1), .val (.int p2), .val (.int p3), .val (.long q1), .second, .val (.int (Int32.ofNat nn)), .val (.int (2 : Int32)), .val (.int (Int32.ofNat oo)), .val (.int (Int32.ofNat vn)), .val (.int ob), .val (.int (Int32.ofNat ss)), .val (.ref b2), .val (.ref bb24), .val (.ref bb28)] [(.int (0 : Int32)), (.ref bb28), (.ref bb24)]))
    refine GoOn.st (fun t_ k_ => XS.iload X28.here hx rfl (hb hby at_142) rfl k_) ?_
    refine GoOn.st (fun t_ k_ => XS.iload X28.here hx rfl (hb hby at_144) rfl k_) ?_
    refine GoOn.st (fun t_ k_ => XS.iload X28.here hx rfl (hb hby at_146) rfl k_) ?_
    show GoOn _ _ _ _ (T28.setTop (mkF m 148 #[.val (.int p1), .val (.int p2), .val (.int p3), .val (.long q1), .second, .val (.int (Int32.ofNat nn)), .val (.int (2 : Int32)), .val (.int (Int32.ofNat oo)), .val (.int (Int32.ofNat vn)), .val (.int ob), .val (.int (Int32.ofNat ss)), .val (.ref b2), .val (.ref bb24), .val (.ref bb28)] [(.int (Int32.ofNat nn)), (.int (Int32.ofNat ss)), (.int (2 : Int32)), (.int (0 : Int32)), (.ref bb28), (.ref bb24)]))
    refine GoOn.callS (W := 0) (argsL := [(.ref bb24), (.ref bb28), (.int (0 : Int32)), (.int (2 : Int32)), (.int (Int32.ofNat ss)), (.int (Int32.ofNat nn))]) (rest := []) X28 hx hZ hown (hw _ (List.mem_of_getElem? (i := 83) rfl)) (hw _ (List.mem_of_getElem? (i := 84) rfl)) (hw _ (List.mem_of_getElem? (i := 85) rfl)) (hw _ (List.mem_of_getElem? (i := 86) rfl)) (by decide) (rm_ent20 l Z a0 hw bb24 bb28 kb24 kb28 nn ss T28.heap F29 V28 (own_wrap (j := 0) (by omega) (by omega) (by omega) (by decide))) rfl (by decide) (by decide) (by rw [hml]; rfl) pd_8 rfl rfl (Nat.le_of_eq rfl) (hb hby at_148) (by decide) (by decide) ?_
    rintro _ T30 L30 X30 ⟨rfl, rfl, e30⟩
    rw [List.append_nil] at X30
    refine GoOn.st (fun t_ k_ => XS.ifNo X30.here hx rfl (hb hby at_151) rfl ((if0 _ _).trans (feq (by decide : ¬ ((1 : Int32) = (0 : Int32)))).1) k_) ?_
    refine GoOn.st (fun t_ k_ => XS.aload X30.here hx rfl (hb hby at_154) rfl rfl k_) ?_
    refine GoOn.st (fun t_ k_ => XS.aload X30.here hx rfl (hb hby at_156) rfl rfl k_) ?_
    show GoOn _ _ _ _ (T30.setTop (mkF m 158 #[.val (.int p1), .val (.int p2), .val (.int p3), .val (.long q1), .second, .val (.int (Int32.ofNat nn)), .val (.int (2 : Int32)), .val (.int (Int32.ofNat oo)), .val (.int (Int32.ofNat vn)), .val (.int ob), .val (.int (Int32.ofNat ss)), .val (.ref b2), .val (.ref bb24), .val (.ref bb28)] [(.ref bb28), (.ref bb24)]))
    refine GoOn.st (fun t_ k_ => XS.iconst X30.here hx rfl (hb hby at_158)  k_) ?_
    refine GoOn.st (fun t_ k_ => XS.iload X30.here hx rfl (hb hby at_159) rfl k_) ?_
    refine GoOn.st (fun t_ k_ => XS.iload X30.here hx rfl (hb hby at_161) rfl k_) ?_
    refine GoOn.st (fun t_ k_ => XS.iload X30.here hx rfl (hb hby at_163) rfl k_) ?_
    show GoOn _ _ _ _ (T30.setTop (mkF m 165 #[.val (.int p1), .val (.int p2), .val (.int p3), .val (.long q1), .second, .val (.int (Int32.ofNat nn)), .val (.int (2 : Int32)), .val (.int (Int32.ofNat oo)), .val (.int (Int32.ofNat vn)), .val (.int ob), .val (.int (Int32.ofNat ss)), .val (.ref b2), .val (.ref bb24), .val (.ref bb28)] [(.int (Int32.ofNat nn)), (.int (Int32.ofNat ss)), (.int (2 : Int32)), (.int (1 : Int32)), (.ref bb28), (.ref bb24)]))
    refine GoOn.callS (W := 0) (argsL := [(.ref bb24), (.ref bb28), (.int (1 : Int32)), (.int (2 : Int32)), (.int (Int32.ofNat ss)), (.int (Int32.ofNat nn))]) (rest := []) X30 hx hZ hown (hw _ (List.mem_of_getElem? (i := 83) rfl)) (hw _ (List.mem_of_getElem? (i := 84) rfl)) (hw _ (List.mem_of_getElem? (i := 85) rfl)) (hw _ (List.mem_of_getElem? (i := 86) rfl)) (by decide) (rm_ent21 l Z a0 hw bb24 bb28 kb24 kb28 nn ss T28.heap F29 V28 (own_wrap (j := 1) (by omega) (by omega) (by omega) (by decide))) e30 (by decide) (by decide) (by rw [hml]; rfl) pd_8 rfl rfl (Nat.le_of_eq rfl) (hb hby at_165) (by decide) (by decide) ?_
    rintro _ T31 L31 X31 ⟨rfl, rfl, e31⟩
    rw [List.append_nil] at X31
    refine GoOn.st (fun t_ k_ => XS.ifNo X31.here hx rfl (hb hby at_168) rfl ((if0 _ _).trans (feq (by decide : ¬ ((1 : Int32) = (0 : Int32)))).1) k_) ?_
    refine GoOn.st (fun t_ k_ => XS.aload X31.here hx rfl (hb hby at_171) rfl rfl k_) ?_
    refine GoOn.st (fun t_ k_ => XS.aload X31.here hx rfl (hb hby at_173) rfl rfl k_) ?_
    show GoOn _ _ _ _ (T31.setTop (mkF m 175 #[.val (.int p1), .val (.int p2), .val (.int p3), .val (.long q1), .second, .val (.int (Int32.ofNat nn)), .val (.int (2 : Int32)), .val (.int (Int32.ofNat oo)), .val (.int (Int32.ofNat vn)), .val (.int ob), .val (.int (Int32.ofNat ss)), .val (.ref b2), .val (.ref bb24), .val (.ref bb28)] [(.ref bb28), (.ref bb24)]))
    refine GoOn.st (fun t_ k_ => XS.iconst X31.here hx rfl (hb hby at_175)  k_) ?_
    refine GoOn.st (fun t_ k_ => XS.iload X31.here hx rfl (hb hby at_176) rfl k_) ?_
    refine GoOn.st (fun t_ k_ => XS.iload X31.here hx rfl (hb hby at_178) rfl k_) ?_
    refine GoOn.st (fun t_ k_ => XS.iload X31.here hx rfl (hb hby at_180) rfl k_) ?_
    show GoOn _ _ _ _ (T31.setTop (mkF m 182 #[.val (.int p1), .val (.int p2), .val (.int p3), .val (.long q1), .second, .val (.int (Int32.ofNat nn)), .val (.int (2 : Int32)), .val (.int (Int32.ofNat oo)), .val (.int (Int32.ofNat vn)), .val (.int ob), .val (.int (Int32.ofNat ss)), .val (.ref b2), .val (.ref bb24), .val (.ref bb28)] [(.int (Int32.ofNat nn)), (.int (Int32.ofNat ss)), (.int (2 : Int32)), (.int (2 : Int32)), (.ref bb28), (.ref bb24)]))
    refine GoOn.callS (W := 0) (argsL := [(.ref bb24), (.ref bb28), (.int (2 : Int32)), (.int (2 : Int32)), (.int (Int32.ofNat ss)), (.int (Int32.ofNat nn))]) (rest := []) X31 hx hZ hown (hw _ (List.mem_of_getElem? (i := 83) rfl)) (hw _ (List.mem_of_getElem? (i := 84) rfl)) (hw _ (List.mem_of_getElem? (i := 85) rfl)) (hw _ (List.mem_of_getElem? (i := 86) rfl)) (by decide) (rm_ent22 l Z a0 hw bb24 bb28 kb24 kb28 nn ss T28.heap F29 V28 (own_wrap (j := 2) (by omega) (by omega) (by omega) (by decide))) e31 (by decide) (by decide) (by rw [hml]; rfl) pd_8 rfl rfl (Nat.le_of_eq rfl) (hb hby at_182) (by decide) (by decide) ?_
    rintro _ T32 L32 X32 ⟨rfl, rfl, e32⟩
    rw [List.append_nil] at X32
    refine GoOn.st (fun t_ k_ => XS.ifNo X32.here hx rfl (hb hby at_185) rfl ((if0 _ _).trans (feq (by decide : ¬ ((1 : Int32) = (0 : Int32)))).1) k_) ?_
    refine GoOn.st (fun t_ k_ => XS.aload X32.here hx rfl (hb hby at_188) rfl rfl k_) ?_
    refine GoOn.st (fun t_ k_ => XS.aload X32.here hx rfl (hb hby at_190) rfl rfl k_) ?_
    show GoOn _ _ _ _ (T32.setTop (mkF m 192 #[.val (.int p1), .val (.int p2), .val (.int p3), .val (.long q1), .second, .val (.int (Int32.ofNat nn)), .val (.int (2 : Int32)), .val (.int (Int32.ofNat oo)), .val (.int (Int32.ofNat vn)), .val (.int ob), .val (.int (Int32.ofNat ss)), .val (.ref b2), .val (.ref bb24), .val (.ref bb28)] [(.ref bb28), (.ref bb24)]))
    refine GoOn.st (fun t_ k_ => XS.iconst X32.here hx rfl (hb hby at_192)  k_) ?_
    refine GoOn.st (fun t_ k_ => XS.iload X32.here hx rfl (hb hby at_193) rfl k_) ?_
    refine GoOn.st (fun t_ k_ => XS.iload X32.here hx rfl (hb hby at_195) rfl k_) ?_
    refine GoOn.st (fun t_ k_ => XS.iload X32.here hx rfl (hb hby at_197) rfl k_) ?_
    show GoOn _ _ _ _ (T32.setTop (mkF m 199 #[.val (.int p1), .val (.int p2), .val (.int p3), .val (.long q1), .second, .val (.int (Int32.ofNat nn)), .val (.int (2 : Int32)), .val (.int (Int32.ofNat oo)), .val (.int (Int32.ofNat vn)), .val (.int ob), .val (.int (Int32.ofNat ss)), .val (.ref b2), .val (.ref bb24), .val (.ref bb28)] [(.int (Int32.ofNat nn)), (.int (Int32.ofNat ss)), (.int (2 : Int32)), (.int (3 : Int32)), (.ref bb28), (.ref bb24)]))
    refine GoOn.callS (W := 0) (argsL := [(.ref bb24), (.ref bb28), (.int (3 : Int32)), (.int (2 : Int32)), (.int (Int32.ofNat ss)), (.int (Int32.ofNat nn))]) (rest := []) X32 hx hZ hown (hw _ (List.mem_of_getElem? (i := 83) rfl)) (hw _ (List.mem_of_getElem? (i := 84) rfl)) (hw _ (List.mem_of_getElem? (i := 85) rfl)) (hw _ (List.mem_of_getElem? (i := 86) rfl)) (by decide) (rm_ent23 l Z a0 hw bb24 bb28 kb24 kb28 nn ss T28.heap) e32 (by decide) (by decide) (by rw [hml]; rfl) pd_8 rfl rfl (Nat.le_of_eq rfl) (hb hby at_199) (by decide) (by decide) ?_
    rintro _ T33 L33 X33 ⟨rfl, rfl, e33⟩
    rw [List.append_nil] at X33
    refine GoOn.st (fun t_ k_ => XS.ifNo X33.here hx rfl (hb hby at_202) rfl ((if0 _ _).trans (feq (by decide : ¬ ((1 : Int32) = (0 : Int32)))).1) k_) ?_
    refine GoOn.st (fun t_ k_ => XS.iconst X33.here hx rfl (hb hby at_205)  k_) ?_
    refine GoOn.st (fun t_ k_ => XS.goto X33.here hx rfl (pc0 := 206) (pc' := 210) rfl (hb hby at_206) (by decide) (by decide) k_) ?_
    show GoOn _ _ _ _ (T33.setTop (mkF m 210 #[.val (.int p1), .val (.int p2), .val (.int p3), .val (.long q1), .second, .val (.int (Int32.ofNat nn)), .val (.int (2 : Int32)), .val (.int (Int32.ofNat oo)), .val (.int (Int32.ofNat vn)), .val (.int ob), .val (.int (Int32.ofNat ss)), .val (.ref b2), .val (.ref bb24), .val (.ref bb28)] [(.int (1 : Int32))]))
    exact GoOn.retZ X33 hx hlk hret (by simp) rfl (hb hby at_210) ⟨rfl, N28⟩ (by decide) (by decide)
  · skip
    show GoOn _ _ _ _ (T3.setTop (mkF m 79 #[.val (.int p1), .val (.int p2), .val (.int p3), .val (.long q1), .second, .val (.int (Int32.ofNat nn)), .val (.int (3 : Int32)), .val (.int (Int32.ofNat oo)), .val (.int (Int32.ofNat vn)), .val (.int ob), .val (.int (Int32.ofNat ss)), .val (.ref b2), .unset, .unset] []))
    refine GoOn.st (fun t_ k_ => XS.aload X3.here hx rfl (hb hby at_79) rfl rfl k_) ?_
    refine GoOn.st (fun t_ k_ => XS.iload X3.here hx rfl (hb hby at_81) rfl k_) ?_
    refine GoOn.st (fun t_ k_ => XS.iload X3.here hx rfl (hb hby at_83) rfl k_) ?_
    show GoOn _ _ _ _ (T3.setTop (mkF m 85 #[.val (.int p1), .val (.int p2), .val (.int p3), .val (.long q1), .second, .val (.int (Int32.ofNat nn)), .val (.int (3 : Int32)), .val (.int (Int32.ofNat oo)), .val (.int (Int32.ofNat vn)), .val (.int ob), .val (.int (Int32.ofNat ss)), .val (.ref b2), .unset, .unset] [(.int (Int32.ofNat ss)), (.int ob), (.ref b2)]))
    refine GoOn.callV (W := 0) (argsL := [(.int ob), (.int (Int32.ofNat ss))]) (rest := []) (a := b2) X3 hx hZ hown (hw _ (List.mem_of_getElem? (i := 77) rfl)) (hw _ (List.mem_of_getElem? (i := 78) rfl)) (notFace_of_selects (args := #[]) (mvT hZ (hw _ (List.mem_of_getElem? (i := 80) rfl)))) (hw _ (List.mem_of_getElem? (i := 80) rfl)) (hw _ (List.mem_of_getElem? (i := 79) rfl)) (hw _ (List.mem_of_getElem? (i := 7) rfl)) (hw _ (List.mem_of_getElem? (i := 81) rfl)) (by decide) (rm_dep3 l Z a0 hw b2 nn ss ob T3.heap n0 (Nat.le_trans (Nat.le_trans Z0 E2.1) K3.1) f3_2 f3_1 (own_nz (by omega) (by omega))) rfl f3_0 (by decide) (by decide) (by rw [hml]; rfl) pd_7 rfl rfl (Nat.le_of_eq rfl) (hb hby at_85) (by decide) (by decide) ?_
    rintro _ T34 L34 X34 ⟨bb34, kb34, rfl, N34q, K34, sb34, V34⟩
    have N34 := Fr.app N3 N34q
    have ne_b2_bb34 : b2 ≠ bb34 := Nat.ne_of_lt (Nat.lt_of_lt_of_le f3_0.lt sb34)
    refine GoOn.st (fun t_ k_ => XS.astore X34.here hx rfl (hb hby at_88) rfl rfl (l' := #[.val (.int p1), .val (.int p2), .val (.int p3), .val (.long q1), .second, .val (.int (Int32.ofNat nn)), .val (.int (3 : Int32)), .val (.int (Int32.ofNat oo)), .val (.int (Int32.ofNat vn)), .val (.int ob), .val (.int (Int32.ofNat ss)), .val (.ref b2), .val (.ref bb34), .unset]) rfl k_) ?_
    refine GoOn.st (fun t_ k_ => XS.aload X34.here hx rfl (hb hby at_90) rfl rfl k_) ?_
    refine GoOn.st (fun t_ k_ => XS.iload X34.here hx rfl (hb hby at_92) rfl k_) ?_
    show GoOn _ _ _ _ (T34.setTop (mkF m 94 #[.val (.int p1), .val (.int p2), .val (.int p3), .val (.long q1), .second, .val (.int (Int32.ofNat nn)), .val (.int (3 : Int32)), .val (.int (Int32.ofNat oo)), .val (.int (Int32.ofNat vn)), .val (.int ob), .val (.int (Int32.ofNat ss)), .val (.ref b2), .val (.ref bb34), .unset] [(.int ob), (.ref b2)]))
    refine GoOn.st (fun t_ k_ => XS.iconst X34.here hx rfl (hb hby at_94)  k_) ?_
    refine GoOn.st (fun t_ k_ => XS.iadd X34.here hx rfl (hb hby at_95) rfl k_) ?_
    refine GoOn.st (fun t_ k_ => XS.iload X34.here hx rfl (hb hby at_96) rfl k_) ?_
    refine GoOn.st (fun t_ k_ => iremM X34 hx rfl (hb hby at_98) rfl (own_nz (by omega) (by omega)) k_) ?_
    show GoOn _ _ _ _ (T34.setTop (mkF m 99 #[.val (.int p1), .val (.int p2), .val (.int p3), .val (.long q1), .second, .val (.int (Int32.ofNat nn)), .val (.int (3 : Int32)), .val (.int (Int32.ofNat oo)), .val (.int (Int32.ofNat vn)), .val (.int ob), .val (.int (Int32.ofNat ss)), .val (.ref b2), .val (.ref bb34), .unset] [(.int ((ob + (1 : Int32)) % (Int32.ofNat oo))), (.ref b2)]))
    refine GoOn.st (fun t_ k_ => XS.iload X34.here hx rfl (hb hby at_99) rfl k_) ?_
    show GoOn _ _ _ _ (T34.setTop (mkF m 101 #[.val (.int p1), .val (.int p2), .val (.int p3), .val (.long q1), .second, .val (.int (Int32.ofNat nn)), .val (.int (3 : Int32)), .val (.int (Int32.ofNat oo)), .val (.int (Int32.ofNat vn)), .val (.int ob), .val (.int (Int32.ofNat ss)), .val (.ref b2), .val (.ref bb34), .unset] [(.int (Int32.ofNat ss)), (.int ((ob + (1 : Int32)) % (Int32.ofNat oo))), (.ref b2)]))
    have F35 := (f3_0.keep K34)
    have F36 := (f3_2.keep K34 nin0)
    have F37 := (f3_1.keep K34 nin0)
    refine GoOn.callV (W := 0) (argsL := [(.int ((ob + (1 : Int32)) % (Int32.ofNat oo))), (.int (Int32.ofNat ss))]) (rest := []) (a := b2) X34 hx hZ hown (hw _ (List.mem_of_getElem? (i := 77) rfl)) (hw _ (List.mem_of_getElem? (i := 78) rfl)) (notFace_of_selects (args := #[]) (mvT hZ (hw _ (List.mem_of_getElem? (i := 80) rfl)))) (hw _ (List.mem_of_getElem? (i := 80) rfl)) (hw _ (List.mem_of_getElem? (i := 79) rfl)) (hw _ (List.mem_of_getElem? (i := 7) rfl)) (hw _ (List.mem_of_getElem? (i := 81) rfl)) (by decide) (rm_dep3 l Z a0 hw b2 nn ss ((ob + (1 : Int32)) % (Int32.ofNat oo)) T34.heap n0 (Nat.le_trans (Nat.le_trans (Nat.le_trans Z0 E2.1) K3.1) K34.1) F36 F37 (own_nz (by omega) (by omega))) rfl F35 (by decide) (by decide) (by rw [hml]; rfl) pd_7 rfl rfl (Nat.le_of_eq rfl) (hb hby at_101) (by decide) (by decide) ?_
    rintro _ T38 L38 X38 ⟨bb38, kb38, rfl, N38q, K38, sb38, V38⟩
    have N38 := Fr.app N34 N38q
    have ne_b2_bb38 : b2 ≠ bb38 := Nat.ne_of_lt (Nat.lt_of_lt_of_le F35.lt sb38)
    have ne_bb34_bb38 : bb34 ≠ bb38 := Nat.ne_of_lt (Nat.lt_of_lt_of_le V34.lt sb38)
    refine GoOn.st (fun t_ k_ => XS.astore X38.here hx rfl (hb hby at_104) rfl rfl (l' := #[.val (.int p1), .val (.int p2), .val (.int p3), .val (.long q1), .second, .val (.int (Int32.ofNat nn)), .val (.int (3 : Int32)), .val (.int (Int32.ofNat oo)), .val (.int (Int32.ofNat vn)), .val (.int ob), .val (.int (Int32.ofNat ss)), .val (.ref b2), .val (.ref bb34), .val (.ref bb38)]) rfl k_) ?_
    refine GoOn.st (fun t_ k_ => XS.aload X38.here hx rfl (hb hby at_106) rfl rfl k_) ?_
    refine GoOn.st (fun t_ k_ => XS.aload X38.here hx rfl (hb hby at_108) rfl rfl k_) ?_
    show GoOn _ _ _ _ (T38.setTop (mkF m 110 #[.val (.int p1), .val (.int p2), .val (.int p3), .val (.long q1), .second, .val (.int (Int32.ofNat nn)), .val (.int (3 : Int32)), .val (.int (Int32.ofNat oo)), .val (.int (Int32.ofNat vn)), .val (.int ob), .val (.int (Int32.ofNat ss)), .val (.ref b2), .val (.ref bb34), .val (.ref bb38)] [(.ref bb38), (.ref bb34)]))
    refine GoOn.st (fun t_ k_ => Jvm.RoadKit.acmp (g := (mkF m 110 #[.val (.int p1), .val (.int p2), .val (.int p3), .val (.long q1), .second, .val (.int (Int32.ofNat nn)), .val (.int (3 : Int32)), .val (.int (Int32.ofNat oo)), .val (.int (Int32.ofNat vn)), .val (.int ob), .val (.int (Int32.ofNat ss)), .val (.ref b2), .val (.ref bb34), .val (.ref bb38)] [(.ref bb38), (.ref bb34)])) X38 hx rfl rfl rfl (pc0 := 110) (pc' := 115) (same := false) rfl (hb hby at_110) rfl (decide_eq_false fun q => ne_bb34_bb38 (Value.ref.inj q)) (by decide) (by decide) k_) ?_
    refine GoOn.st (fun t_ k_ => XS.aload X38.here hx rfl (hb hby at_115) rfl rfl k_) ?_
    have F39 := (V34.keep K38 nin0)
    refine GoOn.st (fun t_ k_ => own_arrlen X38 hx hZ rfl F39 (hb hby at_117) _ k_) ?_
    refine GoOn.st (fun t_ k_ => XS.iload X38.here hx rfl (hb hby at_118) rfl k_) ?_
    show GoOn _ _ _ _ (T38.setTop (mkF m 120 #[.val (.int p1), .val (.int p2), .val (.int p3), .val (.long q1), .second, .val (.int (Int32.ofNat nn)), .val (.int (3 : Int32)), .val (.int (Int32.ofNat oo)), .val (.int (Int32.ofNat vn)), .val (.int ob), .val (.int (Int32.ofNat ss)), .val (.ref b2), .val (.ref bb34), .val (.ref bb38)] [(.int (3 : Int32)), (.int (4 : Int32))]))
    refine GoOn.st (fun t_ k_ => XS.iconst X38.here hx rfl (hb hby at_120)  k_) ?_
    refine GoOn.st (fun t_ k_ => XS.iadd X38.here hx rfl (hb hby at_121) rfl k_) ?_
    refine GoOn.st (fun t_ k_ => XS.icmpNo X38.here hx rfl (hb hby at_122) rfl (teq (by decide : (4 : Int32) = (4 : Int32))).2 k_) ?_
    refine GoOn.st (fun t_ k_ => XS.aload X38.here hx rfl (hb hby at_125) rfl rfl k_) ?_
    show GoOn _ _ _ _ (T38.setTop (mkF m 127 #[.val (.int p1), .val (.int p2), .val (.int p3), .val (.long q1), .second, .val (.int (Int32.ofNat nn)), .val (.int (3 : Int32)), .val (.int (Int32.ofNat oo)), .val (.int (Int32.ofNat vn)), .val (.int ob), .val (.int (Int32.ofNat ss)), .val (.ref b2), .val (.ref bb34), .val (.ref bb38)] [(.ref bb38)]))
    refine GoOn.st (fun t_ k_ => own_arrlen X38 hx hZ rfl V38 (hb hby at_127) _ k_) ?_
    refine GoOn.st (fun t_ k_ => XS.iload X38.here hx rfl (hb hby at_128) rfl k_) ?_
    refine GoOn.st (fun t_ k_ => XS.iconst X38.here hx rfl (hb hby at_130)  k_) ?_
    refine GoOn.st (fun t_ k_ => XS.iadd X38.here hx rfl (hb hby at_131) rfl k_) ?_
    show GoOn _ _ _ _ (T38.setTop (mkF m 132 #[.val (.int p1), .val (.int p2), .val (.int p3), .val (.long q1), .second, .val (.int (Int32.ofNat nn)), .val (.int (3 : Int32)), .val (.int (Int32.ofNat oo)), .val (.int (Int32.ofNat vn)), .val (.int ob), .val (.int (Int32.ofNat ss)), .val (.ref b2), .val (.ref bb34), .val (.ref bb38)] [(.int (4 : Int32)), (.int (4 : Int32))]))
    refine GoOn.st (fun t_ k_ => XS.icmpYes X38.here hx rfl (pc0 := 132) (pc' := 137) rfl (hb hby at_132) rfl (teq (by decide : (4 : Int32) = (4 : Int32))).1 (by decide) (by decide) k_) ?_
    refine GoOn.st (fun t_ k_ => XS.aload X38.here hx rfl (hb hby at_137) rfl rfl k_) ?_
    refine GoOn.st (fun t_ k_ => XS.aload X38.here hx rfl (hb hby at_139) rfl rfl k_) ?_
    refine GoOn.st (fun t_ k_ => XS.iconst X38.here hx rfl (hb hby at_141)  k_) ?_
    show GoOn _ _ _ _ (T38.setTop (mkF m 142 #[.val (.int p1), .val (.int p2), .val (.int p3), .val (.long q1), .second, .val (.int (Int32.ofNat nn)), .val (.int (3 : Int32)), .val (.int (Int32.ofNat oo)), .val (.int (Int32.ofNat vn)), .val (.int ob), .val (.int (Int32.ofNat ss)), .val (.ref b2), .val (.ref bb34), .val (.ref bb38)] [(.int (0 : Int32)), (.ref bb38), (.ref bb34)]))
    refine GoOn.st (fun t_ k_ => XS.iload X38.here hx rfl (hb hby at_142) rfl k_) ?_
    refine GoOn.st (fun t_ k_ => XS.iload X38.here hx rfl (hb hby at_144) rfl k_) ?_
    refine GoOn.st (fun t_ k_ => XS.iload X38.here hx rfl (hb hby at_146) rfl k_) ?_
    show GoOn _ _ _ _ (T38.setTop (mkF m 148 #[.val (.int p1), .val (.int p2), .val (.int p3), .val (.long q1), .second, .val (.int (Int32.ofNat nn)), .val (.int (3 : Int32)), .val (.int (Int32.ofNat oo)), .val (.int (Int32.ofNat vn)), .val (.int ob), .val (.int (Int32.ofNat ss)), .val (.ref b2), .val (.ref bb34), .val (.ref bb38)] [(.int (Int32.ofNat nn)), (.int (Int32.ofNat ss)), (.int (3 : Int32)), (.int (0 : Int32)), (.ref bb38), (.ref bb34)]))
    refine GoOn.callS (W := 0) (argsL := [(.ref bb34), (.ref bb38), (.int (0 : Int32)), (.int (3 : Int32)), (.int (Int32.ofNat ss)), (.int (Int32.ofNat nn))]) (rest := []) X38 hx hZ hown (hw _ (List.mem_of_getElem? (i := 83) rfl)) (hw _ (List.mem_of_getElem? (i := 84) rfl)) (hw _ (List.mem_of_getElem? (i := 85) rfl)) (hw _ (List.mem_of_getElem? (i := 86) rfl)) (by decide) (rm_ent30 l Z a0 hw bb34 bb38 kb34 kb38 nn ss T38.heap F39 V38 (own_wrap (j := 0) (by omega) (by omega) (by omega) (by decide))) rfl (by decide) (by decide) (by rw [hml]; rfl) pd_8 rfl rfl (Nat.le_of_eq rfl) (hb hby at_148) (by decide) (by decide) ?_
    rintro _ T40 L40 X40 ⟨rfl, rfl, e40⟩
    rw [List.append_nil] at X40
    refine GoOn.st (fun t_ k_ => XS.ifNo X40.here hx rfl (hb hby at_151) rfl ((if0 _ _).trans (feq (by decide : ¬ ((1 : Int32) = (0 : Int32)))).1) k_) ?_
    refine GoOn.st (fun t_ k_ => XS.aload X40.here hx rfl (hb hby at_154) rfl rfl k_) ?_
    refine GoOn.st (fun t_ k_ => XS.aload X40.here hx rfl (hb hby at_156) rfl rfl k_) ?_
    show GoOn _ _ _ _ (T40.setTop (mkF m 158 #[.val (.int p1), .val (.int p2), .val (.int p3), .val (.long q1), .second, .val (.int (Int32.ofNat nn)), .val (.int (3 : Int32)), .val (.int (Int32.ofNat oo)), .val (.int (Int32.ofNat vn)), .val (.int ob), .val (.int (Int32.ofNat ss)), .val (.ref b2), .val (.ref bb34), .val (.ref bb38)] [(.ref bb38), (.ref bb34)]))
    refine GoOn.st (fun t_ k_ => XS.iconst X40.here hx rfl (hb hby at_158)  k_) ?_
    refine GoOn.st (fun t_ k_ => XS.iload X40.here hx rfl (hb hby at_159) rfl k_) ?_
    refine GoOn.st (fun t_ k_ => XS.iload X40.here hx rfl (hb hby at_161) rfl k_) ?_
    refine GoOn.st (fun t_ k_ => XS.iload X40.here hx rfl (hb hby at_163) rfl k_) ?_
    show GoOn _ _ _ _ (T40.setTop (mkF m 165 #[.val (.int p1), .val (.int p2), .val (.int p3), .val (.long q1), .second, .val (.int (Int32.ofNat nn)), .val (.int (3 : Int32)), .val (.int (Int32.ofNat oo)), .val (.int (Int32.ofNat vn)), .val (.int ob), .val (.int (Int32.ofNat ss)), .val (.ref b2), .val (.ref bb34), .val (.ref bb38)] [(.int (Int32.ofNat nn)), (.int (Int32.ofNat ss)), (.int (3 : Int32)), (.int (1 : Int32)), (.ref bb38), (.ref bb34)]))
    refine GoOn.callS (W := 0) (argsL := [(.ref bb34), (.ref bb38), (.int (1 : Int32)), (.int (3 : Int32)), (.int (Int32.ofNat ss)), (.int (Int32.ofNat nn))]) (rest := []) X40 hx hZ hown (hw _ (List.mem_of_getElem? (i := 83) rfl)) (hw _ (List.mem_of_getElem? (i := 84) rfl)) (hw _ (List.mem_of_getElem? (i := 85) rfl)) (hw _ (List.mem_of_getElem? (i := 86) rfl)) (by decide) (rm_ent31 l Z a0 hw bb34 bb38 kb34 kb38 nn ss T38.heap F39 V38 (own_wrap (j := 1) (by omega) (by omega) (by omega) (by decide))) e40 (by decide) (by decide) (by rw [hml]; rfl) pd_8 rfl rfl (Nat.le_of_eq rfl) (hb hby at_165) (by decide) (by decide) ?_
    rintro _ T41 L41 X41 ⟨rfl, rfl, e41⟩
    rw [List.append_nil] at X41
    refine GoOn.st (fun t_ k_ => XS.ifNo X41.here hx rfl (hb hby at_168) rfl ((if0 _ _).trans (feq (by decide : ¬ ((1 : Int32) = (0 : Int32)))).1) k_) ?_
    refine GoOn.st (fun t_ k_ => XS.aload X41.here hx rfl (hb hby at_171) rfl rfl k_) ?_
    refine GoOn.st (fun t_ k_ => XS.aload X41.here hx rfl (hb hby at_173) rfl rfl k_) ?_
    show GoOn _ _ _ _ (T41.setTop (mkF m 175 #[.val (.int p1), .val (.int p2), .val (.int p3), .val (.long q1), .second, .val (.int (Int32.ofNat nn)), .val (.int (3 : Int32)), .val (.int (Int32.ofNat oo)), .val (.int (Int32.ofNat vn)), .val (.int ob), .val (.int (Int32.ofNat ss)), .val (.ref b2), .val (.ref bb34), .val (.ref bb38)] [(.ref bb38), (.ref bb34)]))
    refine GoOn.st (fun t_ k_ => XS.iconst X41.here hx rfl (hb hby at_175)  k_) ?_
    refine GoOn.st (fun t_ k_ => XS.iload X41.here hx rfl (hb hby at_176) rfl k_) ?_
    refine GoOn.st (fun t_ k_ => XS.iload X41.here hx rfl (hb hby at_178) rfl k_) ?_
    refine GoOn.st (fun t_ k_ => XS.iload X41.here hx rfl (hb hby at_180) rfl k_) ?_
    show GoOn _ _ _ _ (T41.setTop (mkF m 182 #[.val (.int p1), .val (.int p2), .val (.int p3), .val (.long q1), .second, .val (.int (Int32.ofNat nn)), .val (.int (3 : Int32)), .val (.int (Int32.ofNat oo)), .val (.int (Int32.ofNat vn)), .val (.int ob), .val (.int (Int32.ofNat ss)), .val (.ref b2), .val (.ref bb34), .val (.ref bb38)] [(.int (Int32.ofNat nn)), (.int (Int32.ofNat ss)), (.int (3 : Int32)), (.int (2 : Int32)), (.ref bb38), (.ref bb34)]))
    refine GoOn.callS (W := 0) (argsL := [(.ref bb34), (.ref bb38), (.int (2 : Int32)), (.int (3 : Int32)), (.int (Int32.ofNat ss)), (.int (Int32.ofNat nn))]) (rest := []) X41 hx hZ hown (hw _ (List.mem_of_getElem? (i := 83) rfl)) (hw _ (List.mem_of_getElem? (i := 84) rfl)) (hw _ (List.mem_of_getElem? (i := 85) rfl)) (hw _ (List.mem_of_getElem? (i := 86) rfl)) (by decide) (rm_ent32 l Z a0 hw bb34 bb38 kb34 kb38 nn ss T38.heap F39 V38 (own_wrap (j := 2) (by omega) (by omega) (by omega) (by decide))) e41 (by decide) (by decide) (by rw [hml]; rfl) pd_8 rfl rfl (Nat.le_of_eq rfl) (hb hby at_182) (by decide) (by decide) ?_
    rintro _ T42 L42 X42 ⟨rfl, rfl, e42⟩
    rw [List.append_nil] at X42
    refine GoOn.st (fun t_ k_ => XS.ifNo X42.here hx rfl (hb hby at_185) rfl ((if0 _ _).trans (feq (by decide : ¬ ((1 : Int32) = (0 : Int32)))).1) k_) ?_
    refine GoOn.st (fun t_ k_ => XS.aload X42.here hx rfl (hb hby at_188) rfl rfl k_) ?_
    refine GoOn.st (fun t_ k_ => XS.aload X42.here hx rfl (hb hby at_190) rfl rfl k_) ?_
    show GoOn _ _ _ _ (T42.setTop (mkF m 192 #[.val (.int p1), .val (.int p2), .val (.int p3), .val (.long q1), .second, .val (.int (Int32.ofNat nn)), .val (.int (3 : Int32)), .val (.int (Int32.ofNat oo)), .val (.int (Int32.ofNat vn)), .val (.int ob), .val (.int (Int32.ofNat ss)), .val (.ref b2), .val (.ref bb34), .val (.ref bb38)] [(.ref bb38), (.ref bb34)]))
    refine GoOn.st (fun t_ k_ => XS.iconst X42.here hx rfl (hb hby at_192)  k_) ?_
    refine GoOn.st (fun t_ k_ => XS.iload X42.here hx rfl (hb hby at_193) rfl k_) ?_
    refine GoOn.st (fun t_ k_ => XS.iload X42.here hx rfl (hb hby at_195) rfl k_) ?_
    refine GoOn.st (fun t_ k_ => XS.iload X42.here hx rfl (hb hby at_197) rfl k_) ?_
    show GoOn _ _ _ _ (T42.setTop (mkF m 199 #[.val (.int p1), .val (.int p2), .val (.int p3), .val (.long q1), .second, .val (.int (Int32.ofNat nn)), .val (.int (3 : Int32)), .val (.int (Int32.ofNat oo)), .val (.int (Int32.ofNat vn)), .val (.int ob), .val (.int (Int32.ofNat ss)), .val (.ref b2), .val (.ref bb34), .val (.ref bb38)] [(.int (Int32.ofNat nn)), (.int (Int32.ofNat ss)), (.int (3 : Int32)), (.int (3 : Int32)), (.ref bb38), (.ref bb34)]))
    refine GoOn.callS (W := 0) (argsL := [(.ref bb34), (.ref bb38), (.int (3 : Int32)), (.int (3 : Int32)), (.int (Int32.ofNat ss)), (.int (Int32.ofNat nn))]) (rest := []) X42 hx hZ hown (hw _ (List.mem_of_getElem? (i := 83) rfl)) (hw _ (List.mem_of_getElem? (i := 84) rfl)) (hw _ (List.mem_of_getElem? (i := 85) rfl)) (hw _ (List.mem_of_getElem? (i := 86) rfl)) (by decide) (rm_ent33 l Z a0 hw bb34 bb38 kb34 kb38 nn ss T38.heap F39 V38 (own_wrap (j := 3) (by omega) (by omega) (by omega) (by decide))) e42 (by decide) (by decide) (by rw [hml]; rfl) pd_8 rfl rfl (Nat.le_of_eq rfl) (hb hby at_199) (by decide) (by decide) ?_
    rintro _ T43 L43 X43 ⟨rfl, rfl, e43⟩
    rw [List.append_nil] at X43
    refine GoOn.st (fun t_ k_ => XS.ifNo X43.here hx rfl (hb hby at_202) rfl ((if0 _ _).trans (feq (by decide : ¬ ((1 : Int32) = (0 : Int32)))).1) k_) ?_
    refine GoOn.st (fun t_ k_ => XS.iconst X43.here hx rfl (hb hby at_205)  k_) ?_
    refine GoOn.st (fun t_ k_ => XS.goto X43.here hx rfl (pc0 := 206) (pc' := 210) rfl (hb hby at_206) (by decide) (by decide) k_) ?_
    show GoOn _ _ _ _ (T43.setTop (mkF m 210 #[.val (.int p1), .val (.int p2), .val (.int p3), .val (.long q1), .second, .val (.int (Int32.ofNat nn)), .val (.int (3 : Int32)), .val (.int (Int32.ofNat oo)), .val (.int (Int32.ofNat vn)), .val (.int ob), .val (.int (Int32.ofNat ss)), .val (.ref b2), .val (.ref bb34), .val (.ref bb38)] [(.int (1 : Int32))]))
    exact GoOn.retZ X43 hx hlk hret (by simp) rfl (hb hby at_210) ⟨rfl, N38⟩ (by decide) (by decide)
set_option maxRecDepth 65536 in
set_option maxHeartbeats 40000000 in
theorem comes_1 {Post : Tables → Env → Array Value → State → Outcome → State → Prop} (hpost : ∀ tb e args s v u, (limb_1_1.after args s (.returned v) u = true ∧ limb_1_2.after args s (.returned v) u = true ∧ True) → FrameEnd s (.returned v) u (Jvm.fieldLocs frame_1_writes args s ++ Jvm.arrayLocs frame_1_arrays args s ++ Jvm.staticLocs frame_1_statics s) 24 896 → Post tb e args s (.returned v) u) :
    ArmFor flags0 classFile x code maxLocals ret World_1 tables_1 room_1 Calls_1 rest_1 Pre_1 Post := by
  intro l hfl _ _ p e ha hc hk s m args below hf hA hF happ hP
  obtain ⟨hcalls, hrest, hpre⟩ := hP
  obtain ⟨-, -, -, hnamed, -, -, -, hat⟩ := (Spec.applies_iff hf).mp happ
  obtain ⟨hg, hn⟩ := and_e (Cond.before_iff.mp (show (Jvm.Cond.and given_1 narrow_1).before args s = true from hpre))
  obtain ⟨hcount, hk0⟩ := and_e hg
  obtain ⟨ha0, hk1⟩ := and_e hk0
  obtain ⟨ha1, hk2⟩ := and_e hk1
  obtain ⟨ha2, hk3⟩ := and_e hk2
  obtain ⟨w0, w1, w2, w3, rfl⟩ : ∃ w0 w1 w2 w3 : Value, args = #[w0, w1, w2, w3] := by
    have hs : args.size = 4 := by simpa [Cond.value, given_1] using hcount
    obtain ⟨L⟩ := args
    match L, hs with
    | [w0, w1, w2, w3], _ => exact ⟨w0, w1, w2, w3, rfl⟩
  have hw := fun d (hd : d ∈ tables_1) => atoms_spec (ws := Jvm.Cond.code x code maxLocals ret :: tables_1) hat d (List.mem_cons_of_mem _ hd)
  have hfit : Fit s := fun {y c} hc i hi => by
    obtain ⟨ha, rfl⟩ := Array.getElem?_eq_some_iff.mp hc
    have q := List.all_eq_true.mp ((Array.all_eq_true_iff_forall_mem.mp hF) _ (Array.getElem_mem ha)) i (List.mem_range.mpr hi)
    simpa [Array.getElem?_eq_getElem hi] using q
  obtain ⟨i0, ei0⟩ := is_v ha0
  obtain rfl : w0 = (.int i0) := Option.some.inj ei0
  obtain ⟨i1, ei1⟩ := is_v ha1
  obtain rfl : w1 = (.int i1) := Option.some.inj ei1
  obtain ⟨i2, ei2⟩ := is_v ha2
  obtain rfl : w2 = (.int i2) := Option.some.inj ei2
  obtain ⟨i3, ei3⟩ := isL_v hk3
  obtain rfl : w3 = (.long i3) := Option.some.inj ei3
  obtain ⟨n, o, h1, h2, h3, _, L, rfl, ⟨rfl, N⟩, hq⟩ := rm_law l s _ hw tables_1 i0 i1 i2 i3 s.heap s.heap.size (Nat.le_refl _) p e ha hc hk s m _ below hf ((Spec.applies_iff_loose hf).mp happ).1 ⟨rfl, State.Warmed39.refl s, rfl⟩ trivial
  refine ⟨n, _, h1, h2, h3, hpost _ _ _ _ _ _ ⟨Cond.after_iff.mpr rfl, Cond.after_iff.mpr (eq_i res_at (Term.int_eval (1)) rfl), trivial⟩ ⟨hq.1, hq.2.1, (hq.2.2.sift fun y hy => Or.inr (N y hy)).mono (by decide) (by decide)⟩⟩
theorem main_1_1 : Claimed_1_1 := comes_1 fun _ _ _ _ _ _ h hF => ⟨h.1, hF⟩
theorem main_1_2 : Claimed_1_2 := comes_1 fun _ _ _ _ _ _ h hF => ⟨h.2.1, hF⟩
end Jvm.Pilot.@@N@@
namespace Jvm.Pilot.@@N@@
open Jvm Jvm.ClassFile Sem Op Lib Jvm.Free Jvm.Stand Jvm.Pilot.@@N@@.Jvm.D
/-! MADE BY PROGRAM (witnessworld.py) out of the Statement's table words and the real class files: 20 classes; the members and pool entries that the words name. The judged class is class 1, her method 1. -/
namespace start1
open Jvm.ClassFile
def u (s : String) : CpInfo := .utf8 (stringToUtf16 s)
/-- a pool by its gaps: so many unusable entries, then the entry; so many at the end -/
def gap : Nat → List CpInfo → List CpInfo
  | 0, r => r
  | n + 1, r => .unusable :: gap n r
def poolList (es : List (Nat × CpInfo)) (last : Nat) : List CpInfo := es.foldr (fun e r => gap e.1 (e.2 :: r)) (gap last [])
def pool (es : List (Nat × CpInfo)) (last : Nat) : Array CpInfo := ⟨poolList es last⟩
def fileOf (pool : Array CpInfo) (this : Nat) (attrs : Array Attribute := #[]) (ms : Array MethodInfo := #[]) (fl : Nat := 33) (sup : Nat := 0) (ifs : Array Nat := #[]) (fds : Array FieldInfo := #[]) : ClassFile where
  minorVersion := 0
  majorVersion := 65
  constantPool := pool
  accessFlags := fl
  thisClass := this
  superClass := sup
  interfaces := ifs
  fields := fds
  methods := ms
  attributes := attrs
def plain (name : String) (sup : Option ClassId) : Class where
  name := name
  kind := .ordinary
  loader := none
  accessFlags := 33
  super := sup
  interfaces := #[]
  cf := none
  fields := #[]
  methods := #[]
  instanceTypes := #[]
  staticTypes := #[]
  resolved := #[]
  callSites := []
  init := .initialized
  statics := none
  mirror := none

def pool0 : Array CpInfo := pool [(5, u "<init>"), (0, u "()V"), (1, .class_ 10), (1, u "java/lang/Object")] 113

def k0c0 : Code := { maxStack := 0, maxLocals := 1, code := object_method_1_code, exceptionTable := #[], attributes := #[] }
def k0m0 : Method := { name := "<init>", desc := "()V", sig := { parameters := [], returnType := none }, accessFlags := 1, code := some k0c0 }
/-- java/lang/Object -/
def k0 : Class := { plain "java/lang/Object" none with
  accessFlags := 33
  interfaces := #[]
  cf := some (fileOf pool0 8 #[] #[{ accessFlags := 1, nameIndex := 5, descriptorIndex := 6, attributes := #[] }] 33 0 #[] #[])
  fields := #[]
  methods := #[k0m0]
  instanceTypes := #[]
  staticTypes := #[]
  resolved := Array.replicate 124 none
  statics := none }

def pool1 : Array CpInfo := pool [(2, .class_ 4), (1, u "java/lang/Object"), (0, u "<init>"), (0, u "()V"), (0, .methodref 8 9), (0, .class_ 10), (0, .nameAndType 11 12), (0, u "java/lang/Math"), (0, u "min"), (0, u "(II)I"), (0, .integer 2147483647), (0, .class_ 15), (0, u "com/example/frontwise/frontwise/problem/Mnk"), (0, .methodref 14 17), (0, .nameAndType 5 18), (0, u "(IIIIJ)V"), (0, .methodref 14 20), (0, .nameAndType 21 22), (0, u "dependencies"), (0, u "(II)[I"), (0, .methodref 24 25), (0, .class_ 26), (0, .nameAndType 27 28), (0, u "com/example/frontwise/frontwise/problem/MnkDependenciesPinLaw"), (0, u "entry"), (0, u "([I[IIIII)Z"), (2, u "law"), (0, u "(IIIJ)Z")] 5

def k1m0 : Method := { name := "<init>", desc := "()V", sig := { parameters := [], returnType := none }, accessFlags := 1, code := none }
def k1c1 : Code := { maxStack := 8, maxLocals := 14, code := code, exceptionTable := #[], attributes := #[] }
def k1m1 : Method := { name := "law", desc := "(IIIJ)Z", sig := { parameters := [.int, .int, .int, .long], returnType := some .boolean }, accessFlags := 9, code := some k1c1 }
def k1c2 : Code := { maxStack := 2, maxLocals := 7, code := method_3_code, exceptionTable := #[], attributes := #[] }
def k1m2 : Method := { name := "entry", desc := "([I[IIIII)Z", sig := { parameters := [(.array .int), (.array .int), .int, .int, .int, .int], returnType := some .boolean }, accessFlags := 10, code := some k1c2 }
/-- com/example/frontwise/frontwise/problem/MnkDependenciesPinLaw -/
def k1 : Class := { plain "com/example/frontwise/frontwise/problem/MnkDependenciesPinLaw" (some 0) with
  accessFlags := 49
  interfaces := #[]
  cf := some (fileOf pool1 24 #[] #[{ accessFlags := 1, nameIndex := 5, descriptorIndex := 6, attributes := #[] }, { accessFlags := 9, nameIndex := 31, descriptorIndex := 32, attributes := #[] }, { accessFlags := 10, nameIndex := 27, descriptorIndex := 28, attributes := #[] }] 49 2 #[] #[])
  fields := #[]
  methods := #[k1m0, k1m1, k1m2]
  instanceTypes := #[]
  staticTypes := #[]
  resolved := Array.replicate 38 none
  statics := none }

def pool2 : Array CpInfo := pool [(1, .class_ 2), (0, u "java/lang/Math"), (1, .class_ 6), (1, u "java/lang/Object"), (0, u "<init>"), (0, u "()V"), (89, .class_ 100), (1, u "java/lang/Math$RandomNumberGeneratorHolder"), (71, u "negativeZeroFloatBits"), (0, u "J"), (2, u "negativeZeroDoubleBits"), (24, u "min"), (43, u "$assertionsDisabled"), (0, u "Z"), (88, u "(II)I"), (2, u "twoToTheDoubleScaleDown"), (0, u "D"), (4, u "twoToTheDoubleScaleUp"), (9, u "E"), (3, u "PI"), (2, u "TAU"), (2, u "DEGREES_TO_RADIANS"), (0, u "RADIANS_TO_DEGREES")] 94

def k2m0 : Method := { name := "<init>", desc := "()V", sig := { parameters := [], returnType := none }, accessFlags := 2, code := none }
def k2c1 : Code := { maxStack := 2, maxLocals := 2, code := jdk_29_method_69_code, exceptionTable := #[], attributes := #[] }
def k2m1 : Method := { name := "min", desc := "(II)I", sig := { parameters := [.int, .int], returnType := some .int }, accessFlags := 9, code := some k2c1 }
/-- java/lang/Math -/
def k2 : Class := { plain "java/lang/Math" (some 0) with
  accessFlags := 49
  interfaces := #[]
  cf := some (fileOf pool2 1 #[.nestMembers #[98]] #[{ accessFlags := 2, nameIndex := 7, descriptorIndex := 8, attributes := #[] }, { accessFlags := 9, nameIndex := 201, descriptorIndex := 335, attributes := #[] }] 49 4 #[] #[{ accessFlags := 25, nameIndex := 354, descriptorIndex := 339, attributes := #[] }, { accessFlags := 25, nameIndex := 358, descriptorIndex := 339, attributes := #[] }, { accessFlags := 25, nameIndex := 361, descriptorIndex := 339, attributes := #[] }, { accessFlags := 26, nameIndex := 364, descriptorIndex := 339, attributes := #[] }, { accessFlags := 26, nameIndex := 365, descriptorIndex := 339, attributes := #[] }, { accessFlags := 26, nameIndex := 172, descriptorIndex := 173, attributes := #[] }, { accessFlags := 26, nameIndex := 176, descriptorIndex := 173, attributes := #[] }, { accessFlags := 8, nameIndex := 344, descriptorIndex := 339, attributes := #[] }, { accessFlags := 8, nameIndex := 338, descriptorIndex := 339, attributes := #[] }, { accessFlags := 4120, nameIndex := 245, descriptorIndex := 246, attributes := #[] }])
  fields := #[{ name := "E", type := .double, accessFlags := 25, slot := 0, constantValue := 0 }, { name := "PI", type := .double, accessFlags := 25, slot := 1, constantValue := 0 }, { name := "TAU", type := .double, accessFlags := 25, slot := 2, constantValue := 0 }, { name := "DEGREES_TO_RADIANS", type := .double, accessFlags := 26, slot := 3, constantValue := 0 }, { name := "RADIANS_TO_DEGREES", type := .double, accessFlags := 26, slot := 4, constantValue := 0 }, { name := "negativeZeroFloatBits", type := .long, accessFlags := 26, slot := 5, constantValue := 0 }, { name := "negativeZeroDoubleBits", type := .long, accessFlags := 26, slot := 6, constantValue := 0 }, { name := "twoToTheDoubleScaleUp", type := .double, accessFlags := 8, slot := 7, constantValue := 0 }, { name := "twoToTheDoubleScaleDown", type := .double, accessFlags := 8, slot := 8, constantValue := 0 }, { name := "$assertionsDisabled", type := .boolean, accessFlags := 4120, slot := 9, constantValue := 0 }]
  methods := #[k2m0, k2m1]
  instanceTypes := #[]
  staticTypes := #[.double, .double, .double, .double, .double, .long, .long, .double, .double, .boolean]
  resolved := Array.replicate 460 none
  statics := none }

def pool3 : Array CpInfo := pool [(14, .class_ 16), (1, u "com/example/frontwise/frontwise/model/Problem"), (2, .class_ 20), (0, u "java/lang/Object")] 17

/-- com/example/frontwise/frontwise/model/Problem -/
def k3 : Class := { plain "com/example/frontwise/frontwise/model/Problem" (some 0) with
  accessFlags := 1537
  interfaces := #[]
  cf := some (fileOf pool3 14 #[] #[] 1537 19 #[] #[])
  fields := #[]
  methods := #[]
  instanceTypes := #[]
  staticTypes := #[]
  resolved := Array.replicate 38 none
  statics := none }

def pool4 : Array CpInfo := pool [(2, .class_ 4), (1, u "com/example/frontwise/frontwise/model/BitStringProblem"), (18, .class_ 24), (0, u "java/lang/Object"), (0, .class_ 26), (0, u "com/example/frontwise/frontwise/model/Problem")] 26

/-- com/example/frontwise/frontwise/model/BitStringProblem -/
def k4 : Class := { plain "com/example/frontwise/frontwise/model/BitStringProblem" (some 0) with
  accessFlags := 1537
  interfaces := #[3]
  cf := some (fileOf pool4 2 #[] #[] 1537 23 #[25] #[])
  fields := #[]
  methods := #[]
  instanceTypes := #[]
  staticTypes := #[]
  resolved := Array.replicate 53 none
  statics := none }

def pool5 : Array CpInfo := pool [(2, .class_ 4), (1, u "com/example/frontwise/frontwise/model/MkLandscape"), (34, .class_ 40), (0, u "java/lang/Object"), (0, .class_ 42), (0, u "com/example/frontwise/frontwise/model/BitStringProblem"), (0, u "MOST_DEPENDENCIES"), (0, u "I")] 30

/-- com/example/frontwise/frontwise/model/MkLandscape -/
def k5 : Class := { plain "com/example/frontwise/frontwise/model/MkLandscape" (some 0) with
  accessFlags := 1537
  interfaces := #[4]
  cf := some (fileOf pool5 2 #[] #[] 1537 39 #[41] #[{ accessFlags := 25, nameIndex := 43, descriptorIndex := 44, attributes := #[] }])
  fields := #[{ name := "MOST_DEPENDENCIES", type := .int, accessFlags := 25, slot := 0, constantValue := 0 }]
  methods := #[]
  instanceTypes := #[]
  staticTypes := #[.int]
  resolved := Array.replicate 75 none
  statics := none }

def pool6 : Array CpInfo := pool [(1, .methodref 2 3), (0, .class_ 4), (0, .nameAndType 5 6), (0, u "java/lang/Object"), (0, u "<init>"), (0, u "()V"), (15, .class_ 23), (0, u "com/example/frontwise/frontwise/problem/Mnk"), (0, .long 268435456), (4, .fieldref 22 30), (0, .nameAndType 31 32), (0, u "n"), (0, u "I"), (0, .fieldref 22 34), (0, .nameAndType 35 32), (0, u "epistasis"), (0, .fieldref 22 37), (0, .nameAndType 38 32), (0, u "objectives"), (0, .fieldref 22 40), (0, .nameAndType 41 42), (0, u "byteTables"), (0, u "[B"), (0, .fieldref 22 44), (0, .nameAndType 45 46), (0, u "intTables"), (0, u "[I"), (0, .class_ 48), (0, u "com/example/frontwise/frontwise/model/RandomStream"), (0, .methodref 47 50), (0, .nameAndType 5 51), (0, u "(J)V"), (0, .methodref 22 53), (0, .nameAndType 54 55), (0, u "place"), (0, u "(II)I"), (0, .methodref 57 58), (0, .class_ 59), (0, .nameAndType 60 61), (0, u "java/lang/Integer"), (0, u "reverse"), (0, u "(I)I"), (0, .methodref 47 63), (0, .nameAndType 64 61), (0, u "nextInt"), (9, .class_ 75), (0, u "com/example/frontwise/frontwise/model/MkLandscape"), (0, u "NAME"), (0, u "Ljava/lang/String;"), (3, u "DEFAULT_EPISTASIS"), (1, u "DEFAULT_VALUES"), (1, u "DEFAULT_OBJECTIVES"), (1, u "DEFAULT_SEED"), (1, u "MOST_TABLE_ENTRIES"), (0, u "J"), (0, u "MOST_BYTE_VALUES"), (1, u "LINE_BYTES"), (1, u "(IIIIJ)V"), (10, u "dependencies"), (0, u "(II)[I")] 26

def k6c0 : Code := { maxStack := 6, maxLocals := 15, code := prog_39_method_1_code, exceptionTable := #[], attributes := #[] }
def k6m0 : Method := { name := "<init>", desc := "(IIIIJ)V", sig := { parameters := [.int, .int, .int, .int, .long], returnType := none }, accessFlags := 1, code := some k6c0 }
def k6c1 : Code := { maxStack := 4, maxLocals := 5, code := prog_39_method_6_code, exceptionTable := #[], attributes := #[] }
def k6m1 : Method := { name := "dependencies", desc := "(II)[I", sig := { parameters := [.int, .int], returnType := some (.array .int) }, accessFlags := 1, code := some k6c1 }
def k6c2 : Code := { maxStack := 3, maxLocals := 3, code := prog_39_method_10_code, exceptionTable := #[], attributes := #[] }
def k6m2 : Method := { name := "place", desc := "(II)I", sig := { parameters := [.int, .int], returnType := some .int }, accessFlags := 2, code := some k6c2 }
/-- com/example/frontwise/frontwise/problem/Mnk -/
def k6 : Class := { plain "com/example/frontwise/frontwise/problem/Mnk" (some 0) with
  accessFlags := 49
  interfaces := #[5]
  cf := some (fileOf pool6 22 #[] #[{ accessFlags := 1, nameIndex := 5, descriptorIndex := 95, attributes := #[] }, { accessFlags := 1, nameIndex := 106, descriptorIndex := 107, attributes := #[] }, { accessFlags := 2, nameIndex := 54, descriptorIndex := 55, attributes := #[] }] 49 2 #[74] #[{ accessFlags := 25, nameIndex := 76, descriptorIndex := 77, attributes := #[] }, { accessFlags := 25, nameIndex := 81, descriptorIndex := 32, attributes := #[] }, { accessFlags := 25, nameIndex := 83, descriptorIndex := 32, attributes := #[] }, { accessFlags := 25, nameIndex := 85, descriptorIndex := 32, attributes := #[] }, { accessFlags := 25, nameIndex := 87, descriptorIndex := 32, attributes := #[] }, { accessFlags := 25, nameIndex := 89, descriptorIndex := 90, attributes := #[] }, { accessFlags := 18, nameIndex := 31, descriptorIndex := 32, attributes := #[] }, { accessFlags := 18, nameIndex := 35, descriptorIndex := 32, attributes := #[] }, { accessFlags := 18, nameIndex := 38, descriptorIndex := 32, attributes := #[] }, { accessFlags := 26, nameIndex := 91, descriptorIndex := 32, attributes := #[] }, { accessFlags := 26, nameIndex := 93, descriptorIndex := 32, attributes := #[] }, { accessFlags := 18, nameIndex := 41, descriptorIndex := 42, attributes := #[] }, { accessFlags := 18, nameIndex := 45, descriptorIndex := 46, attributes := #[] }])
  fields := #[{ name := "NAME", type := (.object "java/lang/String"), accessFlags := 25, slot := 0, constantValue := 0 }, { name := "DEFAULT_EPISTASIS", type := .int, accessFlags := 25, slot := 1, constantValue := 0 }, { name := "DEFAULT_VALUES", type := .int, accessFlags := 25, slot := 2, constantValue := 0 }, { name := "DEFAULT_OBJECTIVES", type := .int, accessFlags := 25, slot := 3, constantValue := 0 }, { name := "DEFAULT_SEED", type := .int, accessFlags := 25, slot := 4, constantValue := 0 }, { name := "MOST_TABLE_ENTRIES", type := .long, accessFlags := 25, slot := 5, constantValue := 0 }, { name := "n", type := .int, accessFlags := 18, slot := 0, constantValue := 0 }, { name := "epistasis", type := .int, accessFlags := 18, slot := 1, constantValue := 0 }, { name := "objectives", type := .int, accessFlags := 18, slot := 2, constantValue := 0 }, { name := "MOST_BYTE_VALUES", type := .int, accessFlags := 26, slot := 6, constantValue := 0 }, { name := "LINE_BYTES", type := .int, accessFlags := 26, slot := 7, constantValue := 0 }, { name := "byteTables", type := (.array .byte), accessFlags := 18, slot := 3, constantValue := 0 }, { name := "intTables", type := (.array .int), accessFlags := 18, slot := 4, constantValue := 0 }]
  methods := #[k6m0, k6m1, k6m2]
  instanceTypes := #[.int, .int, .int, (.array .byte), (.array .int)]
  staticTypes := #[(.object "java/lang/String"), .int, .int, .int, .int, .long, .int, .int]
  resolved := Array.replicate 134 none
  statics := none }

def pool7 : Array CpInfo := pool [(1, .methodref 2 3), (0, .class_ 4), (0, .nameAndType 5 6), (0, u "java/lang/Object"), (0, u "<init>"), (0, u "()V"), (0, .class_ 8), (0, u "com/example/frontwise/frontwise/model/RandomStream"), (0, .long 11400714819323198485), (1, .methodref 7 12), (0, .nameAndType 13 14), (0, u "splitMix"), (0, u "(J)J"), (0, .fieldref 7 16), (0, .nameAndType 17 18), (0, u "s0"), (0, u "J"), (0, .fieldref 7 20), (0, .nameAndType 21 18), (0, u "s1"), (0, .fieldref 7 23), (0, .nameAndType 24 18), (0, u "s2"), (0, .fieldref 7 26), (0, .nameAndType 27 18), (0, u "s3"), (0, .methodref 29 30), (0, .class_ 31), (0, .nameAndType 32 33), (0, u "java/lang/Long"), (0, u "rotateLeft"), (0, u "(JI)J"), (0, .methodref 7 35), (0, .nameAndType 36 37), (0, u "nextLong"), (0, u "()J"), (11, .long 9223372036854775807), (3, u "hasSpareGaussian"), (0, u "Z"), (2, u "spareGaussian"), (0, u "D"), (19, u "nextInt"), (0, u "(I)I"), (0, .long 13787848793156543929), (1, .long 10723151780598845931), (1, u "GOLDEN_GAMMA"), (1, u "DOUBLE_UNIT"), (0, u "(J)V")] 29

def k7c0 : Code := { maxStack := 5, maxLocals := 5, code := prog_34_method_1_code, exceptionTable := #[], attributes := #[] }
def k7m0 : Method := { name := "<init>", desc := "(J)V", sig := { parameters := [.long], returnType := none }, accessFlags := 1, code := some k7c0 }
def k7c1 : Code := { maxStack := 5, maxLocals := 5, code := prog_34_method_2_code, exceptionTable := #[], attributes := #[] }
def k7m1 : Method := { name := "nextLong", desc := "()J", sig := { parameters := [], returnType := some .long }, accessFlags := 1, code := some k7c1 }
def k7c2 : Code := { maxStack := 6, maxLocals := 6, code := prog_34_method_4_code, exceptionTable := #[], attributes := #[] }
def k7m2 : Method := { name := "nextInt", desc := "(I)I", sig := { parameters := [.int], returnType := some .int }, accessFlags := 1, code := some k7c2 }
def k7c3 : Code := { maxStack := 5, maxLocals := 4, code := prog_34_method_8_code, exceptionTable := #[], attributes := #[] }
def k7m3 : Method := { name := "splitMix", desc := "(J)J", sig := { parameters := [.long], returnType := some .long }, accessFlags := 10, code := some k7c3 }
/-- com/example/frontwise/frontwise/model/RandomStream -/
def k7 : Class := { plain "com/example/frontwise/frontwise/model/RandomStream" (some 0) with
  accessFlags := 49
  interfaces := #[]
  cf := some (fileOf pool7 7 #[] #[{ accessFlags := 1, nameIndex := 5, descriptorIndex := 87, attributes := #[] }, { accessFlags := 1, nameIndex := 36, descriptorIndex := 37, attributes := #[] }, { accessFlags := 1, nameIndex := 78, descriptorIndex := 79, attributes := #[] }, { accessFlags := 10, nameIndex := 13, descriptorIndex := 14, attributes := #[] }] 49 2 #[] #[{ accessFlags := 26, nameIndex := 84, descriptorIndex := 18, attributes := #[] }, { accessFlags := 26, nameIndex := 86, descriptorIndex := 58, attributes := #[] }, { accessFlags := 2, nameIndex := 17, descriptorIndex := 18, attributes := #[] }, { accessFlags := 2, nameIndex := 21, descriptorIndex := 18, attributes := #[] }, { accessFlags := 2, nameIndex := 24, descriptorIndex := 18, attributes := #[] }, { accessFlags := 2, nameIndex := 27, descriptorIndex := 18, attributes := #[] }, { accessFlags := 2, nameIndex := 57, descriptorIndex := 58, attributes := #[] }, { accessFlags := 2, nameIndex := 53, descriptorIndex := 54, attributes := #[] }])
  fields := #[{ name := "GOLDEN_GAMMA", type := .long, accessFlags := 26, slot := 0, constantValue := 0 }, { name := "DOUBLE_UNIT", type := .double, accessFlags := 26, slot := 1, constantValue := 0 }, { name := "s0", type := .long, accessFlags := 2, slot := 0, constantValue := 0 }, { name := "s1", type := .long, accessFlags := 2, slot := 1, constantValue := 0 }, { name := "s2", type := .long, accessFlags := 2, slot := 2, constantValue := 0 }, { name := "s3", type := .long, accessFlags := 2, slot := 3, constantValue := 0 }, { name := "spareGaussian", type := .double, accessFlags := 2, slot := 4, constantValue := 0 }, { name := "hasSpareGaussian", type := .boolean, accessFlags := 2, slot := 5, constantValue := 0 }]
  methods := #[k7m0, k7m1, k7m2, k7m3]
  instanceTypes := #[.long, .long, .long, .long, .double, .boolean]
  staticTypes := #[.long, .double]
  resolved := Array.replicate 117 none
  statics := none }

def pool8 : Array CpInfo := pool [(1, .class_ 2), (0, u "java/io/Serializable"), (0, .class_ 4), (0, u "java/lang/Object")] 2

/-- java/io/Serializable -/
def k8 : Class := { plain "java/io/Serializable" (some 0) with
  accessFlags := 1537
  interfaces := #[]
  cf := some (fileOf pool8 1 #[] #[] 1537 3 #[] #[])
  fields := #[]
  methods := #[]
  instanceTypes := #[]
  staticTypes := #[]
  resolved := Array.replicate 7 none
  statics := none }

def pool9 : Array CpInfo := pool [(2, .class_ 4), (1, u "java/lang/Object"), (0, u "<init>"), (0, u "()V"), (1, .class_ 10), (1, u "java/lang/Number"), (2, .class_ 14), (0, u "java/io/Serializable"), (0, u "serialVersionUID"), (0, u "J")] 20

def k9m0 : Method := { name := "<init>", desc := "()V", sig := { parameters := [], returnType := none }, accessFlags := 1, code := none }
/-- java/lang/Number -/
def k9 : Class := { plain "java/lang/Number" (some 0) with
  accessFlags := 1057
  interfaces := #[8]
  cf := some (fileOf pool9 8 #[] #[{ accessFlags := 1, nameIndex := 5, descriptorIndex := 6, attributes := #[] }] 1057 2 #[13] #[{ accessFlags := 26, nameIndex := 15, descriptorIndex := 16, attributes := #[] }])
  fields := #[{ name := "serialVersionUID", type := .long, accessFlags := 26, slot := 0, constantValue := 0 }]
  methods := #[k9m0]
  instanceTypes := #[]
  staticTypes := #[.long]
  resolved := Array.replicate 37 none
  statics := none }

def pool10 : Array CpInfo := pool [(1, .class_ 2), (0, u "java/lang/Comparable"), (0, .class_ 4), (0, u "java/lang/Object")] 7

/-- java/lang/Comparable -/
def k10 : Class := { plain "java/lang/Comparable" (some 0) with
  accessFlags := 1537
  interfaces := #[]
  cf := some (fileOf pool10 1 #[] #[] 1537 3 #[] #[])
  fields := #[]
  methods := #[]
  instanceTypes := #[]
  staticTypes := #[]
  resolved := Array.replicate 12 none
  statics := none }

def pool11 : Array CpInfo := pool [(1, .class_ 2), (0, u "java/lang/constant/Constable"), (0, .class_ 4), (0, u "java/lang/Object")] 6

/-- java/lang/constant/Constable -/
def k11 : Class := { plain "java/lang/constant/Constable" (some 0) with
  accessFlags := 1537
  interfaces := #[]
  cf := some (fileOf pool11 1 #[] #[] 1537 3 #[] #[])
  fields := #[]
  methods := #[]
  instanceTypes := #[]
  staticTypes := #[]
  resolved := Array.replicate 11 none
  statics := none }

def pool12 : Array CpInfo := pool [(1, .class_ 2), (0, u "java/lang/constant/ConstantDesc"), (0, .class_ 4), (0, u "java/lang/Object")] 32

/-- java/lang/constant/ConstantDesc -/
def k12 : Class := { plain "java/lang/constant/ConstantDesc" (some 0) with
  accessFlags := 1537
  interfaces := #[]
  cf := some (fileOf pool12 1 #[] #[] 1537 3 #[] #[])
  fields := #[]
  methods := #[]
  instanceTypes := #[]
  staticTypes := #[]
  resolved := Array.replicate 37 none
  statics := none }

def pool13 : Array CpInfo := pool [(1, .class_ 2), (0, u "java/lang/Integer"), (16, u "digits"), (0, u "[C"), (33, u "(I)I"), (30, u "DigitOnes"), (0, u "[B"), (2, u "DigitTens"), (99, .class_ 190), (0, u "java/lang/Integer$IntegerCache"), (3, u "I"), (8, .class_ 204), (0, u "java/lang/Number"), (2, u "value"), (57, .integer 1431655765), (0, .integer 858993459), (0, .integer 252645135), (0, .methodref 1 269), (0, .nameAndType 270 54), (0, u "reverseBytes"), (3, .integer 65280), (27, u "TYPE"), (0, u "Ljava/lang/Class;"), (0, .class_ 305), (0, u "java/lang/Comparable"), (0, .class_ 307), (0, u "java/lang/constant/Constable"), (0, .class_ 309), (0, u "java/lang/constant/ConstantDesc"), (0, u "MIN_VALUE"), (1, u "MAX_VALUE"), (3, u "SIZE"), (1, u "BYTES"), (1, u "serialVersionUID"), (0, u "J"), (89, u "reverse")] 41

def k13c0 : Code := { maxStack := 3, maxLocals := 1, code := jdk_33_method_52_code, exceptionTable := #[], attributes := #[] }
def k13m0 : Method := { name := "reverse", desc := "(I)I", sig := { parameters := [.int], returnType := some .int }, accessFlags := 9, code := some k13c0 }
def k13c1 : Code := { maxStack := 3, maxLocals := 1, code := jdk_33_method_57_code, exceptionTable := #[], attributes := #[] }
def k13m1 : Method := { name := "reverseBytes", desc := "(I)I", sig := { parameters := [.int], returnType := some .int }, accessFlags := 9, code := some k13c1 }
/-- java/lang/Integer -/
def k13 : Class := { plain "java/lang/Integer" (some 9) with
  accessFlags := 49
  interfaces := #[10, 11, 12]
  cf := some (fileOf pool13 1 #[.nestMembers #[189]] #[{ accessFlags := 9, nameIndex := 411, descriptorIndex := 54, attributes := #[] }, { accessFlags := 9, nameIndex := 270, descriptorIndex := 54, attributes := #[] }] 49 203 #[304, 306, 308] #[{ accessFlags := 25, nameIndex := 310, descriptorIndex := 194, attributes := #[] }, { accessFlags := 25, nameIndex := 312, descriptorIndex := 194, attributes := #[] }, { accessFlags := 25, nameIndex := 302, descriptorIndex := 303, attributes := #[] }, { accessFlags := 24, nameIndex := 19, descriptorIndex := 20, attributes := #[] }, { accessFlags := 24, nameIndex := 89, descriptorIndex := 86, attributes := #[] }, { accessFlags := 24, nameIndex := 85, descriptorIndex := 86, attributes := #[] }, { accessFlags := 18, nameIndex := 207, descriptorIndex := 194, attributes := #[] }, { accessFlags := 25, nameIndex := 316, descriptorIndex := 194, attributes := #[] }, { accessFlags := 25, nameIndex := 318, descriptorIndex := 194, attributes := #[] }, { accessFlags := 26, nameIndex := 320, descriptorIndex := 321, attributes := #[] }])
  fields := #[{ name := "MIN_VALUE", type := .int, accessFlags := 25, slot := 0, constantValue := 0 }, { name := "MAX_VALUE", type := .int, accessFlags := 25, slot := 1, constantValue := 0 }, { name := "TYPE", type := (.object "java/lang/Class"), accessFlags := 25, slot := 2, constantValue := 0 }, { name := "digits", type := (.array .char), accessFlags := 24, slot := 3, constantValue := 0 }, { name := "DigitTens", type := (.array .byte), accessFlags := 24, slot := 4, constantValue := 0 }, { name := "DigitOnes", type := (.array .byte), accessFlags := 24, slot := 5, constantValue := 0 }, { name := "value", type := .int, accessFlags := 18, slot := 0, constantValue := 0 }, { name := "SIZE", type := .int, accessFlags := 25, slot := 6, constantValue := 0 }, { name := "BYTES", type := .int, accessFlags := 25, slot := 7, constantValue := 0 }, { name := "serialVersionUID", type := .long, accessFlags := 26, slot := 8, constantValue := 0 }]
  methods := #[k13m0, k13m1]
  instanceTypes := #[.int]
  staticTypes := #[.int, .int, (.object "java/lang/Class"), (.array .char), (.array .byte), (.array .byte), .int, .int, .long]
  resolved := Array.replicate 453 none
  statics := none }

def pool14 : Array CpInfo := pool [(1, .class_ 2), (0, u "java/lang/Long"), (232, .class_ 237), (1, u "java/lang/Long$LongCache"), (33, .class_ 272), (0, u "java/lang/Number"), (2, u "value"), (0, u "J"), (84, u "TYPE"), (0, u "Ljava/lang/Class;"), (0, .class_ 364), (0, u "java/lang/Comparable"), (0, .class_ 366), (0, u "java/lang/constant/Constable"), (0, .class_ 368), (0, u "java/lang/constant/ConstantDesc"), (0, u "MIN_VALUE"), (1, u "MAX_VALUE"), (4, u "SIZE"), (0, u "I"), (1, u "BYTES"), (1, u "serialVersionUID"), (95, u "rotateLeft"), (0, u "(JI)J")] 45

def k14c0 : Code := { maxStack := 5, maxLocals := 3, code := jdk_35_method_51_code, exceptionTable := #[], attributes := #[] }
def k14m0 : Method := { name := "rotateLeft", desc := "(JI)J", sig := { parameters := [.long, .int], returnType := some .long }, accessFlags := 9, code := some k14c0 }
/-- java/lang/Long -/
def k14 : Class := { plain "java/lang/Long" (some 9) with
  accessFlags := 49
  interfaces := #[10, 11, 12]
  cf := some (fileOf pool14 1 #[.nestMembers #[235]] #[{ accessFlags := 9, nameIndex := 477, descriptorIndex := 478, attributes := #[] }] 49 271 #[363, 365, 367] #[{ accessFlags := 25, nameIndex := 369, descriptorIndex := 276, attributes := #[] }, { accessFlags := 25, nameIndex := 371, descriptorIndex := 276, attributes := #[] }, { accessFlags := 25, nameIndex := 361, descriptorIndex := 362, attributes := #[] }, { accessFlags := 18, nameIndex := 275, descriptorIndex := 276, attributes := #[] }, { accessFlags := 25, nameIndex := 376, descriptorIndex := 377, attributes := #[] }, { accessFlags := 25, nameIndex := 379, descriptorIndex := 377, attributes := #[] }, { accessFlags := 26, nameIndex := 381, descriptorIndex := 276, attributes := #[] }])
  fields := #[{ name := "MIN_VALUE", type := .long, accessFlags := 25, slot := 0, constantValue := 0 }, { name := "MAX_VALUE", type := .long, accessFlags := 25, slot := 1, constantValue := 0 }, { name := "TYPE", type := (.object "java/lang/Class"), accessFlags := 25, slot := 2, constantValue := 0 }, { name := "value", type := .long, accessFlags := 18, slot := 0, constantValue := 0 }, { name := "SIZE", type := .int, accessFlags := 25, slot := 3, constantValue := 0 }, { name := "BYTES", type := .int, accessFlags := 25, slot := 4, constantValue := 0 }, { name := "serialVersionUID", type := .long, accessFlags := 26, slot := 5, constantValue := 0 }]
  methods := #[k14m0]
  instanceTypes := #[.long]
  staticTypes := #[.long, .long, (.object "java/lang/Class"), .int, .int, .long]
  resolved := Array.replicate 524 none
  statics := none }

def pool15 : Array CpInfo := pool [(1, u "java/lang/Cloneable"), (0, .class_ 1), (0, u "java/lang/Object"), (0, .class_ 3)] 3

/-- java/lang/Cloneable -/
def k15 : Class := { plain "java/lang/Cloneable" (some 0) with
  accessFlags := 1537
  interfaces := #[]
  cf := some (fileOf pool15 2 #[] #[] 1537 4 #[] #[])
  fields := #[]
  methods := #[]
  instanceTypes := #[]
  staticTypes := #[]
  resolved := Array.replicate 8 none
  statics := none }

/-- the primitive byte -/
def k16 : Class := { plain "byte" none with kind := .primitive 'B', accessFlags := 0x411 }
/-- [B -/
def k17 : Class := { plain "[B" (some 0) with kind := .array 16 .byte, interfaces := #[15, 8], accessFlags := 1041 }

/-- the primitive int -/
def k18 : Class := { plain "int" none with kind := .primitive 'I', accessFlags := 0x411 }
/-- [I -/
def k19 : Class := { plain "[I" (some 0) with kind := .array 18 .int, interfaces := #[15, 8], accessFlags := 1041 }

def heap : Heap := #[]
def classes : Array Class := #[k0, k1, k2, k3, k4, k5, k6, k7, k8, k9, k10, k11, k12, k13, k14, k15, k16, k17, k18, k19]
def interned : List (Array UInt16 × Addr) := []
def slotsUsed : Nat := 0
def theMethod : MethodId := ⟨1, 1⟩
def args0 : Array Value := #[.int 9, .int 7, .int 9, .long 11]
def aboutOver (below : List Frame) : State where
  vm := { classes := classes, interned := interned.toArray }
  heap := heap
  slotsUsed := slotsUsed
  threads := #[{ frames := .invoking theMethod args0 :: below }]
def below0 : List Frame := [.native { method := ⟨0, 0⟩, args := #[] }]
def about1 : State := aboutOver below0
def p0 : Program := .bare "" "" ""
def e0 : Env := launch0.env 0 0 0
theorem w_frames : about1.frames = Frame.invoking theMethod args0 :: below0 := rfl
set_option maxRecDepth 65536 in
theorem w_args : argsFit about1.vm theMethod args0 = true := by decide +kernel
set_option maxRecDepth 65536 in
theorem w_heap : heapFits about1 = true := by decide +kernel
set_option maxRecDepth 65536 in
theorem w_runnable : about1.curStatus? = some .runnable := by decide +kernel
set_option maxRecDepth 65536 in
theorem w_alone : about1.alone = true := by decide +kernel
set_option maxRecDepth 65536 in
theorem w_named : about1.methodNamed? x = some theMethod := by decide +kernel
set_option maxRecDepth 65536 in
theorem w_hears : about1.hears theMethod below0 = true := by decide +kernel
set_option maxRecDepth 65536 in
theorem w_ripe : about1.ripe theMethod args0 below0 = true := by decide +kernel
theorem w_running : about1.status = .running := rfl
set_option maxRecDepth 65536 in
theorem w_room : about1.hasRoom e0.platform room_1 = true :=
  launch0.hasRoom_least _ room_1 (by decide +kernel) (by decide +kernel) (by decide +kernel) (by decide +kernel) (by decide +kernel) (by decide +kernel)
theorem allAtoms_all (ts : List Jvm.Cond) (a : Array Jvm.Value) (st : Jvm.State) : (allAtoms ts).before a st = ts.all (fun c => c.before a st) := by
  induction ts with
  | nil => rfl
  | cons c t ih =>
    show (Jvm.Cond.and c (allAtoms t)).before a st = _
    rw [Jvm.Cond.before_and, ih, List.all_cons]
def words1 : List Jvm.Cond := Jvm.Cond.code x code maxLocals ret :: tables_1
/-- a 'code' word, met by the world's own term for the bytes: nothing is compared byte by byte -/
theorem code_word {y : MethodName} {bytes : ByteArray} {mx : Nat} {rt : Option FieldType} {a : Array Value} {s : State} {m : MethodId} {meth : Method} {c : Code} (h1 : s.methodNamed? y = some m) (h2 : s.vm.method? m = some meth) (h3 : meth.code = some c) (h4 : c.code = bytes)
    (h5 : (c.maxLocals == mx && c.exceptionTable.isEmpty && decide (c.maxStack ≤ mostOperands) && decide (meth.sig.returnType = rt) && !meth.locks && decide (parseMethodDescriptor y.desc = some meth.sig)) = true) : (Jvm.Cond.code y bytes mx rt).before a s = true := by
  simp only [Bool.and_eq_true, beq_iff_eq, Bool.not_eq_true', decide_eq_true_eq] at h5
  obtain ⟨⟨⟨⟨⟨g1, g2⟩, g3⟩, g4⟩, g5⟩, g6⟩ := h5
  simp [Cond.before, Cond.holds, Cond.value, h1, h2, h3, h4, g1, g2, g3, g4, g5, g6]
def isCode : Jvm.Cond → Bool
  | .code _ _ _ _ => true
  | _ => false
theorem all_split {L : List Jvm.Cond} {P : Jvm.Cond → Bool} (h1 : L.all (fun c => isCode c || P c) = true) (h2 : ∀ c ∈ L.filter isCode, P c = true) : L.all P = true := by
  refine List.all_eq_true.mpr fun c hc => ?_
  have h := List.all_eq_true.mp h1 c hc
  rcases Bool.eq_false_or_eq_true (isCode c) with hi | hi
  · exact h2 c (List.mem_filter.mpr ⟨hc, hi⟩)
  · simpa [hi] using h
set_option maxRecDepth 65536 in
theorem w_c0 : (Jvm.Cond.code x code maxLocals ret).before args0 about1 = true := code_word (m := ⟨1, 1⟩) (meth := k1m1) (c := k1c1) (by decide +kernel) rfl rfl rfl (by decide +kernel)
set_option maxRecDepth 65536 in
theorem w_c1 : (Jvm.Cond.code ({ cls := "java/lang/Math", name := "min", desc := "(II)I" } : Jvm.MethodName) jdk_29_method_69_code (2 : Nat) (Option.some Jvm.ClassFile.FieldType.int)).before args0 about1 = true := code_word (m := ⟨2, 1⟩) (meth := k2m1) (c := k2c1) (by decide +kernel) rfl rfl rfl (by decide +kernel)
set_option maxRecDepth 65536 in
theorem w_c2 : (Jvm.Cond.code ({ cls := "com/example/frontwise/frontwise/problem/Mnk", name := "<init>", desc := "(IIIIJ)V" } : Jvm.MethodName) prog_39_method_1_code (15 : Nat) (Option.none : Option Jvm.ClassFile.FieldType)).before args0 about1 = true := code_word (m := ⟨6, 0⟩) (meth := k6m0) (c := k6c0) (by decide +kernel) rfl rfl rfl (by decide +kernel)
set_option maxRecDepth 65536 in
theorem w_c3 : (Jvm.Cond.code ({ cls := "java/lang/Object", name := "<init>", desc := "()V" } : Jvm.MethodName) object_method_1_code (1 : Nat) (Option.none : Option Jvm.ClassFile.FieldType)).before args0 about1 = true := code_word (m := ⟨0, 0⟩) (meth := k0m0) (c := k0c0) (by decide +kernel) rfl rfl rfl (by decide +kernel)
set_option maxRecDepth 65536 in
theorem w_c4 : (Jvm.Cond.code ({ cls := "com/example/frontwise/frontwise/model/RandomStream", name := "<init>", desc := "(J)V" } : Jvm.MethodName) prog_34_method_1_code (5 : Nat) (Option.none : Option Jvm.ClassFile.FieldType)).before args0 about1 = true := code_word (m := ⟨7, 0⟩) (meth := k7m0) (c := k7c0) (by decide +kernel) rfl rfl rfl (by decide +kernel)
set_option maxRecDepth 65536 in
theorem w_c5 : (Jvm.Cond.code ({ cls := "com/example/frontwise/frontwise/model/RandomStream", name := "splitMix", desc := "(J)J" } : Jvm.MethodName) prog_34_method_8_code (4 : Nat) (Option.some Jvm.ClassFile.FieldType.long)).before args0 about1 = true := code_word (m := ⟨7, 3⟩) (meth := k7m3) (c := k7c3) (by decide +kernel) rfl rfl rfl (by decide +kernel)
set_option maxRecDepth 65536 in
theorem w_c6 : (Jvm.Cond.code ({ cls := "com/example/frontwise/frontwise/problem/Mnk", name := "place", desc := "(II)I" } : Jvm.MethodName) prog_39_method_10_code (3 : Nat) (Option.some Jvm.ClassFile.FieldType.int)).before args0 about1 = true := code_word (m := ⟨6, 2⟩) (meth := k6m2) (c := k6c2) (by decide +kernel) rfl rfl rfl (by decide +kernel)
set_option maxRecDepth 65536 in
theorem w_c7 : (Jvm.Cond.code ({ cls := "java/lang/Integer", name := "reverse", desc := "(I)I" } : Jvm.MethodName) jdk_33_method_52_code (1 : Nat) (Option.some Jvm.ClassFile.FieldType.int)).before args0 about1 = true := code_word (m := ⟨13, 0⟩) (meth := k13m0) (c := k13c0) (by decide +kernel) rfl rfl rfl (by decide +kernel)
set_option maxRecDepth 65536 in
theorem w_c8 : (Jvm.Cond.code ({ cls := "java/lang/Integer", name := "reverseBytes", desc := "(I)I" } : Jvm.MethodName) jdk_33_method_57_code (1 : Nat) (Option.some Jvm.ClassFile.FieldType.int)).before args0 about1 = true := code_word (m := ⟨13, 1⟩) (meth := k13m1) (c := k13c1) (by decide +kernel) rfl rfl rfl (by decide +kernel)
set_option maxRecDepth 65536 in
theorem w_c9 : (Jvm.Cond.code ({ cls := "com/example/frontwise/frontwise/model/RandomStream", name := "nextInt", desc := "(I)I" } : Jvm.MethodName) prog_34_method_4_code (6 : Nat) (Option.some Jvm.ClassFile.FieldType.int)).before args0 about1 = true := code_word (m := ⟨7, 2⟩) (meth := k7m2) (c := k7c2) (by decide +kernel) rfl rfl rfl (by decide +kernel)
set_option maxRecDepth 65536 in
theorem w_c10 : (Jvm.Cond.code ({ cls := "com/example/frontwise/frontwise/model/RandomStream", name := "nextLong", desc := "()J" } : Jvm.MethodName) prog_34_method_2_code (5 : Nat) (Option.some Jvm.ClassFile.FieldType.long)).before args0 about1 = true := code_word (m := ⟨7, 1⟩) (meth := k7m1) (c := k7c1) (by decide +kernel) rfl rfl rfl (by decide +kernel)
set_option maxRecDepth 65536 in
theorem w_c11 : (Jvm.Cond.code ({ cls := "java/lang/Long", name := "rotateLeft", desc := "(JI)J" } : Jvm.MethodName) jdk_35_method_51_code (3 : Nat) (Option.some Jvm.ClassFile.FieldType.long)).before args0 about1 = true := code_word (m := ⟨14, 0⟩) (meth := k14m0) (c := k14c0) (by decide +kernel) rfl rfl rfl (by decide +kernel)
set_option maxRecDepth 65536 in
theorem w_c12 : (Jvm.Cond.code ({ cls := "com/example/frontwise/frontwise/problem/Mnk", name := "dependencies", desc := "(II)[I" } : Jvm.MethodName) prog_39_method_6_code (5 : Nat) (Option.some (Jvm.ClassFile.FieldType.array Jvm.ClassFile.FieldType.int))).before args0 about1 = true := code_word (m := ⟨6, 1⟩) (meth := k6m1) (c := k6c1) (by decide +kernel) rfl rfl rfl (by decide +kernel)
set_option maxRecDepth 65536 in
theorem w_c13 : (Jvm.Cond.code ({ cls := "com/example/frontwise/frontwise/problem/MnkDependenciesPinLaw", name := "entry", desc := "([I[IIIII)Z" } : Jvm.MethodName) method_3_code (7 : Nat) (Option.some Jvm.ClassFile.FieldType.boolean)).before args0 about1 = true := code_word (m := ⟨1, 2⟩) (meth := k1m2) (c := k1c2) (by decide +kernel) rfl rfl rfl (by decide +kernel)
def codes1 : List Jvm.Cond := [Jvm.Cond.code x code maxLocals ret, Jvm.Cond.code ({ cls := "java/lang/Math", name := "min", desc := "(II)I" } : Jvm.MethodName) jdk_29_method_69_code (2 : Nat) (Option.some Jvm.ClassFile.FieldType.int), Jvm.Cond.code ({ cls := "com/example/frontwise/frontwise/problem/Mnk", name := "<init>", desc := "(IIIIJ)V" } : Jvm.MethodName) prog_39_method_1_code (15 : Nat) (Option.none : Option Jvm.ClassFile.FieldType), Jvm.Cond.code ({ cls := "java/lang/Object", name := "<init>", desc := "()V" } : Jvm.MethodName) object_method_1_code (1 : Nat) (Option.none : Option Jvm.ClassFile.FieldType), Jvm.Cond.code ({ cls := "com/example/frontwise/frontwise/model/RandomStream", name := "<init>", desc := "(J)V" } : Jvm.MethodName) prog_34_method_1_code (5 : Nat) (Option.none : Option Jvm.ClassFile.FieldType), Jvm.Cond.code ({ cls := "com/example/frontwise/frontwise/model/RandomStream", name := "splitMix", desc := "(J)J" } : Jvm.MethodName) prog_34_method_8_code (4 : Nat) (Option.some Jvm.ClassFile.FieldType.long), Jvm.Cond.code ({ cls := "com/example/frontwise/frontwise/problem/Mnk", name := "place", desc := "(II)I" } : Jvm.MethodName) prog_39_method_10_code (3 : Nat) (Option.some Jvm.ClassFile.FieldType.int), Jvm.Cond.code ({ cls := "java/lang/Integer", name := "reverse", desc := "(I)I" } : Jvm.MethodName) jdk_33_method_52_code (1 : Nat) (Option.some Jvm.ClassFile.FieldType.int), Jvm.Cond.code ({ cls := "java/lang/Integer", name := "reverseBytes", desc := "(I)I" } : Jvm.MethodName) jdk_33_method_57_code (1 : Nat) (Option.some Jvm.ClassFile.FieldType.int), Jvm.Cond.code ({ cls := "com/example/frontwise/frontwise/model/RandomStream", name := "nextInt", desc := "(I)I" } : Jvm.MethodName) prog_34_method_4_code (6 : Nat) (Option.some Jvm.ClassFile.FieldType.int), Jvm.Cond.code ({ cls := "com/example/frontwise/frontwise/model/RandomStream", name := "nextLong", desc := "()J" } : Jvm.MethodName) prog_34_method_2_code (5 : Nat) (Option.some Jvm.ClassFile.FieldType.long), Jvm.Cond.code ({ cls := "java/lang/Long", name := "rotateLeft", desc := "(JI)J" } : Jvm.MethodName) jdk_35_method_51_code (3 : Nat) (Option.some Jvm.ClassFile.FieldType.long), Jvm.Cond.code ({ cls := "com/example/frontwise/frontwise/problem/Mnk", name := "dependencies", desc := "(II)[I" } : Jvm.MethodName) prog_39_method_6_code (5 : Nat) (Option.some (Jvm.ClassFile.FieldType.array Jvm.ClassFile.FieldType.int)), Jvm.Cond.code ({ cls := "com/example/frontwise/frontwise/problem/MnkDependenciesPinLaw", name := "entry", desc := "([I[IIIII)Z" } : Jvm.MethodName) method_3_code (7 : Nat) (Option.some Jvm.ClassFile.FieldType.boolean)]
set_option maxRecDepth 65536 in
theorem codes_eq : words1.filter isCode = codes1 := rfl
theorem w_codes : ∀ c ∈ words1.filter isCode, c.before args0 about1 = true := by
  rw [codes_eq]
  intro c hc
  simp only [codes1, List.mem_cons, List.not_mem_nil, or_false] at hc
  rcases hc with rfl | rfl | rfl | rfl | rfl | rfl | rfl | rfl | rfl | rfl | rfl | rfl | rfl | rfl
  · exact w_c0
  · exact w_c1
  · exact w_c2
  · exact w_c3
  · exact w_c4
  · exact w_c5
  · exact w_c6
  · exact w_c7
  · exact w_c8
  · exact w_c9
  · exact w_c10
  · exact w_c11
  · exact w_c12
  · exact w_c13
set_option maxRecDepth 65536 in
theorem w_t1 : (words1.take 24).all (fun c => isCode c || c.before args0 about1) = true := by decide +kernel
set_option maxRecDepth 65536 in
theorem w_t2 : ((words1.drop 24).take 24).all (fun c => isCode c || c.before args0 about1) = true := by decide +kernel
set_option maxRecDepth 65536 in
theorem w_t3 : (((words1.drop 24).drop 24).take 24).all (fun c => isCode c || c.before args0 about1) = true := by decide +kernel
set_option maxRecDepth 65536 in
theorem w_t4 : (((words1.drop 24).drop 24).drop 24).all (fun c => isCode c || c.before args0 about1) = true := by decide +kernel
theorem w_tables : (allAtoms (Jvm.Cond.code x code maxLocals ret :: tables_1)).before args0 about1 = true := by
  rw [allAtoms_all]
  show words1.all (fun c => c.before args0 about1) = true
  refine all_split ?_ w_codes
  rw [← List.take_append_drop 24 words1, List.all_append, w_t1, ← List.take_append_drop 24 (words1.drop 24), List.all_append, w_t2, ← List.take_append_drop 24 ((words1.drop 24).drop 24), List.all_append, w_t3, w_t4]
  rfl
set_option maxRecDepth 65536 in
theorem w_case : (Jvm.Cond.and given_1 narrow_1).before args0 about1 = true := by decide +kernel
theorem w_applies : (headSpec (Jvm.Cond.code x code maxLocals ret :: tables_1) room_1).applies x e0.platform about1 = true :=
  (Spec.applies_iff w_frames).mpr ⟨w_running, w_runnable, w_alone, w_named, w_hears, w_ripe, w_room, w_tables⟩
theorem atStart : AtStart classFile x code maxLocals ret World_1 tables_1 room_1 Calls_1 rest_1 Pre_1 launch0 p0 e0 about1 theMethod args0 below0 :=
  ⟨lists_1, trivial, launch0.admits_env _ _ _, launch0.least_env, fairChoices_fair.cas, fairChoices_fair.clock, w_frames, w_args, w_heap, w_applies, trivial, trivial, w_case⟩
end start1
theorem witness_1 : WitnessClaimed_1 := ⟨start1.p0, start1.e0, start1.about1, start1.theMethod, start1.args0, start1.below0, start1.atStart⟩
end Jvm.Pilot.@@N@@
