import JvmDerived
import JvmDerived.Pilot.@@N@@Statement
import JvmDerived.Pilot.@@N@@Code
set_option linter.unusedVariables false
set_option linter.unusedSimpArgs false
namespace Jvm.OwnKit
open Sem ClassFile Op Lib Jvm.Stand Jvm.Free Jvm.LawKit Jvm.RoadKit
section Own
variable {p : Program} {l : Launch} {e : Env} {R : Room} {s : State} {m : MethodId} {args : Array Value} {below : List Frame} {meth : Method} {c : Code} {T : State} {locs : List Loc} {cells slots : Nat}
/-- from the state S the run ends, and P says how -/
def GoOn (p : Program) (e : Env) (below : List Frame) (P : Outcome → State → Prop) (S : State) : Prop := ∃ s₂ o, Steps p.tables e below S s₂ ∧ s₂.status = .running ∧ Ended s₂ below o ∧ P o s₂
theorem GoOn.st {P : Outcome → State → Prop} {S S' : State} (h : ∀ t, Steps p.tables e below S' t → Steps p.tables e below S t) (k : GoOn p e below P S') : GoOn p e below P S := by
  obtain ⟨s₂, o, h1, h2⟩ := k; exact ⟨s₂, o, h _ h1, h2⟩
/-- the end as a contract says it: what is returned, the heap, the written places -/
def OwPost (Q : Option Value → Heap → List Loc → Prop) (s : State) (rc rs : Nat) : Outcome → State → Prop := fun o U' => ∃ v L, o = .returned v ∧ Q v U'.heap L ∧ FrameEnd s o U' L rc rs
/-- a contract: the body y, called with as at a heap h0, ends as Q says -/
def OwCon (l : Launch) (Z : State) (y : MethodName) (bytes : ByteArray) (maxL : Nat) (ret : Option FieldType) (ws : List Jvm.Cond) (rm : Room) (as : Array Value) (h0 : Heap) (Q : Option Value → Heap → List Loc → Prop) : Prop :=
  MetFree l y (head1 (Jvm.Cond.code y bytes maxL ret :: ws) rm) (fun a U => a = as ∧ Z.Warmed39 U.vm ∧ U.heap = h0) (fun _ _ _ _ _ => True) (fun _ U o U' => ∃ v L, o = .returned v ∧ Q v U'.heap L ∧ FrameEnd U o U' L rm.cells rm.slots)
theorem OwCon.of {Z : State} {y : MethodName} {bytes : ByteArray} {maxL : Nat} {ret : Option FieldType} {ws : List Jvm.Cond} {rm : Room} {as : Array Value} {h0 : Heap} {Q : Option Value → Heap → List Loc → Prop} (hpl : plainFor y = true)
    (body : ∀ (p : Program) (e : Env) (s : State) (m : MethodId) (below : List Frame) (meth : Method) (c : Code) (s₁ : State), Stand p l e rm s m as below meth c s₁ [] 0 0 → p.tables.exec = Jvm.exec → c.code = bytes → c.maxLocals = maxL → meth.sig.returnType = ret → meth.locks = false → s.vm.findClass y.cls = some m.cls → meth.name = y.name → Z.Warmed39 s.vm → s₁.heap = h0 →
      GoOn p e below (OwPost Q s rm.cells rm.slots) (s₁.setTop (entryFrame m as maxL))) : OwCon l Z y bytes maxL ret ws rm as h0 Q := by
  refine MetFree.of_bodySF hpl hisR ?_
  intro p e s m args below meth c s₁ Bd hml hP hK
  obtain ⟨rfl, hZ, hh⟩ := hP
  exact body p e s m below meth c s₁ (Stand.of_body Bd) Bd.exec Bd.bytes hml Bd.returns Bd.notSynchronized (findClass_of_methodNamed Bd.named) (name_of_methodNamed Bd.named Bd.method).1 hZ (by rw [← hh, Bd.state]; rfl)
theorem OwCon.mono {Z : State} {y : MethodName} {bytes : ByteArray} {maxL : Nat} {ret : Option FieldType} {ws : List Jvm.Cond} {rm : Room} {as : Array Value} {h0 : Heap} {Q Q' : Option Value → Heap → List Loc → Prop} (C : OwCon l Z y bytes maxL ret ws rm as h0 Q) (h : ∀ v u L, Q v u L → Q' v u L) : OwCon l Z y bytes maxL ret ws rm as h0 Q' := by
  intro p e ha hc hk s m args below hf happ hP hK
  obtain ⟨n, o, h1, h2, h3, v, L, h4, h5, h6⟩ := C p e ha hc hk s m args below hf happ hP hK
  exact ⟨n, o, h1, h2, h3, v, L, h4, h _ _ _ h5, h6⟩
theorem GoOn.out {Q : Option Value → Heap → List Loc → Prop} {rc rs : Nat} {S : State} (X : Stand p l e R s m args below meth c T locs cells slots) (hlk : meth.locks = false) {v : Option Value} (hv : meth.sig.returnType = none → v = none) (hq : Q v T.heap locs) (hc : cells ≤ rc) (hs : slots ≤ rs)
    (st : ∀ fs, (∀ (f : JFrame) (acts : List Action), f.method = m → f.locked = none → f.entered = [] → (doReturn e (T.setTop f) acts v).1 = T.setFrames fs) → Steps p.tables e below S (T.setFrames fs)) : GoOn p e below (OwPost Q s rc rs) S := by
  obtain ⟨fs, hr, hrun, hended, hW, hsame⟩ := X.leave (v := v) hv hlk
  exact ⟨_, _, st fs hr, hrun, hended, v, locs, rfl, hq, ⟨_, rfl⟩, hW, hsame.mono hc hs⟩
theorem GoOn.retI {Q : Option Value → Heap → List Loc → Prop} {rc rs : Nat} (X : Stand p l e R s m args below meth c T locs cells slots) (hx : p.tables.exec = Jvm.exec) (hlk : meth.locks = false) {pc : Nat} {Ls : Array Slot} {z : Int32} {rest : List Value} (hret : meth.sig.returnType = some .int) (hd : decode c.code pc = .ok (.ireturn, 1))
    (hq : Q (some (.int z)) T.heap locs) (hc : cells ≤ rc) (hs : slots ≤ rs) : GoOn p e below (OwPost Q s rc rs) (T.setTop (mkF m pc Ls (.int z :: rest))) :=
  GoOn.out X hlk (fun h => by rw [hret] at h; cases h) hq hc hs fun fs hr => retOut X hx hret rfl (Or.inl ⟨rfl, Or.inl rfl, _, rfl⟩) hd hr
theorem GoOn.retZ {Q : Option Value → Heap → List Loc → Prop} {rc rs : Nat} (X : Stand p l e R s m args below meth c T locs cells slots) (hx : p.tables.exec = Jvm.exec) (hlk : meth.locks = false) {pc : Nat} {Ls : Array Slot} {z : Int32} {rest : List Value} {t : FieldType} (hret : meth.sig.returnType = some t) (ht : t = .boolean ∨ t = .byte ∨ t = .char ∨ t = .short) (hn : narrow t (.int z) = .int z) (hd : decode c.code pc = .ok (.ireturn, 1))
    (hq : Q (some (.int z)) T.heap locs) (hc : cells ≤ rc) (hs : slots ≤ rs) : GoOn p e below (OwPost Q s rc rs) (T.setTop (mkF m pc Ls (.int z :: rest))) :=
  GoOn.out X hlk (fun h => by rw [hret] at h; cases h) hq hc hs fun fs hr => retOut X hx hret hn (Or.inl ⟨rfl, Or.inr ht, _, rfl⟩) hd hr
theorem GoOn.retJ {Q : Option Value → Heap → List Loc → Prop} {rc rs : Nat} (X : Stand p l e R s m args below meth c T locs cells slots) (hx : p.tables.exec = Jvm.exec) (hlk : meth.locks = false) {pc : Nat} {Ls : Array Slot} {z : Int64} {rest : List Value} (hret : meth.sig.returnType = some .long) (hd : decode c.code pc = .ok (.lreturn, 1))
    (hq : Q (some (.long z)) T.heap locs) (hc : cells ≤ rc) (hs : slots ≤ rs) : GoOn p e below (OwPost Q s rc rs) (T.setTop (mkF m pc Ls (.long z :: rest))) :=
  GoOn.out X hlk (fun h => by rw [hret] at h; cases h) hq hc hs fun fs hr => retOut X hx hret rfl (Or.inr (Or.inl ⟨rfl, rfl, _, rfl⟩)) hd hr
theorem GoOn.retA {Q : Option Value → Heap → List Loc → Prop} {rc rs : Nat} (X : Stand p l e R s m args below meth c T locs cells slots) (hx : p.tables.exec = Jvm.exec) (hlk : meth.locks = false) {pc : Nat} {Ls : Array Slot} {w : Value} {rest : List Value} {t : FieldType} (hret : meth.sig.returnType = some t) (ht : t.isReference = true) (hw : w.isRef = true) (hn : narrow t w = w) (hd : decode c.code pc = .ok (.areturn, 1))
    (hq : Q (some w) T.heap locs) (hc : cells ≤ rc) (hs : slots ≤ rs) : GoOn p e below (OwPost Q s rc rs) (T.setTop (mkF m pc Ls (w :: rest))) :=
  GoOn.out X hlk (fun h => by rw [hret] at h; cases h) hq hc hs fun fs hr => retOut X hx hret hn (Or.inr (Or.inr (Or.inr (Or.inr ⟨rfl, ht, hw⟩)))) hd hr
theorem GoOn.retV {Q : Option Value → Heap → List Loc → Prop} {rc rs : Nat} (X : Stand p l e R s m args below meth c T locs cells slots) (hx : p.tables.exec = Jvm.exec) (hlk : meth.locks = false) {pc : Nat} {Ls : Array Slot} (hret : meth.sig.returnType = none) (hd : decode c.code pc = .ok (.return_, 1))
    (hq : Q none T.heap locs) (hc : cells ≤ rc) (hs : slots ≤ rs) : GoOn p e below (OwPost Q s rc rs) (T.setTop (mkF m pc Ls [])) :=
  GoOn.out X hlk (fun _ => rfl) hq hc hs fun fs hr => X.returnOut hx hret hd hr
/-- nothing written, nothing made: v is returned -/
def OwRet (v : Option Value) (h0 : Heap) : Option Value → Heap → List Loc → Prop := fun v' h L => v' = v ∧ L = [] ∧ h = h0
variable {Z : State} {a0 : Array Value} {h : Heap} {own : String} {index : Nat} {y z : MethodName} {bytes : ByteArray} {maxL : Nat} {ret : Option FieldType} {rm : Room} {Q : Option Value → Heap → List Loc → Prop} {P : Outcome → State → Prop}
theorem GoOn.callS {W pc : Nat} {Ls : Array Slot} {argsL rest : List Value} {ps : List FieldType} {rt : Option FieldType} {st : List Value} (X : Stand p l e R s m args below meth c T locs cells slots) (hx : p.tables.exec = Jvm.exec) (hZ : Z.Warmed39 s.vm) (hown : s.vm.findClass own = some m.cls)
    (w1 : (Cond.methodLink own index y).before a0 Z = true) (w2 : (Cond.static y).before a0 Z = true) (w3 : (Cond.initialized y.cls).before a0 Z = true) (w4 : (Cond.code y bytes maxL ret).before a0 Z = true) (hy : y.cls ≠ "java/lang/invoke/MethodHandle" ∧ y.cls ≠ "java/lang/invoke/VarHandle")
    (C : OwCon l Z y bytes maxL ret [] rm argsL.toArray h Q) (eT : T.heap = h) (hfr : rm.frames + 1 ≤ R.frames) (hlo : W + (maxL + 11) + rm.locals ≤ R.locals) (hsize : Ls.size = c.maxLocals) (hd : parseMethodDescriptor y.desc = some ⟨ps, rt⟩) (hl : argsL.length = ps.length) (hst : st = argsL.reverse ++ rest)
    (hW : (rest.map fun v => v.category).sum ≤ W) (hdg : decode c.code pc = .ok (.invokestatic index, 3)) (hc : cells + rm.cells ≤ R.cells) (hs : slots + rm.slots ≤ R.slots)
    (k : ∀ (v : Option Value) (T' : State) (L : List Loc), Stand p l e R s m args below meth c T' (locs ++ L) (cells + rm.cells) (slots + rm.slots) → Q v T'.heap L → GoOn p e below P (T'.setTop (mkF m (pc + 3) Ls (v.toList ++ rest)))) : GoOn p e below P (T.setTop (mkF m pc Ls st)) := by
  obtain ⟨v, vm₁, ⟨T', L', c', s'⟩, -, X', ⟨Lc, hQ, l1, l2, l3⟩, stp⟩ := Jvm.LawKit.callS X hx (y := y) hown (mvT hZ w1) (mvT hZ w2) (mvT hZ w3) (mvT hZ w4) hy (backOf (W := W) C hZ w4 w3 hfr hlo) (g := mkF m pc Ls st) rfl hsize (argsL := argsL) (rest := rest) (lenOf hd hl) hst (by show 2 * 0 + _ ≤ _; omega) hdg (fun _ _ => ⟨rfl, eT, hc, hs⟩)
  dsimp only [Pt.U, Pt.locs, Pt.cells, Pt.slots] at X' l1 l2 l3 stp hQ
  subst l1 l2 l3
  exact GoOn.st stp (k _ _ _ X' hQ)
theorem GoOn.callC {W pc : Nat} {Ls : Array Slot} {a : Addr} {argsL rest : List Value} {ps : List FieldType} {rt : Option FieldType} {st : List Value} (X : Stand p l e R s m args below meth c T locs cells slots) (hx : p.tables.exec = Jvm.exec) (hZ : Z.Warmed39 s.vm) (hown : s.vm.findClass own = some m.cls) (hy1 : y.name = "<init>")
    (w1 : (Cond.methodLink own index y).before a0 Z = true) (w2 : (Cond.instanceMethod y).before a0 Z = true) (w3 : (Cond.initialized y.cls).before a0 Z = true) (w4 : (Cond.code y bytes maxL none).before a0 Z = true) (hy : y.cls ≠ "java/lang/invoke/MethodHandle" ∧ y.cls ≠ "java/lang/invoke/VarHandle")
    (C : OwCon l Z y bytes maxL none [] rm (.ref a :: argsL).toArray h Q) (eT : T.heap = h) (hfr : rm.frames + 1 ≤ R.frames) (hlo : W + (maxL + 11) + rm.locals ≤ R.locals) (hsize : Ls.size = c.maxLocals) (hd : parseMethodDescriptor y.desc = some ⟨ps, rt⟩) (hl : argsL.length = ps.length) (hst : st = argsL.reverse ++ .ref a :: rest)
    (hW : (rest.map fun v => v.category).sum ≤ W) (hdg : decode c.code pc = .ok (.invokespecial index, 3)) (hc : cells + rm.cells ≤ R.cells) (hs : slots + rm.slots ≤ R.slots)
    (k : ∀ (v : Option Value) (T' : State) (L : List Loc), Stand p l e R s m args below meth c T' (locs ++ L) (cells + rm.cells) (slots + rm.slots) → Q v T'.heap L → GoOn p e below P (T'.setTop (mkF m (pc + 3) Ls (v.toList ++ rest)))) : GoOn p e below P (T.setTop (mkF m pc Ls st)) := by
  obtain ⟨v, vm₁, ⟨T', L', c', s'⟩, -, X', ⟨Lc, hQ, l1, l2, l3⟩, stp⟩ := X.specialBack hx (y := y) hy1 hown (mvT hZ w1) (mvT hZ w2) (mvT hZ w4) hy (backOf (W := W) C hZ w4 w3 hfr hlo) (g := mkF m pc Ls st) rfl hsize (Steps.refl _) (a := a) (argsL := argsL) (rest := rest) (lenOf hd hl) hst (by show 2 * 0 + _ ≤ _; omega) hdg (fun _ _ => ⟨rfl, eT, hc, hs⟩)
  dsimp only [Pt.U, Pt.locs, Pt.cells, Pt.slots] at X' l1 l2 l3 stp hQ
  subst l1 l2 l3
  exact GoOn.st (fun _ q => stp.trans q) (k _ _ _ X' hQ)
theorem GoOn.callV {W pc : Nat} {Ls : Array Slot} {a : Addr} {K : String} {argsL rest : List Value} {ps : List FieldType} {rt : Option FieldType} {st : List Value} (X : Stand p l e R s m args below meth c T locs cells slots) (hx : p.tables.exec = Jvm.exec) (hZ : Z.Warmed39 s.vm) (hown : s.vm.findClass own = some m.cls)
    (w1 : (Cond.methodLink own index y).before a0 Z = true) (w5 : (Cond.declares y).before a0 Z = true) (nf : NotFace s y) (w6 : (Cond.selects K y z).before a0 Z = true) (w2 : (Cond.instanceMethod z).before a0 Z = true) (w3 : (Cond.initialized z.cls).before a0 Z = true) (w4 : (Cond.code z bytes maxL ret).before a0 Z = true) (hy : y.cls ≠ "java/lang/invoke/MethodHandle" ∧ y.cls ≠ "java/lang/invoke/VarHandle")
    (C : OwCon l Z z bytes maxL ret [] rm (.ref a :: argsL).toArray h Q) (eT : T.heap = h) (E : Exa Z h a K) (hfr : rm.frames + 1 ≤ R.frames) (hlo : W + (maxL + 11) + rm.locals ≤ R.locals) (hsize : Ls.size = c.maxLocals) (hd : parseMethodDescriptor y.desc = some ⟨ps, rt⟩) (hl : argsL.length = ps.length) (hst : st = argsL.reverse ++ .ref a :: rest)
    (hW : (rest.map fun v => v.category).sum ≤ W) (hdg : decode c.code pc = .ok (.invokevirtual index, 3)) (hc : cells + rm.cells ≤ R.cells) (hs : slots + rm.slots ≤ R.slots)
    (k : ∀ (v : Option Value) (T' : State) (L : List Loc), Stand p l e R s m args below meth c T' (locs ++ L) (cells + rm.cells) (slots + rm.slots) → Q v T'.heap L → GoOn p e below P (T'.setTop (mkF m (pc + 3) Ls (v.toList ++ rest)))) : GoOn p e below P (T.setTop (mkF m pc Ls st)) := by
  obtain ⟨cB, kB, q1, q2, q3⟩ := isOf hZ eT E
  obtain ⟨v, vm₁, ⟨T', L', c', s'⟩, -, X', ⟨Lc, hQ, l1, l2, l3⟩, stp⟩ := X.virtualBack hx (y := y) (z := z) hown (mvT hZ w1) (mvT hZ w5) nf (mvT hZ w6) (mvT hZ w2) hy (backOf (W := W) C hZ w4 w3 hfr hlo) q1 q3 (g := mkF m pc Ls st) rfl hsize (Steps.refl _) (argsL := argsL) (rest := rest) (lenOf hd hl) hst (by show 2 * 0 + _ ≤ _; omega) hdg (fun _ _ => ⟨rfl, eT, hc, hs⟩)
  dsimp only [Pt.U, Pt.locs, Pt.cells, Pt.slots] at X' l1 l2 l3 stp hQ
  subst l1 l2 l3
  exact GoOn.st (fun _ q => stp.trans q) (k _ _ _ X' hQ)
theorem GoOn.callP {W pc : Nat} {Ls : Array Slot} {a : Addr} {argsL rest : List Value} {ps : List FieldType} {rt : Option FieldType} {st : List Value} (X : Stand p l e R s m args below meth c T locs cells slots) (hx : p.tables.exec = Jvm.exec) (hZ : Z.Warmed39 s.vm) (hown : s.vm.findClass own = some m.cls)
    (w1 : (Cond.methodLink own index y).before a0 Z = true) (w2 : (Cond.instanceMethod y).before a0 Z = true) (w5 : (Cond.selects y.cls y y).before a0 Z = true) (w6 : (Cond.privateMethod y).before a0 Z = true) (w3 : (Cond.initialized y.cls).before a0 Z = true) (w4 : (Cond.code y bytes maxL ret).before a0 Z = true) (hy : y.cls ≠ "java/lang/invoke/MethodHandle" ∧ y.cls ≠ "java/lang/invoke/VarHandle")
    (C : OwCon l Z y bytes maxL ret [] rm (.ref a :: argsL).toArray h Q) (eT : T.heap = h) (hcl : ∃ cl : Cell, h[a]? = some cl ∧ ∀ q, cl.vm ≠ .statics q) (hfr : rm.frames + 1 ≤ R.frames) (hlo : W + (maxL + 11) + rm.locals ≤ R.locals) (hsize : Ls.size = c.maxLocals) (hd : parseMethodDescriptor y.desc = some ⟨ps, rt⟩) (hl : argsL.length = ps.length) (hst : st = argsL.reverse ++ .ref a :: rest)
    (hW : (rest.map fun v => v.category).sum ≤ W) (hdg : decode c.code pc = .ok (.invokevirtual index, 3)) (hc : cells + rm.cells ≤ R.cells) (hs : slots + rm.slots ≤ R.slots)
    (k : ∀ (v : Option Value) (T' : State) (L : List Loc), Stand p l e R s m args below meth c T' (locs ++ L) (cells + rm.cells) (slots + rm.slots) → Q v T'.heap L → GoOn p e below P (T'.setTop (mkF m (pc + 3) Ls (v.toList ++ rest)))) : GoOn p e below P (T.setTop (mkF m pc Ls st)) := by
  obtain ⟨cl, q1, q2⟩ := hcl
  obtain ⟨v, vm₁, ⟨T', L', c', s'⟩, -, X', ⟨Lc, hQ, l1, l2, l3⟩, stp⟩ := X.privateBack hx (y := y) hown (mvT hZ w1) (mvT hZ w2) (mvT hZ w5) (Cond.privateMethod_at (mvP hZ w6 (args := #[]))) (mvT hZ w4) hy (backOf (W := W) C hZ w4 w3 hfr hlo) (g := mkF m pc Ls st) rfl hsize (Steps.refl _) (a := a) (by rw [eT]; exact q1) q2 (argsL := argsL) (rest := rest) (lenOf hd hl) hst (by show 2 * 0 + _ ≤ _; omega) hdg (fun _ _ => ⟨rfl, eT, hc, hs⟩)
  dsimp only [Pt.U, Pt.locs, Pt.cells, Pt.slots] at X' l1 l2 l3 stp hQ
  subst l1 l2 l3
  exact GoOn.st (fun _ q => stp.trans q) (k _ _ _ X' hQ)
theorem GoOn.callI {W pc count : Nat} {Ls : Array Slot} {a : Addr} {K : String} {argsL rest : List Value} {ps : List FieldType} {rt : Option FieldType} {st : List Value} (X : Stand p l e R s m args below meth c T locs cells slots) (hx : p.tables.exec = Jvm.exec) (hZ : Z.Warmed39 s.vm) (hown : s.vm.findClass own = some m.cls)
    (w1 : (Cond.methodLink own index y).before a0 Z = true) (w5 : (Cond.declares y).before a0 Z = true) (w7 : (Cond.interfaceMethod y.cls y.cls y.name y.desc).before a0 Z = true) (w6 : (Cond.selects K y z).before a0 Z = true) (w2 : (Cond.instanceMethod z).before a0 Z = true) (w8 : (Cond.publicMethod z).before a0 Z = true) (w9 : (Cond.unhidden K y.name y.desc).before a0 Z = true) (w10 : (Cond.castable K y.cls).before a0 Z = true) (hfa : ((Cond.interfaceMethod y.cls y.cls y.name y.desc).onTables && (Cond.interfaceMethod y.cls y.cls y.name y.desc).keepsFace) = true) (w3 : (Cond.initialized z.cls).before a0 Z = true) (w4 : (Cond.code z bytes maxL ret).before a0 Z = true) (hy : y.cls ≠ "java/lang/invoke/MethodHandle" ∧ y.cls ≠ "java/lang/invoke/VarHandle")
    (C : OwCon l Z z bytes maxL ret [] rm (.ref a :: argsL).toArray h Q) (eT : T.heap = h) (E : Exa Z h a K) (hfr : rm.frames + 1 ≤ R.frames) (hlo : W + (maxL + 11) + rm.locals ≤ R.locals) (hsize : Ls.size = c.maxLocals) (hd : parseMethodDescriptor y.desc = some ⟨ps, rt⟩) (hl : argsL.length = ps.length) (hst : st = argsL.reverse ++ .ref a :: rest)
    (hW : (rest.map fun v => v.category).sum ≤ W) (hdg : decode c.code pc = .ok (.invokeinterface index count, 5)) (hc : cells + rm.cells ≤ R.cells) (hs : slots + rm.slots ≤ R.slots)
    (k : ∀ (v : Option Value) (T' : State) (L : List Loc), Stand p l e R s m args below meth c T' (locs ++ L) (cells + rm.cells) (slots + rm.slots) → Q v T'.heap L → GoOn p e below P (T'.setTop (mkF m (pc + 5) Ls (v.toList ++ rest)))) : GoOn p e below P (T.setTop (mkF m pc Ls st)) := by
  obtain ⟨cB, kB, q1, q2, q3⟩ := isOf hZ eT E
  obtain ⟨v, vm₁, ⟨T', L', c', s'⟩, -, X', ⟨Lc, hQ, l1, l2, l3⟩, stp⟩ := X.interfaceBack hx (xi := y) (y := z) hown (mvT hZ w1) (mvT hZ w5) (mvT hZ w7 hfa) (mvT hZ w6) (mvT hZ w2) (mvT hZ w8) (mvT hZ w9) (mvT hZ w10) hy (backOf (W := W) C hZ w4 w3 hfr hlo) q1 q2 q3 (g := mkF m pc Ls st) rfl hsize (Steps.refl _) (argsL := argsL) (rest := rest) (lenOf hd hl) hst (by show 2 * 0 + _ ≤ _; omega) hdg (fun _ _ => ⟨rfl, eT, hc, hs⟩)
  dsimp only [Pt.U, Pt.locs, Pt.cells, Pt.slots] at X' l1 l2 l3 stp hQ
  subst l1 l2 l3
  exact GoOn.st (fun _ q => stp.trans q) (k _ _ _ X' hQ)
theorem own_aaload {a : Addr} {kc : ClassId} {ty : FieldType} {zl j : Int32} {vs : List Value} {dv v : Value} (X : Stand p l e R s m args below meth c T locs cells slots) (hx : p.tables.exec = Jvm.exec) (hZ : Z.Warmed39 s.vm) (eT : T.heap = h) (V : Arv Z h a kc ty zl vs dv) (hty : ty.isReference = true) (hj : ¬ j < 0 ∧ j < zl) (hv : vs.getD j.toNatClampNeg dv = v) {pc : Nat} {Ls : Array Slot} {rest : List Value} (hd : decode c.code pc = .ok (.aaload, 1)) :
    ∀ t, Steps p.tables e below (T.setTop (mkF m (pc + 1) Ls (v :: rest))) t → Steps p.tables e below (T.setTop (mkF m pc Ls (.int j :: .ref a :: rest))) t := by
  obtain ⟨cl, A, -, S, N, H, -⟩ := V
  intro t k
  exact X.aaload hx (j := j) (v := v) (by rw [eT]; exact A.1) (State.isArrayOf_alike hZ.alike A.2.1) hty A.2.2 (inb_of S hj) (H.at (inb_of S hj) hv) (g := mkF m pc Ls (.int j :: .ref a :: rest)) rfl rfl hd _ k
theorem own_aastore {a b : Addr} {kc : ClassId} {C : String} {ty : FieldType} {zl j : Int32} {vs : List Value} {dv : Value} (X : Stand p l e R s m args below meth c T locs cells slots) (hx : p.tables.exec = Jvm.exec) (hZ : Z.Warmed39 s.vm) (eT : T.heap = h) (V : Arv Z h a kc ty zl vs dv) (hty : ty.isReference = true) (hfit : fits ty (.ref b) = true) (O : Ovr Z kc C) (I : Ins Z h b C true) (hj : ¬ j < 0 ∧ j < zl) (i : Nat) (hi : j.toNatClampNeg = i) (hl : i < vs.length) {pc : Nat} {Ls : Array Slot} {rest : List Value} (hd : decode c.code pc = .ok (.aastore, 1)) :
    ∃ T' h', Stand p l e R s m args below meth c T' (locs ++ [⟨a, j.toNatClampNeg⟩]) cells slots ∧ T'.heap = h' ∧ Wr h h' a j.toNatClampNeg (.ref b) ∧ Arv Z h' a kc ty zl (vs.set i (.ref b)) dv ∧ ∀ t, Steps p.tables e below (T'.setTop (mkF m (pc + 1) Ls rest)) t → Steps p.tables e below (T.setTop (mkF m pc Ls (.ref b :: .int j :: .ref a :: rest))) t := by
  obtain ⟨cl, A, q1, S, N, H, G⟩ := V
  obtain ⟨T', h', X', e', W, st⟩ := stR X hx hZ eT A (j := j) (inb_of S hj) hty (Sto.ofV A q1 O I) (g := mkF m pc Ls (.ref b :: .int j :: .ref a :: rest)) rfl rfl hd
  exact ⟨T', h', X', e', W, Arv.set A q1 S N H G hfit W i hi hl, st⟩
theorem own_aastoreN {a : Addr} {kc : ClassId} {ty : FieldType} {zl j : Int32} {vs : List Value} {dv : Value} (X : Stand p l e R s m args below meth c T locs cells slots) (hx : p.tables.exec = Jvm.exec) (hZ : Z.Warmed39 s.vm) (eT : T.heap = h) (V : Arv Z h a kc ty zl vs dv) (hty : ty.isReference = true) (hfit : fits ty .null = true) (hj : ¬ j < 0 ∧ j < zl) (i : Nat) (hi : j.toNatClampNeg = i) (hl : i < vs.length) {pc : Nat} {Ls : Array Slot} {rest : List Value} (hd : decode c.code pc = .ok (.aastore, 1)) :
    ∃ T' h', Stand p l e R s m args below meth c T' (locs ++ [⟨a, j.toNatClampNeg⟩]) cells slots ∧ T'.heap = h' ∧ Wr h h' a j.toNatClampNeg .null ∧ Arv Z h' a kc ty zl (vs.set i .null) dv ∧ ∀ t, Steps p.tables e below (T'.setTop (mkF m (pc + 1) Ls rest)) t → Steps p.tables e below (T.setTop (mkF m pc Ls (.null :: .int j :: .ref a :: rest))) t := by
  obtain ⟨cl, A, q1, S, N, H, G⟩ := V
  obtain ⟨T', h', X', e', W, st⟩ := stR X hx hZ eT A (j := j) (inb_of S hj) hty (Or.inl rfl) (g := mkF m pc Ls (.null :: .int j :: .ref a :: rest)) rfl rfl hd
  exact ⟨T', h', X', e', W, Arv.set A q1 S N H G hfit W i hi hl, st⟩
theorem own_arrlen {a : Addr} {kc : ClassId} {ty : FieldType} {zl : Int32} {vs : List Value} {dv : Value} (X : Stand p l e R s m args below meth c T locs cells slots) (hx : p.tables.exec = Jvm.exec) (hZ : Z.Warmed39 s.vm) (eT : T.heap = h) (V : Arv Z h a kc ty zl vs dv) {pc : Nat} {Ls : Array Slot} {rest : List Value} (hd : decode c.code pc = .ok (.arraylength, 1)) :
    ∀ t, Steps p.tables e below (T.setTop (mkF m (pc + 1) Ls (.int zl :: rest))) t → Steps p.tables e below (T.setTop (mkF m pc Ls (.ref a :: rest))) t := by
  obtain ⟨cl, A, -, S, N, -, -⟩ := V
  intro t k
  refine X.arraylength hx (by rw [eT]; exact A.1) (State.isArrayOf_alike hZ.alike A.2.1) (g := mkF m pc Ls (.ref a :: rest)) rfl rfl hd _ ?_
  rw [len_of S N]; exact k
theorem own_iaload {a : Addr} {kc : ClassId} {zl j : Int32} {vs : List Value} {dv v : Value} (X : Stand p l e R s m args below meth c T locs cells slots) (hx : p.tables.exec = Jvm.exec) (hZ : Z.Warmed39 s.vm) (eT : T.heap = h) (V : Arv Z h a kc .int zl vs dv) (hj : ¬ j < 0 ∧ j < zl) (hv : vs.getD j.toNatClampNeg dv = v) {pc : Nat} {Ls : Array Slot} {rest : List Value} (hd : decode c.code pc = .ok (.iaload, 1)) :
    ∀ t, Steps p.tables e below (T.setTop (mkF m (pc + 1) Ls (v :: rest))) t → Steps p.tables e below (T.setTop (mkF m pc Ls (.int j :: .ref a :: rest))) t := by
  obtain ⟨cl, A, -, S, N, H, -⟩ := V
  intro t k
  exact X.iaload hx (j := j) (v := v) (by rw [eT]; exact A.1) (State.isArrayOf_alike hZ.alike A.2.1) A.2.2 (inb_of S hj) (H.at (inb_of S hj) hv) (g := mkF m pc Ls (.int j :: .ref a :: rest)) rfl rfl hd _ k
theorem own_caload {a : Addr} {kc : ClassId} {zl j : Int32} {vs : List Value} {dv v : Value} (X : Stand p l e R s m args below meth c T locs cells slots) (hx : p.tables.exec = Jvm.exec) (hZ : Z.Warmed39 s.vm) (eT : T.heap = h) (V : Arv Z h a kc .char zl vs dv) (hj : ¬ j < 0 ∧ j < zl) (hv : vs.getD j.toNatClampNeg dv = v) {pc : Nat} {Ls : Array Slot} {rest : List Value} (hd : decode c.code pc = .ok (.caload, 1)) :
    ∀ t, Steps p.tables e below (T.setTop (mkF m (pc + 1) Ls (v :: rest))) t → Steps p.tables e below (T.setTop (mkF m pc Ls (.int j :: .ref a :: rest))) t := by
  obtain ⟨cl, A, -, S, N, H, -⟩ := V
  intro t k
  exact X.caload hx (j := j) (v := v) (by rw [eT]; exact A.1) (State.isArrayOf_alike hZ.alike A.2.1) A.2.2 (inb_of S hj) (H.at (inb_of S hj) hv) (g := mkF m pc Ls (.int j :: .ref a :: rest)) rfl rfl hd _ k
theorem own_baload {a : Addr} {kc : ClassId} {zl j : Int32} {vs : List Value} {dv v : Value} (X : Stand p l e R s m args below meth c T locs cells slots) (hx : p.tables.exec = Jvm.exec) (hZ : Z.Warmed39 s.vm) (eT : T.heap = h) (V : Arv Z h a kc .byte zl vs dv) (hj : ¬ j < 0 ∧ j < zl) (hv : vs.getD j.toNatClampNeg dv = v) {pc : Nat} {Ls : Array Slot} {rest : List Value} (hd : decode c.code pc = .ok (.baload, 1)) :
    ∀ t, Steps p.tables e below (T.setTop (mkF m (pc + 1) Ls (v :: rest))) t → Steps p.tables e below (T.setTop (mkF m pc Ls (.int j :: .ref a :: rest))) t := by
  obtain ⟨cl, A, -, S, N, H, -⟩ := V
  intro t k
  exact X.baloadBytes hx (j := j) (v := v) (by rw [eT]; exact A.1) (State.isArrayOf_alike hZ.alike A.2.1) A.2.2 (inb_of S hj) (H.at (inb_of S hj) hv) (g := mkF m pc Ls (.int j :: .ref a :: rest)) rfl rfl hd _ k
theorem own_zaload {a : Addr} {kc : ClassId} {zl j : Int32} {vs : List Value} {dv v : Value} (X : Stand p l e R s m args below meth c T locs cells slots) (hx : p.tables.exec = Jvm.exec) (hZ : Z.Warmed39 s.vm) (eT : T.heap = h) (V : Arv Z h a kc .boolean zl vs dv) (hj : ¬ j < 0 ∧ j < zl) (hv : vs.getD j.toNatClampNeg dv = v) {pc : Nat} {Ls : Array Slot} {rest : List Value} (hd : decode c.code pc = .ok (.baload, 1)) :
    ∀ t, Steps p.tables e below (T.setTop (mkF m (pc + 1) Ls (v :: rest))) t → Steps p.tables e below (T.setTop (mkF m pc Ls (.int j :: .ref a :: rest))) t := by
  obtain ⟨cl, A, -, S, N, H, -⟩ := V
  intro t k
  exact X.baloadBooleans hx (j := j) (v := v) (by rw [eT]; exact A.1) (State.isArrayOf_alike hZ.alike A.2.1) A.2.2 (inb_of S hj) (H.at (inb_of S hj) hv) (g := mkF m pc Ls (.int j :: .ref a :: rest)) rfl rfl hd _ k
theorem own_laload {a : Addr} {kc : ClassId} {zl j : Int32} {vs : List Value} {dv v : Value} (X : Stand p l e R s m args below meth c T locs cells slots) (hx : p.tables.exec = Jvm.exec) (hZ : Z.Warmed39 s.vm) (eT : T.heap = h) (V : Arv Z h a kc .long zl vs dv) (hj : ¬ j < 0 ∧ j < zl) (hv : vs.getD j.toNatClampNeg dv = v) {pc : Nat} {Ls : Array Slot} {rest : List Value} (hd : decode c.code pc = .ok (.laload, 1)) :
    ∀ t, Steps p.tables e below (T.setTop (mkF m (pc + 1) Ls (v :: rest))) t → Steps p.tables e below (T.setTop (mkF m pc Ls (.int j :: .ref a :: rest))) t := by
  obtain ⟨cl, A, -, S, N, H, -⟩ := V
  intro t k
  exact X.laload hx (j := j) (v := v) (by rw [eT]; exact A.1) (State.isArrayOf_alike hZ.alike A.2.1) A.2.2 (inb_of S hj) (H.at (inb_of S hj) hv) (g := mkF m pc Ls (.int j :: .ref a :: rest)) rfl rfl hd _ k
theorem own_iastore {a : Addr} {kc : ClassId} {zl j : Int32} {x : Int32} {vs : List Value} {dv : Value} (X : Stand p l e R s m args below meth c T locs cells slots) (hx : p.tables.exec = Jvm.exec) (hZ : Z.Warmed39 s.vm) (eT : T.heap = h) (V : Arv Z h a kc .int zl vs dv) (hj : ¬ j < 0 ∧ j < zl) (i : Nat) (hi : j.toNatClampNeg = i) (hl : i < vs.length) {pc : Nat} {Ls : Array Slot} {rest : List Value} (hd : decode c.code pc = .ok (.iastore, 1)) :
    ∃ T' h', Stand p l e R s m args below meth c T' (locs ++ [⟨a, j.toNatClampNeg⟩]) cells slots ∧ T'.heap = h' ∧ Wr h h' a j.toNatClampNeg (.int x) ∧ Arv Z h' a kc .int zl (vs.set i (.int x)) dv ∧ ∀ t, Steps p.tables e below (T'.setTop (mkF m (pc + 1) Ls rest)) t → Steps p.tables e below (T.setTop (mkF m pc Ls ((.int x) :: .int j :: .ref a :: rest))) t := by
  obtain ⟨cl, A, q1, S, N, H, G⟩ := V
  obtain ⟨T', h', X', e', W, st⟩ := stI X hx hZ eT A (j := j) (x := x) (inb_of S hj) (g := mkF m pc Ls ((.int x) :: .int j :: .ref a :: rest)) rfl rfl hd
  exact ⟨T', h', X', e', W, Arv.set A q1 S N H G rfl W i hi hl, st⟩
theorem own_castore {a : Addr} {kc : ClassId} {zl j : Int32} {x : Int32} {vs : List Value} {dv : Value} (X : Stand p l e R s m args below meth c T locs cells slots) (hx : p.tables.exec = Jvm.exec) (hZ : Z.Warmed39 s.vm) (eT : T.heap = h) (V : Arv Z h a kc .char zl vs dv) (hj : ¬ j < 0 ∧ j < zl) (i : Nat) (hi : j.toNatClampNeg = i) (hl : i < vs.length) {pc : Nat} {Ls : Array Slot} {rest : List Value} (hd : decode c.code pc = .ok (.castore, 1)) :
    ∃ T' h', Stand p l e R s m args below meth c T' (locs ++ [⟨a, j.toNatClampNeg⟩]) cells slots ∧ T'.heap = h' ∧ Wr h h' a j.toNatClampNeg (.int (nar .char x)) ∧ Arv Z h' a kc .char zl (vs.set i (.int (nar .char x))) dv ∧ ∀ t, Steps p.tables e below (T'.setTop (mkF m (pc + 1) Ls rest)) t → Steps p.tables e below (T.setTop (mkF m pc Ls ((.int x) :: .int j :: .ref a :: rest))) t := by
  obtain ⟨cl, A, q1, S, N, H, G⟩ := V
  obtain ⟨T', h', X', e', W, st⟩ := stC X hx hZ eT A (j := j) (x := x) (inb_of S hj) (g := mkF m pc Ls ((.int x) :: .int j :: .ref a :: rest)) rfl rfl hd
  exact ⟨T', h', X', e', W, Arv.set A q1 S N H G (fits_nar_char x) W i hi hl, st⟩
theorem own_bastore {a : Addr} {kc : ClassId} {zl j : Int32} {x : Int32} {vs : List Value} {dv : Value} (X : Stand p l e R s m args below meth c T locs cells slots) (hx : p.tables.exec = Jvm.exec) (hZ : Z.Warmed39 s.vm) (eT : T.heap = h) (V : Arv Z h a kc .byte zl vs dv) (hj : ¬ j < 0 ∧ j < zl) (i : Nat) (hi : j.toNatClampNeg = i) (hl : i < vs.length) {pc : Nat} {Ls : Array Slot} {rest : List Value} (hd : decode c.code pc = .ok (.bastore, 1)) :
    ∃ T' h', Stand p l e R s m args below meth c T' (locs ++ [⟨a, j.toNatClampNeg⟩]) cells slots ∧ T'.heap = h' ∧ Wr h h' a j.toNatClampNeg (.int (nar .byte x)) ∧ Arv Z h' a kc .byte zl (vs.set i (.int (nar .byte x))) dv ∧ ∀ t, Steps p.tables e below (T'.setTop (mkF m (pc + 1) Ls rest)) t → Steps p.tables e below (T.setTop (mkF m pc Ls ((.int x) :: .int j :: .ref a :: rest))) t := by
  obtain ⟨cl, A, q1, S, N, H, G⟩ := V
  obtain ⟨T', h', X', e', W, st⟩ := stB X hx hZ eT A (j := j) (x := x) (inb_of S hj) (g := mkF m pc Ls ((.int x) :: .int j :: .ref a :: rest)) rfl rfl hd
  exact ⟨T', h', X', e', W, Arv.set A q1 S N H G (fits_nar_byte x) W i hi hl, st⟩
theorem own_zastore {a : Addr} {kc : ClassId} {zl j : Int32} {x : Int32} {vs : List Value} {dv : Value} (X : Stand p l e R s m args below meth c T locs cells slots) (hx : p.tables.exec = Jvm.exec) (hZ : Z.Warmed39 s.vm) (eT : T.heap = h) (V : Arv Z h a kc .boolean zl vs dv) (hj : ¬ j < 0 ∧ j < zl) (i : Nat) (hi : j.toNatClampNeg = i) (hl : i < vs.length) {pc : Nat} {Ls : Array Slot} {rest : List Value} (hd : decode c.code pc = .ok (.bastore, 1)) :
    ∃ T' h', Stand p l e R s m args below meth c T' (locs ++ [⟨a, j.toNatClampNeg⟩]) cells slots ∧ T'.heap = h' ∧ Wr h h' a j.toNatClampNeg (.int (nar .boolean x)) ∧ Arv Z h' a kc .boolean zl (vs.set i (.int (nar .boolean x))) dv ∧ ∀ t, Steps p.tables e below (T'.setTop (mkF m (pc + 1) Ls rest)) t → Steps p.tables e below (T.setTop (mkF m pc Ls ((.int x) :: .int j :: .ref a :: rest))) t := by
  obtain ⟨cl, A, q1, S, N, H, G⟩ := V
  obtain ⟨T', h', X', e', W, st⟩ := stZ X hx hZ eT A (j := j) (x := x) (inb_of S hj) (g := mkF m pc Ls ((.int x) :: .int j :: .ref a :: rest)) rfl rfl hd
  exact ⟨T', h', X', e', W, Arv.set A q1 S N H G (fits_nar_bool x) W i hi hl, st⟩
theorem own_lastore {a : Addr} {kc : ClassId} {zl j : Int32} {x : Int64} {vs : List Value} {dv : Value} (X : Stand p l e R s m args below meth c T locs cells slots) (hx : p.tables.exec = Jvm.exec) (hZ : Z.Warmed39 s.vm) (eT : T.heap = h) (V : Arv Z h a kc .long zl vs dv) (hj : ¬ j < 0 ∧ j < zl) (i : Nat) (hi : j.toNatClampNeg = i) (hl : i < vs.length) {pc : Nat} {Ls : Array Slot} {rest : List Value} (hd : decode c.code pc = .ok (.lastore, 1)) :
    ∃ T' h', Stand p l e R s m args below meth c T' (locs ++ [⟨a, j.toNatClampNeg⟩]) cells slots ∧ T'.heap = h' ∧ Wr h h' a j.toNatClampNeg (.long x) ∧ Arv Z h' a kc .long zl (vs.set i (.long x)) dv ∧ ∀ t, Steps p.tables e below (T'.setTop (mkF m (pc + 1) Ls rest)) t → Steps p.tables e below (T.setTop (mkF m pc Ls ((.long x) :: .int j :: .ref a :: rest))) t := by
  obtain ⟨cl, A, q1, S, N, H, G⟩ := V
  obtain ⟨T', h', X', e', W, st⟩ := stJ X hx hZ eT A (j := j) (x := x) (inb_of S hj) (g := mkF m pc Ls ((.long x) :: .int j :: .ref a :: rest)) rfl rfl hd
  exact ⟨T', h', X', e', W, Arv.set A q1 S N H G rfl W i hi hl, st⟩
theorem own_if_pos {P : Prop} [Decidable P] {a b z : Int32} (h : P) (e : a = z) : (if P then a else b) = z := (if_pos h).trans e
theorem own_nar_ite {P : Prop} [Decidable P] : narrow .boolean (.int (if P then (1 : Int32) else (0 : Int32))) = .int (if P then (1 : Int32) else (0 : Int32)) := by split <;> rfl
theorem own_nar_ite' {P : Prop} [Decidable P] : narrow .boolean (.int (if P then (0 : Int32) else (1 : Int32))) = .int (if P then (0 : Int32) else (1 : Int32)) := by split <;> rfl
theorem own_nar_char (x : Int32) : nar .char x.toUInt32.toUInt16.toUInt32.toInt32 = x.toUInt32.toUInt16.toUInt32.toInt32 := by
  simp [nar]
  congr 1
  apply UInt32.toNat_inj.mp
  simp
theorem GoOn.retD {Q : Option Value → Heap → List Loc → Prop} {rc rs : Nat} (X : Stand p l e R s m args below meth c T locs cells slots) (hx : p.tables.exec = Jvm.exec) (hlk : meth.locks = false) {pc : Nat} {Ls : Array Slot} {z : UInt64} {rest : List Value} (hret : meth.sig.returnType = some .double) (hd : decode c.code pc = .ok (.dreturn, 1))
    (hq : Q (some (.double z)) T.heap locs) (hc : cells ≤ rc) (hs : slots ≤ rs) : GoOn p e below (OwPost Q s rc rs) (T.setTop (mkF m pc Ls (.double z :: rest))) :=
  GoOn.out X hlk (fun h => by rw [hret] at h; cases h) hq hc hs fun fs hr => retOut X hx hret rfl (Or.inr (Or.inr (Or.inl ⟨rfl, rfl, _, rfl⟩))) hd hr
theorem own_daload {a : Addr} {kc : ClassId} {zl j : Int32} {vs : List Value} {dv v : Value} (X : Stand p l e R s m args below meth c T locs cells slots) (hx : p.tables.exec = Jvm.exec) (hZ : Z.Warmed39 s.vm) (eT : T.heap = h) (V : Arv Z h a kc .double zl vs dv) (hj : ¬ j < 0 ∧ j < zl) (hv : vs.getD j.toNatClampNeg dv = v) {pc : Nat} {Ls : Array Slot} {rest : List Value} (hd : decode c.code pc = .ok (.daload, 1)) :
    ∀ t, Steps p.tables e below (T.setTop (mkF m (pc + 1) Ls (v :: rest))) t → Steps p.tables e below (T.setTop (mkF m pc Ls (.int j :: .ref a :: rest))) t := by
  obtain ⟨cl, A, -, S, N, H, -⟩ := V
  intro t k
  exact X.daload hx (j := j) (v := v) (by rw [eT]; exact A.1) (State.isArrayOf_alike hZ.alike A.2.1) A.2.2 (inb_of S hj) (H.at (inb_of S hj) hv) (g := mkF m pc Ls (.int j :: .ref a :: rest)) rfl rfl hd _ k
theorem own_dastore {a : Addr} {kc : ClassId} {zl j : Int32} {x : UInt64} {vs : List Value} {dv : Value} (X : Stand p l e R s m args below meth c T locs cells slots) (hx : p.tables.exec = Jvm.exec) (hZ : Z.Warmed39 s.vm) (eT : T.heap = h) (V : Arv Z h a kc .double zl vs dv) (hj : ¬ j < 0 ∧ j < zl) (i : Nat) (hi : j.toNatClampNeg = i) (hl : i < vs.length) {pc : Nat} {Ls : Array Slot} {rest : List Value} (hd : decode c.code pc = .ok (.dastore, 1)) :
    ∃ T' h', Stand p l e R s m args below meth c T' (locs ++ [⟨a, j.toNatClampNeg⟩]) cells slots ∧ T'.heap = h' ∧ Wr h h' a j.toNatClampNeg (.double x) ∧ Arv Z h' a kc .double zl (vs.set i (.double x)) dv ∧ ∀ t, Steps p.tables e below (T'.setTop (mkF m (pc + 1) Ls rest)) t → Steps p.tables e below (T.setTop (mkF m pc Ls (.double x :: .int j :: .ref a :: rest))) t := by
  obtain ⟨cl, A, q1, S, N, H, G⟩ := V
  obtain ⟨T', h', X', e', W, st⟩ := stD X hx hZ eT A (j := j) (x := x) (inb_of S hj) (g := mkF m pc Ls (.double x :: .int j :: .ref a :: rest)) rfl rfl hd
  exact ⟨T', h', X', e', W, Arv.set A q1 S N H G rfl W i hi hl, st⟩
theorem own_arv_out {a : Addr} {kc : ClassId} {ty : FieldType} {zl j : Int32} {vs : List Value} {dv v : Value} (V : Arv Z h a kc ty zl vs dv) (i : Nat) (hi : j.toNatClampNeg = i) (hj : ¬ j < 0) (hz : ¬ j < zl) : Arv Z h a kc ty zl (vs.set i v) dv := by
  obtain ⟨cl, A, q1, S, N, H, G⟩ := V
  have hlt : cl.slots.size ≤ i := by
    rw [S, ← hi]
    rw [Int32.lt_iff_toInt_lt] at hj hz N
    have e0 : (0 : Int32).toInt = 0 := rfl
    simp only [Int32.toNatClampNeg]; omega
  have e : ∀ x, x < cl.slots.size → (vs.set i v).getD x dv = vs.getD x dv := fun x hx => by
    simp only [List.getD_eq_getElem?_getD]
    rw [List.getElem?_set_ne (by omega)]
  exact ⟨cl, A, q1, S, N, fun x hx => by rw [e x hx]; exact H x hx, fun x hx => by rw [e x hx]; exact G x hx⟩
end Own
end Jvm.OwnKit
namespace Jvm.Pilot.@@N@@
open Jvm Jvm.ClassFile Sem Op Lib Jvm.Free Jvm.Stand Jvm.LawKit Jvm.RoadKit Jvm.OwnKit Bundle Jvm.Pilot.@@N@@.Jvm.D
def own_min (x y : Int32) : Int32 := if y < x then y else x
def own_pick (f t u : Nat) (r : Int32) : Nat := if r = 0 then f else if r = 1 then t else u
def own_rank (f t u a : Nat) : Int32 := if a = f then 0 else if a = u then 1 else if a = t then 2 else 3
def own_and (f t u a b : Nat) : Nat := if a = f then f else if b = f then f else if a = t then (if b = t then t else u) else u
theorem own_pick_cases (f t u : Nat) (r : Int32) : own_pick f t u r = f ∨ own_pick f t u r = t ∨ own_pick f t u r = u := by
  unfold own_pick; split
  · exact Or.inl rfl
  · split
    · exact Or.inr (Or.inl rfl)
    · exact Or.inr (Or.inr rfl)
theorem own_law (f t u : Nat) (h1 : u ≠ f) (h2 : t ≠ f) (h3 : u ≠ t) (a b : Nat) (ha : a = f ∨ a = t ∨ a = u) (hb : b = f ∨ b = t ∨ b = u) : own_rank f t u (own_and f t u a b) = own_min (own_rank f t u a) (own_rank f t u b) := by
  have g1 := h1.symm; have g2 := h2.symm; have g3 := h3.symm
  rcases ha with rfl | rfl | rfl <;> rcases hb with rfl | rfl | rfl <;> simp [own_rank, own_and, own_min, h1, h2, h3, g1, g2, g3] <;> decide
theorem own_exa {Z : State} {h : Heap} {f t u a : Nat} {C : String} (h1 : Exa Z h f C) (h2 : Exa Z h t C) (h3 : Exa Z h u C) (q : a = f ∨ a = t ∨ a = u) : Exa Z h a C := by
  rcases q with rfl | rfl | rfl
  · exact h1
  · exact h2
  · exact h3
theorem ef_min (m : MethodId) (x0 : Int32) (x1 : Int32) : entryFrame m #[(.int x0), (.int x1)] 2 = mkF m 0 #[.val (.int x0), .val (.int x1)] [] := by first | (simp [entryFrame, mkF, argsToLocals, Value.category]; done) | rfl
theorem d_jdk_29_method_69_0 : decode jdk_29_method_69_code 0 = .ok (.iload_n 0, 1) := by decide +kernel
theorem d_jdk_29_method_69_1 : decode jdk_29_method_69_code 1 = .ok (.iload_n 1, 1) := by decide +kernel
theorem d_jdk_29_method_69_2 : decode jdk_29_method_69_code 2 = .ok (.if_icmp .gt 7, 3) := by decide +kernel
theorem d_jdk_29_method_69_9 : decode jdk_29_method_69_code 9 = .ok (.iload_n 1, 1) := by decide +kernel
theorem d_jdk_29_method_69_10 : decode jdk_29_method_69_code 10 = .ok (.ireturn, 1) := by decide +kernel
theorem d_jdk_29_method_69_5 : decode jdk_29_method_69_code 5 = .ok (.iload_n 0, 1) := by decide +kernel
theorem d_jdk_29_method_69_6 : decode jdk_29_method_69_code 6 = .ok (.goto 4, 3) := by decide +kernel
set_option maxRecDepth 65536 in
set_option maxHeartbeats 40000000 in
theorem rm_min (l : Launch) (Z : State) (a0 : Array Value) (hw : ∀ d ∈ tables_1, d.before a0 Z = true) (p1 p2 : Int32) (h0 : Heap) :
    OwCon l Z (⟨"java/lang/Math", "min", "(II)I"⟩ : MethodName) jdk_29_method_69_code 2 (some .int) [] ({ frames := 0, cells := 0, slots := 0, locals := 0 } : Room) #[(.int p1), (.int p2)] h0 (OwRet (some (.int (own_min p1 p2))) h0) := by
  refine OwCon.of (Jvm.Free.JP.mathPlain rfl (by decide +kernel)) ?_
  intro p e s m below meth c s₁ X0 hx hby hml hret hlk hown hnm hZ e0
  refine GoOn.st (fun t k => castTop (ef_min m p1 p2) k) ?_
  show GoOn _ _ _ _ (s₁.setTop (mkF m 0 #[.val (.int p1), .val (.int p2)] []))
  refine GoOn.st (fun t k => XS.iloadN X0.here hx rfl (hb hby d_jdk_29_method_69_0) rfl k) ?_
  show GoOn _ _ _ _ (s₁.setTop (mkF m 1 #[.val (.int p1), .val (.int p2)] [(.int p1)]))
  refine GoOn.st (fun t k => XS.iloadN X0.here hx rfl (hb hby d_jdk_29_method_69_1) rfl k) ?_
  show GoOn _ _ _ _ (s₁.setTop (mkF m 2 #[.val (.int p1), .val (.int p2)] [(.int p2), (.int p1)]))
  by_cases hc1 : p2 < p1
  · skip
    refine GoOn.st (fun t k => XS.icmpYes X0.here hx rfl (pc0 := 2) (pc' := 9) rfl (hb hby d_jdk_29_method_69_2) rfl (tlt hc1).2.2.1 (by decide) (by decide) k) ?_
    show GoOn _ _ _ _ (s₁.setTop (mkF m 9 #[.val (.int p1), .val (.int p2)] []))
    refine GoOn.st (fun t k => XS.iloadN X0.here hx rfl (hb hby d_jdk_29_method_69_9) rfl k) ?_
    show GoOn _ _ _ _ (s₁.setTop (mkF m 10 #[.val (.int p1), .val (.int p2)] [(.int p2)]))
    exact GoOn.retI X0 hx hlk hret (hb hby d_jdk_29_method_69_10) (by rw [e0]; exact ⟨by unfold own_min; rw [if_pos hc1], rfl, rfl⟩) (by decide) (by decide)
  · skip
    refine GoOn.st (fun t k => XS.icmpNo X0.here hx rfl (hb hby d_jdk_29_method_69_2) rfl (flt hc1).2.2.1 k) ?_
    show GoOn _ _ _ _ (s₁.setTop (mkF m 5 #[.val (.int p1), .val (.int p2)] []))
    refine GoOn.st (fun t k => XS.iloadN X0.here hx rfl (hb hby d_jdk_29_method_69_5) rfl k) ?_
    show GoOn _ _ _ _ (s₁.setTop (mkF m 6 #[.val (.int p1), .val (.int p2)] [(.int p1)]))
    refine GoOn.st (fun t k => XS.goto X0.here hx rfl (pc0 := 6) (pc' := 10) rfl (hb hby d_jdk_29_method_69_6) (by decide) (by decide) k) ?_
    show GoOn _ _ _ _ (s₁.setTop (mkF m 10 #[.val (.int p1), .val (.int p2)] [(.int p1)]))
    exact GoOn.retI X0 hx hlk hret (hb hby d_jdk_29_method_69_10) (by rw [e0]; exact ⟨by unfold own_min; rw [if_neg hc1], rfl, rfl⟩) (by decide) (by decide)
theorem ef_pick (m : MethodId) (x0 : Int32) : entryFrame m #[(.int x0)] 2 = mkF m 0 #[.val (.int x0), .unset] [] := by first | (simp [entryFrame, mkF, argsToLocals, Value.category]; done) | rfl
theorem pn_com_example_tributary_tributary_semantics_TruthAndPinLaw : plainName "com/example/tributary/tributary/semantics/TruthAndPinLaw" = true := by first | (simp [plainName, overriddenIn]; done) | decide +kernel
theorem d_method_2_0 : decode method_2_code 0 = .ok (.iload_n 0, 1) := by decide +kernel
theorem d_method_2_1 : decode method_2_code 1 = .ok (.ldc 7, 2) := by decide +kernel
theorem d_method_2_3 : decode method_2_code 3 = .ok (.iand, 1) := by decide +kernel
theorem d_method_2_4 : decode method_2_code 4 = .ok (.iconst 3, 1) := by decide +kernel
theorem d_method_2_5 : decode method_2_code 5 = .ok (.irem, 1) := by decide +kernel
theorem d_method_2_6 : decode method_2_code 6 = .ok (.istore_n 1, 1) := by decide +kernel
theorem d_method_2_7 : decode method_2_code 7 = .ok (.iload_n 1, 1) := by decide +kernel
theorem d_method_2_8 : decode method_2_code 8 = .ok (.ifCond .ne 7, 3) := by decide +kernel
theorem d_method_2_11 : decode method_2_code 11 = .ok (.getstatic 8, 3) := by decide +kernel
theorem d_method_2_14 : decode method_2_code 14 = .ok (.areturn, 1) := by decide +kernel
theorem d_method_2_15 : decode method_2_code 15 = .ok (.iload_n 1, 1) := by decide +kernel
theorem d_method_2_16 : decode method_2_code 16 = .ok (.iconst 1, 1) := by decide +kernel
theorem d_method_2_17 : decode method_2_code 17 = .ok (.if_icmp .ne 7, 3) := by decide +kernel
theorem d_method_2_20 : decode method_2_code 20 = .ok (.getstatic 14, 3) := by decide +kernel
theorem d_method_2_23 : decode method_2_code 23 = .ok (.areturn, 1) := by decide +kernel
theorem d_method_2_24 : decode method_2_code 24 = .ok (.getstatic 17, 3) := by decide +kernel
theorem d_method_2_27 : decode method_2_code 27 = .ok (.areturn, 1) := by decide +kernel
set_option maxRecDepth 65536 in
set_option maxHeartbeats 40000000 in
theorem rm_pick (l : Launch) (Z : State) (a0 : Array Value) (hw : ∀ d ∈ tables_1, d.before a0 Z = true) (aF aT aU : Addr) (p1 : Int32) (h0 : Heap) (SF : Sta Z h0 "com/example/tributary/tributary/semantics/Truth" "FALSE" "Lcom/example/tributary/tributary/semantics/Truth;" (.ref aF)) (ST : Sta Z h0 "com/example/tributary/tributary/semantics/Truth" "TRUE" "Lcom/example/tributary/tributary/semantics/Truth;" (.ref aT)) (SU : Sta Z h0 "com/example/tributary/tributary/semantics/Truth" "UNKNOWN" "Lcom/example/tributary/tributary/semantics/Truth;" (.ref aU)) :
    OwCon l Z (⟨"com/example/tributary/tributary/semantics/TruthAndPinLaw", "pick", "(I)Lcom/example/tributary/tributary/semantics/Truth;"⟩ : MethodName) method_2_code 2 (some (.object "com/example/tributary/tributary/semantics/Truth")) [] ({ frames := 0, cells := 0, slots := 0, locals := 0 } : Room) #[(.int p1)] h0 (OwRet (some (.ref (own_pick aF aT aU ((p1 &&& (2147483647 : Int32)) % (3 : Int32))))) h0) := by
  refine OwCon.of (plainFor_of_name pn_com_example_tributary_tributary_semantics_TruthAndPinLaw) ?_
  intro p e s m below meth c s₁ X0 hx hby hml hret hlk hown hnm hZ e0
  refine GoOn.st (fun t k => castTop (ef_pick m p1) k) ?_
  show GoOn _ _ _ _ (s₁.setTop (mkF m 0 #[.val (.int p1), .unset] []))
  refine GoOn.st (fun t k => XS.iloadN X0.here hx rfl (hb hby d_method_2_0) rfl k) ?_
  show GoOn _ _ _ _ (s₁.setTop (mkF m 1 #[.val (.int p1), .unset] [(.int p1)]))
  refine GoOn.st (fun t k => X0.ldcInt hx hown (mvT hZ (hw _ (List.mem_of_getElem? (i := 4) rfl))) (g := (mkF m 1 #[.val (.int p1), .unset] [(.int p1)])) rfl (hb hby d_method_2_1) _ k) ?_
  show GoOn _ _ _ _ (s₁.setTop (mkF m 3 #[.val (.int p1), .unset] [(.int (2147483647 : Int32)), (.int p1)]))
  refine GoOn.st (fun t k => XS.iand X0.here hx rfl (hb hby d_method_2_3) rfl k) ?_
  show GoOn _ _ _ _ (s₁.setTop (mkF m 4 #[.val (.int p1), .unset] [(.int (p1 &&& (2147483647 : Int32)))]))
  refine GoOn.st (fun t k => XS.iconst X0.here hx rfl (hb hby d_method_2_4)  k) ?_
  show GoOn _ _ _ _ (s₁.setTop (mkF m 5 #[.val (.int p1), .unset] [(.int (3 : Int32)), (.int (p1 &&& (2147483647 : Int32)))]))
  refine GoOn.st (fun t k => iremM X0 hx rfl (hb hby d_method_2_5) rfl (by decide) k) ?_
  show GoOn _ _ _ _ (s₁.setTop (mkF m 6 #[.val (.int p1), .unset] [(.int ((p1 &&& (2147483647 : Int32)) % (3 : Int32)))]))
  refine GoOn.st (fun t k => XS.istoreN X0.here hx rfl (hb hby d_method_2_6) rfl (l' := #[.val (.int p1), .val (.int ((p1 &&& (2147483647 : Int32)) % (3 : Int32)))]) rfl k) ?_
  show GoOn _ _ _ _ (s₁.setTop (mkF m 7 #[.val (.int p1), .val (.int ((p1 &&& (2147483647 : Int32)) % (3 : Int32)))] []))
  refine GoOn.st (fun t k => XS.iloadN X0.here hx rfl (hb hby d_method_2_7) rfl k) ?_
  show GoOn _ _ _ _ (s₁.setTop (mkF m 8 #[.val (.int p1), .val (.int ((p1 &&& (2147483647 : Int32)) % (3 : Int32)))] [(.int ((p1 &&& (2147483647 : Int32)) % (3 : Int32)))]))
  by_cases hc1 : ((p1 &&& (2147483647 : Int32)) % (3 : Int32)) = (0 : Int32)
  · skip
    refine GoOn.st (fun t k => XS.ifNo X0.here hx rfl (hb hby d_method_2_8) rfl ((if0 _ _).trans (teq hc1).2) k) ?_
    show GoOn _ _ _ _ (s₁.setTop (mkF m 11 #[.val (.int p1), .val (.int ((p1 &&& (2147483647 : Int32)) % (3 : Int32)))] []))
    obtain ⟨T2, X2, e2, st2⟩ := getS2 X0 hx hZ hown (host := "") (Or.inl (hw _ (List.mem_of_getElem? (i := 5) rfl))) Via.refl e0 SF (g := (mkF m 11 #[.val (.int p1), .val (.int ((p1 &&& (2147483647 : Int32)) % (3 : Int32)))] [])) rfl (hb hby d_method_2_11)
    refine GoOn.st st2 ?_
    show GoOn _ _ _ _ (T2.setTop (mkF m 14 #[.val (.int p1), .val (.int ((p1 &&& (2147483647 : Int32)) % (3 : Int32)))] [(.ref aF)]))
    exact GoOn.retA X2 hx hlk hret rfl rfl rfl (hb hby d_method_2_14) (by rw [e2]; exact ⟨by unfold own_pick; rw [if_pos hc1], rfl, rfl⟩) (by decide) (by decide)
  · skip
    refine GoOn.st (fun t k => XS.ifYes X0.here hx rfl (pc0 := 8) (pc' := 15) rfl (hb hby d_method_2_8) rfl ((if0 _ _).trans (feq hc1).2) (by decide) (by decide) k) ?_
    show GoOn _ _ _ _ (s₁.setTop (mkF m 15 #[.val (.int p1), .val (.int ((p1 &&& (2147483647 : Int32)) % (3 : Int32)))] []))
    refine GoOn.st (fun t k => XS.iloadN X0.here hx rfl (hb hby d_method_2_15) rfl k) ?_
    show GoOn _ _ _ _ (s₁.setTop (mkF m 16 #[.val (.int p1), .val (.int ((p1 &&& (2147483647 : Int32)) % (3 : Int32)))] [(.int ((p1 &&& (2147483647 : Int32)) % (3 : Int32)))]))
    refine GoOn.st (fun t k => XS.iconst X0.here hx rfl (hb hby d_method_2_16)  k) ?_
    show GoOn _ _ _ _ (s₁.setTop (mkF m 17 #[.val (.int p1), .val (.int ((p1 &&& (2147483647 : Int32)) % (3 : Int32)))] [(.int (1 : Int32)), (.int ((p1 &&& (2147483647 : Int32)) % (3 : Int32)))]))
    by_cases hc3 : ((p1 &&& (2147483647 : Int32)) % (3 : Int32)) = (1 : Int32)
    · skip
      refine GoOn.st (fun t k => XS.icmpNo X0.here hx rfl (hb hby d_method_2_17) rfl (teq hc3).2 k) ?_
      show GoOn _ _ _ _ (s₁.setTop (mkF m 20 #[.val (.int p1), .val (.int ((p1 &&& (2147483647 : Int32)) % (3 : Int32)))] []))
      obtain ⟨T4, X4, e4, st4⟩ := getS2 X0 hx hZ hown (host := "") (Or.inl (hw _ (List.mem_of_getElem? (i := 24) rfl))) Via.refl e0 ST (g := (mkF m 20 #[.val (.int p1), .val (.int ((p1 &&& (2147483647 : Int32)) % (3 : Int32)))] [])) rfl (hb hby d_method_2_20)
      refine GoOn.st st4 ?_
      show GoOn _ _ _ _ (T4.setTop (mkF m 23 #[.val (.int p1), .val (.int ((p1 &&& (2147483647 : Int32)) % (3 : Int32)))] [(.ref aT)]))
      exact GoOn.retA X4 hx hlk hret rfl rfl rfl (hb hby d_method_2_23) (by rw [e4]; exact ⟨by unfold own_pick; rw [if_neg hc1, if_pos hc3], rfl, rfl⟩) (by decide) (by decide)
    · skip
      refine GoOn.st (fun t k => XS.icmpYes X0.here hx rfl (pc0 := 17) (pc' := 24) rfl (hb hby d_method_2_17) rfl (feq hc3).2 (by decide) (by decide) k) ?_
      show GoOn _ _ _ _ (s₁.setTop (mkF m 24 #[.val (.int p1), .val (.int ((p1 &&& (2147483647 : Int32)) % (3 : Int32)))] []))
      obtain ⟨T5, X5, e5, st5⟩ := getS2 X0 hx hZ hown (host := "") (Or.inl (hw _ (List.mem_of_getElem? (i := 23) rfl))) Via.refl e0 SU (g := (mkF m 24 #[.val (.int p1), .val (.int ((p1 &&& (2147483647 : Int32)) % (3 : Int32)))] [])) rfl (hb hby d_method_2_24)
      refine GoOn.st st5 ?_
      show GoOn _ _ _ _ (T5.setTop (mkF m 27 #[.val (.int p1), .val (.int ((p1 &&& (2147483647 : Int32)) % (3 : Int32)))] [(.ref aU)]))
      exact GoOn.retA X5 hx hlk hret rfl rfl rfl (hb hby d_method_2_27) (by rw [e5]; exact ⟨by unfold own_pick; rw [if_neg hc1, if_neg hc3], rfl, rfl⟩) (by decide) (by decide)
theorem ef_rank (m : MethodId) (x0 : Addr) : entryFrame m #[(.ref x0)] 1 = mkF m 0 #[.val (.ref x0)] [] := by first | (simp [entryFrame, mkF, argsToLocals, Value.category]; done) | rfl
theorem d_method_3_0 : decode method_3_code 0 = .ok (.aload_n 0, 1) := by decide +kernel
theorem d_method_3_1 : decode method_3_code 1 = .ok (.getstatic 8, 3) := by decide +kernel
theorem d_method_3_4 : decode method_3_code 4 = .ok (.if_acmp .ne 5, 3) := by decide +kernel
theorem d_method_3_7 : decode method_3_code 7 = .ok (.iconst 0, 1) := by decide +kernel
theorem d_method_3_8 : decode method_3_code 8 = .ok (.ireturn, 1) := by decide +kernel
theorem d_method_3_9 : decode method_3_code 9 = .ok (.aload_n 0, 1) := by decide +kernel
theorem d_method_3_10 : decode method_3_code 10 = .ok (.getstatic 17, 3) := by decide +kernel
theorem d_method_3_13 : decode method_3_code 13 = .ok (.if_acmp .ne 5, 3) := by decide +kernel
theorem d_method_3_16 : decode method_3_code 16 = .ok (.iconst 1, 1) := by decide +kernel
theorem d_method_3_17 : decode method_3_code 17 = .ok (.ireturn, 1) := by decide +kernel
theorem d_method_3_18 : decode method_3_code 18 = .ok (.aload_n 0, 1) := by decide +kernel
theorem d_method_3_19 : decode method_3_code 19 = .ok (.getstatic 14, 3) := by decide +kernel
theorem d_method_3_22 : decode method_3_code 22 = .ok (.if_acmp .ne 5, 3) := by decide +kernel
theorem d_method_3_25 : decode method_3_code 25 = .ok (.iconst 2, 1) := by decide +kernel
theorem d_method_3_26 : decode method_3_code 26 = .ok (.ireturn, 1) := by decide +kernel
theorem d_method_3_27 : decode method_3_code 27 = .ok (.iconst 3, 1) := by decide +kernel
theorem d_method_3_28 : decode method_3_code 28 = .ok (.ireturn, 1) := by decide +kernel
set_option maxRecDepth 65536 in
set_option maxHeartbeats 40000000 in
theorem rm_rank (l : Launch) (Z : State) (a0 : Array Value) (hw : ∀ d ∈ tables_1, d.before a0 Z = true) (aF aT aU : Addr) (a1 : Addr) (h0 : Heap) (SF : Sta Z h0 "com/example/tributary/tributary/semantics/Truth" "FALSE" "Lcom/example/tributary/tributary/semantics/Truth;" (.ref aF)) (ST : Sta Z h0 "com/example/tributary/tributary/semantics/Truth" "TRUE" "Lcom/example/tributary/tributary/semantics/Truth;" (.ref aT)) (SU : Sta Z h0 "com/example/tributary/tributary/semantics/Truth" "UNKNOWN" "Lcom/example/tributary/tributary/semantics/Truth;" (.ref aU)) :
    OwCon l Z (⟨"com/example/tributary/tributary/semantics/TruthAndPinLaw", "rank", "(Lcom/example/tributary/tributary/semantics/Truth;)I"⟩ : MethodName) method_3_code 1 (some .int) [] ({ frames := 0, cells := 0, slots := 0, locals := 0 } : Room) #[(.ref a1)] h0 (OwRet (some (.int (own_rank aF aT aU a1))) h0) := by
  refine OwCon.of (plainFor_of_name pn_com_example_tributary_tributary_semantics_TruthAndPinLaw) ?_
  intro p e s m below meth c s₁ X0 hx hby hml hret hlk hown hnm hZ e0
  refine GoOn.st (fun t k => castTop (ef_rank m a1) k) ?_
  show GoOn _ _ _ _ (s₁.setTop (mkF m 0 #[.val (.ref a1)] []))
  refine GoOn.st (fun t k => XS.aloadN X0.here hx rfl (hb hby d_method_3_0) rfl rfl k) ?_
  show GoOn _ _ _ _ (s₁.setTop (mkF m 1 #[.val (.ref a1)] [(.ref a1)]))
  obtain ⟨T1, X1, e1, st1⟩ := getS2 X0 hx hZ hown (host := "") (Or.inl (hw _ (List.mem_of_getElem? (i := 5) rfl))) Via.refl e0 SF (g := (mkF m 1 #[.val (.ref a1)] [(.ref a1)])) rfl (hb hby d_method_3_1)
  refine GoOn.st st1 ?_
  show GoOn _ _ _ _ (T1.setTop (mkF m 4 #[.val (.ref a1)] [(.ref aF), (.ref a1)]))
  by_cases hc2 : a1 = aF
  · skip
    refine GoOn.st (fun t k => Jvm.RoadKit.acmp (g := (mkF m 4 #[.val (.ref a1)] [(.ref aF), (.ref a1)])) X1 hx rfl rfl rfl (pc0 := 4) (pc' := 7) (same := true) rfl (hb hby d_method_3_4) rfl (decide_eq_true (congrArg Value.ref hc2)) (by decide) (by decide) k) ?_
    show GoOn _ _ _ _ (T1.setTop (mkF m 7 #[.val (.ref a1)] []))
    refine GoOn.st (fun t k => XS.iconst X1.here hx rfl (hb hby d_method_3_7)  k) ?_
    show GoOn _ _ _ _ (T1.setTop (mkF m 8 #[.val (.ref a1)] [(.int (0 : Int32))]))
    exact GoOn.retI X1 hx hlk hret (hb hby d_method_3_8) (by rw [e1]; exact ⟨by unfold own_rank; rw [if_pos hc2], rfl, rfl⟩) (by decide) (by decide)
  · skip
    refine GoOn.st (fun t k => Jvm.RoadKit.acmp (g := (mkF m 4 #[.val (.ref a1)] [(.ref aF), (.ref a1)])) X1 hx rfl rfl rfl (pc0 := 4) (pc' := 9) (same := false) rfl (hb hby d_method_3_4) rfl (decide_eq_false fun q => hc2 (Value.ref.inj q)) (by decide) (by decide) k) ?_
    show GoOn _ _ _ _ (T1.setTop (mkF m 9 #[.val (.ref a1)] []))
    refine GoOn.st (fun t k => XS.aloadN X1.here hx rfl (hb hby d_method_3_9) rfl rfl k) ?_
    show GoOn _ _ _ _ (T1.setTop (mkF m 10 #[.val (.ref a1)] [(.ref a1)]))
    obtain ⟨T3, X3, e3, st3⟩ := getS2 X1 hx hZ hown (host := "") (Or.inl (hw _ (List.mem_of_getElem? (i := 23) rfl))) Via.refl e1 SU (g := (mkF m 10 #[.val (.ref a1)] [(.ref a1)])) rfl (hb hby d_method_3_10)
    refine GoOn.st st3 ?_
    show GoOn _ _ _ _ (T3.setTop (mkF m 13 #[.val (.ref a1)] [(.ref aU), (.ref a1)]))
    by_cases hc4 : a1 = aU
    · skip
      refine GoOn.st (fun t k => Jvm.RoadKit.acmp (g := (mkF m 13 #[.val (.ref a1)] [(.ref aU), (.ref a1)])) X3 hx rfl rfl rfl (pc0 := 13) (pc' := 16) (same := true) rfl (hb hby d_method_3_13) rfl (decide_eq_true (congrArg Value.ref hc4)) (by decide) (by decide) k) ?_
      show GoOn _ _ _ _ (T3.setTop (mkF m 16 #[.val (.ref a1)] []))
      refine GoOn.st (fun t k => XS.iconst X3.here hx rfl (hb hby d_method_3_16)  k) ?_
      show GoOn _ _ _ _ (T3.setTop (mkF m 17 #[.val (.ref a1)] [(.int (1 : Int32))]))
      exact GoOn.retI X3 hx hlk hret (hb hby d_method_3_17) (by rw [e3]; exact ⟨by unfold own_rank; rw [if_neg hc2, if_pos hc4], rfl, rfl⟩) (by decide) (by decide)
    · skip
      refine GoOn.st (fun t k => Jvm.RoadKit.acmp (g := (mkF m 13 #[.val (.ref a1)] [(.ref aU), (.ref a1)])) X3 hx rfl rfl rfl (pc0 := 13) (pc' := 18) (same := false) rfl (hb hby d_method_3_13) rfl (decide_eq_false fun q => hc4 (Value.ref.inj q)) (by decide) (by decide) k) ?_
      show GoOn _ _ _ _ (T3.setTop (mkF m 18 #[.val (.ref a1)] []))
      refine GoOn.st (fun t k => XS.aloadN X3.here hx rfl (hb hby d_method_3_18) rfl rfl k) ?_
      show GoOn _ _ _ _ (T3.setTop (mkF m 19 #[.val (.ref a1)] [(.ref a1)]))
      obtain ⟨T5, X5, e5, st5⟩ := getS2 X3 hx hZ hown (host := "") (Or.inl (hw _ (List.mem_of_getElem? (i := 24) rfl))) Via.refl e3 ST (g := (mkF m 19 #[.val (.ref a1)] [(.ref a1)])) rfl (hb hby d_method_3_19)
      refine GoOn.st st5 ?_
      show GoOn _ _ _ _ (T5.setTop (mkF m 22 #[.val (.ref a1)] [(.ref aT), (.ref a1)]))
      by_cases hc6 : a1 = aT
      · skip
        refine GoOn.st (fun t k => Jvm.RoadKit.acmp (g := (mkF m 22 #[.val (.ref a1)] [(.ref aT), (.ref a1)])) X5 hx rfl rfl rfl (pc0 := 22) (pc' := 25) (same := true) rfl (hb hby d_method_3_22) rfl (decide_eq_true (congrArg Value.ref hc6)) (by decide) (by decide) k) ?_
        show GoOn _ _ _ _ (T5.setTop (mkF m 25 #[.val (.ref a1)] []))
        refine GoOn.st (fun t k => XS.iconst X5.here hx rfl (hb hby d_method_3_25)  k) ?_
        show GoOn _ _ _ _ (T5.setTop (mkF m 26 #[.val (.ref a1)] [(.int (2 : Int32))]))
        exact GoOn.retI X5 hx hlk hret (hb hby d_method_3_26) (by rw [e5]; exact ⟨by unfold own_rank; rw [if_neg hc2, if_neg hc4, if_pos hc6], rfl, rfl⟩) (by decide) (by decide)
      · skip
        refine GoOn.st (fun t k => Jvm.RoadKit.acmp (g := (mkF m 22 #[.val (.ref a1)] [(.ref aT), (.ref a1)])) X5 hx rfl rfl rfl (pc0 := 22) (pc' := 27) (same := false) rfl (hb hby d_method_3_22) rfl (decide_eq_false fun q => hc6 (Value.ref.inj q)) (by decide) (by decide) k) ?_
        show GoOn _ _ _ _ (T5.setTop (mkF m 27 #[.val (.ref a1)] []))
        refine GoOn.st (fun t k => XS.iconst X5.here hx rfl (hb hby d_method_3_27)  k) ?_
        show GoOn _ _ _ _ (T5.setTop (mkF m 28 #[.val (.ref a1)] [(.int (3 : Int32))]))
        exact GoOn.retI X5 hx hlk hret (hb hby d_method_3_28) (by rw [e5]; exact ⟨by unfold own_rank; rw [if_neg hc2, if_neg hc4, if_neg hc6], rfl, rfl⟩) (by decide) (by decide)
theorem ef_and (m : MethodId) (x0 : Addr) (x1 : Addr) : entryFrame m #[(.ref x0), (.ref x1)] 3 = mkF m 0 #[.val (.ref x0), .val (.ref x1), .unset] [] := by first | (simp [entryFrame, mkF, argsToLocals, Value.category]; done) | rfl
theorem pn_com_example_tributary_tributary_semantics_Truth : plainName "com/example/tributary/tributary/semantics/Truth" = true := by first | (simp [plainName, overriddenIn]; done) | decide +kernel
theorem d_prog_216_method_6_0 : decode prog_216_method_6_code 0 = .ok (.getstatic 10, 3) := by decide +kernel
theorem d_prog_216_method_6_3 : decode prog_216_method_6_code 3 = .ok (.astore_n 2, 1) := by decide +kernel
theorem d_prog_216_method_6_4 : decode prog_216_method_6_code 4 = .ok (.aload_n 0, 1) := by decide +kernel
theorem d_prog_216_method_6_5 : decode prog_216_method_6_code 5 = .ok (.getstatic 3, 3) := by decide +kernel
theorem d_prog_216_method_6_8 : decode prog_216_method_6_code 8 = .ok (.if_acmp .eq 10, 3) := by decide +kernel
theorem d_prog_216_method_6_18 : decode prog_216_method_6_code 18 = .ok (.getstatic 3, 3) := by decide +kernel
theorem d_prog_216_method_6_21 : decode prog_216_method_6_code 21 = .ok (.astore_n 2, 1) := by decide +kernel
theorem d_prog_216_method_6_22 : decode prog_216_method_6_code 22 = .ok (.goto 21, 3) := by decide +kernel
theorem d_prog_216_method_6_43 : decode prog_216_method_6_code 43 = .ok (.aload_n 2, 1) := by decide +kernel
theorem d_prog_216_method_6_44 : decode prog_216_method_6_code 44 = .ok (.areturn, 1) := by decide +kernel
theorem d_prog_216_method_6_11 : decode prog_216_method_6_code 11 = .ok (.aload_n 1, 1) := by decide +kernel
theorem d_prog_216_method_6_12 : decode prog_216_method_6_code 12 = .ok (.getstatic 3, 3) := by decide +kernel
theorem d_prog_216_method_6_15 : decode prog_216_method_6_code 15 = .ok (.if_acmp .ne 10, 3) := by decide +kernel
theorem d_prog_216_method_6_25 : decode prog_216_method_6_code 25 = .ok (.aload_n 0, 1) := by decide +kernel
theorem d_prog_216_method_6_26 : decode prog_216_method_6_code 26 = .ok (.getstatic 7, 3) := by decide +kernel
theorem d_prog_216_method_6_29 : decode prog_216_method_6_code 29 = .ok (.if_acmp .ne 14, 3) := by decide +kernel
theorem d_prog_216_method_6_32 : decode prog_216_method_6_code 32 = .ok (.aload_n 1, 1) := by decide +kernel
theorem d_prog_216_method_6_33 : decode prog_216_method_6_code 33 = .ok (.getstatic 7, 3) := by decide +kernel
theorem d_prog_216_method_6_36 : decode prog_216_method_6_code 36 = .ok (.if_acmp .ne 7, 3) := by decide +kernel
theorem d_prog_216_method_6_39 : decode prog_216_method_6_code 39 = .ok (.getstatic 7, 3) := by decide +kernel
theorem d_prog_216_method_6_42 : decode prog_216_method_6_code 42 = .ok (.astore_n 2, 1) := by decide +kernel
set_option maxRecDepth 65536 in
set_option maxHeartbeats 40000000 in
theorem rm_and (l : Launch) (Z : State) (a0 : Array Value) (hw : ∀ d ∈ tables_1, d.before a0 Z = true) (aF aT aU : Addr) (a1 a2 : Addr) (h0 : Heap) (SF : Sta Z h0 "com/example/tributary/tributary/semantics/Truth" "FALSE" "Lcom/example/tributary/tributary/semantics/Truth;" (.ref aF)) (ST : Sta Z h0 "com/example/tributary/tributary/semantics/Truth" "TRUE" "Lcom/example/tributary/tributary/semantics/Truth;" (.ref aT)) (SU : Sta Z h0 "com/example/tributary/tributary/semantics/Truth" "UNKNOWN" "Lcom/example/tributary/tributary/semantics/Truth;" (.ref aU)) :
    OwCon l Z (⟨"com/example/tributary/tributary/semantics/Truth", "and", "(Lcom/example/tributary/tributary/semantics/Truth;)Lcom/example/tributary/tributary/semantics/Truth;"⟩ : MethodName) prog_216_method_6_code 3 (some (.object "com/example/tributary/tributary/semantics/Truth")) [] ({ frames := 0, cells := 0, slots := 0, locals := 0 } : Room) #[(.ref a1), (.ref a2)] h0 (OwRet (some (.ref (own_and aF aT aU a1 a2))) h0) := by
  refine OwCon.of (plainFor_of_name pn_com_example_tributary_tributary_semantics_Truth) ?_
  intro p e s m below meth c s₁ X0 hx hby hml hret hlk hown hnm hZ e0
  refine GoOn.st (fun t k => castTop (ef_and m a1 a2) k) ?_
  show GoOn _ _ _ _ (s₁.setTop (mkF m 0 #[.val (.ref a1), .val (.ref a2), .unset] []))
  obtain ⟨T1, X1, e1, st1⟩ := getS2 X0 hx hZ hown (host := "") (Or.inl (hw _ (List.mem_of_getElem? (i := 13) rfl))) Via.refl e0 SU (g := (mkF m 0 #[.val (.ref a1), .val (.ref a2), .unset] [])) rfl (hb hby d_prog_216_method_6_0)
  refine GoOn.st st1 ?_
  show GoOn _ _ _ _ (T1.setTop (mkF m 3 #[.val (.ref a1), .val (.ref a2), .unset] [(.ref aU)]))
  refine GoOn.st (fun t k => XS.astoreN X1.here hx rfl (hb hby d_prog_216_method_6_3) rfl rfl (l' := #[.val (.ref a1), .val (.ref a2), .val (.ref aU)]) rfl k) ?_
  show GoOn _ _ _ _ (T1.setTop (mkF m 4 #[.val (.ref a1), .val (.ref a2), .val (.ref aU)] []))
  refine GoOn.st (fun t k => XS.aloadN X1.here hx rfl (hb hby d_prog_216_method_6_4) rfl rfl k) ?_
  show GoOn _ _ _ _ (T1.setTop (mkF m 5 #[.val (.ref a1), .val (.ref a2), .val (.ref aU)] [(.ref a1)]))
  obtain ⟨T2, X2, e2, st2⟩ := getS2 X1 hx hZ hown (host := "") (Or.inl (hw _ (List.mem_of_getElem? (i := 15) rfl))) Via.refl e1 SF (g := (mkF m 5 #[.val (.ref a1), .val (.ref a2), .val (.ref aU)] [(.ref a1)])) rfl (hb hby d_prog_216_method_6_5)
  refine GoOn.st st2 ?_
  show GoOn _ _ _ _ (T2.setTop (mkF m 8 #[.val (.ref a1), .val (.ref a2), .val (.ref aU)] [(.ref aF), (.ref a1)]))
  by_cases hc3 : a1 = aF
  · skip
    refine GoOn.st (fun t k => Jvm.RoadKit.acmp (g := (mkF m 8 #[.val (.ref a1), .val (.ref a2), .val (.ref aU)] [(.ref aF), (.ref a1)])) X2 hx rfl rfl rfl (pc0 := 8) (pc' := 18) (same := true) rfl (hb hby d_prog_216_method_6_8) rfl (decide_eq_true (congrArg Value.ref hc3)) (by decide) (by decide) k) ?_
    show GoOn _ _ _ _ (T2.setTop (mkF m 18 #[.val (.ref a1), .val (.ref a2), .val (.ref aU)] []))
    obtain ⟨T4, X4, e4, st4⟩ := getS2 X2 hx hZ hown (host := "") (Or.inl (hw _ (List.mem_of_getElem? (i := 15) rfl))) Via.refl e2 SF (g := (mkF m 18 #[.val (.ref a1), .val (.ref a2), .val (.ref aU)] [])) rfl (hb hby d_prog_216_method_6_18)
    refine GoOn.st st4 ?_
    show GoOn _ _ _ _ (T4.setTop (mkF m 21 #[.val (.ref a1), .val (.ref a2), .val (.ref aU)] [(.ref aF)]))
    refine GoOn.st (fun t k => XS.astoreN X4.here hx rfl (hb hby d_prog_216_method_6_21) rfl rfl (l' := #[.val (.ref a1), .val (.ref a2), .val (.ref aF)]) rfl k) ?_
    show GoOn _ _ _ _ (T4.setTop (mkF m 22 #[.val (.ref a1), .val (.ref a2), .val (.ref aF)] []))
    refine GoOn.st (fun t k => XS.goto X4.here hx rfl (pc0 := 22) (pc' := 43) rfl (hb hby d_prog_216_method_6_22) (by decide) (by decide) k) ?_
    show GoOn _ _ _ _ (T4.setTop (mkF m 43 #[.val (.ref a1), .val (.ref a2), .val (.ref aF)] []))
    refine GoOn.st (fun t k => XS.aloadN X4.here hx rfl (hb hby d_prog_216_method_6_43) rfl rfl k) ?_
    show GoOn _ _ _ _ (T4.setTop (mkF m 44 #[.val (.ref a1), .val (.ref a2), .val (.ref aF)] [(.ref aF)]))
    exact GoOn.retA X4 hx hlk hret rfl rfl rfl (hb hby d_prog_216_method_6_44) (by rw [e4]; exact ⟨by unfold own_and; rw [if_pos hc3], rfl, rfl⟩) (by decide) (by decide)
  · skip
    refine GoOn.st (fun t k => Jvm.RoadKit.acmp (g := (mkF m 8 #[.val (.ref a1), .val (.ref a2), .val (.ref aU)] [(.ref aF), (.ref a1)])) X2 hx rfl rfl rfl (pc0 := 8) (pc' := 11) (same := false) rfl (hb hby d_prog_216_method_6_8) rfl (decide_eq_false fun q => hc3 (Value.ref.inj q)) (by decide) (by decide) k) ?_
    show GoOn _ _ _ _ (T2.setTop (mkF m 11 #[.val (.ref a1), .val (.ref a2), .val (.ref aU)] []))
    refine GoOn.st (fun t k => XS.aloadN X2.here hx rfl (hb hby d_prog_216_method_6_11) rfl rfl k) ?_
    show GoOn _ _ _ _ (T2.setTop (mkF m 12 #[.val (.ref a1), .val (.ref a2), .val (.ref aU)] [(.ref a2)]))
    obtain ⟨T5, X5, e5, st5⟩ := getS2 X2 hx hZ hown (host := "") (Or.inl (hw _ (List.mem_of_getElem? (i := 15) rfl))) Via.refl e2 SF (g := (mkF m 12 #[.val (.ref a1), .val (.ref a2), .val (.ref aU)] [(.ref a2)])) rfl (hb hby d_prog_216_method_6_12)
    refine GoOn.st st5 ?_
    show GoOn _ _ _ _ (T5.setTop (mkF m 15 #[.val (.ref a1), .val (.ref a2), .val (.ref aU)] [(.ref aF), (.ref a2)]))
    by_cases hc6 : a2 = aF
    · skip
      refine GoOn.st (fun t k => Jvm.RoadKit.acmp (g := (mkF m 15 #[.val (.ref a1), .val (.ref a2), .val (.ref aU)] [(.ref aF), (.ref a2)])) X5 hx rfl rfl rfl (pc0 := 15) (pc' := 18) (same := true) rfl (hb hby d_prog_216_method_6_15) rfl (decide_eq_true (congrArg Value.ref hc6)) (by decide) (by decide) k) ?_
      show GoOn _ _ _ _ (T5.setTop (mkF m 18 #[.val (.ref a1), .val (.ref a2), .val (.ref aU)] []))
      obtain ⟨T7, X7, e7, st7⟩ := getS2 X5 hx hZ hown (host := "") (Or.inl (hw _ (List.mem_of_getElem? (i := 15) rfl))) Via.refl e5 SF (g := (mkF m 18 #[.val (.ref a1), .val (.ref a2), .val (.ref aU)] [])) rfl (hb hby d_prog_216_method_6_18)
      refine GoOn.st st7 ?_
      show GoOn _ _ _ _ (T7.setTop (mkF m 21 #[.val (.ref a1), .val (.ref a2), .val (.ref aU)] [(.ref aF)]))
      refine GoOn.st (fun t k => XS.astoreN X7.here hx rfl (hb hby d_prog_216_method_6_21) rfl rfl (l' := #[.val (.ref a1), .val (.ref a2), .val (.ref aF)]) rfl k) ?_
      show GoOn _ _ _ _ (T7.setTop (mkF m 22 #[.val (.ref a1), .val (.ref a2), .val (.ref aF)] []))
      refine GoOn.st (fun t k => XS.goto X7.here hx rfl (pc0 := 22) (pc' := 43) rfl (hb hby d_prog_216_method_6_22) (by decide) (by decide) k) ?_
      show GoOn _ _ _ _ (T7.setTop (mkF m 43 #[.val (.ref a1), .val (.ref a2), .val (.ref aF)] []))
      refine GoOn.st (fun t k => XS.aloadN X7.here hx rfl (hb hby d_prog_216_method_6_43) rfl rfl k) ?_
      show GoOn _ _ _ _ (T7.setTop (mkF m 44 #[.val (.ref a1), .val (.ref a2), .val (.ref aF)] [(.ref aF)]))
      exact GoOn.retA X7 hx hlk hret rfl rfl rfl (hb hby d_prog_216_method_6_44) (by rw [e7]; exact ⟨by unfold own_and; rw [if_neg hc3, if_pos hc6], rfl, rfl⟩) (by decide) (by decide)
    · skip
      refine GoOn.st (fun t k => Jvm.RoadKit.acmp (g := (mkF m 15 #[.val (.ref a1), .val (.ref a2), .val (.ref aU)] [(.ref aF), (.ref a2)])) X5 hx rfl rfl rfl (pc0 := 15) (pc' := 25) (same := false) rfl (hb hby d_prog_216_method_6_15) rfl (decide_eq_false fun q => hc6 (Value.ref.inj q)) (by decide) (by decide) k) ?_
      show GoOn _ _ _ _ (T5.setTop (mkF m 25 #[.val (.ref a1), .val (.ref a2), .val (.ref aU)] []))
      refine GoOn.st (fun t k => XS.aloadN X5.here hx rfl (hb hby d_prog_216_method_6_25) rfl rfl k) ?_
      show GoOn _ _ _ _ (T5.setTop (mkF m 26 #[.val (.ref a1), .val (.ref a2), .val (.ref aU)] [(.ref a1)]))
      obtain ⟨T8, X8, e8, st8⟩ := getS2 X5 hx hZ hown (host := "") (Or.inl (hw _ (List.mem_of_getElem? (i := 26) rfl))) Via.refl e5 ST (g := (mkF m 26 #[.val (.ref a1), .val (.ref a2), .val (.ref aU)] [(.ref a1)])) rfl (hb hby d_prog_216_method_6_26)
      refine GoOn.st st8 ?_
      show GoOn _ _ _ _ (T8.setTop (mkF m 29 #[.val (.ref a1), .val (.ref a2), .val (.ref aU)] [(.ref aT), (.ref a1)]))
      by_cases hc9 : a1 = aT
      · skip
        refine GoOn.st (fun t k => Jvm.RoadKit.acmp (g := (mkF m 29 #[.val (.ref a1), .val (.ref a2), .val (.ref aU)] [(.ref aT), (.ref a1)])) X8 hx rfl rfl rfl (pc0 := 29) (pc' := 32) (same := true) rfl (hb hby d_prog_216_method_6_29) rfl (decide_eq_true (congrArg Value.ref hc9)) (by decide) (by decide) k) ?_
        show GoOn _ _ _ _ (T8.setTop (mkF m 32 #[.val (.ref a1), .val (.ref a2), .val (.ref aU)] []))
        refine GoOn.st (fun t k => XS.aloadN X8.here hx rfl (hb hby d_prog_216_method_6_32) rfl rfl k) ?_
        show GoOn _ _ _ _ (T8.setTop (mkF m 33 #[.val (.ref a1), .val (.ref a2), .val (.ref aU)] [(.ref a2)]))
        obtain ⟨T10, X10, e10, st10⟩ := getS2 X8 hx hZ hown (host := "") (Or.inl (hw _ (List.mem_of_getElem? (i := 26) rfl))) Via.refl e8 ST (g := (mkF m 33 #[.val (.ref a1), .val (.ref a2), .val (.ref aU)] [(.ref a2)])) rfl (hb hby d_prog_216_method_6_33)
        refine GoOn.st st10 ?_
        show GoOn _ _ _ _ (T10.setTop (mkF m 36 #[.val (.ref a1), .val (.ref a2), .val (.ref aU)] [(.ref aT), (.ref a2)]))
        by_cases hc11 : a2 = aT
        · skip
          refine GoOn.st (fun t k => Jvm.RoadKit.acmp (g := (mkF m 36 #[.val (.ref a1), .val (.ref a2), .val (.ref aU)] [(.ref aT), (.ref a2)])) X10 hx rfl rfl rfl (pc0 := 36) (pc' := 39) (same := true) rfl (hb hby d_prog_216_method_6_36) rfl (decide_eq_true (congrArg Value.ref hc11)) (by decide) (by decide) k) ?_
          show GoOn _ _ _ _ (T10.setTop (mkF m 39 #[.val (.ref a1), .val (.ref a2), .val (.ref aU)] []))
          obtain ⟨T12, X12, e12, st12⟩ := getS2 X10 hx hZ hown (host := "") (Or.inl (hw _ (List.mem_of_getElem? (i := 26) rfl))) Via.refl e10 ST (g := (mkF m 39 #[.val (.ref a1), .val (.ref a2), .val (.ref aU)] [])) rfl (hb hby d_prog_216_method_6_39)
          refine GoOn.st st12 ?_
          show GoOn _ _ _ _ (T12.setTop (mkF m 42 #[.val (.ref a1), .val (.ref a2), .val (.ref aU)] [(.ref aT)]))
          refine GoOn.st (fun t k => XS.astoreN X12.here hx rfl (hb hby d_prog_216_method_6_42) rfl rfl (l' := #[.val (.ref a1), .val (.ref a2), .val (.ref aT)]) rfl k) ?_
          show GoOn _ _ _ _ (T12.setTop (mkF m 43 #[.val (.ref a1), .val (.ref a2), .val (.ref aT)] []))
          refine GoOn.st (fun t k => XS.aloadN X12.here hx rfl (hb hby d_prog_216_method_6_43) rfl rfl k) ?_
          show GoOn _ _ _ _ (T12.setTop (mkF m 44 #[.val (.ref a1), .val (.ref a2), .val (.ref aT)] [(.ref aT)]))
          exact GoOn.retA X12 hx hlk hret rfl rfl rfl (hb hby d_prog_216_method_6_44) (by rw [e12]; exact ⟨by unfold own_and; rw [if_neg hc3, if_neg hc6, if_pos hc9, if_pos hc11], rfl, rfl⟩) (by decide) (by decide)
        · skip
          refine GoOn.st (fun t k => Jvm.RoadKit.acmp (g := (mkF m 36 #[.val (.ref a1), .val (.ref a2), .val (.ref aU)] [(.ref aT), (.ref a2)])) X10 hx rfl rfl rfl (pc0 := 36) (pc' := 43) (same := false) rfl (hb hby d_prog_216_method_6_36) rfl (decide_eq_false fun q => hc11 (Value.ref.inj q)) (by decide) (by decide) k) ?_
          show GoOn _ _ _ _ (T10.setTop (mkF m 43 #[.val (.ref a1), .val (.ref a2), .val (.ref aU)] []))
          refine GoOn.st (fun t k => XS.aloadN X10.here hx rfl (hb hby d_prog_216_method_6_43) rfl rfl k) ?_
          show GoOn _ _ _ _ (T10.setTop (mkF m 44 #[.val (.ref a1), .val (.ref a2), .val (.ref aU)] [(.ref aU)]))
          exact GoOn.retA X10 hx hlk hret rfl rfl rfl (hb hby d_prog_216_method_6_44) (by rw [e10]; exact ⟨by unfold own_and; rw [if_neg hc3, if_neg hc6, if_pos hc9, if_neg hc11], rfl, rfl⟩) (by decide) (by decide)
      · skip
        refine GoOn.st (fun t k => Jvm.RoadKit.acmp (g := (mkF m 29 #[.val (.ref a1), .val (.ref a2), .val (.ref aU)] [(.ref aT), (.ref a1)])) X8 hx rfl rfl rfl (pc0 := 29) (pc' := 43) (same := false) rfl (hb hby d_prog_216_method_6_29) rfl (decide_eq_false fun q => hc9 (Value.ref.inj q)) (by decide) (by decide) k) ?_
        show GoOn _ _ _ _ (T8.setTop (mkF m 43 #[.val (.ref a1), .val (.ref a2), .val (.ref aU)] []))
        refine GoOn.st (fun t k => XS.aloadN X8.here hx rfl (hb hby d_prog_216_method_6_43) rfl rfl k) ?_
        show GoOn _ _ _ _ (T8.setTop (mkF m 44 #[.val (.ref a1), .val (.ref a2), .val (.ref aU)] [(.ref aU)]))
        exact GoOn.retA X8 hx hlk hret rfl rfl rfl (hb hby d_prog_216_method_6_44) (by rw [e8]; exact ⟨by unfold own_and; rw [if_neg hc3, if_neg hc6, if_neg hc9], rfl, rfl⟩) (by decide) (by decide)
theorem ef_law (m : MethodId) (x0 : Int32) (x1 : Int32) : entryFrame m #[(.int x0), (.int x1)] maxLocals = mkF m 0 #[.val (.int x0), .val (.int x1), .unset, .unset, .unset, .unset] [] := by first | (simp [entryFrame, mkF, argsToLocals, Value.category, maxLocals]; done) | rfl
theorem pd_0 : parseMethodDescriptor "(I)Lcom/example/tributary/tributary/semantics/Truth;" = some ⟨[.int], some (.object "com/example/tributary/tributary/semantics/Truth")⟩ := by decide +kernel
theorem pd_1 : parseMethodDescriptor "(Lcom/example/tributary/tributary/semantics/Truth;)Lcom/example/tributary/tributary/semantics/Truth;" = some ⟨[(.object "com/example/tributary/tributary/semantics/Truth")], some (.object "com/example/tributary/tributary/semantics/Truth")⟩ := by decide +kernel
theorem pd_2 : parseMethodDescriptor "(Lcom/example/tributary/tributary/semantics/Truth;)I" = some ⟨[(.object "com/example/tributary/tributary/semantics/Truth")], some .int⟩ := by decide +kernel
theorem pd_3 : parseMethodDescriptor "(II)I" = some ⟨[.int, .int], some .int⟩ := by decide +kernel
set_option maxRecDepth 65536 in
set_option maxHeartbeats 40000000 in
theorem rm_law (l : Launch) (Z : State) (a0 : Array Value) (hw : ∀ d ∈ tables_1, d.before a0 Z = true) (ws : List Jvm.Cond) (p1 p2 : Int32)  (h0 : Heap) (n0 : Nat) (Z0 : n0 ≤ h0.size) (aF aT aU : Addr) (SF : Sta Z h0 "com/example/tributary/tributary/semantics/Truth" "FALSE" "Lcom/example/tributary/tributary/semantics/Truth;" (.ref aF)) (ST : Sta Z h0 "com/example/tributary/tributary/semantics/Truth" "TRUE" "Lcom/example/tributary/tributary/semantics/Truth;" (.ref aT)) (SU : Sta Z h0 "com/example/tributary/tributary/semantics/Truth" "UNKNOWN" "Lcom/example/tributary/tributary/semantics/Truth;" (.ref aU)) (EF : Exa Z h0 aF "com/example/tributary/tributary/semantics/Truth") (ET : Exa Z h0 aT "com/example/tributary/tributary/semantics/Truth") (EU : Exa Z h0 aU "com/example/tributary/tributary/semantics/Truth") (n1 : aU ≠ aF) (n2 : aT ≠ aF) (n3 : aU ≠ aT) :
    OwCon l Z x code maxLocals ret ws room_1 #[(.int p1), (.int p2)] h0 (fun v h L => v = some (.int 1) ∧ Fr n0 L) := by
  refine OwCon.of (plainFor_of_name pn_com_example_tributary_tributary_semantics_TruthAndPinLaw) ?_
  intro p e s m below meth c s₁ X0 hx hby hml hret hlk hown hnm hZ e0
  have N0 := Fr.nil n0
  refine GoOn.st (fun t k => castTop (ef_law m p1 p2) k) ?_
  show GoOn _ _ _ _ (s₁.setTop (mkF m 0 #[.val (.int p1), .val (.int p2), .unset, .unset, .unset, .unset] []))
  refine GoOn.st (fun t k => XS.iloadN X0.here hx rfl (hb hby at_0) rfl k) ?_
  show GoOn _ _ _ _ (s₁.setTop (mkF m 1 #[.val (.int p1), .val (.int p2), .unset, .unset, .unset, .unset] [(.int p1)]))
  refine GoOn.callS (W := 0) (argsL := [(.int p1)]) (rest := []) X0 hx hZ hown (hw _ (List.mem_of_getElem? (i := 0) rfl)) (hw _ (List.mem_of_getElem? (i := 1) rfl)) (hw _ (List.mem_of_getElem? (i := 2) rfl)) (hw _ (List.mem_of_getElem? (i := 3) rfl)) (by decide) (rm_pick l Z a0 hw aF aT aU p1 h0 SF ST SU) e0 (by decide) (by decide) (by rw [hml]; rfl) pd_0 rfl rfl (Nat.le_of_eq rfl) (hb hby at_1) (by decide) (by decide) ?_
  rintro _ T1 L1 X1 ⟨rfl, rfl, e1⟩
  rw [List.append_nil] at X1
  show GoOn _ _ _ _ (T1.setTop (mkF m 4 #[.val (.int p1), .val (.int p2), .unset, .unset, .unset, .unset] [(.ref (own_pick aF aT aU ((p1 &&& (2147483647 : Int32)) % (3 : Int32))))]))
  refine GoOn.st (fun t k => XS.astoreN X1.here hx rfl (hb hby at_4) rfl rfl (l' := #[.val (.int p1), .val (.int p2), .val (.ref (own_pick aF aT aU ((p1 &&& (2147483647 : Int32)) % (3 : Int32)))), .unset, .unset, .unset]) rfl k) ?_
  show GoOn _ _ _ _ (T1.setTop (mkF m 5 #[.val (.int p1), .val (.int p2), .val (.ref (own_pick aF aT aU ((p1 &&& (2147483647 : Int32)) % (3 : Int32)))), .unset, .unset, .unset] []))
  refine GoOn.st (fun t k => XS.iloadN X1.here hx rfl (hb hby at_5) rfl k) ?_
  show GoOn _ _ _ _ (T1.setTop (mkF m 6 #[.val (.int p1), .val (.int p2), .val (.ref (own_pick aF aT aU ((p1 &&& (2147483647 : Int32)) % (3 : Int32)))), .unset, .unset, .unset] [(.int p2)]))
  refine GoOn.callS (W := 0) (argsL := [(.int p2)]) (rest := []) X1 hx hZ hown (hw _ (List.mem_of_getElem? (i := 0) rfl)) (hw _ (List.mem_of_getElem? (i := 1) rfl)) (hw _ (List.mem_of_getElem? (i := 2) rfl)) (hw _ (List.mem_of_getElem? (i := 3) rfl)) (by decide) (rm_pick l Z a0 hw aF aT aU p2 h0 SF ST SU) e1 (by decide) (by decide) (by rw [hml]; rfl) pd_0 rfl rfl (Nat.le_of_eq rfl) (hb hby at_6) (by decide) (by decide) ?_
  rintro _ T2 L2 X2 ⟨rfl, rfl, e2⟩
  rw [List.append_nil] at X2
  show GoOn _ _ _ _ (T2.setTop (mkF m 9 #[.val (.int p1), .val (.int p2), .val (.ref (own_pick aF aT aU ((p1 &&& (2147483647 : Int32)) % (3 : Int32)))), .unset, .unset, .unset] [(.ref (own_pick aF aT aU ((p2 &&& (2147483647 : Int32)) % (3 : Int32))))]))
  refine GoOn.st (fun t k => XS.astoreN X2.here hx rfl (hb hby at_9) rfl rfl (l' := #[.val (.int p1), .val (.int p2), .val (.ref (own_pick aF aT aU ((p1 &&& (2147483647 : Int32)) % (3 : Int32)))), .val (.ref (own_pick aF aT aU ((p2 &&& (2147483647 : Int32)) % (3 : Int32)))), .unset, .unset]) rfl k) ?_
  show GoOn _ _ _ _ (T2.setTop (mkF m 10 #[.val (.int p1), .val (.int p2), .val (.ref (own_pick aF aT aU ((p1 &&& (2147483647 : Int32)) % (3 : Int32)))), .val (.ref (own_pick aF aT aU ((p2 &&& (2147483647 : Int32)) % (3 : Int32)))), .unset, .unset] []))
  refine GoOn.st (fun t k => XS.aloadN X2.here hx rfl (hb hby at_10) rfl rfl k) ?_
  show GoOn _ _ _ _ (T2.setTop (mkF m 11 #[.val (.int p1), .val (.int p2), .val (.ref (own_pick aF aT aU ((p1 &&& (2147483647 : Int32)) % (3 : Int32)))), .val (.ref (own_pick aF aT aU ((p2 &&& (2147483647 : Int32)) % (3 : Int32)))), .unset, .unset] [(.ref (own_pick aF aT aU ((p1 &&& (2147483647 : Int32)) % (3 : Int32))))]))
  refine GoOn.st (fun t k => XS.aloadN X2.here hx rfl (hb hby at_11) rfl rfl k) ?_
  show GoOn _ _ _ _ (T2.setTop (mkF m 12 #[.val (.int p1), .val (.int p2), .val (.ref (own_pick aF aT aU ((p1 &&& (2147483647 : Int32)) % (3 : Int32)))), .val (.ref (own_pick aF aT aU ((p2 &&& (2147483647 : Int32)) % (3 : Int32)))), .unset, .unset] [(.ref (own_pick aF aT aU ((p2 &&& (2147483647 : Int32)) % (3 : Int32)))), (.ref (own_pick aF aT aU ((p1 &&& (2147483647 : Int32)) % (3 : Int32))))]))
  refine GoOn.callV (W := 0) (argsL := [(.ref (own_pick aF aT aU ((p2 &&& (2147483647 : Int32)) % (3 : Int32))))]) (rest := []) (a := (own_pick aF aT aU ((p1 &&& (2147483647 : Int32)) % (3 : Int32)))) X2 hx hZ hown (hw _ (List.mem_of_getElem? (i := 8) rfl)) (hw _ (List.mem_of_getElem? (i := 9) rfl)) (notFace_of_selects (args := #[]) (mvT hZ (hw _ (List.mem_of_getElem? (i := 11) rfl)))) (hw _ (List.mem_of_getElem? (i := 11) rfl)) (hw _ (List.mem_of_getElem? (i := 10) rfl)) (hw _ (List.mem_of_getElem? (i := 6) rfl)) (hw _ (List.mem_of_getElem? (i := 12) rfl)) (by decide) (rm_and l Z a0 hw aF aT aU (own_pick aF aT aU ((p1 &&& (2147483647 : Int32)) % (3 : Int32))) (own_pick aF aT aU ((p2 &&& (2147483647 : Int32)) % (3 : Int32))) h0 SF ST SU) e2 (own_exa EF ET EU (own_pick_cases _ _ _ _)) (by decide) (by decide) (by rw [hml]; rfl) pd_1 rfl rfl (Nat.le_of_eq rfl) (hb hby at_12) (by decide) (by decide) ?_
  rintro _ T3 L3 X3 ⟨rfl, rfl, e3⟩
  rw [List.append_nil] at X3
  show GoOn _ _ _ _ (T3.setTop (mkF m 15 #[.val (.int p1), .val (.int p2), .val (.ref (own_pick aF aT aU ((p1 &&& (2147483647 : Int32)) % (3 : Int32)))), .val (.ref (own_pick aF aT aU ((p2 &&& (2147483647 : Int32)) % (3 : Int32)))), .unset, .unset] [(.ref (own_and aF aT aU (own_pick aF aT aU ((p1 &&& (2147483647 : Int32)) % (3 : Int32))) (own_pick aF aT aU ((p2 &&& (2147483647 : Int32)) % (3 : Int32)))))]))
  refine GoOn.st (fun t k => XS.astore X3.here hx rfl (hb hby at_15) rfl rfl (l' := #[.val (.int p1), .val (.int p2), .val (.ref (own_pick aF aT aU ((p1 &&& (2147483647 : Int32)) % (3 : Int32)))), .val (.ref (own_pick aF aT aU ((p2 &&& (2147483647 : Int32)) % (3 : Int32)))), .val (.ref (own_and aF aT aU (own_pick aF aT aU ((p1 &&& (2147483647 : Int32)) % (3 : Int32))) (own_pick aF aT aU ((p2 &&& (2147483647 : Int32)) % (3 : Int32))))), .unset]) rfl k) ?_
  show GoOn _ _ _ _ (T3.setTop (mkF m 17 #[.val (.int p1), .val (.int p2), .val (.ref (own_pick aF aT aU ((p1 &&& (2147483647 : Int32)) % (3 : Int32)))), .val (.ref (own_pick aF aT aU ((p2 &&& (2147483647 : Int32)) % (3 : Int32)))), .val (.ref (own_and aF aT aU (own_pick aF aT aU ((p1 &&& (2147483647 : Int32)) % (3 : Int32))) (own_pick aF aT aU ((p2 &&& (2147483647 : Int32)) % (3 : Int32))))), .unset] []))
  refine GoOn.st (fun t k => XS.aloadN X3.here hx rfl (hb hby at_17) rfl rfl k) ?_
  show GoOn _ _ _ _ (T3.setTop (mkF m 18 #[.val (.int p1), .val (.int p2), .val (.ref (own_pick aF aT aU ((p1 &&& (2147483647 : Int32)) % (3 : Int32)))), .val (.ref (own_pick aF aT aU ((p2 &&& (2147483647 : Int32)) % (3 : Int32)))), .val (.ref (own_and aF aT aU (own_pick aF aT aU ((p1 &&& (2147483647 : Int32)) % (3 : Int32))) (own_pick aF aT aU ((p2 &&& (2147483647 : Int32)) % (3 : Int32))))), .unset] [(.ref (own_pick aF aT aU ((p1 &&& (2147483647 : Int32)) % (3 : Int32))))]))
  refine GoOn.callS (W := 0) (argsL := [(.ref (own_pick aF aT aU ((p1 &&& (2147483647 : Int32)) % (3 : Int32))))]) (rest := []) X3 hx hZ hown (hw _ (List.mem_of_getElem? (i := 16) rfl)) (hw _ (List.mem_of_getElem? (i := 17) rfl)) (hw _ (List.mem_of_getElem? (i := 2) rfl)) (hw _ (List.mem_of_getElem? (i := 18) rfl)) (by decide) (rm_rank l Z a0 hw aF aT aU (own_pick aF aT aU ((p1 &&& (2147483647 : Int32)) % (3 : Int32))) h0 SF ST SU) e3 (by decide) (by decide) (by rw [hml]; rfl) pd_2 rfl rfl (Nat.le_of_eq rfl) (hb hby at_18) (by decide) (by decide) ?_
  rintro _ T4 L4 X4 ⟨rfl, rfl, e4⟩
  rw [List.append_nil] at X4
  show GoOn _ _ _ _ (T4.setTop (mkF m 21 #[.val (.int p1), .val (.int p2), .val (.ref (own_pick aF aT aU ((p1 &&& (2147483647 : Int32)) % (3 : Int32)))), .val (.ref (own_pick aF aT aU ((p2 &&& (2147483647 : Int32)) % (3 : Int32)))), .val (.ref (own_and aF aT aU (own_pick aF aT aU ((p1 &&& (2147483647 : Int32)) % (3 : Int32))) (own_pick aF aT aU ((p2 &&& (2147483647 : Int32)) % (3 : Int32))))), .unset] [(.int (own_rank aF aT aU (own_pick aF aT aU ((p1 &&& (2147483647 : Int32)) % (3 : Int32)))))]))
  refine GoOn.st (fun t k => XS.aloadN X4.here hx rfl (hb hby at_21) rfl rfl k) ?_
  show GoOn _ _ _ _ (T4.setTop (mkF m 22 #[.val (.int p1), .val (.int p2), .val (.ref (own_pick aF aT aU ((p1 &&& (2147483647 : Int32)) % (3 : Int32)))), .val (.ref (own_pick aF aT aU ((p2 &&& (2147483647 : Int32)) % (3 : Int32)))), .val (.ref (own_and aF aT aU (own_pick aF aT aU ((p1 &&& (2147483647 : Int32)) % (3 : Int32))) (own_pick aF aT aU ((p2 &&& (2147483647 : Int32)) % (3 : Int32))))), .unset] [(.ref (own_pick aF aT aU ((p2 &&& (2147483647 : Int32)) % (3 : Int32)))), (.int (own_rank aF aT aU (own_pick aF aT aU ((p1 &&& (2147483647 : Int32)) % (3 : Int32)))))]))
  refine GoOn.callS (W := 1) (argsL := [(.ref (own_pick aF aT aU ((p2 &&& (2147483647 : Int32)) % (3 : Int32))))]) (rest := [(.int (own_rank aF aT aU (own_pick aF aT aU ((p1 &&& (2147483647 : Int32)) % (3 : Int32)))))]) X4 hx hZ hown (hw _ (List.mem_of_getElem? (i := 16) rfl)) (hw _ (List.mem_of_getElem? (i := 17) rfl)) (hw _ (List.mem_of_getElem? (i := 2) rfl)) (hw _ (List.mem_of_getElem? (i := 18) rfl)) (by decide) (rm_rank l Z a0 hw aF aT aU (own_pick aF aT aU ((p2 &&& (2147483647 : Int32)) % (3 : Int32))) h0 SF ST SU) e4 (by decide) (by decide) (by rw [hml]; rfl) pd_2 rfl rfl (Nat.le_of_eq rfl) (hb hby at_22) (by decide) (by decide) ?_
  rintro _ T5 L5 X5 ⟨rfl, rfl, e5⟩
  rw [List.append_nil] at X5
  show GoOn _ _ _ _ (T5.setTop (mkF m 25 #[.val (.int p1), .val (.int p2), .val (.ref (own_pick aF aT aU ((p1 &&& (2147483647 : Int32)) % (3 : Int32)))), .val (.ref (own_pick aF aT aU ((p2 &&& (2147483647 : Int32)) % (3 : Int32)))), .val (.ref (own_and aF aT aU (own_pick aF aT aU ((p1 &&& (2147483647 : Int32)) % (3 : Int32))) (own_pick aF aT aU ((p2 &&& (2147483647 : Int32)) % (3 : Int32))))), .unset] [(.int (own_rank aF aT aU (own_pick aF aT aU ((p2 &&& (2147483647 : Int32)) % (3 : Int32))))), (.int (own_rank aF aT aU (own_pick aF aT aU ((p1 &&& (2147483647 : Int32)) % (3 : Int32)))))]))
  refine GoOn.callS (W := 0) (argsL := [(.int (own_rank aF aT aU (own_pick aF aT aU ((p1 &&& (2147483647 : Int32)) % (3 : Int32))))), (.int (own_rank aF aT aU (own_pick aF aT aU ((p2 &&& (2147483647 : Int32)) % (3 : Int32)))))]) (rest := []) X5 hx hZ hown (hw _ (List.mem_of_getElem? (i := 19) rfl)) (hw _ (List.mem_of_getElem? (i := 20) rfl)) (hw _ (List.mem_of_getElem? (i := 21) rfl)) (hw _ (List.mem_of_getElem? (i := 22) rfl)) (by decide) (rm_min l Z a0 hw (own_rank aF aT aU (own_pick aF aT aU ((p1 &&& (2147483647 : Int32)) % (3 : Int32)))) (own_rank aF aT aU (own_pick aF aT aU ((p2 &&& (2147483647 : Int32)) % (3 : Int32)))) h0) e5 (by decide) (by decide) (by rw [hml]; rfl) pd_3 rfl rfl (Nat.le_of_eq rfl) (hb hby at_25) (by decide) (by decide) ?_
  rintro _ T6 L6 X6 ⟨rfl, rfl, e6⟩
  rw [List.append_nil] at X6
  show GoOn _ _ _ _ (T6.setTop (mkF m 28 #[.val (.int p1), .val (.int p2), .val (.ref (own_pick aF aT aU ((p1 &&& (2147483647 : Int32)) % (3 : Int32)))), .val (.ref (own_pick aF aT aU ((p2 &&& (2147483647 : Int32)) % (3 : Int32)))), .val (.ref (own_and aF aT aU (own_pick aF aT aU ((p1 &&& (2147483647 : Int32)) % (3 : Int32))) (own_pick aF aT aU ((p2 &&& (2147483647 : Int32)) % (3 : Int32))))), .unset] [(.int (own_min (own_rank aF aT aU (own_pick aF aT aU ((p1 &&& (2147483647 : Int32)) % (3 : Int32)))) (own_rank aF aT aU (own_pick aF aT aU ((p2 &&& (2147483647 : Int32)) % (3 : Int32))))))]))
  refine GoOn.st (fun t k => XS.istore X6.here hx rfl (hb hby at_28) rfl (l' := #[.val (.int p1), .val (.int p2), .val (.ref (own_pick aF aT aU ((p1 &&& (2147483647 : Int32)) % (3 : Int32)))), .val (.ref (own_pick aF aT aU ((p2 &&& (2147483647 : Int32)) % (3 : Int32)))), .val (.ref (own_and aF aT aU (own_pick aF aT aU ((p1 &&& (2147483647 : Int32)) % (3 : Int32))) (own_pick aF aT aU ((p2 &&& (2147483647 : Int32)) % (3 : Int32))))), .val (.int (own_min (own_rank aF aT aU (own_pick aF aT aU ((p1 &&& (2147483647 : Int32)) % (3 : Int32)))) (own_rank aF aT aU (own_pick aF aT aU ((p2 &&& (2147483647 : Int32)) % (3 : Int32))))))]) rfl k) ?_
  show GoOn _ _ _ _ (T6.setTop (mkF m 30 #[.val (.int p1), .val (.int p2), .val (.ref (own_pick aF aT aU ((p1 &&& (2147483647 : Int32)) % (3 : Int32)))), .val (.ref (own_pick aF aT aU ((p2 &&& (2147483647 : Int32)) % (3 : Int32)))), .val (.ref (own_and aF aT aU (own_pick aF aT aU ((p1 &&& (2147483647 : Int32)) % (3 : Int32))) (own_pick aF aT aU ((p2 &&& (2147483647 : Int32)) % (3 : Int32))))), .val (.int (own_min (own_rank aF aT aU (own_pick aF aT aU ((p1 &&& (2147483647 : Int32)) % (3 : Int32)))) (own_rank aF aT aU (own_pick aF aT aU ((p2 &&& (2147483647 : Int32)) % (3 : Int32))))))] []))
  refine GoOn.st (fun t k => XS.aload X6.here hx rfl (hb hby at_30) rfl rfl k) ?_
  show GoOn _ _ _ _ (T6.setTop (mkF m 32 #[.val (.int p1), .val (.int p2), .val (.ref (own_pick aF aT aU ((p1 &&& (2147483647 : Int32)) % (3 : Int32)))), .val (.ref (own_pick aF aT aU ((p2 &&& (2147483647 : Int32)) % (3 : Int32)))), .val (.ref (own_and aF aT aU (own_pick aF aT aU ((p1 &&& (2147483647 : Int32)) % (3 : Int32))) (own_pick aF aT aU ((p2 &&& (2147483647 : Int32)) % (3 : Int32))))), .val (.int (own_min (own_rank aF aT aU (own_pick aF aT aU ((p1 &&& (2147483647 : Int32)) % (3 : Int32)))) (own_rank aF aT aU (own_pick aF aT aU ((p2 &&& (2147483647 : Int32)) % (3 : Int32))))))] [(.ref (own_and aF aT aU (own_pick aF aT aU ((p1 &&& (2147483647 : Int32)) % (3 : Int32))) (own_pick aF aT aU ((p2 &&& (2147483647 : Int32)) % (3 : Int32)))))]))
  refine GoOn.callS (W := 0) (argsL := [(.ref (own_and aF aT aU (own_pick aF aT aU ((p1 &&& (2147483647 : Int32)) % (3 : Int32))) (own_pick aF aT aU ((p2 &&& (2147483647 : Int32)) % (3 : Int32)))))]) (rest := []) X6 hx hZ hown (hw _ (List.mem_of_getElem? (i := 16) rfl)) (hw _ (List.mem_of_getElem? (i := 17) rfl)) (hw _ (List.mem_of_getElem? (i := 2) rfl)) (hw _ (List.mem_of_getElem? (i := 18) rfl)) (by decide) (rm_rank l Z a0 hw aF aT aU (own_and aF aT aU (own_pick aF aT aU ((p1 &&& (2147483647 : Int32)) % (3 : Int32))) (own_pick aF aT aU ((p2 &&& (2147483647 : Int32)) % (3 : Int32)))) h0 SF ST SU) e6 (by decide) (by decide) (by rw [hml]; rfl) pd_2 rfl rfl (Nat.le_of_eq rfl) (hb hby at_32) (by decide) (by decide) ?_
  rintro _ T7 L7 X7 ⟨rfl, rfl, e7⟩
  rw [List.append_nil] at X7
  show GoOn _ _ _ _ (T7.setTop (mkF m 35 #[.val (.int p1), .val (.int p2), .val (.ref (own_pick aF aT aU ((p1 &&& (2147483647 : Int32)) % (3 : Int32)))), .val (.ref (own_pick aF aT aU ((p2 &&& (2147483647 : Int32)) % (3 : Int32)))), .val (.ref (own_and aF aT aU (own_pick aF aT aU ((p1 &&& (2147483647 : Int32)) % (3 : Int32))) (own_pick aF aT aU ((p2 &&& (2147483647 : Int32)) % (3 : Int32))))), .val (.int (own_min (own_rank aF aT aU (own_pick aF aT aU ((p1 &&& (2147483647 : Int32)) % (3 : Int32)))) (own_rank aF aT aU (own_pick aF aT aU ((p2 &&& (2147483647 : Int32)) % (3 : Int32))))))] [(.int (own_rank aF aT aU (own_and aF aT aU (own_pick aF aT aU ((p1 &&& (2147483647 : Int32)) % (3 : Int32))) (own_pick aF aT aU ((p2 &&& (2147483647 : Int32)) % (3 : Int32))))))]))
  refine GoOn.st (fun t k => XS.iload X7.here hx rfl (hb hby at_35) rfl k) ?_
  show GoOn _ _ _ _ (T7.setTop (mkF m 37 #[.val (.int p1), .val (.int p2), .val (.ref (own_pick aF aT aU ((p1 &&& (2147483647 : Int32)) % (3 : Int32)))), .val (.ref (own_pick aF aT aU ((p2 &&& (2147483647 : Int32)) % (3 : Int32)))), .val (.ref (own_and aF aT aU (own_pick aF aT aU ((p1 &&& (2147483647 : Int32)) % (3 : Int32))) (own_pick aF aT aU ((p2 &&& (2147483647 : Int32)) % (3 : Int32))))), .val (.int (own_min (own_rank aF aT aU (own_pick aF aT aU ((p1 &&& (2147483647 : Int32)) % (3 : Int32)))) (own_rank aF aT aU (own_pick aF aT aU ((p2 &&& (2147483647 : Int32)) % (3 : Int32))))))] [(.int (own_min (own_rank aF aT aU (own_pick aF aT aU ((p1 &&& (2147483647 : Int32)) % (3 : Int32)))) (own_rank aF aT aU (own_pick aF aT aU ((p2 &&& (2147483647 : Int32)) % (3 : Int32)))))), (.int (own_rank aF aT aU (own_and aF aT aU (own_pick aF aT aU ((p1 &&& (2147483647 : Int32)) % (3 : Int32))) (own_pick aF aT aU ((p2 &&& (2147483647 : Int32)) % (3 : Int32))))))]))
  refine GoOn.st (fun t k => XS.icmpNo X7.here hx rfl (hb hby at_37) rfl (teq (own_law aF aT aU n1 n2 n3 _ _ (own_pick_cases _ _ _ _) (own_pick_cases _ _ _ _))).2 k) ?_
  show GoOn _ _ _ _ (T7.setTop (mkF m 40 #[.val (.int p1), .val (.int p2), .val (.ref (own_pick aF aT aU ((p1 &&& (2147483647 : Int32)) % (3 : Int32)))), .val (.ref (own_pick aF aT aU ((p2 &&& (2147483647 : Int32)) % (3 : Int32)))), .val (.ref (own_and aF aT aU (own_pick aF aT aU ((p1 &&& (2147483647 : Int32)) % (3 : Int32))) (own_pick aF aT aU ((p2 &&& (2147483647 : Int32)) % (3 : Int32))))), .val (.int (own_min (own_rank aF aT aU (own_pick aF aT aU ((p1 &&& (2147483647 : Int32)) % (3 : Int32)))) (own_rank aF aT aU (own_pick aF aT aU ((p2 &&& (2147483647 : Int32)) % (3 : Int32))))))] []))
  refine GoOn.st (fun t k => XS.iconst X7.here hx rfl (hb hby at_40)  k) ?_
  show GoOn _ _ _ _ (T7.setTop (mkF m 41 #[.val (.int p1), .val (.int p2), .val (.ref (own_pick aF aT aU ((p1 &&& (2147483647 : Int32)) % (3 : Int32)))), .val (.ref (own_pick aF aT aU ((p2 &&& (2147483647 : Int32)) % (3 : Int32)))), .val (.ref (own_and aF aT aU (own_pick aF aT aU ((p1 &&& (2147483647 : Int32)) % (3 : Int32))) (own_pick aF aT aU ((p2 &&& (2147483647 : Int32)) % (3 : Int32))))), .val (.int (own_min (own_rank aF aT aU (own_pick aF aT aU ((p1 &&& (2147483647 : Int32)) % (3 : Int32)))) (own_rank aF aT aU (own_pick aF aT aU ((p2 &&& (2147483647 : Int32)) % (3 : Int32))))))] [(.int (1 : Int32))]))
  refine GoOn.st (fun t k => XS.goto X7.here hx rfl (pc0 := 41) (pc' := 45) rfl (hb hby at_41) (by decide) (by decide) k) ?_
  show GoOn _ _ _ _ (T7.setTop (mkF m 45 #[.val (.int p1), .val (.int p2), .val (.ref (own_pick aF aT aU ((p1 &&& (2147483647 : Int32)) % (3 : Int32)))), .val (.ref (own_pick aF aT aU ((p2 &&& (2147483647 : Int32)) % (3 : Int32)))), .val (.ref (own_and aF aT aU (own_pick aF aT aU ((p1 &&& (2147483647 : Int32)) % (3 : Int32))) (own_pick aF aT aU ((p2 &&& (2147483647 : Int32)) % (3 : Int32))))), .val (.int (own_min (own_rank aF aT aU (own_pick aF aT aU ((p1 &&& (2147483647 : Int32)) % (3 : Int32)))) (own_rank aF aT aU (own_pick aF aT aU ((p2 &&& (2147483647 : Int32)) % (3 : Int32))))))] [(.int (1 : Int32))]))
  exact GoOn.retZ X7 hx hlk hret (by simp) rfl (hb hby at_45) ⟨rfl, N0⟩ (by decide) (by decide)
set_option maxRecDepth 65536 in
set_option maxHeartbeats 40000000 in
theorem comes_1 {Post : Tables → Env → Array Value → State → Outcome → State → Prop} (hpost : ∀ tb e args s v u, (limb_1_1.after args s (.returned v) u = true ∧ limb_1_2.after args s (.returned v) u = true ∧ True) → FrameEnd s (.returned v) u (Jvm.fieldLocs frame_1_writes args s ++ Jvm.arrayLocs frame_1_arrays args s ++ Jvm.staticLocs frame_1_statics s) 0 0 → Post tb e args s (.returned v) u) :
    ArmFor flags0 classFile x code maxLocals ret World_1 tables_1 room_1 Calls_1 rest_1 Pre_1 Post := by
  intro l hfl _ _ p e ha hc hk s m args below hf hA hF happ hP
  obtain ⟨hcalls, hrest, hpre⟩ := hP
  obtain ⟨-, -, -, hnamed, -, -, -, hat⟩ := (Spec.applies_iff hf).mp happ
  obtain ⟨hg, hn⟩ := and_e (Cond.before_iff.mp (show (Jvm.Cond.and given_1 narrow_1).before args s = true from hpre))
  obtain ⟨hcount, hk0⟩ := and_e hg
  obtain ⟨ha0, hk1⟩ := and_e hk0
  obtain ⟨w0, w1, rfl⟩ : ∃ w0 w1 : Value, args = #[w0, w1] := by
    have hs : args.size = 2 := by simpa [Cond.value, given_1] using hcount
    obtain ⟨L⟩ := args
    match L, hs with
    | [w0, w1], _ => exact ⟨w0, w1, rfl⟩
  have hw := fun d (hd : d ∈ tables_1) => atoms_spec (ws := Jvm.Cond.code x code maxLocals ret :: tables_1) hat d (List.mem_cons_of_mem _ hd)
  have hfit : Fit s := fun {y c} hc i hi => by
    obtain ⟨ha, rfl⟩ := Array.getElem?_eq_some_iff.mp hc
    have q := List.all_eq_true.mp ((Array.all_eq_true_iff_forall_mem.mp hF) _ (Array.getElem_mem ha)) i (List.mem_range.mpr hi)
    simpa [Array.getElem?_eq_getElem hi] using q
  obtain ⟨i0, ei0⟩ := is_v ha0
  obtain rfl : w0 = (.int i0) := Option.some.inj ei0
  obtain ⟨i1, ei1⟩ := is_v hk1
  obtain rfl : w1 = (.int i1) := Option.some.inj ei1
  obtain ⟨q1, hn⟩ := and_e hn
  obtain ⟨q2, hn⟩ := and_e hn
  obtain ⟨q3, hn⟩ := and_e hn
  obtain ⟨q4, hn⟩ := and_e hn
  obtain ⟨q5, q6⟩ := and_e hn
  obtain ⟨aF, eF⟩ := exa_v q1
  have EF := Exa.start eF q1
  have SF := Sta.start eF (Or.inr ⟨(hw _ (List.mem_of_getElem? (i := 6) rfl)), (hw _ (List.mem_of_getElem? (i := 7) rfl))⟩)
  have fF := Cond.eq_int (Cond.before_iff.mpr q5) rfl
  rw [fld_at eF] at fF
  have FF := Fld.start fF
  obtain ⟨aU, eU⟩ := exa_v q2
  have EU := Exa.start eU q2
  have SU := Sta.start eU (Or.inr ⟨(hw _ (List.mem_of_getElem? (i := 6) rfl)), (hw _ (List.mem_of_getElem? (i := 14) rfl))⟩)
  have fU := Cond.eq_int (Cond.before_iff.mpr q4) rfl
  rw [fld_at eU] at fU
  have FU := Fld.start fU
  obtain ⟨aT, eT⟩ := exa_v q3
  have ET := Exa.start eT q3
  have ST := Sta.start eT (Or.inr ⟨(hw _ (List.mem_of_getElem? (i := 6) rfl)), (hw _ (List.mem_of_getElem? (i := 25) rfl))⟩)
  have fT := Cond.eq_int (Cond.before_iff.mpr q6) rfl
  rw [fld_at eT] at fT
  have FT := Fld.start fT
  obtain ⟨n, o, h1, h2, h3, _, L, rfl, ⟨rfl, N⟩, hq⟩ := rm_law l s _ hw tables_1 i0 i1 s.heap s.heap.size (Nat.le_refl _) aF aT aU SF ST SU EF ET EU (Fld.ne FU FF (by decide)) (Fld.ne FT FF (by decide)) (Fld.ne FU FT (by decide)) p e ha hc hk s m _ below hf ((Spec.applies_iff_loose hf).mp happ).1 ⟨rfl, State.Warmed39.refl s, rfl⟩ trivial
  refine ⟨n, _, h1, h2, h3, hpost _ _ _ _ _ _ ⟨Cond.after_iff.mpr rfl, Cond.after_iff.mpr (eq_i res_at (Term.int_eval (1)) rfl), trivial⟩ ⟨hq.1, hq.2.1, (hq.2.2.sift fun y hy => Or.inr (N y hy)).mono (by decide) (by decide)⟩⟩
theorem main_1_1 : Claimed_1_1 := comes_1 fun _ _ _ _ _ _ h hF => ⟨h.1, hF⟩
theorem main_1_2 : Claimed_1_2 := comes_1 fun _ _ _ _ _ _ h hF => ⟨h.2.1, hF⟩
end Jvm.Pilot.@@N@@
namespace Jvm.Pilot.@@N@@
open Jvm Jvm.ClassFile Sem Op Lib Jvm.Free Jvm.Stand Jvm.Pilot.@@N@@.Jvm.D
/-! MADE BY PROGRAM (witnessworld.py) out of the Statement's table words and the real class files: 13 classes; the members and pool entries that the words name. The judged class is class 1, her method 3. -/
namespace start1
open Jvm.ClassFile
def u (s : String) : CpInfo := .utf8 (stringToUtf16 s)
/-- a pool by its gaps: so many unusable entries, then the entry; so many at the end -/
def gap : Nat → List CpInfo → List CpInfo
  | 0, r => r
  | n + 1, r => .unusable :: gap n r
def poolList (es : List (Nat × CpInfo)) (last : Nat) : List CpInfo := es.foldr (fun e r => gap e.1 (e.2 :: r)) (gap last [])
def pool (es : List (Nat × CpInfo)) (last : Nat) : Array CpInfo := ⟨poolList es last⟩
def fileOf (pool : Array CpInfo) (this : Nat) (attrs : Array Attribute := #[]) (ms : Array MethodInfo := #[]) (fl : Nat := 33) (sup : Nat := 0) (ifs : Array Nat := #[]) (fds : Array FieldInfo := #[]) : ClassFile where
  minorVersion := 0
  majorVersion := 65
  constantPool := pool
  accessFlags := fl
  thisClass := this
  superClass := sup
  interfaces := ifs
  fields := fds
  methods := ms
  attributes := attrs
def plain (name : String) (sup : Option ClassId) : Class where
  name := name
  kind := .ordinary
  loader := none
  accessFlags := 33
  super := sup
  interfaces := #[]
  cf := none
  fields := #[]
  methods := #[]
  instanceTypes := #[]
  staticTypes := #[]
  resolved := #[]
  callSites := []
  init := .initialized
  statics := none
  mirror := none

def pool0 : Array CpInfo := pool [(5, u "<init>"), (0, u "()V"), (1, .class_ 10), (1, u "java/lang/Object")] 113

def k0m0 : Method := { name := "<init>", desc := "()V", sig := { parameters := [], returnType := none }, accessFlags := 1, code := none }
/-- java/lang/Object -/
def k0 : Class := { plain "java/lang/Object" none with
  accessFlags := 33
  interfaces := #[]
  cf := some (fileOf pool0 8 #[] #[{ accessFlags := 1, nameIndex := 5, descriptorIndex := 6, attributes := #[] }] 33 0 #[] #[])
  fields := #[]
  methods := #[k0m0]
  instanceTypes := #[]
  staticTypes := #[]
  resolved := Array.replicate 124 none
  statics := none }

def pool1 : Array CpInfo := pool [(2, .class_ 4), (1, u "java/lang/Object"), (0, u "<init>"), (0, u "()V"), (0, .integer 2147483647), (0, .fieldref 9 10), (0, .class_ 11), (0, .nameAndType 12 13), (0, u "com/example/tributary/tributary/semantics/Truth"), (0, u "FALSE"), (0, u "Lcom/example/tributary/tributary/semantics/Truth;"), (0, .fieldref 9 15), (0, .nameAndType 16 13), (0, u "TRUE"), (0, .fieldref 9 18), (0, .nameAndType 19 13), (0, u "UNKNOWN"), (0, .methodref 21 22), (0, .class_ 23), (0, .nameAndType 24 25), (0, u "com/example/tributary/tributary/semantics/TruthAndPinLaw"), (0, u "pick"), (0, u "(I)Lcom/example/tributary/tributary/semantics/Truth;"), (0, .methodref 9 27), (0, .nameAndType 28 29), (0, u "and"), (0, u "(Lcom/example/tributary/tributary/semantics/Truth;)Lcom/example/tributary/tributary/semantics/Truth;"), (0, .methodref 21 31), (0, .nameAndType 32 33), (0, u "rank"), (0, u "(Lcom/example/tributary/tributary/semantics/Truth;)I"), (0, .methodref 35 36), (0, .class_ 37), (0, .nameAndType 38 39), (0, u "java/lang/Math"), (0, u "min"), (0, u "(II)I"), (3, u "law"), (0, u "(II)Z")] 2

def k1m0 : Method := { name := "<init>", desc := "()V", sig := { parameters := [], returnType := none }, accessFlags := 2, code := none }
def k1c1 : Code := { maxStack := 2, maxLocals := 2, code := method_2_code, exceptionTable := #[], attributes := #[] }
def k1m1 : Method := { name := "pick", desc := "(I)Lcom/example/tributary/tributary/semantics/Truth;", sig := { parameters := [.int], returnType := some (.object "com/example/tributary/tributary/semantics/Truth") }, accessFlags := 10, code := some k1c1 }
def k1c2 : Code := { maxStack := 2, maxLocals := 1, code := method_3_code, exceptionTable := #[], attributes := #[] }
def k1m2 : Method := { name := "rank", desc := "(Lcom/example/tributary/tributary/semantics/Truth;)I", sig := { parameters := [(.object "com/example/tributary/tributary/semantics/Truth")], returnType := some .int }, accessFlags := 10, code := some k1c2 }
def k1c3 : Code := { maxStack := 2, maxLocals := 6, code := code, exceptionTable := #[], attributes := #[] }
def k1m3 : Method := { name := "law", desc := "(II)Z", sig := { parameters := [.int, .int], returnType := some .boolean }, accessFlags := 9, code := some k1c3 }
/-- com/example/tributary/tributary/semantics/TruthAndPinLaw -/
def k1 : Class := { plain "com/example/tributary/tributary/semantics/TruthAndPinLaw" (some 0) with
  accessFlags := 49
  interfaces := #[]
  cf := some (fileOf pool1 21 #[] #[{ accessFlags := 2, nameIndex := 5, descriptorIndex := 6, attributes := #[] }, { accessFlags := 10, nameIndex := 24, descriptorIndex := 25, attributes := #[] }, { accessFlags := 10, nameIndex := 32, descriptorIndex := 33, attributes := #[] }, { accessFlags := 9, nameIndex := 43, descriptorIndex := 44, attributes := #[] }] 49 2 #[] #[])
  fields := #[]
  methods := #[k1m0, k1m1, k1m2, k1m3]
  instanceTypes := #[]
  staticTypes := #[]
  resolved := Array.replicate 47 none
  statics := none }

def pool2 : Array CpInfo := pool [(1, .class_ 2), (0, u "java/lang/constant/Constable"), (0, .class_ 4), (0, u "java/lang/Object")] 6

/-- java/lang/constant/Constable -/
def k2 : Class := { plain "java/lang/constant/Constable" (some 0) with
  accessFlags := 1537
  interfaces := #[]
  cf := some (fileOf pool2 1 #[] #[] 1537 3 #[] #[])
  fields := #[]
  methods := #[]
  instanceTypes := #[]
  staticTypes := #[]
  resolved := Array.replicate 11 none
  statics := none }

def pool3 : Array CpInfo := pool [(1, .class_ 2), (0, u "java/lang/Comparable"), (0, .class_ 4), (0, u "java/lang/Object")] 7

/-- java/lang/Comparable -/
def k3 : Class := { plain "java/lang/Comparable" (some 0) with
  accessFlags := 1537
  interfaces := #[]
  cf := some (fileOf pool3 1 #[] #[] 1537 3 #[] #[])
  fields := #[]
  methods := #[]
  instanceTypes := #[]
  staticTypes := #[]
  resolved := Array.replicate 12 none
  statics := none }

def pool4 : Array CpInfo := pool [(1, .class_ 2), (0, u "java/io/Serializable"), (0, .class_ 4), (0, u "java/lang/Object")] 2

/-- java/io/Serializable -/
def k4 : Class := { plain "java/io/Serializable" (some 0) with
  accessFlags := 1537
  interfaces := #[]
  cf := some (fileOf pool4 1 #[] #[] 1537 3 #[] #[])
  fields := #[]
  methods := #[]
  instanceTypes := #[]
  staticTypes := #[]
  resolved := Array.replicate 7 none
  statics := none }

def pool5 : Array CpInfo := pool [(2, .class_ 4), (1, u "java/lang/Enum"), (0, u "name"), (0, u "Ljava/lang/String;"), (2, u "ordinal"), (0, u "I"), (1, .class_ 14), (1, u "java/lang/Object"), (4, u "hash"), (86, .class_ 108), (1, u "java/lang/Enum$EnumDesc"), (2, .class_ 112), (0, u "java/lang/constant/Constable"), (0, .class_ 114), (0, u "java/lang/Comparable"), (0, .class_ 116), (0, u "java/io/Serializable")] 87

/-- java/lang/Enum -/
def k5 : Class := { plain "java/lang/Enum" (some 0) with
  accessFlags := 1057
  interfaces := #[2, 3, 4]
  cf := some (fileOf pool5 2 #[.nestMembers #[106]] #[] 1057 12 #[111, 113, 115] #[{ accessFlags := 18, nameIndex := 5, descriptorIndex := 6, attributes := #[] }, { accessFlags := 18, nameIndex := 9, descriptorIndex := 10, attributes := #[] }, { accessFlags := 2, nameIndex := 19, descriptorIndex := 10, attributes := #[] }])
  fields := #[{ name := "name", type := (.object "java/lang/String"), accessFlags := 18, slot := 0, constantValue := 0 }, { name := "ordinal", type := .int, accessFlags := 18, slot := 1, constantValue := 0 }, { name := "hash", type := .int, accessFlags := 2, slot := 2, constantValue := 0 }]
  methods := #[]
  instanceTypes := #[(.object "java/lang/String"), .int, .int]
  staticTypes := #[]
  resolved := Array.replicate 204 none
  statics := none }

def pool6 : Array CpInfo := pool [(1, .class_ 2), (0, u "com/example/tributary/tributary/semantics/Truth"), (0, .fieldref 1 4), (0, .nameAndType 5 6), (0, u "FALSE"), (0, u "Lcom/example/tributary/tributary/semantics/Truth;"), (0, .fieldref 1 8), (0, .nameAndType 9 6), (0, u "TRUE"), (0, .fieldref 1 11), (0, .nameAndType 12 6), (0, u "UNKNOWN"), (2, u "$VALUES"), (0, u "[Lcom/example/tributary/tributary/semantics/Truth;"), (6, .class_ 25), (1, u "java/lang/Enum"), (21, u "and"), (0, u "(Lcom/example/tributary/tributary/semantics/Truth;)Lcom/example/tributary/tributary/semantics/Truth;")] 26

def k6c0 : Code := { maxStack := 2, maxLocals := 3, code := prog_216_method_6_code, exceptionTable := #[], attributes := #[] }
def k6m0 : Method := { name := "and", desc := "(Lcom/example/tributary/tributary/semantics/Truth;)Lcom/example/tributary/tributary/semantics/Truth;", sig := { parameters := [(.object "com/example/tributary/tributary/semantics/Truth")], returnType := some (.object "com/example/tributary/tributary/semantics/Truth") }, accessFlags := 0, code := some k6c0 }
/-- com/example/tributary/tributary/semantics/Truth -/
def k6 : Class := { plain "com/example/tributary/tributary/semantics/Truth" (some 5) with
  accessFlags := 16432
  interfaces := #[]
  cf := some (fileOf pool6 1 #[] #[{ accessFlags := 0, nameIndex := 47, descriptorIndex := 48, attributes := #[] }] 16432 23 #[] #[{ accessFlags := 16409, nameIndex := 5, descriptorIndex := 6, attributes := #[] }, { accessFlags := 16409, nameIndex := 9, descriptorIndex := 6, attributes := #[] }, { accessFlags := 16409, nameIndex := 12, descriptorIndex := 6, attributes := #[] }, { accessFlags := 4122, nameIndex := 15, descriptorIndex := 16, attributes := #[] }])
  fields := #[{ name := "FALSE", type := (.object "com/example/tributary/tributary/semantics/Truth"), accessFlags := 16409, slot := 0, constantValue := 0 }, { name := "TRUE", type := (.object "com/example/tributary/tributary/semantics/Truth"), accessFlags := 16409, slot := 1, constantValue := 0 }, { name := "UNKNOWN", type := (.object "com/example/tributary/tributary/semantics/Truth"), accessFlags := 16409, slot := 2, constantValue := 0 }, { name := "$VALUES", type := (.array (.object "com/example/tributary/tributary/semantics/Truth")), accessFlags := 4122, slot := 3, constantValue := 0 }]
  methods := #[k6m0]
  instanceTypes := #[(.object "java/lang/String"), .int, .int]
  staticTypes := #[(.object "com/example/tributary/tributary/semantics/Truth"), (.object "com/example/tributary/tributary/semantics/Truth"), (.object "com/example/tributary/tributary/semantics/Truth"), (.array (.object "com/example/tributary/tributary/semantics/Truth"))]
  resolved := Array.replicate 75 none
  statics := some 0 }

def pool7 : Array CpInfo := pool [(1, .class_ 2), (0, u "java/lang/Math"), (1, .class_ 6), (1, u "java/lang/Object"), (0, u "<init>"), (0, u "()V"), (89, .class_ 100), (1, u "java/lang/Math$RandomNumberGeneratorHolder"), (71, u "negativeZeroFloatBits"), (0, u "J"), (2, u "negativeZeroDoubleBits"), (24, u "min"), (43, u "$assertionsDisabled"), (0, u "Z"), (88, u "(II)I"), (2, u "twoToTheDoubleScaleDown"), (0, u "D"), (4, u "twoToTheDoubleScaleUp"), (9, u "E"), (3, u "PI"), (2, u "TAU"), (2, u "DEGREES_TO_RADIANS"), (0, u "RADIANS_TO_DEGREES")] 94

def k7m0 : Method := { name := "<init>", desc := "()V", sig := { parameters := [], returnType := none }, accessFlags := 2, code := none }
def k7c1 : Code := { maxStack := 2, maxLocals := 2, code := jdk_29_method_69_code, exceptionTable := #[], attributes := #[] }
def k7m1 : Method := { name := "min", desc := "(II)I", sig := { parameters := [.int, .int], returnType := some .int }, accessFlags := 9, code := some k7c1 }
/-- java/lang/Math -/
def k7 : Class := { plain "java/lang/Math" (some 0) with
  accessFlags := 49
  interfaces := #[]
  cf := some (fileOf pool7 1 #[.nestMembers #[98]] #[{ accessFlags := 2, nameIndex := 7, descriptorIndex := 8, attributes := #[] }, { accessFlags := 9, nameIndex := 201, descriptorIndex := 335, attributes := #[] }] 49 4 #[] #[{ accessFlags := 25, nameIndex := 354, descriptorIndex := 339, attributes := #[] }, { accessFlags := 25, nameIndex := 358, descriptorIndex := 339, attributes := #[] }, { accessFlags := 25, nameIndex := 361, descriptorIndex := 339, attributes := #[] }, { accessFlags := 26, nameIndex := 364, descriptorIndex := 339, attributes := #[] }, { accessFlags := 26, nameIndex := 365, descriptorIndex := 339, attributes := #[] }, { accessFlags := 26, nameIndex := 172, descriptorIndex := 173, attributes := #[] }, { accessFlags := 26, nameIndex := 176, descriptorIndex := 173, attributes := #[] }, { accessFlags := 8, nameIndex := 344, descriptorIndex := 339, attributes := #[] }, { accessFlags := 8, nameIndex := 338, descriptorIndex := 339, attributes := #[] }, { accessFlags := 4120, nameIndex := 245, descriptorIndex := 246, attributes := #[] }])
  fields := #[{ name := "E", type := .double, accessFlags := 25, slot := 0, constantValue := 0 }, { name := "PI", type := .double, accessFlags := 25, slot := 1, constantValue := 0 }, { name := "TAU", type := .double, accessFlags := 25, slot := 2, constantValue := 0 }, { name := "DEGREES_TO_RADIANS", type := .double, accessFlags := 26, slot := 3, constantValue := 0 }, { name := "RADIANS_TO_DEGREES", type := .double, accessFlags := 26, slot := 4, constantValue := 0 }, { name := "negativeZeroFloatBits", type := .long, accessFlags := 26, slot := 5, constantValue := 0 }, { name := "negativeZeroDoubleBits", type := .long, accessFlags := 26, slot := 6, constantValue := 0 }, { name := "twoToTheDoubleScaleUp", type := .double, accessFlags := 8, slot := 7, constantValue := 0 }, { name := "twoToTheDoubleScaleDown", type := .double, accessFlags := 8, slot := 8, constantValue := 0 }, { name := "$assertionsDisabled", type := .boolean, accessFlags := 4120, slot := 9, constantValue := 0 }]
  methods := #[k7m0, k7m1]
  instanceTypes := #[]
  staticTypes := #[.double, .double, .double, .double, .double, .long, .long, .double, .double, .boolean]
  resolved := Array.replicate 460 none
  statics := none }

def pool8 : Array CpInfo := pool [(1, u "java/lang/Cloneable"), (0, .class_ 1), (0, u "java/lang/Object"), (0, .class_ 3)] 3

/-- java/lang/Cloneable -/
def k8 : Class := { plain "java/lang/Cloneable" (some 0) with
  accessFlags := 1537
  interfaces := #[]
  cf := some (fileOf pool8 2 #[] #[] 1537 4 #[] #[])
  fields := #[]
  methods := #[]
  instanceTypes := #[]
  staticTypes := #[]
  resolved := Array.replicate 8 none
  statics := none }

/-- the primitive byte -/
def k9 : Class := { plain "byte" none with kind := .primitive 'B', accessFlags := 0x411 }
/-- [B -/
def k10 : Class := { plain "[B" (some 0) with kind := .array 9 .byte, interfaces := #[8, 4], accessFlags := 1041 }

/-- the primitive int -/
def k11 : Class := { plain "int" none with kind := .primitive 'I', accessFlags := 0x411 }
/-- [I -/
def k12 : Class := { plain "[I" (some 0) with kind := .array 11 .int, interfaces := #[8, 4], accessFlags := 1041 }

def heap : Heap := #[{ cls := 6, slots := #[.ref 1, .ref 2, .ref 3, .null], vm := .statics 6 },
  { cls := 6, slots := #[.null, .int 0, .int 0], vm := .none },
  { cls := 6, slots := #[.null, .int 1, .int 0], vm := .none },
  { cls := 6, slots := #[.null, .int 2, .int 0], vm := .none }]
def classes : Array Class := #[k0, k1, k2, k3, k4, k5, k6, k7, k8, k9, k10, k11, k12]
def interned : List (Array UInt16 × Addr) := []
def slotsUsed : Nat := 13
def theMethod : MethodId := ⟨1, 3⟩
def args0 : Array Value := #[.int 5, .int 7]
def aboutOver (below : List Frame) : State where
  vm := { classes := classes, interned := interned.toArray }
  heap := heap
  slotsUsed := slotsUsed
  threads := #[{ frames := .invoking theMethod args0 :: below }]
def below0 : List Frame := [.native { method := ⟨0, 0⟩, args := #[] }]
def about1 : State := aboutOver below0
def p0 : Program := .bare "" "" ""
def e0 : Env := launch0.env 0 0 0
theorem w_frames : about1.frames = Frame.invoking theMethod args0 :: below0 := rfl
set_option maxRecDepth 65536 in
theorem w_args : argsFit about1.vm theMethod args0 = true := by decide +kernel
set_option maxRecDepth 65536 in
theorem w_heap : heapFits about1 = true := by decide +kernel
set_option maxRecDepth 65536 in
theorem w_runnable : about1.curStatus? = some .runnable := by decide +kernel
set_option maxRecDepth 65536 in
theorem w_alone : about1.alone = true := by decide +kernel
set_option maxRecDepth 65536 in
theorem w_named : about1.methodNamed? x = some theMethod := by decide +kernel
set_option maxRecDepth 65536 in
theorem w_hears : about1.hears theMethod below0 = true := by decide +kernel
set_option maxRecDepth 65536 in
theorem w_ripe : about1.ripe theMethod args0 below0 = true := by decide +kernel
theorem w_running : about1.status = .running := rfl
set_option maxRecDepth 65536 in
theorem w_room : about1.hasRoom e0.platform room_1 = true :=
  launch0.hasRoom_least _ room_1 (by decide +kernel) (by decide +kernel) (by decide +kernel) (by decide +kernel) (by decide +kernel) (by decide +kernel)
theorem allAtoms_all (ts : List Jvm.Cond) (a : Array Jvm.Value) (st : Jvm.State) : (allAtoms ts).before a st = ts.all (fun c => c.before a st) := by
  induction ts with
  | nil => rfl
  | cons c t ih =>
    show (Jvm.Cond.and c (allAtoms t)).before a st = _
    rw [Jvm.Cond.before_and, ih, List.all_cons]
def words1 : List Jvm.Cond := Jvm.Cond.code x code maxLocals ret :: tables_1
/-- a 'code' word, met by the world's own term for the bytes: nothing is compared byte by byte -/
theorem code_word {y : MethodName} {bytes : ByteArray} {mx : Nat} {rt : Option FieldType} {a : Array Value} {s : State} {m : MethodId} {meth : Method} {c : Code} (h1 : s.methodNamed? y = some m) (h2 : s.vm.method? m = some meth) (h3 : meth.code = some c) (h4 : c.code = bytes)
    (h5 : (c.maxLocals == mx && c.exceptionTable.isEmpty && decide (c.maxStack ≤ mostOperands) && decide (meth.sig.returnType = rt) && !meth.locks && decide (parseMethodDescriptor y.desc = some meth.sig)) = true) : (Jvm.Cond.code y bytes mx rt).before a s = true := by
  simp only [Bool.and_eq_true, beq_iff_eq, Bool.not_eq_true', decide_eq_true_eq] at h5
  obtain ⟨⟨⟨⟨⟨g1, g2⟩, g3⟩, g4⟩, g5⟩, g6⟩ := h5
  simp [Cond.before, Cond.holds, Cond.value, h1, h2, h3, h4, g1, g2, g3, g4, g5, g6]
def isCode : Jvm.Cond → Bool
  | .code _ _ _ _ => true
  | _ => false
theorem all_split {L : List Jvm.Cond} {P : Jvm.Cond → Bool} (h1 : L.all (fun c => isCode c || P c) = true) (h2 : ∀ c ∈ L.filter isCode, P c = true) : L.all P = true := by
  refine List.all_eq_true.mpr fun c hc => ?_
  have h := List.all_eq_true.mp h1 c hc
  rcases Bool.eq_false_or_eq_true (isCode c) with hi | hi
  · exact h2 c (List.mem_filter.mpr ⟨hc, hi⟩)
  · simpa [hi] using h
set_option maxRecDepth 65536 in
theorem w_c0 : (Jvm.Cond.code x code maxLocals ret).before args0 about1 = true := code_word (m := ⟨1, 3⟩) (meth := k1m3) (c := k1c3) (by decide +kernel) rfl rfl rfl (by decide +kernel)
set_option maxRecDepth 65536 in
theorem w_c1 : (Jvm.Cond.code ({ cls := "com/example/tributary/tributary/semantics/TruthAndPinLaw", name := "pick", desc := "(I)Lcom/example/tributary/tributary/semantics/Truth;" } : Jvm.MethodName) method_2_code (2 : Nat) (Option.some (Jvm.ClassFile.FieldType.object "com/example/tributary/tributary/semantics/Truth"))).before args0 about1 = true := code_word (m := ⟨1, 1⟩) (meth := k1m1) (c := k1c1) (by decide +kernel) rfl rfl rfl (by decide +kernel)
set_option maxRecDepth 65536 in
theorem w_c2 : (Jvm.Cond.code ({ cls := "com/example/tributary/tributary/semantics/Truth", name := "and", desc := "(Lcom/example/tributary/tributary/semantics/Truth;)Lcom/example/tributary/tributary/semantics/Truth;" } : Jvm.MethodName) prog_216_method_6_code (3 : Nat) (Option.some (Jvm.ClassFile.FieldType.object "com/example/tributary/tributary/semantics/Truth"))).before args0 about1 = true := code_word (m := ⟨6, 0⟩) (meth := k6m0) (c := k6c0) (by decide +kernel) rfl rfl rfl (by decide +kernel)
set_option maxRecDepth 65536 in
theorem w_c3 : (Jvm.Cond.code ({ cls := "com/example/tributary/tributary/semantics/TruthAndPinLaw", name := "rank", desc := "(Lcom/example/tributary/tributary/semantics/Truth;)I" } : Jvm.MethodName) method_3_code (1 : Nat) (Option.some Jvm.ClassFile.FieldType.int)).before args0 about1 = true := code_word (m := ⟨1, 2⟩) (meth := k1m2) (c := k1c2) (by decide +kernel) rfl rfl rfl (by decide +kernel)
set_option maxRecDepth 65536 in
theorem w_c4 : (Jvm.Cond.code ({ cls := "java/lang/Math", name := "min", desc := "(II)I" } : Jvm.MethodName) jdk_29_method_69_code (2 : Nat) (Option.some Jvm.ClassFile.FieldType.int)).before args0 about1 = true := code_word (m := ⟨7, 1⟩) (meth := k7m1) (c := k7c1) (by decide +kernel) rfl rfl rfl (by decide +kernel)
def codes1 : List Jvm.Cond := [Jvm.Cond.code x code maxLocals ret, Jvm.Cond.code ({ cls := "com/example/tributary/tributary/semantics/TruthAndPinLaw", name := "pick", desc := "(I)Lcom/example/tributary/tributary/semantics/Truth;" } : Jvm.MethodName) method_2_code (2 : Nat) (Option.some (Jvm.ClassFile.FieldType.object "com/example/tributary/tributary/semantics/Truth")), Jvm.Cond.code ({ cls := "com/example/tributary/tributary/semantics/Truth", name := "and", desc := "(Lcom/example/tributary/tributary/semantics/Truth;)Lcom/example/tributary/tributary/semantics/Truth;" } : Jvm.MethodName) prog_216_method_6_code (3 : Nat) (Option.some (Jvm.ClassFile.FieldType.object "com/example/tributary/tributary/semantics/Truth")), Jvm.Cond.code ({ cls := "com/example/tributary/tributary/semantics/TruthAndPinLaw", name := "rank", desc := "(Lcom/example/tributary/tributary/semantics/Truth;)I" } : Jvm.MethodName) method_3_code (1 : Nat) (Option.some Jvm.ClassFile.FieldType.int), Jvm.Cond.code ({ cls := "java/lang/Math", name := "min", desc := "(II)I" } : Jvm.MethodName) jdk_29_method_69_code (2 : Nat) (Option.some Jvm.ClassFile.FieldType.int)]
set_option maxRecDepth 65536 in
theorem codes_eq : words1.filter isCode = codes1 := rfl
theorem w_codes : ∀ c ∈ words1.filter isCode, c.before args0 about1 = true := by
  rw [codes_eq]
  intro c hc
  simp only [codes1, List.mem_cons, List.not_mem_nil, or_false] at hc
  rcases hc with rfl | rfl | rfl | rfl | rfl
  · exact w_c0
  · exact w_c1
  · exact w_c2
  · exact w_c3
  · exact w_c4
set_option maxRecDepth 65536 in
theorem w_t1 : (words1.take 24).all (fun c => isCode c || c.before args0 about1) = true := by decide +kernel
set_option maxRecDepth 65536 in
theorem w_t2 : (words1.drop 24).all (fun c => isCode c || c.before args0 about1) = true := by decide +kernel
theorem w_tables : (allAtoms (Jvm.Cond.code x code maxLocals ret :: tables_1)).before args0 about1 = true := by
  rw [allAtoms_all]
  show words1.all (fun c => c.before args0 about1) = true
  refine all_split ?_ w_codes
  rw [← List.take_append_drop 24 words1, List.all_append, w_t1, w_t2]
  rfl
set_option maxRecDepth 65536 in
theorem w_case : (Jvm.Cond.and given_1 narrow_1).before args0 about1 = true := by decide +kernel
theorem w_applies : (headSpec (Jvm.Cond.code x code maxLocals ret :: tables_1) room_1).applies x e0.platform about1 = true :=
  (Spec.applies_iff w_frames).mpr ⟨w_running, w_runnable, w_alone, w_named, w_hears, w_ripe, w_room, w_tables⟩
theorem atStart : AtStart classFile x code maxLocals ret World_1 tables_1 room_1 Calls_1 rest_1 Pre_1 launch0 p0 e0 about1 theMethod args0 below0 :=
  ⟨lists_1, trivial, launch0.admits_env _ _ _, launch0.least_env, fairChoices_fair.cas, fairChoices_fair.clock, w_frames, w_args, w_heap, w_applies, trivial, trivial, w_case⟩
end start1
theorem witness_1 : WitnessClaimed_1 := ⟨start1.p0, start1.e0, start1.about1, start1.theMethod, start1.args0, start1.below0, start1.atStart⟩
end Jvm.Pilot.@@N@@
