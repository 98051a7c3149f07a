import JvmDerived
import JvmDerived.Pilot.@@N@@Statement
import JvmDerived.Pilot.@@N@@Code
set_option linter.unusedVariables false
set_option linter.unusedSimpArgs false
namespace Jvm.OwnKit
open Sem ClassFile Op Lib Jvm.Stand Jvm.Free Jvm.LawKit Jvm.RoadKit
section Own
variable {p : Program} {l : Launch} {e : Env} {R : Room} {s : State} {m : MethodId} {args : Array Value} {below : List Frame} {meth : Method} {c : Code} {T : State} {locs : List Loc} {cells slots : Nat}
/-- from the state S the run ends, and P says how -/
def GoOn (p : Program) (e : Env) (below : List Frame) (P : Outcome → State → Prop) (S : State) : Prop := ∃ s₂ o, Steps p.tables e below S s₂ ∧ s₂.status = .running ∧ Ended s₂ below o ∧ P o s₂
theorem GoOn.st {P : Outcome → State → Prop} {S S' : State} (h : ∀ t, Steps p.tables e below S' t → Steps p.tables e below S t) (k : GoOn p e below P S') : GoOn p e below P S := by
  obtain ⟨s₂, o, h1, h2⟩ := k; exact ⟨s₂, o, h _ h1, h2⟩
/-- the end as a contract says it: what is returned, the heap, the written places -/
def OwPost (Q : Option Value → Heap → List Loc → Prop) (s : State) (rc rs : Nat) : Outcome → State → Prop := fun o U' => ∃ v L, o = .returned v ∧ Q v U'.heap L ∧ FrameEnd s o U' L rc rs
/-- a contract: the body y, called with as at a heap h0, ends as Q says -/
def OwCon (l : Launch) (Z : State) (y : MethodName) (bytes : ByteArray) (maxL : Nat) (ret : Option FieldType) (ws : List Jvm.Cond) (rm : Room) (as : Array Value) (h0 : Heap) (Q : Option Value → Heap → List Loc → Prop) : Prop :=
  MetFree l y (head1 (Jvm.Cond.code y bytes maxL ret :: ws) rm) (fun a U => a = as ∧ Z.Warmed39 U.vm ∧ U.heap = h0) (fun _ _ _ _ _ => True) (fun _ U o U' => ∃ v L, o = .returned v ∧ Q v U'.heap L ∧ FrameEnd U o U' L rm.cells rm.slots)
theorem OwCon.of {Z : State} {y : MethodName} {bytes : ByteArray} {maxL : Nat} {ret : Option FieldType} {ws : List Jvm.Cond} {rm : Room} {as : Array Value} {h0 : Heap} {Q : Option Value → Heap → List Loc → Prop} (hpl : plainFor y = true)
    (body : ∀ (p : Program) (e : Env) (s : State) (m : MethodId) (below : List Frame) (meth : Method) (c : Code) (s₁ : State), Stand p l e rm s m as below meth c s₁ [] 0 0 → p.tables.exec = Jvm.exec → c.code = bytes → c.maxLocals = maxL → meth.sig.returnType = ret → meth.locks = false → s.vm.findClass y.cls = some m.cls → meth.name = y.name → Z.Warmed39 s.vm → s₁.heap = h0 →
      GoOn p e below (OwPost Q s rm.cells rm.slots) (s₁.setTop (entryFrame m as maxL))) : OwCon l Z y bytes maxL ret ws rm as h0 Q := by
  refine MetFree.of_bodySF hpl hisR ?_
  intro p e s m args below meth c s₁ Bd hml hP hK
  obtain ⟨rfl, hZ, hh⟩ := hP
  exact body p e s m below meth c s₁ (Stand.of_body Bd) Bd.exec Bd.bytes hml Bd.returns Bd.notSynchronized (findClass_of_methodNamed Bd.named) (name_of_methodNamed Bd.named Bd.method).1 hZ (by rw [← hh, Bd.state]; rfl)
theorem OwCon.mono {Z : State} {y : MethodName} {bytes : ByteArray} {maxL : Nat} {ret : Option FieldType} {ws : List Jvm.Cond} {rm : Room} {as : Array Value} {h0 : Heap} {Q Q' : Option Value → Heap → List Loc → Prop} (C : OwCon l Z y bytes maxL ret ws rm as h0 Q) (h : ∀ v u L, Q v u L → Q' v u L) : OwCon l Z y bytes maxL ret ws rm as h0 Q' := by
  intro p e ha hc hk s m args below hf happ hP hK
  obtain ⟨n, o, h1, h2, h3, v, L, h4, h5, h6⟩ := C p e ha hc hk s m args below hf happ hP hK
  exact ⟨n, o, h1, h2, h3, v, L, h4, h _ _ _ h5, h6⟩
theorem GoOn.out {Q : Option Value → Heap → List Loc → Prop} {rc rs : Nat} {S : State} (X : Stand p l e R s m args below meth c T locs cells slots) (hlk : meth.locks = false) {v : Option Value} (hv : meth.sig.returnType = none → v = none) (hq : Q v T.heap locs) (hc : cells ≤ rc) (hs : slots ≤ rs)
    (st : ∀ fs, (∀ (f : JFrame) (acts : List Action), f.method = m → f.locked = none → f.entered = [] → (doReturn e (T.setTop f) acts v).1 = T.setFrames fs) → Steps p.tables e below S (T.setFrames fs)) : GoOn p e below (OwPost Q s rc rs) S := by
  obtain ⟨fs, hr, hrun, hended, hW, hsame⟩ := X.leave (v := v) hv hlk
  exact ⟨_, _, st fs hr, hrun, hended, v, locs, rfl, hq, ⟨_, rfl⟩, hW, hsame.mono hc hs⟩
theorem GoOn.retI {Q : Option Value → Heap → List Loc → Prop} {rc rs : Nat} (X : Stand p l e R s m args below meth c T locs cells slots) (hx : p.tables.exec = Jvm.exec) (hlk : meth.locks = false) {pc : Nat} {Ls : Array Slot} {z : Int32} {rest : List Value} (hret : meth.sig.returnType = some .int) (hd : decode c.code pc = .ok (.ireturn, 1))
    (hq : Q (some (.int z)) T.heap locs) (hc : cells ≤ rc) (hs : slots ≤ rs) : GoOn p e below (OwPost Q s rc rs) (T.setTop (mkF m pc Ls (.int z :: rest))) :=
  GoOn.out X hlk (fun h => by rw [hret] at h; cases h) hq hc hs fun fs hr => retOut X hx hret rfl (Or.inl ⟨rfl, Or.inl rfl, _, rfl⟩) hd hr
theorem GoOn.retZ {Q : Option Value → Heap → List Loc → Prop} {rc rs : Nat} (X : Stand p l e R s m args below meth c T locs cells slots) (hx : p.tables.exec = Jvm.exec) (hlk : meth.locks = false) {pc : Nat} {Ls : Array Slot} {z : Int32} {rest : List Value} {t : FieldType} (hret : meth.sig.returnType = some t) (ht : t = .boolean ∨ t = .byte ∨ t = .char ∨ t = .short) (hn : narrow t (.int z) = .int z) (hd : decode c.code pc = .ok (.ireturn, 1))
    (hq : Q (some (.int z)) T.heap locs) (hc : cells ≤ rc) (hs : slots ≤ rs) : GoOn p e below (OwPost Q s rc rs) (T.setTop (mkF m pc Ls (.int z :: rest))) :=
  GoOn.out X hlk (fun h => by rw [hret] at h; cases h) hq hc hs fun fs hr => retOut X hx hret hn (Or.inl ⟨rfl, Or.inr ht, _, rfl⟩) hd hr
theorem GoOn.retJ {Q : Option Value → Heap → List Loc → Prop} {rc rs : Nat} (X : Stand p l e R s m args below meth c T locs cells slots) (hx : p.tables.exec = Jvm.exec) (hlk : meth.locks = false) {pc : Nat} {Ls : Array Slot} {z : Int64} {rest : List Value} (hret : meth.sig.returnType = some .long) (hd : decode c.code pc = .ok (.lreturn, 1))
    (hq : Q (some (.long z)) T.heap locs) (hc : cells ≤ rc) (hs : slots ≤ rs) : GoOn p e below (OwPost Q s rc rs) (T.setTop (mkF m pc Ls (.long z :: rest))) :=
  GoOn.out X hlk (fun h => by rw [hret] at h; cases h) hq hc hs fun fs hr => retOut X hx hret rfl (Or.inr (Or.inl ⟨rfl, rfl, _, rfl⟩)) hd hr
theorem GoOn.retA {Q : Option Value → Heap → List Loc → Prop} {rc rs : Nat} (X : Stand p l e R s m args below meth c T locs cells slots) (hx : p.tables.exec = Jvm.exec) (hlk : meth.locks = false) {pc : Nat} {Ls : Array Slot} {w : Value} {rest : List Value} {t : FieldType} (hret : meth.sig.returnType = some t) (ht : t.isReference = true) (hw : w.isRef = true) (hn : narrow t w = w) (hd : decode c.code pc = .ok (.areturn, 1))
    (hq : Q (some w) T.heap locs) (hc : cells ≤ rc) (hs : slots ≤ rs) : GoOn p e below (OwPost Q s rc rs) (T.setTop (mkF m pc Ls (w :: rest))) :=
  GoOn.out X hlk (fun h => by rw [hret] at h; cases h) hq hc hs fun fs hr => retOut X hx hret hn (Or.inr (Or.inr (Or.inr (Or.inr ⟨rfl, ht, hw⟩)))) hd hr
theorem GoOn.retV {Q : Option Value → Heap → List Loc → Prop} {rc rs : Nat} (X : Stand p l e R s m args below meth c T locs cells slots) (hx : p.tables.exec = Jvm.exec) (hlk : meth.locks = false) {pc : Nat} {Ls : Array Slot} (hret : meth.sig.returnType = none) (hd : decode c.code pc = .ok (.return_, 1))
    (hq : Q none T.heap locs) (hc : cells ≤ rc) (hs : slots ≤ rs) : GoOn p e below (OwPost Q s rc rs) (T.setTop (mkF m pc Ls [])) :=
  GoOn.out X hlk (fun _ => rfl) hq hc hs fun fs hr => X.returnOut hx hret hd hr
/-- nothing written, nothing made: v is returned -/
def OwRet (v : Option Value) (h0 : Heap) : Option Value → Heap → List Loc → Prop := fun v' h L => v' = v ∧ L = [] ∧ h = h0
variable {Z : State} {a0 : Array Value} {h : Heap} {own : String} {index : Nat} {y z : MethodName} {bytes : ByteArray} {maxL : Nat} {ret : Option FieldType} {rm : Room} {Q : Option Value → Heap → List Loc → Prop} {P : Outcome → State → Prop}
theorem GoOn.callS {W pc : Nat} {Ls : Array Slot} {argsL rest : List Value} {ps : List FieldType} {rt : Option FieldType} {st : List Value} (X : Stand p l e R s m args below meth c T locs cells slots) (hx : p.tables.exec = Jvm.exec) (hZ : Z.Warmed39 s.vm) (hown : s.vm.findClass own = some m.cls)
    (w1 : (Cond.methodLink own index y).before a0 Z = true) (w2 : (Cond.static y).before a0 Z = true) (w3 : (Cond.initialized y.cls).before a0 Z = true) (w4 : (Cond.code y bytes maxL ret).before a0 Z = true) (hy : y.cls ≠ "java/lang/invoke/MethodHandle" ∧ y.cls ≠ "java/lang/invoke/VarHandle")
    (C : OwCon l Z y bytes maxL ret [] rm argsL.toArray h Q) (eT : T.heap = h) (hfr : rm.frames + 1 ≤ R.frames) (hlo : W + (maxL + 11) + rm.locals ≤ R.locals) (hsize : Ls.size = c.maxLocals) (hd : parseMethodDescriptor y.desc = some ⟨ps, rt⟩) (hl : argsL.length = ps.length) (hst : st = argsL.reverse ++ rest)
    (hW : (rest.map fun v => v.category).sum ≤ W) (hdg : decode c.code pc = .ok (.invokestatic index, 3)) (hc : cells + rm.cells ≤ R.cells) (hs : slots + rm.slots ≤ R.slots)
    (k : ∀ (v : Option Value) (T' : State) (L : List Loc), Stand p l e R s m args below meth c T' (locs ++ L) (cells + rm.cells) (slots + rm.slots) → Q v T'.heap L → GoOn p e below P (T'.setTop (mkF m (pc + 3) Ls (v.toList ++ rest)))) : GoOn p e below P (T.setTop (mkF m pc Ls st)) := by
  obtain ⟨v, vm₁, ⟨T', L', c', s'⟩, -, X', ⟨Lc, hQ, l1, l2, l3⟩, stp⟩ := Jvm.LawKit.callS X hx (y := y) hown (mvT hZ w1) (mvT hZ w2) (mvT hZ w3) (mvT hZ w4) hy (backOf (W := W) C hZ w4 w3 hfr hlo) (g := mkF m pc Ls st) rfl hsize (argsL := argsL) (rest := rest) (lenOf hd hl) hst (by show 2 * 0 + _ ≤ _; omega) hdg (fun _ _ => ⟨rfl, eT, hc, hs⟩)
  dsimp only [Pt.U, Pt.locs, Pt.cells, Pt.slots] at X' l1 l2 l3 stp hQ
  subst l1 l2 l3
  exact GoOn.st stp (k _ _ _ X' hQ)
theorem GoOn.callC {W pc : Nat} {Ls : Array Slot} {a : Addr} {argsL rest : List Value} {ps : List FieldType} {rt : Option FieldType} {st : List Value} (X : Stand p l e R s m args below meth c T locs cells slots) (hx : p.tables.exec = Jvm.exec) (hZ : Z.Warmed39 s.vm) (hown : s.vm.findClass own = some m.cls) (hy1 : y.name = "<init>")
    (w1 : (Cond.methodLink own index y).before a0 Z = true) (w2 : (Cond.instanceMethod y).before a0 Z = true) (w3 : (Cond.initialized y.cls).before a0 Z = true) (w4 : (Cond.code y bytes maxL none).before a0 Z = true) (hy : y.cls ≠ "java/lang/invoke/MethodHandle" ∧ y.cls ≠ "java/lang/invoke/VarHandle")
    (C : OwCon l Z y bytes maxL none [] rm (.ref a :: argsL).toArray h Q) (eT : T.heap = h) (hfr : rm.frames + 1 ≤ R.frames) (hlo : W + (maxL + 11) + rm.locals ≤ R.locals) (hsize : Ls.size = c.maxLocals) (hd : parseMethodDescriptor y.desc = some ⟨ps, rt⟩) (hl : argsL.length = ps.length) (hst : st = argsL.reverse ++ .ref a :: rest)
    (hW : (rest.map fun v => v.category).sum ≤ W) (hdg : decode c.code pc = .ok (.invokespecial index, 3)) (hc : cells + rm.cells ≤ R.cells) (hs : slots + rm.slots ≤ R.slots)
    (k : ∀ (v : Option Value) (T' : State) (L : List Loc), Stand p l e R s m args below meth c T' (locs ++ L) (cells + rm.cells) (slots + rm.slots) → Q v T'.heap L → GoOn p e below P (T'.setTop (mkF m (pc + 3) Ls (v.toList ++ rest)))) : GoOn p e below P (T.setTop (mkF m pc Ls st)) := by
  obtain ⟨v, vm₁, ⟨T', L', c', s'⟩, -, X', ⟨Lc, hQ, l1, l2, l3⟩, stp⟩ := X.specialBack hx (y := y) hy1 hown (mvT hZ w1) (mvT hZ w2) (mvT hZ w4) hy (backOf (W := W) C hZ w4 w3 hfr hlo) (g := mkF m pc Ls st) rfl hsize (Steps.refl _) (a := a) (argsL := argsL) (rest := rest) (lenOf hd hl) hst (by show 2 * 0 + _ ≤ _; omega) hdg (fun _ _ => ⟨rfl, eT, hc, hs⟩)
  dsimp only [Pt.U, Pt.locs, Pt.cells, Pt.slots] at X' l1 l2 l3 stp hQ
  subst l1 l2 l3
  exact GoOn.st (fun _ q => stp.trans q) (k _ _ _ X' hQ)
theorem GoOn.callV {W pc : Nat} {Ls : Array Slot} {a : Addr} {K : String} {argsL rest : List Value} {ps : List FieldType} {rt : Option FieldType} {st : List Value} (X : Stand p l e R s m args below meth c T locs cells slots) (hx : p.tables.exec = Jvm.exec) (hZ : Z.Warmed39 s.vm) (hown : s.vm.findClass own = some m.cls)
    (w1 : (Cond.methodLink own index y).before a0 Z = true) (w5 : (Cond.declares y).before a0 Z = true) (nf : NotFace s y) (w6 : (Cond.selects K y z).before a0 Z = true) (w2 : (Cond.instanceMethod z).before a0 Z = true) (w3 : (Cond.initialized z.cls).before a0 Z = true) (w4 : (Cond.code z bytes maxL ret).before a0 Z = true) (hy : y.cls ≠ "java/lang/invoke/MethodHandle" ∧ y.cls ≠ "java/lang/invoke/VarHandle")
    (C : OwCon l Z z bytes maxL ret [] rm (.ref a :: argsL).toArray h Q) (eT : T.heap = h) (E : Exa Z h a K) (hfr : rm.frames + 1 ≤ R.frames) (hlo : W + (maxL + 11) + rm.locals ≤ R.locals) (hsize : Ls.size = c.maxLocals) (hd : parseMethodDescriptor y.desc = some ⟨ps, rt⟩) (hl : argsL.length = ps.length) (hst : st = argsL.reverse ++ .ref a :: rest)
    (hW : (rest.map fun v => v.category).sum ≤ W) (hdg : decode c.code pc = .ok (.invokevirtual index, 3)) (hc : cells + rm.cells ≤ R.cells) (hs : slots + rm.slots ≤ R.slots)
    (k : ∀ (v : Option Value) (T' : State) (L : List Loc), Stand p l e R s m args below meth c T' (locs ++ L) (cells + rm.cells) (slots + rm.slots) → Q v T'.heap L → GoOn p e below P (T'.setTop (mkF m (pc + 3) Ls (v.toList ++ rest)))) : GoOn p e below P (T.setTop (mkF m pc Ls st)) := by
  obtain ⟨cB, kB, q1, q2, q3⟩ := isOf hZ eT E
  obtain ⟨v, vm₁, ⟨T', L', c', s'⟩, -, X', ⟨Lc, hQ, l1, l2, l3⟩, stp⟩ := X.virtualBack hx (y := y) (z := z) hown (mvT hZ w1) (mvT hZ w5) nf (mvT hZ w6) (mvT hZ w2) hy (backOf (W := W) C hZ w4 w3 hfr hlo) q1 q3 (g := mkF m pc Ls st) rfl hsize (Steps.refl _) (argsL := argsL) (rest := rest) (lenOf hd hl) hst (by show 2 * 0 + _ ≤ _; omega) hdg (fun _ _ => ⟨rfl, eT, hc, hs⟩)
  dsimp only [Pt.U, Pt.locs, Pt.cells, Pt.slots] at X' l1 l2 l3 stp hQ
  subst l1 l2 l3
  exact GoOn.st (fun _ q => stp.trans q) (k _ _ _ X' hQ)
theorem GoOn.callP {W pc : Nat} {Ls : Array Slot} {a : Addr} {argsL rest : List Value} {ps : List FieldType} {rt : Option FieldType} {st : List Value} (X : Stand p l e R s m args below meth c T locs cells slots) (hx : p.tables.exec = Jvm.exec) (hZ : Z.Warmed39 s.vm) (hown : s.vm.findClass own = some m.cls)
    (w1 : (Cond.methodLink own index y).before a0 Z = true) (w2 : (Cond.instanceMethod y).before a0 Z = true) (w5 : (Cond.selects y.cls y y).before a0 Z = true) (w6 : (Cond.privateMethod y).before a0 Z = true) (w3 : (Cond.initialized y.cls).before a0 Z = true) (w4 : (Cond.code y bytes maxL ret).before a0 Z = true) (hy : y.cls ≠ "java/lang/invoke/MethodHandle" ∧ y.cls ≠ "java/lang/invoke/VarHandle")
    (C : OwCon l Z y bytes maxL ret [] rm (.ref a :: argsL).toArray h Q) (eT : T.heap = h) (hcl : ∃ cl : Cell, h[a]? = some cl ∧ ∀ q, cl.vm ≠ .statics q) (hfr : rm.frames + 1 ≤ R.frames) (hlo : W + (maxL + 11) + rm.locals ≤ R.locals) (hsize : Ls.size = c.maxLocals) (hd : parseMethodDescriptor y.desc = some ⟨ps, rt⟩) (hl : argsL.length = ps.length) (hst : st = argsL.reverse ++ .ref a :: rest)
    (hW : (rest.map fun v => v.category).sum ≤ W) (hdg : decode c.code pc = .ok (.invokevirtual index, 3)) (hc : cells + rm.cells ≤ R.cells) (hs : slots + rm.slots ≤ R.slots)
    (k : ∀ (v : Option Value) (T' : State) (L : List Loc), Stand p l e R s m args below meth c T' (locs ++ L) (cells + rm.cells) (slots + rm.slots) → Q v T'.heap L → GoOn p e below P (T'.setTop (mkF m (pc + 3) Ls (v.toList ++ rest)))) : GoOn p e below P (T.setTop (mkF m pc Ls st)) := by
  obtain ⟨cl, q1, q2⟩ := hcl
  obtain ⟨v, vm₁, ⟨T', L', c', s'⟩, -, X', ⟨Lc, hQ, l1, l2, l3⟩, stp⟩ := X.privateBack hx (y := y) hown (mvT hZ w1) (mvT hZ w2) (mvT hZ w5) (Cond.privateMethod_at (mvP hZ w6 (args := #[]))) (mvT hZ w4) hy (backOf (W := W) C hZ w4 w3 hfr hlo) (g := mkF m pc Ls st) rfl hsize (Steps.refl _) (a := a) (by rw [eT]; exact q1) q2 (argsL := argsL) (rest := rest) (lenOf hd hl) hst (by show 2 * 0 + _ ≤ _; omega) hdg (fun _ _ => ⟨rfl, eT, hc, hs⟩)
  dsimp only [Pt.U, Pt.locs, Pt.cells, Pt.slots] at X' l1 l2 l3 stp hQ
  subst l1 l2 l3
  exact GoOn.st (fun _ q => stp.trans q) (k _ _ _ X' hQ)
theorem GoOn.callI {W pc count : Nat} {Ls : Array Slot} {a : Addr} {K : String} {argsL rest : List Value} {ps : List FieldType} {rt : Option FieldType} {st : List Value} (X : Stand p l e R s m args below meth c T locs cells slots) (hx : p.tables.exec = Jvm.exec) (hZ : Z.Warmed39 s.vm) (hown : s.vm.findClass own = some m.cls)
    (w1 : (Cond.methodLink own index y).before a0 Z = true) (w5 : (Cond.declares y).before a0 Z = true) (w7 : (Cond.interfaceMethod y.cls y.cls y.name y.desc).before a0 Z = true) (w6 : (Cond.selects K y z).before a0 Z = true) (w2 : (Cond.instanceMethod z).before a0 Z = true) (w8 : (Cond.publicMethod z).before a0 Z = true) (w9 : (Cond.unhidden K y.name y.desc).before a0 Z = true) (w10 : (Cond.castable K y.cls).before a0 Z = true) (hfa : ((Cond.interfaceMethod y.cls y.cls y.name y.desc).onTables && (Cond.interfaceMethod y.cls y.cls y.name y.desc).keepsFace) = true) (w3 : (Cond.initialized z.cls).before a0 Z = true) (w4 : (Cond.code z bytes maxL ret).before a0 Z = true) (hy : y.cls ≠ "java/lang/invoke/MethodHandle" ∧ y.cls ≠ "java/lang/invoke/VarHandle")
    (C : OwCon l Z z bytes maxL ret [] rm (.ref a :: argsL).toArray h Q) (eT : T.heap = h) (E : Exa Z h a K) (hfr : rm.frames + 1 ≤ R.frames) (hlo : W + (maxL + 11) + rm.locals ≤ R.locals) (hsize : Ls.size = c.maxLocals) (hd : parseMethodDescriptor y.desc = some ⟨ps, rt⟩) (hl : argsL.length = ps.length) (hst : st = argsL.reverse ++ .ref a :: rest)
    (hW : (rest.map fun v => v.category).sum ≤ W) (hdg : decode c.code pc = .ok (.invokeinterface index count, 5)) (hc : cells + rm.cells ≤ R.cells) (hs : slots + rm.slots ≤ R.slots)
    (k : ∀ (v : Option Value) (T' : State) (L : List Loc), Stand p l e R s m args below meth c T' (locs ++ L) (cells + rm.cells) (slots + rm.slots) → Q v T'.heap L → GoOn p e below P (T'.setTop (mkF m (pc + 5) Ls (v.toList ++ rest)))) : GoOn p e below P (T.setTop (mkF m pc Ls st)) := by
  obtain ⟨cB, kB, q1, q2, q3⟩ := isOf hZ eT E
  obtain ⟨v, vm₁, ⟨T', L', c', s'⟩, -, X', ⟨Lc, hQ, l1, l2, l3⟩, stp⟩ := X.interfaceBack hx (xi := y) (y := z) hown (mvT hZ w1) (mvT hZ w5) (mvT hZ w7 hfa) (mvT hZ w6) (mvT hZ w2) (mvT hZ w8) (mvT hZ w9) (mvT hZ w10) hy (backOf (W := W) C hZ w4 w3 hfr hlo) q1 q2 q3 (g := mkF m pc Ls st) rfl hsize (Steps.refl _) (argsL := argsL) (rest := rest) (lenOf hd hl) hst (by show 2 * 0 + _ ≤ _; omega) hdg (fun _ _ => ⟨rfl, eT, hc, hs⟩)
  dsimp only [Pt.U, Pt.locs, Pt.cells, Pt.slots] at X' l1 l2 l3 stp hQ
  subst l1 l2 l3
  exact GoOn.st (fun _ q => stp.trans q) (k _ _ _ X' hQ)
theorem own_aaload {a : Addr} {kc : ClassId} {ty : FieldType} {zl j : Int32} {vs : List Value} {dv v : Value} (X : Stand p l e R s m args below meth c T locs cells slots) (hx : p.tables.exec = Jvm.exec) (hZ : Z.Warmed39 s.vm) (eT : T.heap = h) (V : Arv Z h a kc ty zl vs dv) (hty : ty.isReference = true) (hj : ¬ j < 0 ∧ j < zl) (hv : vs.getD j.toNatClampNeg dv = v) {pc : Nat} {Ls : Array Slot} {rest : List Value} (hd : decode c.code pc = .ok (.aaload, 1)) :
    ∀ t, Steps p.tables e below (T.setTop (mkF m (pc + 1) Ls (v :: rest))) t → Steps p.tables e below (T.setTop (mkF m pc Ls (.int j :: .ref a :: rest))) t := by
  obtain ⟨cl, A, -, S, N, H, -⟩ := V
  intro t k
  exact X.aaload hx (j := j) (v := v) (by rw [eT]; exact A.1) (State.isArrayOf_alike hZ.alike A.2.1) hty A.2.2 (inb_of S hj) (H.at (inb_of S hj) hv) (g := mkF m pc Ls (.int j :: .ref a :: rest)) rfl rfl hd _ k
theorem own_aastore {a b : Addr} {kc : ClassId} {C : String} {ty : FieldType} {zl j : Int32} {vs : List Value} {dv : Value} (X : Stand p l e R s m args below meth c T locs cells slots) (hx : p.tables.exec = Jvm.exec) (hZ : Z.Warmed39 s.vm) (eT : T.heap = h) (V : Arv Z h a kc ty zl vs dv) (hty : ty.isReference = true) (hfit : fits ty (.ref b) = true) (O : Ovr Z kc C) (I : Ins Z h b C true) (hj : ¬ j < 0 ∧ j < zl) (i : Nat) (hi : j.toNatClampNeg = i) (hl : i < vs.length) {pc : Nat} {Ls : Array Slot} {rest : List Value} (hd : decode c.code pc = .ok (.aastore, 1)) :
    ∃ T' h', Stand p l e R s m args below meth c T' (locs ++ [⟨a, j.toNatClampNeg⟩]) cells slots ∧ T'.heap = h' ∧ Wr h h' a j.toNatClampNeg (.ref b) ∧ Arv Z h' a kc ty zl (vs.set i (.ref b)) dv ∧ ∀ t, Steps p.tables e below (T'.setTop (mkF m (pc + 1) Ls rest)) t → Steps p.tables e below (T.setTop (mkF m pc Ls (.ref b :: .int j :: .ref a :: rest))) t := by
  obtain ⟨cl, A, q1, S, N, H, G⟩ := V
  obtain ⟨T', h', X', e', W, st⟩ := stR X hx hZ eT A (j := j) (inb_of S hj) hty (Sto.ofV A q1 O I) (g := mkF m pc Ls (.ref b :: .int j :: .ref a :: rest)) rfl rfl hd
  exact ⟨T', h', X', e', W, Arv.set A q1 S N H G hfit W i hi hl, st⟩
theorem own_aastoreN {a : Addr} {kc : ClassId} {ty : FieldType} {zl j : Int32} {vs : List Value} {dv : Value} (X : Stand p l e R s m args below meth c T locs cells slots) (hx : p.tables.exec = Jvm.exec) (hZ : Z.Warmed39 s.vm) (eT : T.heap = h) (V : Arv Z h a kc ty zl vs dv) (hty : ty.isReference = true) (hfit : fits ty .null = true) (hj : ¬ j < 0 ∧ j < zl) (i : Nat) (hi : j.toNatClampNeg = i) (hl : i < vs.length) {pc : Nat} {Ls : Array Slot} {rest : List Value} (hd : decode c.code pc = .ok (.aastore, 1)) :
    ∃ T' h', Stand p l e R s m args below meth c T' (locs ++ [⟨a, j.toNatClampNeg⟩]) cells slots ∧ T'.heap = h' ∧ Wr h h' a j.toNatClampNeg .null ∧ Arv Z h' a kc ty zl (vs.set i .null) dv ∧ ∀ t, Steps p.tables e below (T'.setTop (mkF m (pc + 1) Ls rest)) t → Steps p.tables e below (T.setTop (mkF m pc Ls (.null :: .int j :: .ref a :: rest))) t := by
  obtain ⟨cl, A, q1, S, N, H, G⟩ := V
  obtain ⟨T', h', X', e', W, st⟩ := stR X hx hZ eT A (j := j) (inb_of S hj) hty (Or.inl rfl) (g := mkF m pc Ls (.null :: .int j :: .ref a :: rest)) rfl rfl hd
  exact ⟨T', h', X', e', W, Arv.set A q1 S N H G hfit W i hi hl, st⟩
theorem own_arrlen {a : Addr} {kc : ClassId} {ty : FieldType} {zl : Int32} {vs : List Value} {dv : Value} (X : Stand p l e R s m args below meth c T locs cells slots) (hx : p.tables.exec = Jvm.exec) (hZ : Z.Warmed39 s.vm) (eT : T.heap = h) (V : Arv Z h a kc ty zl vs dv) {pc : Nat} {Ls : Array Slot} {rest : List Value} (hd : decode c.code pc = .ok (.arraylength, 1)) :
    ∀ t, Steps p.tables e below (T.setTop (mkF m (pc + 1) Ls (.int zl :: rest))) t → Steps p.tables e below (T.setTop (mkF m pc Ls (.ref a :: rest))) t := by
  obtain ⟨cl, A, -, S, N, -, -⟩ := V
  intro t k
  refine X.arraylength hx (by rw [eT]; exact A.1) (State.isArrayOf_alike hZ.alike A.2.1) (g := mkF m pc Ls (.ref a :: rest)) rfl rfl hd _ ?_
  rw [len_of S N]; exact k
theorem own_iaload {a : Addr} {kc : ClassId} {zl j : Int32} {vs : List Value} {dv v : Value} (X : Stand p l e R s m args below meth c T locs cells slots) (hx : p.tables.exec = Jvm.exec) (hZ : Z.Warmed39 s.vm) (eT : T.heap = h) (V : Arv Z h a kc .int zl vs dv) (hj : ¬ j < 0 ∧ j < zl) (hv : vs.getD j.toNatClampNeg dv = v) {pc : Nat} {Ls : Array Slot} {rest : List Value} (hd : decode c.code pc = .ok (.iaload, 1)) :
    ∀ t, Steps p.tables e below (T.setTop (mkF m (pc + 1) Ls (v :: rest))) t → Steps p.tables e below (T.setTop (mkF m pc Ls (.int j :: .ref a :: rest))) t := by
  obtain ⟨cl, A, -, S, N, H, -⟩ := V
  intro t k
  exact X.iaload hx (j := j) (v := v) (by rw [eT]; exact A.1) (State.isArrayOf_alike hZ.alike A.2.1) A.2.2 (inb_of S hj) (H.at (inb_of S hj) hv) (g := mkF m pc Ls (.int j :: .ref a :: rest)) rfl rfl hd _ k
theorem own_caload {a : Addr} {kc : ClassId} {zl j : Int32} {vs : List Value} {dv v : Value} (X : Stand p l e R s m args below meth c T locs cells slots) (hx : p.tables.exec = Jvm.exec) (hZ : Z.Warmed39 s.vm) (eT : T.heap = h) (V : Arv Z h a kc .char zl vs dv) (hj : ¬ j < 0 ∧ j < zl) (hv : vs.getD j.toNatClampNeg dv = v) {pc : Nat} {Ls : Array Slot} {rest : List Value} (hd : decode c.code pc = .ok (.caload, 1)) :
    ∀ t, Steps p.tables e below (T.setTop (mkF m (pc + 1) Ls (v :: rest))) t → Steps p.tables e below (T.setTop (mkF m pc Ls (.int j :: .ref a :: rest))) t := by
  obtain ⟨cl, A, -, S, N, H, -⟩ := V
  intro t k
  exact X.caload hx (j := j) (v := v) (by rw [eT]; exact A.1) (State.isArrayOf_alike hZ.alike A.2.1) A.2.2 (inb_of S hj) (H.at (inb_of S hj) hv) (g := mkF m pc Ls (.int j :: .ref a :: rest)) rfl rfl hd _ k
theorem own_baload {a : Addr} {kc : ClassId} {zl j : Int32} {vs : List Value} {dv v : Value} (X : Stand p l e R s m args below meth c T locs cells slots) (hx : p.tables.exec = Jvm.exec) (hZ : Z.Warmed39 s.vm) (eT : T.heap = h) (V : Arv Z h a kc .byte zl vs dv) (hj : ¬ j < 0 ∧ j < zl) (hv : vs.getD j.toNatClampNeg dv = v) {pc : Nat} {Ls : Array Slot} {rest : List Value} (hd : decode c.code pc = .ok (.baload, 1)) :
    ∀ t, Steps p.tables e below (T.setTop (mkF m (pc + 1) Ls (v :: rest))) t → Steps p.tables e below (T.setTop (mkF m pc Ls (.int j :: .ref a :: rest))) t := by
  obtain ⟨cl, A, -, S, N, H, -⟩ := V
  intro t k
  exact X.baloadBytes hx (j := j) (v := v) (by rw [eT]; exact A.1) (State.isArrayOf_alike hZ.alike A.2.1) A.2.2 (inb_of S hj) (H.at (inb_of S hj) hv) (g := mkF m pc Ls (.int j :: .ref a :: rest)) rfl rfl hd _ k
theorem own_zaload {a : Addr} {kc : ClassId} {zl j : Int32} {vs : List Value} {dv v : Value} (X : Stand p l e R s m args below meth c T locs cells slots) (hx : p.tables.exec = Jvm.exec) (hZ : Z.Warmed39 s.vm) (eT : T.heap = h) (V : Arv Z h a kc .boolean zl vs dv) (hj : ¬ j < 0 ∧ j < zl) (hv : vs.getD j.toNatClampNeg dv = v) {pc : Nat} {Ls : Array Slot} {rest : List Value} (hd : decode c.code pc = .ok (.baload, 1)) :
    ∀ t, Steps p.tables e below (T.setTop (mkF m (pc + 1) Ls (v :: rest))) t → Steps p.tables e below (T.setTop (mkF m pc Ls (.int j :: .ref a :: rest))) t := by
  obtain ⟨cl, A, -, S, N, H, -⟩ := V
  intro t k
  exact X.baloadBooleans hx (j := j) (v := v) (by rw [eT]; exact A.1) (State.isArrayOf_alike hZ.alike A.2.1) A.2.2 (inb_of S hj) (H.at (inb_of S hj) hv) (g := mkF m pc Ls (.int j :: .ref a :: rest)) rfl rfl hd _ k
theorem own_laload {a : Addr} {kc : ClassId} {zl j : Int32} {vs : List Value} {dv v : Value} (X : Stand p l e R s m args below meth c T locs cells slots) (hx : p.tables.exec = Jvm.exec) (hZ : Z.Warmed39 s.vm) (eT : T.heap = h) (V : Arv Z h a kc .long zl vs dv) (hj : ¬ j < 0 ∧ j < zl) (hv : vs.getD j.toNatClampNeg dv = v) {pc : Nat} {Ls : Array Slot} {rest : List Value} (hd : decode c.code pc = .ok (.laload, 1)) :
    ∀ t, Steps p.tables e below (T.setTop (mkF m (pc + 1) Ls (v :: rest))) t → Steps p.tables e below (T.setTop (mkF m pc Ls (.int j :: .ref a :: rest))) t := by
  obtain ⟨cl, A, -, S, N, H, -⟩ := V
  intro t k
  exact X.laload hx (j := j) (v := v) (by rw [eT]; exact A.1) (State.isArrayOf_alike hZ.alike A.2.1) A.2.2 (inb_of S hj) (H.at (inb_of S hj) hv) (g := mkF m pc Ls (.int j :: .ref a :: rest)) rfl rfl hd _ k
theorem own_iastore {a : Addr} {kc : ClassId} {zl j : Int32} {x : Int32} {vs : List Value} {dv : Value} (X : Stand p l e R s m args below meth c T locs cells slots) (hx : p.tables.exec = Jvm.exec) (hZ : Z.Warmed39 s.vm) (eT : T.heap = h) (V : Arv Z h a kc .int zl vs dv) (hj : ¬ j < 0 ∧ j < zl) (i : Nat) (hi : j.toNatClampNeg = i) (hl : i < vs.length) {pc : Nat} {Ls : Array Slot} {rest : List Value} (hd : decode c.code pc = .ok (.iastore, 1)) :
    ∃ T' h', Stand p l e R s m args below meth c T' (locs ++ [⟨a, j.toNatClampNeg⟩]) cells slots ∧ T'.heap = h' ∧ Wr h h' a j.toNatClampNeg (.int x) ∧ Arv Z h' a kc .int zl (vs.set i (.int x)) dv ∧ ∀ t, Steps p.tables e below (T'.setTop (mkF m (pc + 1) Ls rest)) t → Steps p.tables e below (T.setTop (mkF m pc Ls ((.int x) :: .int j :: .ref a :: rest))) t := by
  obtain ⟨cl, A, q1, S, N, H, G⟩ := V
  obtain ⟨T', h', X', e', W, st⟩ := stI X hx hZ eT A (j := j) (x := x) (inb_of S hj) (g := mkF m pc Ls ((.int x) :: .int j :: .ref a :: rest)) rfl rfl hd
  exact ⟨T', h', X', e', W, Arv.set A q1 S N H G rfl W i hi hl, st⟩
theorem own_castore {a : Addr} {kc : ClassId} {zl j : Int32} {x : Int32} {vs : List Value} {dv : Value} (X : Stand p l e R s m args below meth c T locs cells slots) (hx : p.tables.exec = Jvm.exec) (hZ : Z.Warmed39 s.vm) (eT : T.heap = h) (V : Arv Z h a kc .char zl vs dv) (hj : ¬ j < 0 ∧ j < zl) (i : Nat) (hi : j.toNatClampNeg = i) (hl : i < vs.length) {pc : Nat} {Ls : Array Slot} {rest : List Value} (hd : decode c.code pc = .ok (.castore, 1)) :
    ∃ T' h', Stand p l e R s m args below meth c T' (locs ++ [⟨a, j.toNatClampNeg⟩]) cells slots ∧ T'.heap = h' ∧ Wr h h' a j.toNatClampNeg (.int (nar .char x)) ∧ Arv Z h' a kc .char zl (vs.set i (.int (nar .char x))) dv ∧ ∀ t, Steps p.tables e below (T'.setTop (mkF m (pc + 1) Ls rest)) t → Steps p.tables e below (T.setTop (mkF m pc Ls ((.int x) :: .int j :: .ref a :: rest))) t := by
  obtain ⟨cl, A, q1, S, N, H, G⟩ := V
  obtain ⟨T', h', X', e', W, st⟩ := stC X hx hZ eT A (j := j) (x := x) (inb_of S hj) (g := mkF m pc Ls ((.int x) :: .int j :: .ref a :: rest)) rfl rfl hd
  exact ⟨T', h', X', e', W, Arv.set A q1 S N H G (fits_nar_char x) W i hi hl, st⟩
theorem own_bastore {a : Addr} {kc : ClassId} {zl j : Int32} {x : Int32} {vs : List Value} {dv : Value} (X : Stand p l e R s m args below meth c T locs cells slots) (hx : p.tables.exec = Jvm.exec) (hZ : Z.Warmed39 s.vm) (eT : T.heap = h) (V : Arv Z h a kc .byte zl vs dv) (hj : ¬ j < 0 ∧ j < zl) (i : Nat) (hi : j.toNatClampNeg = i) (hl : i < vs.length) {pc : Nat} {Ls : Array Slot} {rest : List Value} (hd : decode c.code pc = .ok (.bastore, 1)) :
    ∃ T' h', Stand p l e R s m args below meth c T' (locs ++ [⟨a, j.toNatClampNeg⟩]) cells slots ∧ T'.heap = h' ∧ Wr h h' a j.toNatClampNeg (.int (nar .byte x)) ∧ Arv Z h' a kc .byte zl (vs.set i (.int (nar .byte x))) dv ∧ ∀ t, Steps p.tables e below (T'.setTop (mkF m (pc + 1) Ls rest)) t → Steps p.tables e below (T.setTop (mkF m pc Ls ((.int x) :: .int j :: .ref a :: rest))) t := by
  obtain ⟨cl, A, q1, S, N, H, G⟩ := V
  obtain ⟨T', h', X', e', W, st⟩ := stB X hx hZ eT A (j := j) (x := x) (inb_of S hj) (g := mkF m pc Ls ((.int x) :: .int j :: .ref a :: rest)) rfl rfl hd
  exact ⟨T', h', X', e', W, Arv.set A q1 S N H G (fits_nar_byte x) W i hi hl, st⟩
theorem own_zastore {a : Addr} {kc : ClassId} {zl j : Int32} {x : Int32} {vs : List Value} {dv : Value} (X : Stand p l e R s m args below meth c T locs cells slots) (hx : p.tables.exec = Jvm.exec) (hZ : Z.Warmed39 s.vm) (eT : T.heap = h) (V : Arv Z h a kc .boolean zl vs dv) (hj : ¬ j < 0 ∧ j < zl) (i : Nat) (hi : j.toNatClampNeg = i) (hl : i < vs.length) {pc : Nat} {Ls : Array Slot} {rest : List Value} (hd : decode c.code pc = .ok (.bastore, 1)) :
    ∃ T' h', Stand p l e R s m args below meth c T' (locs ++ [⟨a, j.toNatClampNeg⟩]) cells slots ∧ T'.heap = h' ∧ Wr h h' a j.toNatClampNeg (.int (nar .boolean x)) ∧ Arv Z h' a kc .boolean zl (vs.set i (.int (nar .boolean x))) dv ∧ ∀ t, Steps p.tables e below (T'.setTop (mkF m (pc + 1) Ls rest)) t → Steps p.tables e below (T.setTop (mkF m pc Ls ((.int x) :: .int j :: .ref a :: rest))) t := by
  obtain ⟨cl, A, q1, S, N, H, G⟩ := V
  obtain ⟨T', h', X', e', W, st⟩ := stZ X hx hZ eT A (j := j) (x := x) (inb_of S hj) (g := mkF m pc Ls ((.int x) :: .int j :: .ref a :: rest)) rfl rfl hd
  exact ⟨T', h', X', e', W, Arv.set A q1 S N H G (fits_nar_bool x) W i hi hl, st⟩
theorem own_lastore {a : Addr} {kc : ClassId} {zl j : Int32} {x : Int64} {vs : List Value} {dv : Value} (X : Stand p l e R s m args below meth c T locs cells slots) (hx : p.tables.exec = Jvm.exec) (hZ : Z.Warmed39 s.vm) (eT : T.heap = h) (V : Arv Z h a kc .long zl vs dv) (hj : ¬ j < 0 ∧ j < zl) (i : Nat) (hi : j.toNatClampNeg = i) (hl : i < vs.length) {pc : Nat} {Ls : Array Slot} {rest : List Value} (hd : decode c.code pc = .ok (.lastore, 1)) :
    ∃ T' h', Stand p l e R s m args below meth c T' (locs ++ [⟨a, j.toNatClampNeg⟩]) cells slots ∧ T'.heap = h' ∧ Wr h h' a j.toNatClampNeg (.long x) ∧ Arv Z h' a kc .long zl (vs.set i (.long x)) dv ∧ ∀ t, Steps p.tables e below (T'.setTop (mkF m (pc + 1) Ls rest)) t → Steps p.tables e below (T.setTop (mkF m pc Ls ((.long x) :: .int j :: .ref a :: rest))) t := by
  obtain ⟨cl, A, q1, S, N, H, G⟩ := V
  obtain ⟨T', h', X', e', W, st⟩ := stJ X hx hZ eT A (j := j) (x := x) (inb_of S hj) (g := mkF m pc Ls ((.long x) :: .int j :: .ref a :: rest)) rfl rfl hd
  exact ⟨T', h', X', e', W, Arv.set A q1 S N H G rfl W i hi hl, st⟩
theorem own_if_pos {P : Prop} [Decidable P] {a b z : Int32} (h : P) (e : a = z) : (if P then a else b) = z := (if_pos h).trans e
theorem own_nar_ite {P : Prop} [Decidable P] : narrow .boolean (.int (if P then (1 : Int32) else (0 : Int32))) = .int (if P then (1 : Int32) else (0 : Int32)) := by split <;> rfl
theorem own_nar_ite' {P : Prop} [Decidable P] : narrow .boolean (.int (if P then (0 : Int32) else (1 : Int32))) = .int (if P then (0 : Int32) else (1 : Int32)) := by split <;> rfl
theorem own_nar_char (x : Int32) : nar .char x.toUInt32.toUInt16.toUInt32.toInt32 = x.toUInt32.toUInt16.toUInt32.toInt32 := by
  simp [nar]
  congr 1
  apply UInt32.toNat_inj.mp
  simp
theorem GoOn.retD {Q : Option Value → Heap → List Loc → Prop} {rc rs : Nat} (X : Stand p l e R s m args below meth c T locs cells slots) (hx : p.tables.exec = Jvm.exec) (hlk : meth.locks = false) {pc : Nat} {Ls : Array Slot} {z : UInt64} {rest : List Value} (hret : meth.sig.returnType = some .double) (hd : decode c.code pc = .ok (.dreturn, 1))
    (hq : Q (some (.double z)) T.heap locs) (hc : cells ≤ rc) (hs : slots ≤ rs) : GoOn p e below (OwPost Q s rc rs) (T.setTop (mkF m pc Ls (.double z :: rest))) :=
  GoOn.out X hlk (fun h => by rw [hret] at h; cases h) hq hc hs fun fs hr => retOut X hx hret rfl (Or.inr (Or.inr (Or.inl ⟨rfl, rfl, _, rfl⟩))) hd hr
theorem own_daload {a : Addr} {kc : ClassId} {zl j : Int32} {vs : List Value} {dv v : Value} (X : Stand p l e R s m args below meth c T locs cells slots) (hx : p.tables.exec = Jvm.exec) (hZ : Z.Warmed39 s.vm) (eT : T.heap = h) (V : Arv Z h a kc .double zl vs dv) (hj : ¬ j < 0 ∧ j < zl) (hv : vs.getD j.toNatClampNeg dv = v) {pc : Nat} {Ls : Array Slot} {rest : List Value} (hd : decode c.code pc = .ok (.daload, 1)) :
    ∀ t, Steps p.tables e below (T.setTop (mkF m (pc + 1) Ls (v :: rest))) t → Steps p.tables e below (T.setTop (mkF m pc Ls (.int j :: .ref a :: rest))) t := by
  obtain ⟨cl, A, -, S, N, H, -⟩ := V
  intro t k
  exact X.daload hx (j := j) (v := v) (by rw [eT]; exact A.1) (State.isArrayOf_alike hZ.alike A.2.1) A.2.2 (inb_of S hj) (H.at (inb_of S hj) hv) (g := mkF m pc Ls (.int j :: .ref a :: rest)) rfl rfl hd _ k
theorem own_dastore {a : Addr} {kc : ClassId} {zl j : Int32} {x : UInt64} {vs : List Value} {dv : Value} (X : Stand p l e R s m args below meth c T locs cells slots) (hx : p.tables.exec = Jvm.exec) (hZ : Z.Warmed39 s.vm) (eT : T.heap = h) (V : Arv Z h a kc .double zl vs dv) (hj : ¬ j < 0 ∧ j < zl) (i : Nat) (hi : j.toNatClampNeg = i) (hl : i < vs.length) {pc : Nat} {Ls : Array Slot} {rest : List Value} (hd : decode c.code pc = .ok (.dastore, 1)) :
    ∃ T' h', Stand p l e R s m args below meth c T' (locs ++ [⟨a, j.toNatClampNeg⟩]) cells slots ∧ T'.heap = h' ∧ Wr h h' a j.toNatClampNeg (.double x) ∧ Arv Z h' a kc .double zl (vs.set i (.double x)) dv ∧ ∀ t, Steps p.tables e below (T'.setTop (mkF m (pc + 1) Ls rest)) t → Steps p.tables e below (T.setTop (mkF m pc Ls (.double x :: .int j :: .ref a :: rest))) t := by
  obtain ⟨cl, A, q1, S, N, H, G⟩ := V
  obtain ⟨T', h', X', e', W, st⟩ := stD X hx hZ eT A (j := j) (x := x) (inb_of S hj) (g := mkF m pc Ls (.double x :: .int j :: .ref a :: rest)) rfl rfl hd
  exact ⟨T', h', X', e', W, Arv.set A q1 S N H G rfl W i hi hl, st⟩
theorem own_arv_out {a : Addr} {kc : ClassId} {ty : FieldType} {zl j : Int32} {vs : List Value} {dv v : Value} (V : Arv Z h a kc ty zl vs dv) (i : Nat) (hi : j.toNatClampNeg = i) (hj : ¬ j < 0) (hz : ¬ j < zl) : Arv Z h a kc ty zl (vs.set i v) dv := by
  obtain ⟨cl, A, q1, S, N, H, G⟩ := V
  have hlt : cl.slots.size ≤ i := by
    rw [S, ← hi]
    rw [Int32.lt_iff_toInt_lt] at hj hz N
    have e0 : (0 : Int32).toInt = 0 := rfl
    simp only [Int32.toNatClampNeg]; omega
  have e : ∀ x, x < cl.slots.size → (vs.set i v).getD x dv = vs.getD x dv := fun x hx => by
    simp only [List.getD_eq_getElem?_getD]
    rw [List.getElem?_set_ne (by omega)]
  exact ⟨cl, A, q1, S, N, fun x hx => by rw [e x hx]; exact H x hx, fun x hx => by rw [e x hx]; exact G x hx⟩
end Own
end Jvm.OwnKit
namespace Jvm.Pilot.@@N@@
open Jvm Jvm.ClassFile Sem Op Lib Jvm.Free Jvm.Stand Jvm.LawKit Jvm.RoadKit Jvm.OwnKit Bundle Jvm.Pilot.@@N@@.Jvm.D
theorem own_sub_toInt (x y : Int32) : (x.toInt64 - y.toInt64).toInt = x.toInt - y.toInt := by
  have h1 := Int32.le_toInt x; have h2 := Int32.toInt_lt x; have h3 := Int32.le_toInt y; have h4 := Int32.toInt_lt y
  rw [Int64.toInt_sub, Int32.toInt_toInt64, Int32.toInt_toInt64]
  exact Int.bmod_eq_of_le (by omega) (by omega)
theorem own_sub_lt (x y : Int32) : (x.toInt64 - y.toInt64) < (0 : Int64) ↔ x < y := by
  rw [Int64.lt_iff_toInt_lt, own_sub_toInt, Int32.lt_iff_toInt_lt, Int64.toInt_zero]; omega
theorem own_sub_gt (x y : Int32) : (0 : Int64) < (x.toInt64 - y.toInt64) ↔ y < x := by
  rw [Int64.lt_iff_toInt_lt, own_sub_toInt, Int32.lt_iff_toInt_lt, Int64.toInt_zero]; omega
def own_holds (f t a : Int32) : Int32 := if a < f then 0 else if a < t then 1 else 0
theorem own_h0 {f t a : Int32} (h : a < f) : own_holds f t a = 0 := if_pos h
theorem own_h1 {f t a : Int32} (h : ¬ a < f) (h' : a < t) : own_holds f t a = 1 := (if_neg h).trans (if_pos h')
theorem own_h2 {f t a : Int32} (h : ¬ a < t) : own_holds f t a = 0 := by unfold own_holds; split <;> simp
theorem own_h3 {f t a : Int32} (h : ¬ f < t) : own_holds f t a = 0 := by
  rw [Int32.lt_iff_toInt_lt] at h
  by_cases q : a < t
  · exact own_h0 (by rw [Int32.lt_iff_toInt_lt] at q ⊢; omega)
  · exact own_h2 q
theorem own_h4 (f t : Int32) : own_holds f t t = 0 := own_h2 (by rw [Int32.lt_iff_toInt_lt]; omega)
theorem own_h5 (f t : Int32) : own_holds f t f = if f < t then 1 else 0 := if_neg (by rw [Int32.lt_iff_toInt_lt]; omega)
theorem ef_rec (m : MethodId) (x0 : Addr) : entryFrame m #[(.ref x0)] 1 = mkF m 0 #[.val (.ref x0)] [] := by first | (simp [entryFrame, mkF, argsToLocals, Value.category]; done) | rfl
theorem pn_java_lang_Record : plainName "java/lang/Record" = true := by first | (simp [plainName, overriddenIn]; done) | decide +kernel
theorem d_jdk_30_method_1_0 : decode jdk_30_method_1_code 0 = .ok (.aload_n 0, 1) := by decide +kernel
theorem d_jdk_30_method_1_1 : decode jdk_30_method_1_code 1 = .ok (.invokespecial 1, 3) := by decide +kernel
theorem d_jdk_30_method_1_4 : decode jdk_30_method_1_code 4 = .ok (.return_, 1) := by decide +kernel
set_option maxRecDepth 65536 in
set_option maxHeartbeats 40000000 in
theorem rm_rec (l : Launch) (Z : State) (a0 : Array Value) (hw : ∀ d ∈ tables_1, d.before a0 Z = true) (a1 : Addr) (h0 : Heap) :
    OwCon l Z (⟨"java/lang/Record", "<init>", "()V"⟩ : MethodName) jdk_30_method_1_code 1 none [] ({ frames := 1, cells := 0, slots := 0, locals := 12 } : Room) #[(.ref a1)] h0 (OwRet none h0) := by
  refine OwCon.of (plainFor_of_name pn_java_lang_Record) ?_
  intro p e s m below meth c s₁ X0 hx hby hml hret hlk hown hnm hZ e0
  refine GoOn.st (fun t k => castTop (ef_rec m a1) k) ?_
  show GoOn _ _ _ _ (s₁.setTop (mkF m 0 #[.val (.ref a1)] []))
  refine GoOn.st (fun t k => XS.aloadN X0.here hx rfl (hb hby d_jdk_30_method_1_0) rfl rfl k) ?_
  show GoOn _ _ _ _ (s₁.setTop (mkF m 1 #[.val (.ref a1)] [(.ref a1)]))
  obtain ⟨T1, X1, e1, st1⟩ := initO X0 hx hZ hown (hw _ (List.mem_of_getElem? (i := 11) rfl)) (hw _ (List.mem_of_getElem? (i := 12) rfl)) (hw _ (List.mem_of_getElem? (i := 13) rfl)) e0 (g := (mkF m 1 #[.val (.ref a1)] [(.ref a1)])) rfl (by rw [hml]; rfl) rfl (hb hby d_jdk_30_method_1_1) (by decide) (W := 0) (by show 2 * 0 + _ ≤ _; exact Nat.le_of_eq rfl) (by decide)
  refine GoOn.st st1 ?_
  show GoOn _ _ _ _ (T1.setTop (mkF m 4 #[.val (.ref a1)] []))
  exact GoOn.retV X1 hx hlk hret (hb hby d_jdk_30_method_1_4) (by rw [e1]; exact ⟨rfl, rfl, rfl⟩) (by decide) (by decide)
theorem ef_init (m : MethodId) (x0 : Addr) (x1 : Int32) (x2 : Int32) : entryFrame m #[(.ref x0), (.int x1), (.int x2)] 3 = mkF m 0 #[.val (.ref x0), .val (.int x1), .val (.int x2)] [] := by first | (simp [entryFrame, mkF, argsToLocals, Value.category]; done) | rfl
theorem pn_com_example_tendfold_tendfold_blueprint_HereDocument_Span : plainName "com/example/tendfold/tendfold/blueprint/HereDocument$Span" = true := by first | (simp [plainName, overriddenIn]; done) | decide +kernel
theorem d_prog_9_method_1_0 : decode prog_9_method_1_code 0 = .ok (.aload_n 0, 1) := by decide +kernel
theorem pd_0 : parseMethodDescriptor "()V" = some ⟨[], none⟩ := by decide +kernel
theorem d_prog_9_method_1_1 : decode prog_9_method_1_code 1 = .ok (.invokespecial 1, 3) := by decide +kernel
theorem d_prog_9_method_1_4 : decode prog_9_method_1_code 4 = .ok (.aload_n 0, 1) := by decide +kernel
theorem d_prog_9_method_1_5 : decode prog_9_method_1_code 5 = .ok (.iload_n 1, 1) := by decide +kernel
theorem d_prog_9_method_1_6 : decode prog_9_method_1_code 6 = .ok (.putfield 7, 3) := by decide +kernel
theorem d_prog_9_method_1_9 : decode prog_9_method_1_code 9 = .ok (.aload_n 0, 1) := by decide +kernel
theorem d_prog_9_method_1_10 : decode prog_9_method_1_code 10 = .ok (.iload_n 2, 1) := by decide +kernel
theorem d_prog_9_method_1_11 : decode prog_9_method_1_code 11 = .ok (.putfield 13, 3) := by decide +kernel
theorem d_prog_9_method_1_14 : decode prog_9_method_1_code 14 = .ok (.return_, 1) := by decide +kernel
set_option maxRecDepth 65536 in
set_option maxHeartbeats 40000000 in
theorem rm_init (l : Launch) (Z : State) (a0 : Array Value) (hw : ∀ d ∈ tables_1, d.before a0 Z = true) (a1 : Addr) (p1 p2 : Int32) (h0 : Heap) (n0 : Nat) (Z0 : n0 ≤ h0.size) (Ea : Exa Z h0 a1 "com/example/tendfold/tendfold/blueprint/HereDocument$Span") (Fa : Fld Z h0 a1 "com/example/tendfold/tendfold/blueprint/HereDocument$Span" "from" "I" (.int 0)) (Fb : Fld Z h0 a1 "com/example/tendfold/tendfold/blueprint/HereDocument$Span" "to" "I" (.int 0)) (g_a1 : n0 ≤ a1) :
    OwCon l Z (⟨"com/example/tendfold/tendfold/blueprint/HereDocument$Span", "<init>", "(II)V"⟩ : MethodName) prog_9_method_1_code 3 none [] ({ frames := 2, cells := 0, slots := 0, locals := 24 } : Room) #[(.ref a1), (.int p1), (.int p2)] h0 (fun v h L => v = none ∧ Fr n0 L ∧ Keep h0 h [a1] ∧ Exa Z h a1 "com/example/tendfold/tendfold/blueprint/HereDocument$Span" ∧ Fld Z h a1 "com/example/tendfold/tendfold/blueprint/HereDocument$Span" "from" "I" (.int p1) ∧ Fld Z h a1 "com/example/tendfold/tendfold/blueprint/HereDocument$Span" "to" "I" (.int p2)) := by
  refine OwCon.of (plainFor_of_name pn_com_example_tendfold_tendfold_blueprint_HereDocument_Span) ?_
  intro p e s m below meth c s₁ X0 hx hby hml hret hlk hown hnm hZ e0
  have N0 := Fr.nil n0
  refine GoOn.st (fun t k => castTop (ef_init m a1 p1 p2) k) ?_
  show GoOn _ _ _ _ (s₁.setTop (mkF m 0 #[.val (.ref a1), .val (.int p1), .val (.int p2)] []))
  refine GoOn.st (fun t k => XS.aloadN X0.here hx rfl (hb hby d_prog_9_method_1_0) rfl rfl k) ?_
  show GoOn _ _ _ _ (s₁.setTop (mkF m 1 #[.val (.ref a1), .val (.int p1), .val (.int p2)] [(.ref a1)]))
  refine GoOn.callC (W := 0) (argsL := []) (rest := []) (a := a1) X0 hx hZ hown rfl (hw _ (List.mem_of_getElem? (i := 6) rfl)) (hw _ (List.mem_of_getElem? (i := 7) rfl)) (hw _ (List.mem_of_getElem? (i := 9) rfl)) (hw _ (List.mem_of_getElem? (i := 10) rfl)) (by decide) (rm_rec l Z a0 hw a1 h0) e0 (by decide) (by decide) (by rw [hml]; rfl) pd_0 rfl rfl (Nat.le_of_eq rfl) (hb hby d_prog_9_method_1_1) (by decide) (by decide) ?_
  rintro _ T1 L1 X1 ⟨rfl, rfl, e1⟩
  rw [List.append_nil] at X1
  show GoOn _ _ _ _ (T1.setTop (mkF m 4 #[.val (.ref a1), .val (.int p1), .val (.int p2)] []))
  refine GoOn.st (fun t k => XS.aloadN X1.here hx rfl (hb hby d_prog_9_method_1_4) rfl rfl k) ?_
  show GoOn _ _ _ _ (T1.setTop (mkF m 5 #[.val (.ref a1), .val (.int p1), .val (.int p2)] [(.ref a1)]))
  refine GoOn.st (fun t k => XS.iloadN X1.here hx rfl (hb hby d_prog_9_method_1_5) rfl k) ?_
  show GoOn _ _ _ _ (T1.setTop (mkF m 6 #[.val (.ref a1), .val (.int p1), .val (.int p2)] [(.int p1), (.ref a1)]))
  obtain ⟨T2, h2, X2, e2, W2, st2⟩ := putF X1 hx hZ hown (host := "") (Or.inl (hw _ (List.mem_of_getElem? (i := 14) rfl))) Via.refl e1 Fa Ea (Or.inr ⟨(hw _ (List.mem_of_getElem? (i := 15) rfl)), rfl, hnm⟩) (hw _ (List.mem_of_getElem? (i := 1) rfl)) (ty := .int) (by decide) rfl rfl (g := (mkF m 6 #[.val (.ref a1), .val (.int p1), .val (.int p2)] [(.int p1), (.ref a1)])) rfl rfl (hb hby d_prog_9_method_1_6)
  have Fw2 := Fld.same W2 Fa
  have N3 := Fr.snoc X2 N0 g_a1
  refine GoOn.st st2 ?_
  show GoOn _ _ _ _ (T2.setTop (mkF m 9 #[.val (.ref a1), .val (.int p1), .val (.int p2)] []))
  refine GoOn.st (fun t k => XS.aloadN X2.here hx rfl (hb hby d_prog_9_method_1_9) rfl rfl k) ?_
  show GoOn _ _ _ _ (T2.setTop (mkF m 10 #[.val (.ref a1), .val (.int p1), .val (.int p2)] [(.ref a1)]))
  refine GoOn.st (fun t k => XS.iloadN X2.here hx rfl (hb hby d_prog_9_method_1_10) rfl k) ?_
  show GoOn _ _ _ _ (T2.setTop (mkF m 11 #[.val (.ref a1), .val (.int p1), .val (.int p2)] [(.int p2), (.ref a1)]))
  have F4 := (Exa.wr W2 Ea)
  have F5 := (Fld.other W2 Fb (Or.inr (slot_ne (Or.inr (hw _ (List.mem_of_getElem? (i := 17) rfl))) (Or.inr (hw _ (List.mem_of_getElem? (i := 15) rfl))) (by decide) (t := .int) (t' := .int) (by decide) (by decide))))
  obtain ⟨T6, h6, X6, e6, W6, st6⟩ := putF X2 hx hZ hown (host := "") (Or.inl (hw _ (List.mem_of_getElem? (i := 16) rfl))) Via.refl e2 F5 F4 (Or.inr ⟨(hw _ (List.mem_of_getElem? (i := 17) rfl)), rfl, hnm⟩) (hw _ (List.mem_of_getElem? (i := 1) rfl)) (ty := .int) (by decide) rfl rfl (g := (mkF m 11 #[.val (.ref a1), .val (.int p1), .val (.int p2)] [(.int p2), (.ref a1)])) rfl rfl (hb hby d_prog_9_method_1_11)
  have Fw6 := Fld.same W6 F5
  have N7 := Fr.snoc X6 N3 g_a1
  refine GoOn.st st6 ?_
  show GoOn _ _ _ _ (T6.setTop (mkF m 14 #[.val (.ref a1), .val (.int p1), .val (.int p2)] []))
  exact GoOn.retV X6 hx hlk hret (hb hby d_prog_9_method_1_14) (by rw [e6]; exact ⟨rfl, N7, (((Keep.refl h0 [a1]).wr W2 (Or.inl (List.mem_of_getElem? (i := 0) rfl))).wr W6 (Or.inl (List.mem_of_getElem? (i := 0) rfl))), (Exa.wr W6 F4), (Fld.other W6 Fw2 (Or.inr (slot_ne (Or.inr (hw _ (List.mem_of_getElem? (i := 15) rfl))) (Or.inr (hw _ (List.mem_of_getElem? (i := 17) rfl))) (by decide) (t := .int) (t' := .int) (by decide) (by decide)))), Fw6⟩) (by decide) (by decide)
theorem ef_holds (m : MethodId) (x0 : Addr) (x1 : Int32) : entryFrame m #[(.ref x0), (.int x1)] 2 = mkF m 0 #[.val (.ref x0), .val (.int x1)] [] := by first | (simp [entryFrame, mkF, argsToLocals, Value.category]; done) | rfl
theorem d_prog_9_method_2_0 : decode prog_9_method_2_code 0 = .ok (.iload_n 1, 1) := by decide +kernel
theorem d_prog_9_method_2_1 : decode prog_9_method_2_code 1 = .ok (.aload_n 0, 1) := by decide +kernel
theorem d_prog_9_method_2_2 : decode prog_9_method_2_code 2 = .ok (.getfield 7, 3) := by decide +kernel
theorem d_prog_9_method_2_5 : decode prog_9_method_2_code 5 = .ok (.if_icmp .lt 15, 3) := by decide +kernel
theorem d_prog_9_method_2_20 : decode prog_9_method_2_code 20 = .ok (.iconst 0, 1) := by decide +kernel
theorem d_prog_9_method_2_21 : decode prog_9_method_2_code 21 = .ok (.ireturn, 1) := by decide +kernel
theorem d_prog_9_method_2_8 : decode prog_9_method_2_code 8 = .ok (.iload_n 1, 1) := by decide +kernel
theorem d_prog_9_method_2_9 : decode prog_9_method_2_code 9 = .ok (.aload_n 0, 1) := by decide +kernel
theorem d_prog_9_method_2_10 : decode prog_9_method_2_code 10 = .ok (.getfield 13, 3) := by decide +kernel
theorem d_prog_9_method_2_13 : decode prog_9_method_2_code 13 = .ok (.if_icmp .ge 7, 3) := by decide +kernel
theorem d_prog_9_method_2_16 : decode prog_9_method_2_code 16 = .ok (.iconst 1, 1) := by decide +kernel
theorem d_prog_9_method_2_17 : decode prog_9_method_2_code 17 = .ok (.goto 4, 3) := by decide +kernel
set_option maxRecDepth 65536 in
set_option maxHeartbeats 40000000 in
theorem rm_holds (l : Launch) (Z : State) (a0 : Array Value) (hw : ∀ d ∈ tables_1, d.before a0 Z = true) (a1 : Addr) (p1 p2 p3 : Int32) (h0 : Heap) (Fa : Fld Z h0 a1 "com/example/tendfold/tendfold/blueprint/HereDocument$Span" "from" "I" (.int p1)) (Fb : Fld Z h0 a1 "com/example/tendfold/tendfold/blueprint/HereDocument$Span" "to" "I" (.int p2)) :
    OwCon l Z (⟨"com/example/tendfold/tendfold/blueprint/HereDocument$Span", "holds", "(I)Z"⟩ : MethodName) prog_9_method_2_code 2 (some .boolean) [] ({ frames := 0, cells := 0, slots := 0, locals := 0 } : Room) #[(.ref a1), (.int p3)] h0 (OwRet (some (.int (own_holds p1 p2 p3))) h0) := by
  refine OwCon.of (plainFor_of_name pn_com_example_tendfold_tendfold_blueprint_HereDocument_Span) ?_
  intro p e s m below meth c s₁ X0 hx hby hml hret hlk hown hnm hZ e0
  refine GoOn.st (fun t k => castTop (ef_holds m a1 p3) k) ?_
  show GoOn _ _ _ _ (s₁.setTop (mkF m 0 #[.val (.ref a1), .val (.int p3)] []))
  refine GoOn.st (fun t k => XS.iloadN X0.here hx rfl (hb hby d_prog_9_method_2_0) rfl k) ?_
  show GoOn _ _ _ _ (s₁.setTop (mkF m 1 #[.val (.ref a1), .val (.int p3)] [(.int p3)]))
  refine GoOn.st (fun t k => XS.aloadN X0.here hx rfl (hb hby d_prog_9_method_2_1) rfl rfl k) ?_
  show GoOn _ _ _ _ (s₁.setTop (mkF m 2 #[.val (.ref a1), .val (.int p3)] [(.ref a1), (.int p3)]))
  obtain ⟨T1, X1, e1, st1⟩ := getF X0 hx hZ hown (host := "") (Or.inl (hw _ (List.mem_of_getElem? (i := 14) rfl))) Via.refl e0 Fa (g := (mkF m 2 #[.val (.ref a1), .val (.int p3)] [(.ref a1), (.int p3)])) rfl rfl (hb hby d_prog_9_method_2_2)
  refine GoOn.st st1 ?_
  show GoOn _ _ _ _ (T1.setTop (mkF m 5 #[.val (.ref a1), .val (.int p3)] [(.int p1), (.int p3)]))
  by_cases hc2 : p3 < p1
  · skip
    refine GoOn.st (fun t k => XS.icmpYes X1.here hx rfl (pc0 := 5) (pc' := 20) rfl (hb hby d_prog_9_method_2_5) rfl (tlt hc2).1 (by decide) (by decide) k) ?_
    show GoOn _ _ _ _ (T1.setTop (mkF m 20 #[.val (.ref a1), .val (.int p3)] []))
    refine GoOn.st (fun t k => XS.iconst X1.here hx rfl (hb hby d_prog_9_method_2_20)  k) ?_
    show GoOn _ _ _ _ (T1.setTop (mkF m 21 #[.val (.ref a1), .val (.int p3)] [(.int (0 : Int32))]))
    exact GoOn.retZ X1 hx hlk hret (by simp) rfl (hb hby d_prog_9_method_2_21) (by rw [e1]; exact ⟨by rw [own_h0 hc2], rfl, rfl⟩) (by decide) (by decide)
  · skip
    refine GoOn.st (fun t k => XS.icmpNo X1.here hx rfl (hb hby d_prog_9_method_2_5) rfl (flt hc2).1 k) ?_
    show GoOn _ _ _ _ (T1.setTop (mkF m 8 #[.val (.ref a1), .val (.int p3)] []))
    refine GoOn.st (fun t k => XS.iloadN X1.here hx rfl (hb hby d_prog_9_method_2_8) rfl k) ?_
    show GoOn _ _ _ _ (T1.setTop (mkF m 9 #[.val (.ref a1), .val (.int p3)] [(.int p3)]))
    refine GoOn.st (fun t k => XS.aloadN X1.here hx rfl (hb hby d_prog_9_method_2_9) rfl rfl k) ?_
    show GoOn _ _ _ _ (T1.setTop (mkF m 10 #[.val (.ref a1), .val (.int p3)] [(.ref a1), (.int p3)]))
    obtain ⟨T3, X3, e3, st3⟩ := getF X1 hx hZ hown (host := "") (Or.inl (hw _ (List.mem_of_getElem? (i := 16) rfl))) Via.refl e1 Fb (g := (mkF m 10 #[.val (.ref a1), .val (.int p3)] [(.ref a1), (.int p3)])) rfl rfl (hb hby d_prog_9_method_2_10)
    refine GoOn.st st3 ?_
    show GoOn _ _ _ _ (T3.setTop (mkF m 13 #[.val (.ref a1), .val (.int p3)] [(.int p2), (.int p3)]))
    by_cases hc4 : p3 < p2
    · skip
      refine GoOn.st (fun t k => XS.icmpNo X3.here hx rfl (hb hby d_prog_9_method_2_13) rfl (tlt hc4).2.1 k) ?_
      show GoOn _ _ _ _ (T3.setTop (mkF m 16 #[.val (.ref a1), .val (.int p3)] []))
      refine GoOn.st (fun t k => XS.iconst X3.here hx rfl (hb hby d_prog_9_method_2_16)  k) ?_
      show GoOn _ _ _ _ (T3.setTop (mkF m 17 #[.val (.ref a1), .val (.int p3)] [(.int (1 : Int32))]))
      refine GoOn.st (fun t k => XS.goto X3.here hx rfl (pc0 := 17) (pc' := 21) rfl (hb hby d_prog_9_method_2_17) (by decide) (by decide) k) ?_
      show GoOn _ _ _ _ (T3.setTop (mkF m 21 #[.val (.ref a1), .val (.int p3)] [(.int (1 : Int32))]))
      exact GoOn.retZ X3 hx hlk hret (by simp) rfl (hb hby d_prog_9_method_2_21) (by rw [e3]; exact ⟨by rw [own_h1 hc2 hc4], rfl, rfl⟩) (by decide) (by decide)
    · skip
      refine GoOn.st (fun t k => XS.icmpYes X3.here hx rfl (pc0 := 13) (pc' := 20) rfl (hb hby d_prog_9_method_2_13) rfl (flt hc4).2.1 (by decide) (by decide) k) ?_
      show GoOn _ _ _ _ (T3.setTop (mkF m 20 #[.val (.ref a1), .val (.int p3)] []))
      refine GoOn.st (fun t k => XS.iconst X3.here hx rfl (hb hby d_prog_9_method_2_20)  k) ?_
      show GoOn _ _ _ _ (T3.setTop (mkF m 21 #[.val (.ref a1), .val (.int p3)] [(.int (0 : Int32))]))
      exact GoOn.retZ X3 hx hlk hret (by simp) rfl (hb hby d_prog_9_method_2_21) (by rw [e3]; exact ⟨by rw [own_h2 hc4], rfl, rfl⟩) (by decide) (by decide)
theorem ef_exp (m : MethodId) (x0 : Int32) (x1 : Int32) (x2 : Int32) : entryFrame m #[(.int x0), (.int x1), (.int x2)] 9 = mkF m 0 #[.val (.int x0), .val (.int x1), .val (.int x2), .unset, .unset, .unset, .unset, .unset, .unset] [] := by first | (simp [entryFrame, mkF, argsToLocals, Value.category]; done) | rfl
theorem pn_com_example_tendfold_tendfold_blueprint_SpanHoldsPinLaw : plainName "com/example/tendfold/tendfold/blueprint/SpanHoldsPinLaw" = true := by first | (simp [plainName, overriddenIn]; done) | decide +kernel
theorem d_method_2_0 : decode method_2_code 0 = .ok (.iload_n 0, 1) := by decide +kernel
theorem d_method_2_1 : decode method_2_code 1 = .ok (.iload_n 1, 1) := by decide +kernel
theorem d_method_2_2 : decode method_2_code 2 = .ok (.if_icmp .lt 5, 3) := by decide +kernel
theorem d_method_2_7 : decode method_2_code 7 = .ok (.iload_n 0, 1) := by decide +kernel
theorem d_method_2_8 : decode method_2_code 8 = .ok (.i2l, 1) := by decide +kernel
theorem d_method_2_9 : decode method_2_code 9 = .ok (.lstore_n 3, 1) := by decide +kernel
theorem d_method_2_10 : decode method_2_code 10 = .ok (.iload_n 1, 1) := by decide +kernel
theorem d_method_2_11 : decode method_2_code 11 = .ok (.i2l, 1) := by decide +kernel
theorem d_method_2_12 : decode method_2_code 12 = .ok (.lstore 5, 2) := by decide +kernel
theorem d_method_2_14 : decode method_2_code 14 = .ok (.iload_n 2, 1) := by decide +kernel
theorem d_method_2_15 : decode method_2_code 15 = .ok (.i2l, 1) := by decide +kernel
theorem d_method_2_16 : decode method_2_code 16 = .ok (.lstore 7, 2) := by decide +kernel
theorem d_method_2_18 : decode method_2_code 18 = .ok (.lload 7, 2) := by decide +kernel
theorem d_method_2_20 : decode method_2_code 20 = .ok (.lload_n 3, 1) := by decide +kernel
theorem d_method_2_21 : decode method_2_code 21 = .ok (.lsub, 1) := by decide +kernel
theorem d_method_2_22 : decode method_2_code 22 = .ok (.lconst 0, 1) := by decide +kernel
theorem d_method_2_23 : decode method_2_code 23 = .ok (.lcmp, 1) := by decide +kernel
theorem d_method_2_24 : decode method_2_code 24 = .ok (.ifCond .lt 17, 3) := by decide +kernel
theorem d_method_2_41 : decode method_2_code 41 = .ok (.iconst 0, 1) := by decide +kernel
theorem d_method_2_42 : decode method_2_code 42 = .ok (.ireturn, 1) := by decide +kernel
theorem d_method_2_27 : decode method_2_code 27 = .ok (.lload 5, 2) := by decide +kernel
theorem d_method_2_29 : decode method_2_code 29 = .ok (.lload 7, 2) := by decide +kernel
theorem d_method_2_31 : decode method_2_code 31 = .ok (.lsub, 1) := by decide +kernel
theorem d_method_2_32 : decode method_2_code 32 = .ok (.lconst 0, 1) := by decide +kernel
theorem d_method_2_33 : decode method_2_code 33 = .ok (.lcmp, 1) := by decide +kernel
theorem d_method_2_34 : decode method_2_code 34 = .ok (.ifCond .le 7, 3) := by decide +kernel
theorem d_method_2_37 : decode method_2_code 37 = .ok (.iconst 1, 1) := by decide +kernel
theorem d_method_2_38 : decode method_2_code 38 = .ok (.goto 4, 3) := by decide +kernel
theorem d_method_2_5 : decode method_2_code 5 = .ok (.iconst 0, 1) := by decide +kernel
theorem d_method_2_6 : decode method_2_code 6 = .ok (.ireturn, 1) := by decide +kernel
set_option maxRecDepth 65536 in
set_option maxHeartbeats 40000000 in
theorem rm_exp (l : Launch) (Z : State) (a0 : Array Value) (hw : ∀ d ∈ tables_1, d.before a0 Z = true) (p1 p2 p3 : Int32) (h0 : Heap) :
    OwCon l Z (⟨"com/example/tendfold/tendfold/blueprint/SpanHoldsPinLaw", "expected", "(III)Z"⟩ : MethodName) method_2_code 9 (some .boolean) [] ({ frames := 0, cells := 0, slots := 0, locals := 0 } : Room) #[(.int p1), (.int p2), (.int p3)] h0 (OwRet (some (.int (own_holds p1 p2 p3))) h0) := by
  refine OwCon.of (plainFor_of_name pn_com_example_tendfold_tendfold_blueprint_SpanHoldsPinLaw) ?_
  intro p e s m below meth c s₁ X0 hx hby hml hret hlk hown hnm hZ e0
  refine GoOn.st (fun t k => castTop (ef_exp m p1 p2 p3) k) ?_
  show GoOn _ _ _ _ (s₁.setTop (mkF m 0 #[.val (.int p1), .val (.int p2), .val (.int p3), .unset, .unset, .unset, .unset, .unset, .unset] []))
  refine GoOn.st (fun t k => XS.iloadN X0.here hx rfl (hb hby d_method_2_0) rfl k) ?_
  show GoOn _ _ _ _ (s₁.setTop (mkF m 1 #[.val (.int p1), .val (.int p2), .val (.int p3), .unset, .unset, .unset, .unset, .unset, .unset] [(.int p1)]))
  refine GoOn.st (fun t k => XS.iloadN X0.here hx rfl (hb hby d_method_2_1) rfl k) ?_
  show GoOn _ _ _ _ (s₁.setTop (mkF m 2 #[.val (.int p1), .val (.int p2), .val (.int p3), .unset, .unset, .unset, .unset, .unset, .unset] [(.int p2), (.int p1)]))
  by_cases hc1 : p1 < p2
  · skip
    refine GoOn.st (fun t k => XS.icmpYes X0.here hx rfl (pc0 := 2) (pc' := 7) rfl (hb hby d_method_2_2) rfl (tlt hc1).1 (by decide) (by decide) k) ?_
    show GoOn _ _ _ _ (s₁.setTop (mkF m 7 #[.val (.int p1), .val (.int p2), .val (.int p3), .unset, .unset, .unset, .unset, .unset, .unset] []))
    refine GoOn.st (fun t k => XS.iloadN X0.here hx rfl (hb hby d_method_2_7) rfl k) ?_
    show GoOn _ _ _ _ (s₁.setTop (mkF m 8 #[.val (.int p1), .val (.int p2), .val (.int p3), .unset, .unset, .unset, .unset, .unset, .unset] [(.int p1)]))
    refine GoOn.st (fun t k => XS.i2l X0.here hx rfl (hb hby d_method_2_8) rfl k) ?_
    show GoOn _ _ _ _ (s₁.setTop (mkF m 9 #[.val (.int p1), .val (.int p2), .val (.int p3), .unset, .unset, .unset, .unset, .unset, .unset] [(.long ((p1).toInt64))]))
    refine GoOn.st (fun t k => XS.lstoreN X0.here hx rfl (hb hby d_method_2_9) rfl (l' := #[.val (.int p1), .val (.int p2), .val (.int p3), .val (.long ((p1).toInt64)), .second, .unset, .unset, .unset, .unset]) rfl k) ?_
    show GoOn _ _ _ _ (s₁.setTop (mkF m 10 #[.val (.int p1), .val (.int p2), .val (.int p3), .val (.long ((p1).toInt64)), .second, .unset, .unset, .unset, .unset] []))
    refine GoOn.st (fun t k => XS.iloadN X0.here hx rfl (hb hby d_method_2_10) rfl k) ?_
    show GoOn _ _ _ _ (s₁.setTop (mkF m 11 #[.val (.int p1), .val (.int p2), .val (.int p3), .val (.long ((p1).toInt64)), .second, .unset, .unset, .unset, .unset] [(.int p2)]))
    refine GoOn.st (fun t k => XS.i2l X0.here hx rfl (hb hby d_method_2_11) rfl k) ?_
    show GoOn _ _ _ _ (s₁.setTop (mkF m 12 #[.val (.int p1), .val (.int p2), .val (.int p3), .val (.long ((p1).toInt64)), .second, .unset, .unset, .unset, .unset] [(.long ((p2).toInt64))]))
    refine GoOn.st (fun t k => XS.lstore X0.here hx rfl (hb hby d_method_2_12) rfl (l' := #[.val (.int p1), .val (.int p2), .val (.int p3), .val (.long ((p1).toInt64)), .second, .val (.long ((p2).toInt64)), .second, .unset, .unset]) rfl k) ?_
    show GoOn _ _ _ _ (s₁.setTop (mkF m 14 #[.val (.int p1), .val (.int p2), .val (.int p3), .val (.long ((p1).toInt64)), .second, .val (.long ((p2).toInt64)), .second, .unset, .unset] []))
    refine GoOn.st (fun t k => XS.iloadN X0.here hx rfl (hb hby d_method_2_14) rfl k) ?_
    show GoOn _ _ _ _ (s₁.setTop (mkF m 15 #[.val (.int p1), .val (.int p2), .val (.int p3), .val (.long ((p1).toInt64)), .second, .val (.long ((p2).toInt64)), .second, .unset, .unset] [(.int p3)]))
    refine GoOn.st (fun t k => XS.i2l X0.here hx rfl (hb hby d_method_2_15) rfl k) ?_
    show GoOn _ _ _ _ (s₁.setTop (mkF m 16 #[.val (.int p1), .val (.int p2), .val (.int p3), .val (.long ((p1).toInt64)), .second, .val (.long ((p2).toInt64)), .second, .unset, .unset] [(.long ((p3).toInt64))]))
    refine GoOn.st (fun t k => XS.lstore X0.here hx rfl (hb hby d_method_2_16) rfl (l' := #[.val (.int p1), .val (.int p2), .val (.int p3), .val (.long ((p1).toInt64)), .second, .val (.long ((p2).toInt64)), .second, .val (.long ((p3).toInt64)), .second]) rfl k) ?_
    show GoOn _ _ _ _ (s₁.setTop (mkF m 18 #[.val (.int p1), .val (.int p2), .val (.int p3), .val (.long ((p1).toInt64)), .second, .val (.long ((p2).toInt64)), .second, .val (.long ((p3).toInt64)), .second] []))
    refine GoOn.st (fun t k => XS.lload X0.here hx rfl (hb hby d_method_2_18) rfl k) ?_
    show GoOn _ _ _ _ (s₁.setTop (mkF m 20 #[.val (.int p1), .val (.int p2), .val (.int p3), .val (.long ((p1).toInt64)), .second, .val (.long ((p2).toInt64)), .second, .val (.long ((p3).toInt64)), .second] [(.long ((p3).toInt64))]))
    refine GoOn.st (fun t k => XS.lloadN X0.here hx rfl (hb hby d_method_2_20) rfl k) ?_
    show GoOn _ _ _ _ (s₁.setTop (mkF m 21 #[.val (.int p1), .val (.int p2), .val (.int p3), .val (.long ((p1).toInt64)), .second, .val (.long ((p2).toInt64)), .second, .val (.long ((p3).toInt64)), .second] [(.long ((p1).toInt64)), (.long ((p3).toInt64))]))
    refine GoOn.st (fun t k => XS.lsub X0.here hx rfl (hb hby d_method_2_21) rfl k) ?_
    show GoOn _ _ _ _ (s₁.setTop (mkF m 22 #[.val (.int p1), .val (.int p2), .val (.int p3), .val (.long ((p1).toInt64)), .second, .val (.long ((p2).toInt64)), .second, .val (.long ((p3).toInt64)), .second] [(.long (((p3).toInt64) - ((p1).toInt64)))]))
    refine GoOn.st (fun t k => XS.lconst X0.here hx rfl (hb hby d_method_2_22)  k) ?_
    show GoOn _ _ _ _ (s₁.setTop (mkF m 23 #[.val (.int p1), .val (.int p2), .val (.int p3), .val (.long ((p1).toInt64)), .second, .val (.long ((p2).toInt64)), .second, .val (.long ((p3).toInt64)), .second] [(.long (0 : Int64)), (.long (((p3).toInt64) - ((p1).toInt64)))]))
    refine GoOn.st (fun t k => XS.lcmp X0.here hx rfl (hb hby d_method_2_23) rfl k) ?_
    show GoOn _ _ _ _ (s₁.setTop (mkF m 24 #[.val (.int p1), .val (.int p2), .val (.int p3), .val (.long ((p1).toInt64)), .second, .val (.long ((p2).toInt64)), .second, .val (.long ((p3).toInt64)), .second] [(.int (lcmpW (((p3).toInt64) - ((p1).toInt64)) (0 : Int64)))]))
    by_cases hc2 : (((p3).toInt64) - ((p1).toInt64)) < (0 : Int64)
    · skip
      refine GoOn.st (fun t k => XS.ifYes X0.here hx rfl (pc0 := 24) (pc' := 41) rfl (hb hby d_method_2_24) rfl ((if0 _ _).trans (tlt ((lw_lt (((p3).toInt64) - ((p1).toInt64)) (0 : Int64)).mpr hc2)).1) (by decide) (by decide) k) ?_
      show GoOn _ _ _ _ (s₁.setTop (mkF m 41 #[.val (.int p1), .val (.int p2), .val (.int p3), .val (.long ((p1).toInt64)), .second, .val (.long ((p2).toInt64)), .second, .val (.long ((p3).toInt64)), .second] []))
      refine GoOn.st (fun t k => XS.iconst X0.here hx rfl (hb hby d_method_2_41)  k) ?_
      show GoOn _ _ _ _ (s₁.setTop (mkF m 42 #[.val (.int p1), .val (.int p2), .val (.int p3), .val (.long ((p1).toInt64)), .second, .val (.long ((p2).toInt64)), .second, .val (.long ((p3).toInt64)), .second] [(.int (0 : Int32))]))
      exact GoOn.retZ X0 hx hlk hret (by simp) rfl (hb hby d_method_2_42) (by rw [e0]; exact ⟨by rw [own_h0 ((own_sub_lt _ _).mp hc2)], rfl, rfl⟩) (by decide) (by decide)
    · skip
      refine GoOn.st (fun t k => XS.ifNo X0.here hx rfl (hb hby d_method_2_24) rfl ((if0 _ _).trans (flt (fun q => hc2 ((lw_lt (((p3).toInt64) - ((p1).toInt64)) (0 : Int64)).mp q))).1) k) ?_
      show GoOn _ _ _ _ (s₁.setTop (mkF m 27 #[.val (.int p1), .val (.int p2), .val (.int p3), .val (.long ((p1).toInt64)), .second, .val (.long ((p2).toInt64)), .second, .val (.long ((p3).toInt64)), .second] []))
      refine GoOn.st (fun t k => XS.lload X0.here hx rfl (hb hby d_method_2_27) rfl k) ?_
      show GoOn _ _ _ _ (s₁.setTop (mkF m 29 #[.val (.int p1), .val (.int p2), .val (.int p3), .val (.long ((p1).toInt64)), .second, .val (.long ((p2).toInt64)), .second, .val (.long ((p3).toInt64)), .second] [(.long ((p2).toInt64))]))
      refine GoOn.st (fun t k => XS.lload X0.here hx rfl (hb hby d_method_2_29) rfl k) ?_
      show GoOn _ _ _ _ (s₁.setTop (mkF m 31 #[.val (.int p1), .val (.int p2), .val (.int p3), .val (.long ((p1).toInt64)), .second, .val (.long ((p2).toInt64)), .second, .val (.long ((p3).toInt64)), .second] [(.long ((p3).toInt64)), (.long ((p2).toInt64))]))
      refine GoOn.st (fun t k => XS.lsub X0.here hx rfl (hb hby d_method_2_31) rfl k) ?_
      show GoOn _ _ _ _ (s₁.setTop (mkF m 32 #[.val (.int p1), .val (.int p2), .val (.int p3), .val (.long ((p1).toInt64)), .second, .val (.long ((p2).toInt64)), .second, .val (.long ((p3).toInt64)), .second] [(.long (((p2).toInt64) - ((p3).toInt64)))]))
      refine GoOn.st (fun t k => XS.lconst X0.here hx rfl (hb hby d_method_2_32)  k) ?_
      show GoOn _ _ _ _ (s₁.setTop (mkF m 33 #[.val (.int p1), .val (.int p2), .val (.int p3), .val (.long ((p1).toInt64)), .second, .val (.long ((p2).toInt64)), .second, .val (.long ((p3).toInt64)), .second] [(.long (0 : Int64)), (.long (((p2).toInt64) - ((p3).toInt64)))]))
      refine GoOn.st (fun t k => XS.lcmp X0.here hx rfl (hb hby d_method_2_33) rfl k) ?_
      show GoOn _ _ _ _ (s₁.setTop (mkF m 34 #[.val (.int p1), .val (.int p2), .val (.int p3), .val (.long ((p1).toInt64)), .second, .val (.long ((p2).toInt64)), .second, .val (.long ((p3).toInt64)), .second] [(.int (lcmpW (((p2).toInt64) - ((p3).toInt64)) (0 : Int64)))]))
      by_cases hc3 : (0 : Int64) < (((p2).toInt64) - ((p3).toInt64))
      · skip
        refine GoOn.st (fun t k => XS.ifNo X0.here hx rfl (hb hby d_method_2_34) rfl ((if0 _ _).trans (tlt ((lw_gt (((p2).toInt64) - ((p3).toInt64)) (0 : Int64)).mpr hc3)).2.2.2) k) ?_
        show GoOn _ _ _ _ (s₁.setTop (mkF m 37 #[.val (.int p1), .val (.int p2), .val (.int p3), .val (.long ((p1).toInt64)), .second, .val (.long ((p2).toInt64)), .second, .val (.long ((p3).toInt64)), .second] []))
        refine GoOn.st (fun t k => XS.iconst X0.here hx rfl (hb hby d_method_2_37)  k) ?_
        show GoOn _ _ _ _ (s₁.setTop (mkF m 38 #[.val (.int p1), .val (.int p2), .val (.int p3), .val (.long ((p1).toInt64)), .second, .val (.long ((p2).toInt64)), .second, .val (.long ((p3).toInt64)), .second] [(.int (1 : Int32))]))
        refine GoOn.st (fun t k => XS.goto X0.here hx rfl (pc0 := 38) (pc' := 42) rfl (hb hby d_method_2_38) (by decide) (by decide) k) ?_
        show GoOn _ _ _ _ (s₁.setTop (mkF m 42 #[.val (.int p1), .val (.int p2), .val (.int p3), .val (.long ((p1).toInt64)), .second, .val (.long ((p2).toInt64)), .second, .val (.long ((p3).toInt64)), .second] [(.int (1 : Int32))]))
        exact GoOn.retZ X0 hx hlk hret (by simp) rfl (hb hby d_method_2_42) (by rw [e0]; exact ⟨by rw [own_h1 (fun q => hc2 ((own_sub_lt _ _).mpr q)) ((own_sub_gt _ _).mp hc3)], rfl, rfl⟩) (by decide) (by decide)
      · skip
        refine GoOn.st (fun t k => XS.ifYes X0.here hx rfl (pc0 := 34) (pc' := 41) rfl (hb hby d_method_2_34) rfl ((if0 _ _).trans (flt (fun q => hc3 ((lw_gt (((p2).toInt64) - ((p3).toInt64)) (0 : Int64)).mp q))).2.2.2) (by decide) (by decide) k) ?_
        show GoOn _ _ _ _ (s₁.setTop (mkF m 41 #[.val (.int p1), .val (.int p2), .val (.int p3), .val (.long ((p1).toInt64)), .second, .val (.long ((p2).toInt64)), .second, .val (.long ((p3).toInt64)), .second] []))
        refine GoOn.st (fun t k => XS.iconst X0.here hx rfl (hb hby d_method_2_41)  k) ?_
        show GoOn _ _ _ _ (s₁.setTop (mkF m 42 #[.val (.int p1), .val (.int p2), .val (.int p3), .val (.long ((p1).toInt64)), .second, .val (.long ((p2).toInt64)), .second, .val (.long ((p3).toInt64)), .second] [(.int (0 : Int32))]))
        exact GoOn.retZ X0 hx hlk hret (by simp) rfl (hb hby d_method_2_42) (by rw [e0]; exact ⟨by rw [own_h2 (fun q => hc3 ((own_sub_gt _ _).mpr q))], rfl, rfl⟩) (by decide) (by decide)
  · skip
    refine GoOn.st (fun t k => XS.icmpNo X0.here hx rfl (hb hby d_method_2_2) rfl (flt hc1).1 k) ?_
    show GoOn _ _ _ _ (s₁.setTop (mkF m 5 #[.val (.int p1), .val (.int p2), .val (.int p3), .unset, .unset, .unset, .unset, .unset, .unset] []))
    refine GoOn.st (fun t k => XS.iconst X0.here hx rfl (hb hby d_method_2_5)  k) ?_
    show GoOn _ _ _ _ (s₁.setTop (mkF m 6 #[.val (.int p1), .val (.int p2), .val (.int p3), .unset, .unset, .unset, .unset, .unset, .unset] [(.int (0 : Int32))]))
    exact GoOn.retZ X0 hx hlk hret (by simp) rfl (hb hby d_method_2_6) (by rw [e0]; exact ⟨by rw [own_h3 hc1], rfl, rfl⟩) (by decide) (by decide)
theorem ef_law (m : MethodId) (x0 : Int32) (x1 : Int32) (x2 : Int32) (x3 : Int32) : entryFrame m #[(.int x0), (.int x1), (.int x2), (.int x3)] maxLocals = mkF m 0 #[.val (.int x0), .val (.int x1), .val (.int x2), .val (.int x3), .unset, .unset, .unset, .unset, .unset, .unset, .unset, .unset] [] := by first | (simp [entryFrame, mkF, argsToLocals, Value.category, maxLocals]; done) | rfl
theorem pd_1 : parseMethodDescriptor "(II)V" = some ⟨[.int, .int], none⟩ := by decide +kernel
theorem pd_2 : parseMethodDescriptor "(I)Z" = some ⟨[.int], some .boolean⟩ := by decide +kernel
theorem pd_3 : parseMethodDescriptor "(III)Z" = some ⟨[.int, .int, .int], some .boolean⟩ := by decide +kernel
set_option maxRecDepth 65536 in
set_option maxHeartbeats 40000000 in
theorem rm_law (l : Launch) (Z : State) (a0 : Array Value) (hw : ∀ d ∈ tables_1, d.before a0 Z = true) (ws : List Jvm.Cond) (p1 p2 p3 p4 : Int32) (h0 : Heap) (n0 : Nat) (Z0 : n0 ≤ h0.size) :
    OwCon l Z x code maxLocals ret ws room_1 #[(.int p1), (.int p2), (.int p3), (.int p4)] h0 (fun v h L => v = some (.int 1) ∧ Fr n0 L) := by
  refine OwCon.of (plainFor_of_name pn_com_example_tendfold_tendfold_blueprint_SpanHoldsPinLaw) ?_
  intro p e s m below meth c s₁ X0 hx hby hml hret hlk hown hnm hZ e0
  have N0 := Fr.nil n0
  refine GoOn.st (fun t k => castTop (ef_law m p1 p2 p3 p4) k) ?_
  show GoOn _ _ _ _ (s₁.setTop (mkF m 0 #[.val (.int p1), .val (.int p2), .val (.int p3), .val (.int p4), .unset, .unset, .unset, .unset, .unset, .unset, .unset, .unset] []))
  obtain ⟨T1, h1, X1, e1, E1, A1, D1, -, st1⟩ := newO X0 hx hZ hown (hw _ (List.mem_of_getElem? (i := 0) rfl)) (hw _ (List.mem_of_getElem? (i := 1) rfl)) (hw _ (List.mem_of_getElem? (i := 2) rfl)) e0 (g := (mkF m 0 #[.val (.int p1), .val (.int p2), .val (.int p3), .val (.int p4), .unset, .unset, .unset, .unset, .unset, .unset, .unset, .unset] [])) rfl (hb hby at_0) (by decide) (by decide)
  obtain ⟨b1, g1⟩ : ∃ z, z = h0.size := ⟨_, rfl⟩
  rw [← g1] at A1 D1 st1
  have g_b1 : n0 ≤ b1 := Nat.le_trans Z0 (Nat.le_of_eq g1.symm)
  have F_from_b1 : Fld Z h1 b1 "com/example/tendfold/tendfold/blueprint/HereDocument$Span" "from" "I" (.int (0 : Int32)) := D1 (Or.inr (hw _ (List.mem_of_getElem? (i := 15) rfl))) (ty := .int) (by decide)
  have F_to_b1 : Fld Z h1 b1 "com/example/tendfold/tendfold/blueprint/HereDocument$Span" "to" "I" (.int (0 : Int32)) := D1 (Or.inr (hw _ (List.mem_of_getElem? (i := 17) rfl))) (ty := .int) (by decide)
  refine GoOn.st st1 ?_
  show GoOn _ _ _ _ (T1.setTop (mkF m 3 #[.val (.int p1), .val (.int p2), .val (.int p3), .val (.int p4), .unset, .unset, .unset, .unset, .unset, .unset, .unset, .unset] [(.ref b1)]))
  refine GoOn.st (fun t k => XS.dup X1.here hx rfl (hb hby at_3) rfl rfl k) ?_
  show GoOn _ _ _ _ (T1.setTop (mkF m 4 #[.val (.int p1), .val (.int p2), .val (.int p3), .val (.int p4), .unset, .unset, .unset, .unset, .unset, .unset, .unset, .unset] [(.ref b1), (.ref b1)]))
  refine GoOn.st (fun t k => XS.iloadN X1.here hx rfl (hb hby at_4) rfl k) ?_
  show GoOn _ _ _ _ (T1.setTop (mkF m 5 #[.val (.int p1), .val (.int p2), .val (.int p3), .val (.int p4), .unset, .unset, .unset, .unset, .unset, .unset, .unset, .unset] [(.int p1), (.ref b1), (.ref b1)]))
  refine GoOn.st (fun t k => XS.iloadN X1.here hx rfl (hb hby at_5) rfl k) ?_
  show GoOn _ _ _ _ (T1.setTop (mkF m 6 #[.val (.int p1), .val (.int p2), .val (.int p3), .val (.int p4), .unset, .unset, .unset, .unset, .unset, .unset, .unset, .unset] [(.int p2), (.int p1), (.ref b1), (.ref b1)]))
  refine GoOn.callC (W := 1) (argsL := [(.int p1), (.int p2)]) (rest := [(.ref b1)]) (a := b1) X1 hx hZ hown rfl (hw _ (List.mem_of_getElem? (i := 3) rfl)) (hw _ (List.mem_of_getElem? (i := 4) rfl)) (hw _ (List.mem_of_getElem? (i := 2) rfl)) (hw _ (List.mem_of_getElem? (i := 5) rfl)) (by decide) (rm_init l Z a0 hw b1 p1 p2 h1 n0 (Nat.le_trans Z0 E1.1) A1 F_from_b1 F_to_b1 g_b1) e1 (by decide) (by decide) (by rw [hml]; rfl) pd_1 rfl rfl (Nat.le_of_eq rfl) (hb hby at_6) (by decide) (by decide) ?_
  rintro _ T2 L2 X2 ⟨rfl, N2q, K2, f2_0, f2_1, f2_2⟩
  have N2 := Fr.app N0 N2q
  show GoOn _ _ _ _ (T2.setTop (mkF m 9 #[.val (.int p1), .val (.int p2), .val (.int p3), .val (.int p4), .unset, .unset, .unset, .unset, .unset, .unset, .unset, .unset] [(.ref b1)]))
  refine GoOn.st (fun t k => XS.astore X2.here hx rfl (hb hby at_9) rfl rfl (l' := #[.val (.int p1), .val (.int p2), .val (.int p3), .val (.int p4), .val (.ref b1), .unset, .unset, .unset, .unset, .unset, .unset, .unset]) rfl k) ?_
  show GoOn _ _ _ _ (T2.setTop (mkF m 11 #[.val (.int p1), .val (.int p2), .val (.int p3), .val (.int p4), .val (.ref b1), .unset, .unset, .unset, .unset, .unset, .unset, .unset] []))
  refine GoOn.st (fun t k => XS.iloadN X2.here hx rfl (hb hby at_11) rfl k) ?_
  show GoOn _ _ _ _ (T2.setTop (mkF m 12 #[.val (.int p1), .val (.int p2), .val (.int p3), .val (.int p4), .val (.ref b1), .unset, .unset, .unset, .unset, .unset, .unset, .unset] [(.int p1)]))
  refine GoOn.st (fun t k => XS.iloadN X2.here hx rfl (hb hby at_12) rfl k) ?_
  show GoOn _ _ _ _ (T2.setTop (mkF m 13 #[.val (.int p1), .val (.int p2), .val (.int p3), .val (.int p4), .val (.ref b1), .unset, .unset, .unset, .unset, .unset, .unset, .unset] [(.int p4), (.int p1)]))
  refine GoOn.st (fun t k => XS.iconst X2.here hx rfl (hb hby at_13)  k) ?_
  show GoOn _ _ _ _ (T2.setTop (mkF m 14 #[.val (.int p1), .val (.int p2), .val (.int p3), .val (.int p4), .val (.ref b1), .unset, .unset, .unset, .unset, .unset, .unset, .unset] [(.int (3 : Int32)), (.int p4), (.int p1)]))
  refine GoOn.st (fun t k => XS.iand X2.here hx rfl (hb hby at_14) rfl k) ?_
  show GoOn _ _ _ _ (T2.setTop (mkF m 15 #[.val (.int p1), .val (.int p2), .val (.int p3), .val (.int p4), .val (.ref b1), .unset, .unset, .unset, .unset, .unset, .unset, .unset] [(.int (p4 &&& (3 : Int32))), (.int p1)]))
  refine GoOn.st (fun t k => XS.iadd X2.here hx rfl (hb hby at_15) rfl k) ?_
  show GoOn _ _ _ _ (T2.setTop (mkF m 16 #[.val (.int p1), .val (.int p2), .val (.int p3), .val (.int p4), .val (.ref b1), .unset, .unset, .unset, .unset, .unset, .unset, .unset] [(.int (p1 + (p4 &&& (3 : Int32))))]))
  refine GoOn.st (fun t k => XS.iconst X2.here hx rfl (hb hby at_16)  k) ?_
  show GoOn _ _ _ _ (T2.setTop (mkF m 17 #[.val (.int p1), .val (.int p2), .val (.int p3), .val (.int p4), .val (.ref b1), .unset, .unset, .unset, .unset, .unset, .unset, .unset] [(.int (1 : Int32)), (.int (p1 + (p4 &&& (3 : Int32))))]))
  refine GoOn.st (fun t k => XS.isub X2.here hx rfl (hb hby at_17) rfl k) ?_
  show GoOn _ _ _ _ (T2.setTop (mkF m 18 #[.val (.int p1), .val (.int p2), .val (.int p3), .val (.int p4), .val (.ref b1), .unset, .unset, .unset, .unset, .unset, .unset, .unset] [(.int ((p1 + (p4 &&& (3 : Int32))) - (1 : Int32)))]))
  refine GoOn.st (fun t k => XS.istore X2.here hx rfl (hb hby at_18) rfl (l' := #[.val (.int p1), .val (.int p2), .val (.int p3), .val (.int p4), .val (.ref b1), .val (.int ((p1 + (p4 &&& (3 : Int32))) - (1 : Int32))), .unset, .unset, .unset, .unset, .unset, .unset]) rfl k) ?_
  show GoOn _ _ _ _ (T2.setTop (mkF m 20 #[.val (.int p1), .val (.int p2), .val (.int p3), .val (.int p4), .val (.ref b1), .val (.int ((p1 + (p4 &&& (3 : Int32))) - (1 : Int32))), .unset, .unset, .unset, .unset, .unset, .unset] []))
  refine GoOn.st (fun t k => XS.iloadN X2.here hx rfl (hb hby at_20) rfl k) ?_
  show GoOn _ _ _ _ (T2.setTop (mkF m 21 #[.val (.int p1), .val (.int p2), .val (.int p3), .val (.int p4), .val (.ref b1), .val (.int ((p1 + (p4 &&& (3 : Int32))) - (1 : Int32))), .unset, .unset, .unset, .unset, .unset, .unset] [(.int p2)]))
  refine GoOn.st (fun t k => XS.iloadN X2.here hx rfl (hb hby at_21) rfl k) ?_
  show GoOn _ _ _ _ (T2.setTop (mkF m 22 #[.val (.int p1), .val (.int p2), .val (.int p3), .val (.int p4), .val (.ref b1), .val (.int ((p1 + (p4 &&& (3 : Int32))) - (1 : Int32))), .unset, .unset, .unset, .unset, .unset, .unset] [(.int p4), (.int p2)]))
  refine GoOn.st (fun t k => XS.iconst X2.here hx rfl (hb hby at_22)  k) ?_
  show GoOn _ _ _ _ (T2.setTop (mkF m 23 #[.val (.int p1), .val (.int p2), .val (.int p3), .val (.int p4), .val (.ref b1), .val (.int ((p1 + (p4 &&& (3 : Int32))) - (1 : Int32))), .unset, .unset, .unset, .unset, .unset, .unset] [(.int (2 : Int32)), (.int p4), (.int p2)]))
  refine GoOn.st (fun t k => XS.ishr X2.here hx rfl (hb hby at_23) rfl k) ?_
  show GoOn _ _ _ _ (T2.setTop (mkF m 24 #[.val (.int p1), .val (.int p2), .val (.int p3), .val (.int p4), .val (.ref b1), .val (.int ((p1 + (p4 &&& (3 : Int32))) - (1 : Int32))), .unset, .unset, .unset, .unset, .unset, .unset] [(.int (p4 >>> ((2 : Int32) &&& 31))), (.int p2)]))
  refine GoOn.st (fun t k => XS.iconst X2.here hx rfl (hb hby at_24)  k) ?_
  show GoOn _ _ _ _ (T2.setTop (mkF m 25 #[.val (.int p1), .val (.int p2), .val (.int p3), .val (.int p4), .val (.ref b1), .val (.int ((p1 + (p4 &&& (3 : Int32))) - (1 : Int32))), .unset, .unset, .unset, .unset, .unset, .unset] [(.int (3 : Int32)), (.int (p4 >>> ((2 : Int32) &&& 31))), (.int p2)]))
  refine GoOn.st (fun t k => XS.iand X2.here hx rfl (hb hby at_25) rfl k) ?_
  show GoOn _ _ _ _ (T2.setTop (mkF m 26 #[.val (.int p1), .val (.int p2), .val (.int p3), .val (.int p4), .val (.ref b1), .val (.int ((p1 + (p4 &&& (3 : Int32))) - (1 : Int32))), .unset, .unset, .unset, .unset, .unset, .unset] [(.int ((p4 >>> ((2 : Int32) &&& 31)) &&& (3 : Int32))), (.int p2)]))
  refine GoOn.st (fun t k => XS.iadd X2.here hx rfl (hb hby at_26) rfl k) ?_
  show GoOn _ _ _ _ (T2.setTop (mkF m 27 #[.val (.int p1), .val (.int p2), .val (.int p3), .val (.int p4), .val (.ref b1), .val (.int ((p1 + (p4 &&& (3 : Int32))) - (1 : Int32))), .unset, .unset, .unset, .unset, .unset, .unset] [(.int (p2 + ((p4 >>> ((2 : Int32) &&& 31)) &&& (3 : Int32))))]))
  refine GoOn.st (fun t k => XS.iconst X2.here hx rfl (hb hby at_27)  k) ?_
  show GoOn _ _ _ _ (T2.setTop (mkF m 28 #[.val (.int p1), .val (.int p2), .val (.int p3), .val (.int p4), .val (.ref b1), .val (.int ((p1 + (p4 &&& (3 : Int32))) - (1 : Int32))), .unset, .unset, .unset, .unset, .unset, .unset] [(.int (2 : Int32)), (.int (p2 + ((p4 >>> ((2 : Int32) &&& 31)) &&& (3 : Int32))))]))
  refine GoOn.st (fun t k => XS.isub X2.here hx rfl (hb hby at_28) rfl k) ?_
  show GoOn _ _ _ _ (T2.setTop (mkF m 29 #[.val (.int p1), .val (.int p2), .val (.int p3), .val (.int p4), .val (.ref b1), .val (.int ((p1 + (p4 &&& (3 : Int32))) - (1 : Int32))), .unset, .unset, .unset, .unset, .unset, .unset] [(.int ((p2 + ((p4 >>> ((2 : Int32) &&& 31)) &&& (3 : Int32))) - (2 : Int32)))]))
  refine GoOn.st (fun t k => XS.istore X2.here hx rfl (hb hby at_29) rfl (l' := #[.val (.int p1), .val (.int p2), .val (.int p3), .val (.int p4), .val (.ref b1), .val (.int ((p1 + (p4 &&& (3 : Int32))) - (1 : Int32))), .val (.int ((p2 + ((p4 >>> ((2 : Int32) &&& 31)) &&& (3 : Int32))) - (2 : Int32))), .unset, .unset, .unset, .unset, .unset]) rfl k) ?_
  show GoOn _ _ _ _ (T2.setTop (mkF m 31 #[.val (.int p1), .val (.int p2), .val (.int p3), .val (.int p4), .val (.ref b1), .val (.int ((p1 + (p4 &&& (3 : Int32))) - (1 : Int32))), .val (.int ((p2 + ((p4 >>> ((2 : Int32) &&& 31)) &&& (3 : Int32))) - (2 : Int32))), .unset, .unset, .unset, .unset, .unset] []))
  refine GoOn.st (fun t k => XS.aload X2.here hx rfl (hb hby at_31) rfl rfl k) ?_
  show GoOn _ _ _ _ (T2.setTop (mkF m 33 #[.val (.int p1), .val (.int p2), .val (.int p3), .val (.int p4), .val (.ref b1), .val (.int ((p1 + (p4 &&& (3 : Int32))) - (1 : Int32))), .val (.int ((p2 + ((p4 >>> ((2 : Int32) &&& 31)) &&& (3 : Int32))) - (2 : Int32))), .unset, .unset, .unset, .unset, .unset] [(.ref b1)]))
  refine GoOn.st (fun t k => XS.iloadN X2.here hx rfl (hb hby at_33) rfl k) ?_
  show GoOn _ _ _ _ (T2.setTop (mkF m 34 #[.val (.int p1), .val (.int p2), .val (.int p3), .val (.int p4), .val (.ref b1), .val (.int ((p1 + (p4 &&& (3 : Int32))) - (1 : Int32))), .val (.int ((p2 + ((p4 >>> ((2 : Int32) &&& 31)) &&& (3 : Int32))) - (2 : Int32))), .unset, .unset, .unset, .unset, .unset] [(.int p3), (.ref b1)]))
  refine GoOn.callV (W := 0) (argsL := [(.int p3)]) (rest := []) (a := b1) X2 hx hZ hown (hw _ (List.mem_of_getElem? (i := 18) rfl)) (hw _ (List.mem_of_getElem? (i := 19) rfl)) (notFace_of_selects (args := #[]) (mvT hZ (hw _ (List.mem_of_getElem? (i := 21) rfl)))) (hw _ (List.mem_of_getElem? (i := 21) rfl)) (hw _ (List.mem_of_getElem? (i := 20) rfl)) (hw _ (List.mem_of_getElem? (i := 2) rfl)) (hw _ (List.mem_of_getElem? (i := 22) rfl)) (by decide) (rm_holds l Z a0 hw b1 p1 p2 p3 T2.heap f2_1 f2_2) rfl f2_0 (by decide) (by decide) (by rw [hml]; rfl) pd_2 rfl rfl (Nat.le_of_eq rfl) (hb hby at_34) (by decide) (by decide) ?_
  rintro _ T3 L3 X3 ⟨rfl, rfl, e3⟩
  rw [List.append_nil] at X3
  show GoOn _ _ _ _ (T3.setTop (mkF m 37 #[.val (.int p1), .val (.int p2), .val (.int p3), .val (.int p4), .val (.ref b1), .val (.int ((p1 + (p4 &&& (3 : Int32))) - (1 : Int32))), .val (.int ((p2 + ((p4 >>> ((2 : Int32) &&& 31)) &&& (3 : Int32))) - (2 : Int32))), .unset, .unset, .unset, .unset, .unset] [(.int (own_holds p1 p2 p3))]))
  refine GoOn.st (fun t k => XS.iloadN X3.here hx rfl (hb hby at_37) rfl k) ?_
  show GoOn _ _ _ _ (T3.setTop (mkF m 38 #[.val (.int p1), .val (.int p2), .val (.int p3), .val (.int p4), .val (.ref b1), .val (.int ((p1 + (p4 &&& (3 : Int32))) - (1 : Int32))), .val (.int ((p2 + ((p4 >>> ((2 : Int32) &&& 31)) &&& (3 : Int32))) - (2 : Int32))), .unset, .unset, .unset, .unset, .unset] [(.int p1), (.int (own_holds p1 p2 p3))]))
  refine GoOn.st (fun t k => XS.iloadN X3.here hx rfl (hb hby at_38) rfl k) ?_
  show GoOn _ _ _ _ (T3.setTop (mkF m 39 #[.val (.int p1), .val (.int p2), .val (.int p3), .val (.int p4), .val (.ref b1), .val (.int ((p1 + (p4 &&& (3 : Int32))) - (1 : Int32))), .val (.int ((p2 + ((p4 >>> ((2 : Int32) &&& 31)) &&& (3 : Int32))) - (2 : Int32))), .unset, .unset, .unset, .unset, .unset] [(.int p2), (.int p1), (.int (own_holds p1 p2 p3))]))
  refine GoOn.st (fun t k => XS.iloadN X3.here hx rfl (hb hby at_39) rfl k) ?_
  show GoOn _ _ _ _ (T3.setTop (mkF m 40 #[.val (.int p1), .val (.int p2), .val (.int p3), .val (.int p4), .val (.ref b1), .val (.int ((p1 + (p4 &&& (3 : Int32))) - (1 : Int32))), .val (.int ((p2 + ((p4 >>> ((2 : Int32) &&& 31)) &&& (3 : Int32))) - (2 : Int32))), .unset, .unset, .unset, .unset, .unset] [(.int p3), (.int p2), (.int p1), (.int (own_holds p1 p2 p3))]))
  refine GoOn.callS (W := 1) (argsL := [(.int p1), (.int p2), (.int p3)]) (rest := [(.int (own_holds p1 p2 p3))]) X3 hx hZ hown (hw _ (List.mem_of_getElem? (i := 23) rfl)) (hw _ (List.mem_of_getElem? (i := 24) rfl)) (hw _ (List.mem_of_getElem? (i := 25) rfl)) (hw _ (List.mem_of_getElem? (i := 26) rfl)) (by decide) (rm_exp l Z a0 hw p1 p2 p3 T2.heap) e3 (by decide) (by decide) (by rw [hml]; rfl) pd_3 rfl rfl (Nat.le_of_eq rfl) (hb hby at_40) (by decide) (by decide) ?_
  rintro _ T4 L4 X4 ⟨rfl, rfl, e4⟩
  rw [List.append_nil] at X4
  show GoOn _ _ _ _ (T4.setTop (mkF m 43 #[.val (.int p1), .val (.int p2), .val (.int p3), .val (.int p4), .val (.ref b1), .val (.int ((p1 + (p4 &&& (3 : Int32))) - (1 : Int32))), .val (.int ((p2 + ((p4 >>> ((2 : Int32) &&& 31)) &&& (3 : Int32))) - (2 : Int32))), .unset, .unset, .unset, .unset, .unset] [(.int (own_holds p1 p2 p3)), (.int (own_holds p1 p2 p3))]))
  refine GoOn.st (fun t k => XS.icmpNo X4.here hx rfl (hb hby at_43) rfl (teq rfl).2 k) ?_
  show GoOn _ _ _ _ (T4.setTop (mkF m 46 #[.val (.int p1), .val (.int p2), .val (.int p3), .val (.int p4), .val (.ref b1), .val (.int ((p1 + (p4 &&& (3 : Int32))) - (1 : Int32))), .val (.int ((p2 + ((p4 >>> ((2 : Int32) &&& 31)) &&& (3 : Int32))) - (2 : Int32))), .unset, .unset, .unset, .unset, .unset] []))
  refine GoOn.st (fun t k => XS.iconst X4.here hx rfl (hb hby at_46)  k) ?_
  show GoOn _ _ _ _ (T4.setTop (mkF m 47 #[.val (.int p1), .val (.int p2), .val (.int p3), .val (.int p4), .val (.ref b1), .val (.int ((p1 + (p4 &&& (3 : Int32))) - (1 : Int32))), .val (.int ((p2 + ((p4 >>> ((2 : Int32) &&& 31)) &&& (3 : Int32))) - (2 : Int32))), .unset, .unset, .unset, .unset, .unset] [(.int (1 : Int32))]))
  refine GoOn.st (fun t k => XS.goto X4.here hx rfl (pc0 := 47) (pc' := 51) rfl (hb hby at_47) (by decide) (by decide) k) ?_
  show GoOn _ _ _ _ (T4.setTop (mkF m 51 #[.val (.int p1), .val (.int p2), .val (.int p3), .val (.int p4), .val (.ref b1), .val (.int ((p1 + (p4 &&& (3 : Int32))) - (1 : Int32))), .val (.int ((p2 + ((p4 >>> ((2 : Int32) &&& 31)) &&& (3 : Int32))) - (2 : Int32))), .unset, .unset, .unset, .unset, .unset] [(.int (1 : Int32))]))
  refine GoOn.st (fun t k => XS.istore X4.here hx rfl (hb hby at_51) rfl (l' := #[.val (.int p1), .val (.int p2), .val (.int p3), .val (.int p4), .val (.ref b1), .val (.int ((p1 + (p4 &&& (3 : Int32))) - (1 : Int32))), .val (.int ((p2 + ((p4 >>> ((2 : Int32) &&& 31)) &&& (3 : Int32))) - (2 : Int32))), .val (.int (1 : Int32)), .unset, .unset, .unset, .unset]) rfl k) ?_
  show GoOn _ _ _ _ (T4.setTop (mkF m 53 #[.val (.int p1), .val (.int p2), .val (.int p3), .val (.int p4), .val (.ref b1), .val (.int ((p1 + (p4 &&& (3 : Int32))) - (1 : Int32))), .val (.int ((p2 + ((p4 >>> ((2 : Int32) &&& 31)) &&& (3 : Int32))) - (2 : Int32))), .val (.int (1 : Int32)), .unset, .unset, .unset, .unset] []))
  refine GoOn.st (fun t k => XS.aload X4.here hx rfl (hb hby at_53) rfl rfl k) ?_
  show GoOn _ _ _ _ (T4.setTop (mkF m 55 #[.val (.int p1), .val (.int p2), .val (.int p3), .val (.int p4), .val (.ref b1), .val (.int ((p1 + (p4 &&& (3 : Int32))) - (1 : Int32))), .val (.int ((p2 + ((p4 >>> ((2 : Int32) &&& 31)) &&& (3 : Int32))) - (2 : Int32))), .val (.int (1 : Int32)), .unset, .unset, .unset, .unset] [(.ref b1)]))
  refine GoOn.st (fun t k => XS.iload X4.here hx rfl (hb hby at_55) rfl k) ?_
  show GoOn _ _ _ _ (T4.setTop (mkF m 57 #[.val (.int p1), .val (.int p2), .val (.int p3), .val (.int p4), .val (.ref b1), .val (.int ((p1 + (p4 &&& (3 : Int32))) - (1 : Int32))), .val (.int ((p2 + ((p4 >>> ((2 : Int32) &&& 31)) &&& (3 : Int32))) - (2 : Int32))), .val (.int (1 : Int32)), .unset, .unset, .unset, .unset] [(.int ((p1 + (p4 &&& (3 : Int32))) - (1 : Int32))), (.ref b1)]))
  refine GoOn.callV (W := 0) (argsL := [(.int ((p1 + (p4 &&& (3 : Int32))) - (1 : Int32)))]) (rest := []) (a := b1) X4 hx hZ hown (hw _ (List.mem_of_getElem? (i := 18) rfl)) (hw _ (List.mem_of_getElem? (i := 19) rfl)) (notFace_of_selects (args := #[]) (mvT hZ (hw _ (List.mem_of_getElem? (i := 21) rfl)))) (hw _ (List.mem_of_getElem? (i := 21) rfl)) (hw _ (List.mem_of_getElem? (i := 20) rfl)) (hw _ (List.mem_of_getElem? (i := 2) rfl)) (hw _ (List.mem_of_getElem? (i := 22) rfl)) (by decide) (rm_holds l Z a0 hw b1 p1 p2 ((p1 + (p4 &&& (3 : Int32))) - (1 : Int32)) T2.heap f2_1 f2_2) e4 f2_0 (by decide) (by decide) (by rw [hml]; rfl) pd_2 rfl rfl (Nat.le_of_eq rfl) (hb hby at_57) (by decide) (by decide) ?_
  rintro _ T5 L5 X5 ⟨rfl, rfl, e5⟩
  rw [List.append_nil] at X5
  show GoOn _ _ _ _ (T5.setTop (mkF m 60 #[.val (.int p1), .val (.int p2), .val (.int p3), .val (.int p4), .val (.ref b1), .val (.int ((p1 + (p4 &&& (3 : Int32))) - (1 : Int32))), .val (.int ((p2 + ((p4 >>> ((2 : Int32) &&& 31)) &&& (3 : Int32))) - (2 : Int32))), .val (.int (1 : Int32)), .unset, .unset, .unset, .unset] [(.int (own_holds p1 p2 ((p1 + (p4 &&& (3 : Int32))) - (1 : Int32))))]))
  refine GoOn.st (fun t k => XS.iloadN X5.here hx rfl (hb hby at_60) rfl k) ?_
  show GoOn _ _ _ _ (T5.setTop (mkF m 61 #[.val (.int p1), .val (.int p2), .val (.int p3), .val (.int p4), .val (.ref b1), .val (.int ((p1 + (p4 &&& (3 : Int32))) - (1 : Int32))), .val (.int ((p2 + ((p4 >>> ((2 : Int32) &&& 31)) &&& (3 : Int32))) - (2 : Int32))), .val (.int (1 : Int32)), .unset, .unset, .unset, .unset] [(.int p1), (.int (own_holds p1 p2 ((p1 + (p4 &&& (3 : Int32))) - (1 : Int32))))]))
  refine GoOn.st (fun t k => XS.iloadN X5.here hx rfl (hb hby at_61) rfl k) ?_
  show GoOn _ _ _ _ (T5.setTop (mkF m 62 #[.val (.int p1), .val (.int p2), .val (.int p3), .val (.int p4), .val (.ref b1), .val (.int ((p1 + (p4 &&& (3 : Int32))) - (1 : Int32))), .val (.int ((p2 + ((p4 >>> ((2 : Int32) &&& 31)) &&& (3 : Int32))) - (2 : Int32))), .val (.int (1 : Int32)), .unset, .unset, .unset, .unset] [(.int p2), (.int p1), (.int (own_holds p1 p2 ((p1 + (p4 &&& (3 : Int32))) - (1 : Int32))))]))
  refine GoOn.st (fun t k => XS.iload X5.here hx rfl (hb hby at_62) rfl k) ?_
  show GoOn _ _ _ _ (T5.setTop (mkF m 64 #[.val (.int p1), .val (.int p2), .val (.int p3), .val (.int p4), .val (.ref b1), .val (.int ((p1 + (p4 &&& (3 : Int32))) - (1 : Int32))), .val (.int ((p2 + ((p4 >>> ((2 : Int32) &&& 31)) &&& (3 : Int32))) - (2 : Int32))), .val (.int (1 : Int32)), .unset, .unset, .unset, .unset] [(.int ((p1 + (p4 &&& (3 : Int32))) - (1 : Int32))), (.int p2), (.int p1), (.int (own_holds p1 p2 ((p1 + (p4 &&& (3 : Int32))) - (1 : Int32))))]))
  refine GoOn.callS (W := 1) (argsL := [(.int p1), (.int p2), (.int ((p1 + (p4 &&& (3 : Int32))) - (1 : Int32)))]) (rest := [(.int (own_holds p1 p2 ((p1 + (p4 &&& (3 : Int32))) - (1 : Int32))))]) X5 hx hZ hown (hw _ (List.mem_of_getElem? (i := 23) rfl)) (hw _ (List.mem_of_getElem? (i := 24) rfl)) (hw _ (List.mem_of_getElem? (i := 25) rfl)) (hw _ (List.mem_of_getElem? (i := 26) rfl)) (by decide) (rm_exp l Z a0 hw p1 p2 ((p1 + (p4 &&& (3 : Int32))) - (1 : Int32)) T2.heap) e5 (by decide) (by decide) (by rw [hml]; rfl) pd_3 rfl rfl (Nat.le_of_eq rfl) (hb hby at_64) (by decide) (by decide) ?_
  rintro _ T6 L6 X6 ⟨rfl, rfl, e6⟩
  rw [List.append_nil] at X6
  show GoOn _ _ _ _ (T6.setTop (mkF m 67 #[.val (.int p1), .val (.int p2), .val (.int p3), .val (.int p4), .val (.ref b1), .val (.int ((p1 + (p4 &&& (3 : Int32))) - (1 : Int32))), .val (.int ((p2 + ((p4 >>> ((2 : Int32) &&& 31)) &&& (3 : Int32))) - (2 : Int32))), .val (.int (1 : Int32)), .unset, .unset, .unset, .unset] [(.int (own_holds p1 p2 ((p1 + (p4 &&& (3 : Int32))) - (1 : Int32)))), (.int (own_holds p1 p2 ((p1 + (p4 &&& (3 : Int32))) - (1 : Int32))))]))
  refine GoOn.st (fun t k => XS.icmpNo X6.here hx rfl (hb hby at_67) rfl (teq rfl).2 k) ?_
  show GoOn _ _ _ _ (T6.setTop (mkF m 70 #[.val (.int p1), .val (.int p2), .val (.int p3), .val (.int p4), .val (.ref b1), .val (.int ((p1 + (p4 &&& (3 : Int32))) - (1 : Int32))), .val (.int ((p2 + ((p4 >>> ((2 : Int32) &&& 31)) &&& (3 : Int32))) - (2 : Int32))), .val (.int (1 : Int32)), .unset, .unset, .unset, .unset] []))
  refine GoOn.st (fun t k => XS.iconst X6.here hx rfl (hb hby at_70)  k) ?_
  show GoOn _ _ _ _ (T6.setTop (mkF m 71 #[.val (.int p1), .val (.int p2), .val (.int p3), .val (.int p4), .val (.ref b1), .val (.int ((p1 + (p4 &&& (3 : Int32))) - (1 : Int32))), .val (.int ((p2 + ((p4 >>> ((2 : Int32) &&& 31)) &&& (3 : Int32))) - (2 : Int32))), .val (.int (1 : Int32)), .unset, .unset, .unset, .unset] [(.int (1 : Int32))]))
  refine GoOn.st (fun t k => XS.goto X6.here hx rfl (pc0 := 71) (pc' := 75) rfl (hb hby at_71) (by decide) (by decide) k) ?_
  show GoOn _ _ _ _ (T6.setTop (mkF m 75 #[.val (.int p1), .val (.int p2), .val (.int p3), .val (.int p4), .val (.ref b1), .val (.int ((p1 + (p4 &&& (3 : Int32))) - (1 : Int32))), .val (.int ((p2 + ((p4 >>> ((2 : Int32) &&& 31)) &&& (3 : Int32))) - (2 : Int32))), .val (.int (1 : Int32)), .unset, .unset, .unset, .unset] [(.int (1 : Int32))]))
  refine GoOn.st (fun t k => XS.istore X6.here hx rfl (hb hby at_75) rfl (l' := #[.val (.int p1), .val (.int p2), .val (.int p3), .val (.int p4), .val (.ref b1), .val (.int ((p1 + (p4 &&& (3 : Int32))) - (1 : Int32))), .val (.int ((p2 + ((p4 >>> ((2 : Int32) &&& 31)) &&& (3 : Int32))) - (2 : Int32))), .val (.int (1 : Int32)), .val (.int (1 : Int32)), .unset, .unset, .unset]) rfl k) ?_
  show GoOn _ _ _ _ (T6.setTop (mkF m 77 #[.val (.int p1), .val (.int p2), .val (.int p3), .val (.int p4), .val (.ref b1), .val (.int ((p1 + (p4 &&& (3 : Int32))) - (1 : Int32))), .val (.int ((p2 + ((p4 >>> ((2 : Int32) &&& 31)) &&& (3 : Int32))) - (2 : Int32))), .val (.int (1 : Int32)), .val (.int (1 : Int32)), .unset, .unset, .unset] []))
  refine GoOn.st (fun t k => XS.aload X6.here hx rfl (hb hby at_77) rfl rfl k) ?_
  show GoOn _ _ _ _ (T6.setTop (mkF m 79 #[.val (.int p1), .val (.int p2), .val (.int p3), .val (.int p4), .val (.ref b1), .val (.int ((p1 + (p4 &&& (3 : Int32))) - (1 : Int32))), .val (.int ((p2 + ((p4 >>> ((2 : Int32) &&& 31)) &&& (3 : Int32))) - (2 : Int32))), .val (.int (1 : Int32)), .val (.int (1 : Int32)), .unset, .unset, .unset] [(.ref b1)]))
  refine GoOn.st (fun t k => XS.iload X6.here hx rfl (hb hby at_79) rfl k) ?_
  show GoOn _ _ _ _ (T6.setTop (mkF m 81 #[.val (.int p1), .val (.int p2), .val (.int p3), .val (.int p4), .val (.ref b1), .val (.int ((p1 + (p4 &&& (3 : Int32))) - (1 : Int32))), .val (.int ((p2 + ((p4 >>> ((2 : Int32) &&& 31)) &&& (3 : Int32))) - (2 : Int32))), .val (.int (1 : Int32)), .val (.int (1 : Int32)), .unset, .unset, .unset] [(.int ((p2 + ((p4 >>> ((2 : Int32) &&& 31)) &&& (3 : Int32))) - (2 : Int32))), (.ref b1)]))
  refine GoOn.callV (W := 0) (argsL := [(.int ((p2 + ((p4 >>> ((2 : Int32) &&& 31)) &&& (3 : Int32))) - (2 : Int32)))]) (rest := []) (a := b1) X6 hx hZ hown (hw _ (List.mem_of_getElem? (i := 18) rfl)) (hw _ (List.mem_of_getElem? (i := 19) rfl)) (notFace_of_selects (args := #[]) (mvT hZ (hw _ (List.mem_of_getElem? (i := 21) rfl)))) (hw _ (List.mem_of_getElem? (i := 21) rfl)) (hw _ (List.mem_of_getElem? (i := 20) rfl)) (hw _ (List.mem_of_getElem? (i := 2) rfl)) (hw _ (List.mem_of_getElem? (i := 22) rfl)) (by decide) (rm_holds l Z a0 hw b1 p1 p2 ((p2 + ((p4 >>> ((2 : Int32) &&& 31)) &&& (3 : Int32))) - (2 : Int32)) T2.heap f2_1 f2_2) e6 f2_0 (by decide) (by decide) (by rw [hml]; rfl) pd_2 rfl rfl (Nat.le_of_eq rfl) (hb hby at_81) (by decide) (by decide) ?_
  rintro _ T7 L7 X7 ⟨rfl, rfl, e7⟩
  rw [List.append_nil] at X7
  show GoOn _ _ _ _ (T7.setTop (mkF m 84 #[.val (.int p1), .val (.int p2), .val (.int p3), .val (.int p4), .val (.ref b1), .val (.int ((p1 + (p4 &&& (3 : Int32))) - (1 : Int32))), .val (.int ((p2 + ((p4 >>> ((2 : Int32) &&& 31)) &&& (3 : Int32))) - (2 : Int32))), .val (.int (1 : Int32)), .val (.int (1 : Int32)), .unset, .unset, .unset] [(.int (own_holds p1 p2 ((p2 + ((p4 >>> ((2 : Int32) &&& 31)) &&& (3 : Int32))) - (2 : Int32))))]))
  refine GoOn.st (fun t k => XS.iloadN X7.here hx rfl (hb hby at_84) rfl k) ?_
  show GoOn _ _ _ _ (T7.setTop (mkF m 85 #[.val (.int p1), .val (.int p2), .val (.int p3), .val (.int p4), .val (.ref b1), .val (.int ((p1 + (p4 &&& (3 : Int32))) - (1 : Int32))), .val (.int ((p2 + ((p4 >>> ((2 : Int32) &&& 31)) &&& (3 : Int32))) - (2 : Int32))), .val (.int (1 : Int32)), .val (.int (1 : Int32)), .unset, .unset, .unset] [(.int p1), (.int (own_holds p1 p2 ((p2 + ((p4 >>> ((2 : Int32) &&& 31)) &&& (3 : Int32))) - (2 : Int32))))]))
  refine GoOn.st (fun t k => XS.iloadN X7.here hx rfl (hb hby at_85) rfl k) ?_
  show GoOn _ _ _ _ (T7.setTop (mkF m 86 #[.val (.int p1), .val (.int p2), .val (.int p3), .val (.int p4), .val (.ref b1), .val (.int ((p1 + (p4 &&& (3 : Int32))) - (1 : Int32))), .val (.int ((p2 + ((p4 >>> ((2 : Int32) &&& 31)) &&& (3 : Int32))) - (2 : Int32))), .val (.int (1 : Int32)), .val (.int (1 : Int32)), .unset, .unset, .unset] [(.int p2), (.int p1), (.int (own_holds p1 p2 ((p2 + ((p4 >>> ((2 : Int32) &&& 31)) &&& (3 : Int32))) - (2 : Int32))))]))
  refine GoOn.st (fun t k => XS.iload X7.here hx rfl (hb hby at_86) rfl k) ?_
  show GoOn _ _ _ _ (T7.setTop (mkF m 88 #[.val (.int p1), .val (.int p2), .val (.int p3), .val (.int p4), .val (.ref b1), .val (.int ((p1 + (p4 &&& (3 : Int32))) - (1 : Int32))), .val (.int ((p2 + ((p4 >>> ((2 : Int32) &&& 31)) &&& (3 : Int32))) - (2 : Int32))), .val (.int (1 : Int32)), .val (.int (1 : Int32)), .unset, .unset, .unset] [(.int ((p2 + ((p4 >>> ((2 : Int32) &&& 31)) &&& (3 : Int32))) - (2 : Int32))), (.int p2), (.int p1), (.int (own_holds p1 p2 ((p2 + ((p4 >>> ((2 : Int32) &&& 31)) &&& (3 : Int32))) - (2 : Int32))))]))
  refine GoOn.callS (W := 1) (argsL := [(.int p1), (.int p2), (.int ((p2 + ((p4 >>> ((2 : Int32) &&& 31)) &&& (3 : Int32))) - (2 : Int32)))]) (rest := [(.int (own_holds p1 p2 ((p2 + ((p4 >>> ((2 : Int32) &&& 31)) &&& (3 : Int32))) - (2 : Int32))))]) X7 hx hZ hown (hw _ (List.mem_of_getElem? (i := 23) rfl)) (hw _ (List.mem_of_getElem? (i := 24) rfl)) (hw _ (List.mem_of_getElem? (i := 25) rfl)) (hw _ (List.mem_of_getElem? (i := 26) rfl)) (by decide) (rm_exp l Z a0 hw p1 p2 ((p2 + ((p4 >>> ((2 : Int32) &&& 31)) &&& (3 : Int32))) - (2 : Int32)) T2.heap) e7 (by decide) (by decide) (by rw [hml]; rfl) pd_3 rfl rfl (Nat.le_of_eq rfl) (hb hby at_88) (by decide) (by decide) ?_
  rintro _ T8 L8 X8 ⟨rfl, rfl, e8⟩
  rw [List.append_nil] at X8
  show GoOn _ _ _ _ (T8.setTop (mkF m 91 #[.val (.int p1), .val (.int p2), .val (.int p3), .val (.int p4), .val (.ref b1), .val (.int ((p1 + (p4 &&& (3 : Int32))) - (1 : Int32))), .val (.int ((p2 + ((p4 >>> ((2 : Int32) &&& 31)) &&& (3 : Int32))) - (2 : Int32))), .val (.int (1 : Int32)), .val (.int (1 : Int32)), .unset, .unset, .unset] [(.int (own_holds p1 p2 ((p2 + ((p4 >>> ((2 : Int32) &&& 31)) &&& (3 : Int32))) - (2 : Int32)))), (.int (own_holds p1 p2 ((p2 + ((p4 >>> ((2 : Int32) &&& 31)) &&& (3 : Int32))) - (2 : Int32))))]))
  refine GoOn.st (fun t k => XS.icmpNo X8.here hx rfl (hb hby at_91) rfl (teq rfl).2 k) ?_
  show GoOn _ _ _ _ (T8.setTop (mkF m 94 #[.val (.int p1), .val (.int p2), .val (.int p3), .val (.int p4), .val (.ref b1), .val (.int ((p1 + (p4 &&& (3 : Int32))) - (1 : Int32))), .val (.int ((p2 + ((p4 >>> ((2 : Int32) &&& 31)) &&& (3 : Int32))) - (2 : Int32))), .val (.int (1 : Int32)), .val (.int (1 : Int32)), .unset, .unset, .unset] []))
  refine GoOn.st (fun t k => XS.iconst X8.here hx rfl (hb hby at_94)  k) ?_
  show GoOn _ _ _ _ (T8.setTop (mkF m 95 #[.val (.int p1), .val (.int p2), .val (.int p3), .val (.int p4), .val (.ref b1), .val (.int ((p1 + (p4 &&& (3 : Int32))) - (1 : Int32))), .val (.int ((p2 + ((p4 >>> ((2 : Int32) &&& 31)) &&& (3 : Int32))) - (2 : Int32))), .val (.int (1 : Int32)), .val (.int (1 : Int32)), .unset, .unset, .unset] [(.int (1 : Int32))]))
  refine GoOn.st (fun t k => XS.goto X8.here hx rfl (pc0 := 95) (pc' := 99) rfl (hb hby at_95) (by decide) (by decide) k) ?_
  show GoOn _ _ _ _ (T8.setTop (mkF m 99 #[.val (.int p1), .val (.int p2), .val (.int p3), .val (.int p4), .val (.ref b1), .val (.int ((p1 + (p4 &&& (3 : Int32))) - (1 : Int32))), .val (.int ((p2 + ((p4 >>> ((2 : Int32) &&& 31)) &&& (3 : Int32))) - (2 : Int32))), .val (.int (1 : Int32)), .val (.int (1 : Int32)), .unset, .unset, .unset] [(.int (1 : Int32))]))
  refine GoOn.st (fun t k => XS.istore X8.here hx rfl (hb hby at_99) rfl (l' := #[.val (.int p1), .val (.int p2), .val (.int p3), .val (.int p4), .val (.ref b1), .val (.int ((p1 + (p4 &&& (3 : Int32))) - (1 : Int32))), .val (.int ((p2 + ((p4 >>> ((2 : Int32) &&& 31)) &&& (3 : Int32))) - (2 : Int32))), .val (.int (1 : Int32)), .val (.int (1 : Int32)), .val (.int (1 : Int32)), .unset, .unset]) rfl k) ?_
  show GoOn _ _ _ _ (T8.setTop (mkF m 101 #[.val (.int p1), .val (.int p2), .val (.int p3), .val (.int p4), .val (.ref b1), .val (.int ((p1 + (p4 &&& (3 : Int32))) - (1 : Int32))), .val (.int ((p2 + ((p4 >>> ((2 : Int32) &&& 31)) &&& (3 : Int32))) - (2 : Int32))), .val (.int (1 : Int32)), .val (.int (1 : Int32)), .val (.int (1 : Int32)), .unset, .unset] []))
  refine GoOn.st (fun t k => XS.aload X8.here hx rfl (hb hby at_101) rfl rfl k) ?_
  show GoOn _ _ _ _ (T8.setTop (mkF m 103 #[.val (.int p1), .val (.int p2), .val (.int p3), .val (.int p4), .val (.ref b1), .val (.int ((p1 + (p4 &&& (3 : Int32))) - (1 : Int32))), .val (.int ((p2 + ((p4 >>> ((2 : Int32) &&& 31)) &&& (3 : Int32))) - (2 : Int32))), .val (.int (1 : Int32)), .val (.int (1 : Int32)), .val (.int (1 : Int32)), .unset, .unset] [(.ref b1)]))
  refine GoOn.st (fun t k => XS.iloadN X8.here hx rfl (hb hby at_103) rfl k) ?_
  show GoOn _ _ _ _ (T8.setTop (mkF m 104 #[.val (.int p1), .val (.int p2), .val (.int p3), .val (.int p4), .val (.ref b1), .val (.int ((p1 + (p4 &&& (3 : Int32))) - (1 : Int32))), .val (.int ((p2 + ((p4 >>> ((2 : Int32) &&& 31)) &&& (3 : Int32))) - (2 : Int32))), .val (.int (1 : Int32)), .val (.int (1 : Int32)), .val (.int (1 : Int32)), .unset, .unset] [(.int p2), (.ref b1)]))
  refine GoOn.callV (W := 0) (argsL := [(.int p2)]) (rest := []) (a := b1) X8 hx hZ hown (hw _ (List.mem_of_getElem? (i := 18) rfl)) (hw _ (List.mem_of_getElem? (i := 19) rfl)) (notFace_of_selects (args := #[]) (mvT hZ (hw _ (List.mem_of_getElem? (i := 21) rfl)))) (hw _ (List.mem_of_getElem? (i := 21) rfl)) (hw _ (List.mem_of_getElem? (i := 20) rfl)) (hw _ (List.mem_of_getElem? (i := 2) rfl)) (hw _ (List.mem_of_getElem? (i := 22) rfl)) (by decide) (rm_holds l Z a0 hw b1 p1 p2 p2 T2.heap f2_1 f2_2) e8 f2_0 (by decide) (by decide) (by rw [hml]; rfl) pd_2 rfl rfl (Nat.le_of_eq rfl) (hb hby at_104) (by decide) (by decide) ?_
  rintro _ T9 L9 X9 ⟨rfl, rfl, e9⟩
  rw [List.append_nil] at X9
  show GoOn _ _ _ _ (T9.setTop (mkF m 107 #[.val (.int p1), .val (.int p2), .val (.int p3), .val (.int p4), .val (.ref b1), .val (.int ((p1 + (p4 &&& (3 : Int32))) - (1 : Int32))), .val (.int ((p2 + ((p4 >>> ((2 : Int32) &&& 31)) &&& (3 : Int32))) - (2 : Int32))), .val (.int (1 : Int32)), .val (.int (1 : Int32)), .val (.int (1 : Int32)), .unset, .unset] [(.int (own_holds p1 p2 p2))]))
  refine GoOn.st (fun t k => XS.ifNo X9.here hx rfl (hb hby at_107) rfl ((if0 _ _).trans (teq (own_h4 p1 p2)).2) k) ?_
  show GoOn _ _ _ _ (T9.setTop (mkF m 110 #[.val (.int p1), .val (.int p2), .val (.int p3), .val (.int p4), .val (.ref b1), .val (.int ((p1 + (p4 &&& (3 : Int32))) - (1 : Int32))), .val (.int ((p2 + ((p4 >>> ((2 : Int32) &&& 31)) &&& (3 : Int32))) - (2 : Int32))), .val (.int (1 : Int32)), .val (.int (1 : Int32)), .val (.int (1 : Int32)), .unset, .unset] []))
  refine GoOn.st (fun t k => XS.iconst X9.here hx rfl (hb hby at_110)  k) ?_
  show GoOn _ _ _ _ (T9.setTop (mkF m 111 #[.val (.int p1), .val (.int p2), .val (.int p3), .val (.int p4), .val (.ref b1), .val (.int ((p1 + (p4 &&& (3 : Int32))) - (1 : Int32))), .val (.int ((p2 + ((p4 >>> ((2 : Int32) &&& 31)) &&& (3 : Int32))) - (2 : Int32))), .val (.int (1 : Int32)), .val (.int (1 : Int32)), .val (.int (1 : Int32)), .unset, .unset] [(.int (1 : Int32))]))
  refine GoOn.st (fun t k => XS.goto X9.here hx rfl (pc0 := 111) (pc' := 115) rfl (hb hby at_111) (by decide) (by decide) k) ?_
  show GoOn _ _ _ _ (T9.setTop (mkF m 115 #[.val (.int p1), .val (.int p2), .val (.int p3), .val (.int p4), .val (.ref b1), .val (.int ((p1 + (p4 &&& (3 : Int32))) - (1 : Int32))), .val (.int ((p2 + ((p4 >>> ((2 : Int32) &&& 31)) &&& (3 : Int32))) - (2 : Int32))), .val (.int (1 : Int32)), .val (.int (1 : Int32)), .val (.int (1 : Int32)), .unset, .unset] [(.int (1 : Int32))]))
  refine GoOn.st (fun t k => XS.istore X9.here hx rfl (hb hby at_115) rfl (l' := #[.val (.int p1), .val (.int p2), .val (.int p3), .val (.int p4), .val (.ref b1), .val (.int ((p1 + (p4 &&& (3 : Int32))) - (1 : Int32))), .val (.int ((p2 + ((p4 >>> ((2 : Int32) &&& 31)) &&& (3 : Int32))) - (2 : Int32))), .val (.int (1 : Int32)), .val (.int (1 : Int32)), .val (.int (1 : Int32)), .val (.int (1 : Int32)), .unset]) rfl k) ?_
  show GoOn _ _ _ _ (T9.setTop (mkF m 117 #[.val (.int p1), .val (.int p2), .val (.int p3), .val (.int p4), .val (.ref b1), .val (.int ((p1 + (p4 &&& (3 : Int32))) - (1 : Int32))), .val (.int ((p2 + ((p4 >>> ((2 : Int32) &&& 31)) &&& (3 : Int32))) - (2 : Int32))), .val (.int (1 : Int32)), .val (.int (1 : Int32)), .val (.int (1 : Int32)), .val (.int (1 : Int32)), .unset] []))
  refine GoOn.st (fun t k => XS.aload X9.here hx rfl (hb hby at_117) rfl rfl k) ?_
  show GoOn _ _ _ _ (T9.setTop (mkF m 119 #[.val (.int p1), .val (.int p2), .val (.int p3), .val (.int p4), .val (.ref b1), .val (.int ((p1 + (p4 &&& (3 : Int32))) - (1 : Int32))), .val (.int ((p2 + ((p4 >>> ((2 : Int32) &&& 31)) &&& (3 : Int32))) - (2 : Int32))), .val (.int (1 : Int32)), .val (.int (1 : Int32)), .val (.int (1 : Int32)), .val (.int (1 : Int32)), .unset] [(.ref b1)]))
  refine GoOn.st (fun t k => XS.iloadN X9.here hx rfl (hb hby at_119) rfl k) ?_
  show GoOn _ _ _ _ (T9.setTop (mkF m 120 #[.val (.int p1), .val (.int p2), .val (.int p3), .val (.int p4), .val (.ref b1), .val (.int ((p1 + (p4 &&& (3 : Int32))) - (1 : Int32))), .val (.int ((p2 + ((p4 >>> ((2 : Int32) &&& 31)) &&& (3 : Int32))) - (2 : Int32))), .val (.int (1 : Int32)), .val (.int (1 : Int32)), .val (.int (1 : Int32)), .val (.int (1 : Int32)), .unset] [(.int p1), (.ref b1)]))
  refine GoOn.callV (W := 0) (argsL := [(.int p1)]) (rest := []) (a := b1) X9 hx hZ hown (hw _ (List.mem_of_getElem? (i := 18) rfl)) (hw _ (List.mem_of_getElem? (i := 19) rfl)) (notFace_of_selects (args := #[]) (mvT hZ (hw _ (List.mem_of_getElem? (i := 21) rfl)))) (hw _ (List.mem_of_getElem? (i := 21) rfl)) (hw _ (List.mem_of_getElem? (i := 20) rfl)) (hw _ (List.mem_of_getElem? (i := 2) rfl)) (hw _ (List.mem_of_getElem? (i := 22) rfl)) (by decide) (rm_holds l Z a0 hw b1 p1 p2 p1 T2.heap f2_1 f2_2) e9 f2_0 (by decide) (by decide) (by rw [hml]; rfl) pd_2 rfl rfl (Nat.le_of_eq rfl) (hb hby at_120) (by decide) (by decide) ?_
  rintro _ T10 L10 X10 ⟨rfl, rfl, e10⟩
  rw [List.append_nil] at X10
  show GoOn _ _ _ _ (T10.setTop (mkF m 123 #[.val (.int p1), .val (.int p2), .val (.int p3), .val (.int p4), .val (.ref b1), .val (.int ((p1 + (p4 &&& (3 : Int32))) - (1 : Int32))), .val (.int ((p2 + ((p4 >>> ((2 : Int32) &&& 31)) &&& (3 : Int32))) - (2 : Int32))), .val (.int (1 : Int32)), .val (.int (1 : Int32)), .val (.int (1 : Int32)), .val (.int (1 : Int32)), .unset] [(.int (own_holds p1 p2 p1))]))
  refine GoOn.st (fun t k => XS.iloadN X10.here hx rfl (hb hby at_123) rfl k) ?_
  show GoOn _ _ _ _ (T10.setTop (mkF m 124 #[.val (.int p1), .val (.int p2), .val (.int p3), .val (.int p4), .val (.ref b1), .val (.int ((p1 + (p4 &&& (3 : Int32))) - (1 : Int32))), .val (.int ((p2 + ((p4 >>> ((2 : Int32) &&& 31)) &&& (3 : Int32))) - (2 : Int32))), .val (.int (1 : Int32)), .val (.int (1 : Int32)), .val (.int (1 : Int32)), .val (.int (1 : Int32)), .unset] [(.int p1), (.int (own_holds p1 p2 p1))]))
  refine GoOn.st (fun t k => XS.iloadN X10.here hx rfl (hb hby at_124) rfl k) ?_
  show GoOn _ _ _ _ (T10.setTop (mkF m 125 #[.val (.int p1), .val (.int p2), .val (.int p3), .val (.int p4), .val (.ref b1), .val (.int ((p1 + (p4 &&& (3 : Int32))) - (1 : Int32))), .val (.int ((p2 + ((p4 >>> ((2 : Int32) &&& 31)) &&& (3 : Int32))) - (2 : Int32))), .val (.int (1 : Int32)), .val (.int (1 : Int32)), .val (.int (1 : Int32)), .val (.int (1 : Int32)), .unset] [(.int p2), (.int p1), (.int (own_holds p1 p2 p1))]))
  have dm11 : ∀ zz : Int32, zz = (if p1 < p2 then (1 : Int32) else (0 : Int32)) → ∀ t, Steps p.tables e below (T10.setTop (mkF m 133 #[.val (.int p1), .val (.int p2), .val (.int p3), .val (.int p4), .val (.ref b1), .val (.int ((p1 + (p4 &&& (3 : Int32))) - (1 : Int32))), .val (.int ((p2 + ((p4 >>> ((2 : Int32) &&& 31)) &&& (3 : Int32))) - (2 : Int32))), .val (.int (1 : Int32)), .val (.int (1 : Int32)), .val (.int (1 : Int32)), .val (.int (1 : Int32)), .unset] [(.int zz), (.int (own_holds p1 p2 p1))])) t → Steps p.tables e below (T10.setTop (mkF m 125 #[.val (.int p1), .val (.int p2), .val (.int p3), .val (.int p4), .val (.ref b1), .val (.int ((p1 + (p4 &&& (3 : Int32))) - (1 : Int32))), .val (.int ((p2 + ((p4 >>> ((2 : Int32) &&& 31)) &&& (3 : Int32))) - (2 : Int32))), .val (.int (1 : Int32)), .val (.int (1 : Int32)), .val (.int (1 : Int32)), .val (.int (1 : Int32)), .unset] [(.int p2), (.int p1), (.int (own_holds p1 p2 p1))])) t := by
    intro zz hzz t k; by_cases hc : p1 < p2
    · rw [hzz.trans (if_pos hc)] at k
      refine XS.icmpNo X10.here hx rfl (hb hby at_125) rfl (tlt hc).2.1 ?_
      show Steps _ _ _ (T10.setTop (mkF m 128 #[.val (.int p1), .val (.int p2), .val (.int p3), .val (.int p4), .val (.ref b1), .val (.int ((p1 + (p4 &&& (3 : Int32))) - (1 : Int32))), .val (.int ((p2 + ((p4 >>> ((2 : Int32) &&& 31)) &&& (3 : Int32))) - (2 : Int32))), .val (.int (1 : Int32)), .val (.int (1 : Int32)), .val (.int (1 : Int32)), .val (.int (1 : Int32)), .unset] [(.int (own_holds p1 p2 p1))])) _
      refine XS.iconst X10.here hx rfl (hb hby at_128) ?_
      show Steps _ _ _ (T10.setTop (mkF m 129 #[.val (.int p1), .val (.int p2), .val (.int p3), .val (.int p4), .val (.ref b1), .val (.int ((p1 + (p4 &&& (3 : Int32))) - (1 : Int32))), .val (.int ((p2 + ((p4 >>> ((2 : Int32) &&& 31)) &&& (3 : Int32))) - (2 : Int32))), .val (.int (1 : Int32)), .val (.int (1 : Int32)), .val (.int (1 : Int32)), .val (.int (1 : Int32)), .unset] [(.int (1 : Int32)), (.int (own_holds p1 p2 p1))])) _
      exact XS.goto X10.here hx rfl (pc0 := 129) (pc' := 133) rfl (hb hby at_129) (by decide) (by decide) k
    · rw [hzz.trans (if_neg hc)] at k
      refine XS.icmpYes X10.here hx rfl (pc0 := 125) (pc' := 132) rfl (hb hby at_125) rfl (flt hc).2.1 (by decide) (by decide) ?_
      show Steps _ _ _ (T10.setTop (mkF m 132 #[.val (.int p1), .val (.int p2), .val (.int p3), .val (.int p4), .val (.ref b1), .val (.int ((p1 + (p4 &&& (3 : Int32))) - (1 : Int32))), .val (.int ((p2 + ((p4 >>> ((2 : Int32) &&& 31)) &&& (3 : Int32))) - (2 : Int32))), .val (.int (1 : Int32)), .val (.int (1 : Int32)), .val (.int (1 : Int32)), .val (.int (1 : Int32)), .unset] [(.int (own_holds p1 p2 p1))])) _
      exact XS.iconst X10.here hx rfl (hb hby at_132) k
  refine GoOn.st (dm11 _ rfl) ?_
  show GoOn _ _ _ _ (T10.setTop (mkF m 133 #[.val (.int p1), .val (.int p2), .val (.int p3), .val (.int p4), .val (.ref b1), .val (.int ((p1 + (p4 &&& (3 : Int32))) - (1 : Int32))), .val (.int ((p2 + ((p4 >>> ((2 : Int32) &&& 31)) &&& (3 : Int32))) - (2 : Int32))), .val (.int (1 : Int32)), .val (.int (1 : Int32)), .val (.int (1 : Int32)), .val (.int (1 : Int32)), .unset] [(.int (if p1 < p2 then (1 : Int32) else (0 : Int32))), (.int (own_holds p1 p2 p1))]))
  refine GoOn.st (fun t k => XS.icmpNo X10.here hx rfl (hb hby at_133) rfl (teq (own_h5 p1 p2)).2 k) ?_
  show GoOn _ _ _ _ (T10.setTop (mkF m 136 #[.val (.int p1), .val (.int p2), .val (.int p3), .val (.int p4), .val (.ref b1), .val (.int ((p1 + (p4 &&& (3 : Int32))) - (1 : Int32))), .val (.int ((p2 + ((p4 >>> ((2 : Int32) &&& 31)) &&& (3 : Int32))) - (2 : Int32))), .val (.int (1 : Int32)), .val (.int (1 : Int32)), .val (.int (1 : Int32)), .val (.int (1 : Int32)), .unset] []))
  refine GoOn.st (fun t k => XS.iconst X10.here hx rfl (hb hby at_136)  k) ?_
  show GoOn _ _ _ _ (T10.setTop (mkF m 137 #[.val (.int p1), .val (.int p2), .val (.int p3), .val (.int p4), .val (.ref b1), .val (.int ((p1 + (p4 &&& (3 : Int32))) - (1 : Int32))), .val (.int ((p2 + ((p4 >>> ((2 : Int32) &&& 31)) &&& (3 : Int32))) - (2 : Int32))), .val (.int (1 : Int32)), .val (.int (1 : Int32)), .val (.int (1 : Int32)), .val (.int (1 : Int32)), .unset] [(.int (1 : Int32))]))
  refine GoOn.st (fun t k => XS.goto X10.here hx rfl (pc0 := 137) (pc' := 141) rfl (hb hby at_137) (by decide) (by decide) k) ?_
  show GoOn _ _ _ _ (T10.setTop (mkF m 141 #[.val (.int p1), .val (.int p2), .val (.int p3), .val (.int p4), .val (.ref b1), .val (.int ((p1 + (p4 &&& (3 : Int32))) - (1 : Int32))), .val (.int ((p2 + ((p4 >>> ((2 : Int32) &&& 31)) &&& (3 : Int32))) - (2 : Int32))), .val (.int (1 : Int32)), .val (.int (1 : Int32)), .val (.int (1 : Int32)), .val (.int (1 : Int32)), .unset] [(.int (1 : Int32))]))
  refine GoOn.st (fun t k => XS.istore X10.here hx rfl (hb hby at_141) rfl (l' := #[.val (.int p1), .val (.int p2), .val (.int p3), .val (.int p4), .val (.ref b1), .val (.int ((p1 + (p4 &&& (3 : Int32))) - (1 : Int32))), .val (.int ((p2 + ((p4 >>> ((2 : Int32) &&& 31)) &&& (3 : Int32))) - (2 : Int32))), .val (.int (1 : Int32)), .val (.int (1 : Int32)), .val (.int (1 : Int32)), .val (.int (1 : Int32)), .val (.int (1 : Int32))]) rfl k) ?_
  show GoOn _ _ _ _ (T10.setTop (mkF m 143 #[.val (.int p1), .val (.int p2), .val (.int p3), .val (.int p4), .val (.ref b1), .val (.int ((p1 + (p4 &&& (3 : Int32))) - (1 : Int32))), .val (.int ((p2 + ((p4 >>> ((2 : Int32) &&& 31)) &&& (3 : Int32))) - (2 : Int32))), .val (.int (1 : Int32)), .val (.int (1 : Int32)), .val (.int (1 : Int32)), .val (.int (1 : Int32)), .val (.int (1 : Int32))] []))
  refine GoOn.st (fun t k => XS.iload X10.here hx rfl (hb hby at_143) rfl k) ?_
  show GoOn _ _ _ _ (T10.setTop (mkF m 145 #[.val (.int p1), .val (.int p2), .val (.int p3), .val (.int p4), .val (.ref b1), .val (.int ((p1 + (p4 &&& (3 : Int32))) - (1 : Int32))), .val (.int ((p2 + ((p4 >>> ((2 : Int32) &&& 31)) &&& (3 : Int32))) - (2 : Int32))), .val (.int (1 : Int32)), .val (.int (1 : Int32)), .val (.int (1 : Int32)), .val (.int (1 : Int32)), .val (.int (1 : Int32))] [(.int (1 : Int32))]))
  refine GoOn.st (fun t k => XS.ifNo X10.here hx rfl (hb hby at_145) rfl ((if0 _ _).trans (feq (by decide : ¬ ((1 : Int32) = (0 : Int32)))).1) k) ?_
  show GoOn _ _ _ _ (T10.setTop (mkF m 148 #[.val (.int p1), .val (.int p2), .val (.int p3), .val (.int p4), .val (.ref b1), .val (.int ((p1 + (p4 &&& (3 : Int32))) - (1 : Int32))), .val (.int ((p2 + ((p4 >>> ((2 : Int32) &&& 31)) &&& (3 : Int32))) - (2 : Int32))), .val (.int (1 : Int32)), .val (.int (1 : Int32)), .val (.int (1 : Int32)), .val (.int (1 : Int32)), .val (.int (1 : Int32))] []))
  refine GoOn.st (fun t k => XS.iload X10.here hx rfl (hb hby at_148) rfl k) ?_
  show GoOn _ _ _ _ (T10.setTop (mkF m 150 #[.val (.int p1), .val (.int p2), .val (.int p3), .val (.int p4), .val (.ref b1), .val (.int ((p1 + (p4 &&& (3 : Int32))) - (1 : Int32))), .val (.int ((p2 + ((p4 >>> ((2 : Int32) &&& 31)) &&& (3 : Int32))) - (2 : Int32))), .val (.int (1 : Int32)), .val (.int (1 : Int32)), .val (.int (1 : Int32)), .val (.int (1 : Int32)), .val (.int (1 : Int32))] [(.int (1 : Int32))]))
  refine GoOn.st (fun t k => XS.ifNo X10.here hx rfl (hb hby at_150) rfl ((if0 _ _).trans (feq (by decide : ¬ ((1 : Int32) = (0 : Int32)))).1) k) ?_
  show GoOn _ _ _ _ (T10.setTop (mkF m 153 #[.val (.int p1), .val (.int p2), .val (.int p3), .val (.int p4), .val (.ref b1), .val (.int ((p1 + (p4 &&& (3 : Int32))) - (1 : Int32))), .val (.int ((p2 + ((p4 >>> ((2 : Int32) &&& 31)) &&& (3 : Int32))) - (2 : Int32))), .val (.int (1 : Int32)), .val (.int (1 : Int32)), .val (.int (1 : Int32)), .val (.int (1 : Int32)), .val (.int (1 : Int32))] []))
  refine GoOn.st (fun t k => XS.iload X10.here hx rfl (hb hby at_153) rfl k) ?_
  show GoOn _ _ _ _ (T10.setTop (mkF m 155 #[.val (.int p1), .val (.int p2), .val (.int p3), .val (.int p4), .val (.ref b1), .val (.int ((p1 + (p4 &&& (3 : Int32))) - (1 : Int32))), .val (.int ((p2 + ((p4 >>> ((2 : Int32) &&& 31)) &&& (3 : Int32))) - (2 : Int32))), .val (.int (1 : Int32)), .val (.int (1 : Int32)), .val (.int (1 : Int32)), .val (.int (1 : Int32)), .val (.int (1 : Int32))] [(.int (1 : Int32))]))
  refine GoOn.st (fun t k => XS.ifNo X10.here hx rfl (hb hby at_155) rfl ((if0 _ _).trans (feq (by decide : ¬ ((1 : Int32) = (0 : Int32)))).1) k) ?_
  show GoOn _ _ _ _ (T10.setTop (mkF m 158 #[.val (.int p1), .val (.int p2), .val (.int p3), .val (.int p4), .val (.ref b1), .val (.int ((p1 + (p4 &&& (3 : Int32))) - (1 : Int32))), .val (.int ((p2 + ((p4 >>> ((2 : Int32) &&& 31)) &&& (3 : Int32))) - (2 : Int32))), .val (.int (1 : Int32)), .val (.int (1 : Int32)), .val (.int (1 : Int32)), .val (.int (1 : Int32)), .val (.int (1 : Int32))] []))
  refine GoOn.st (fun t k => XS.iload X10.here hx rfl (hb hby at_158) rfl k) ?_
  show GoOn _ _ _ _ (T10.setTop (mkF m 160 #[.val (.int p1), .val (.int p2), .val (.int p3), .val (.int p4), .val (.ref b1), .val (.int ((p1 + (p4 &&& (3 : Int32))) - (1 : Int32))), .val (.int ((p2 + ((p4 >>> ((2 : Int32) &&& 31)) &&& (3 : Int32))) - (2 : Int32))), .val (.int (1 : Int32)), .val (.int (1 : Int32)), .val (.int (1 : Int32)), .val (.int (1 : Int32)), .val (.int (1 : Int32))] [(.int (1 : Int32))]))
  refine GoOn.st (fun t k => XS.ifNo X10.here hx rfl (hb hby at_160) rfl ((if0 _ _).trans (feq (by decide : ¬ ((1 : Int32) = (0 : Int32)))).1) k) ?_
  show GoOn _ _ _ _ (T10.setTop (mkF m 163 #[.val (.int p1), .val (.int p2), .val (.int p3), .val (.int p4), .val (.ref b1), .val (.int ((p1 + (p4 &&& (3 : Int32))) - (1 : Int32))), .val (.int ((p2 + ((p4 >>> ((2 : Int32) &&& 31)) &&& (3 : Int32))) - (2 : Int32))), .val (.int (1 : Int32)), .val (.int (1 : Int32)), .val (.int (1 : Int32)), .val (.int (1 : Int32)), .val (.int (1 : Int32))] []))
  refine GoOn.st (fun t k => XS.iload X10.here hx rfl (hb hby at_163) rfl k) ?_
  show GoOn _ _ _ _ (T10.setTop (mkF m 165 #[.val (.int p1), .val (.int p2), .val (.int p3), .val (.int p4), .val (.ref b1), .val (.int ((p1 + (p4 &&& (3 : Int32))) - (1 : Int32))), .val (.int ((p2 + ((p4 >>> ((2 : Int32) &&& 31)) &&& (3 : Int32))) - (2 : Int32))), .val (.int (1 : Int32)), .val (.int (1 : Int32)), .val (.int (1 : Int32)), .val (.int (1 : Int32)), .val (.int (1 : Int32))] [(.int (1 : Int32))]))
  refine GoOn.st (fun t k => XS.ifNo X10.here hx rfl (hb hby at_165) rfl ((if0 _ _).trans (feq (by decide : ¬ ((1 : Int32) = (0 : Int32)))).1) k) ?_
  show GoOn _ _ _ _ (T10.setTop (mkF m 168 #[.val (.int p1), .val (.int p2), .val (.int p3), .val (.int p4), .val (.ref b1), .val (.int ((p1 + (p4 &&& (3 : Int32))) - (1 : Int32))), .val (.int ((p2 + ((p4 >>> ((2 : Int32) &&& 31)) &&& (3 : Int32))) - (2 : Int32))), .val (.int (1 : Int32)), .val (.int (1 : Int32)), .val (.int (1 : Int32)), .val (.int (1 : Int32)), .val (.int (1 : Int32))] []))
  refine GoOn.st (fun t k => XS.iconst X10.here hx rfl (hb hby at_168)  k) ?_
  show GoOn _ _ _ _ (T10.setTop (mkF m 169 #[.val (.int p1), .val (.int p2), .val (.int p3), .val (.int p4), .val (.ref b1), .val (.int ((p1 + (p4 &&& (3 : Int32))) - (1 : Int32))), .val (.int ((p2 + ((p4 >>> ((2 : Int32) &&& 31)) &&& (3 : Int32))) - (2 : Int32))), .val (.int (1 : Int32)), .val (.int (1 : Int32)), .val (.int (1 : Int32)), .val (.int (1 : Int32)), .val (.int (1 : Int32))] [(.int (1 : Int32))]))
  refine GoOn.st (fun t k => XS.goto X10.here hx rfl (pc0 := 169) (pc' := 173) rfl (hb hby at_169) (by decide) (by decide) k) ?_
  show GoOn _ _ _ _ (T10.setTop (mkF m 173 #[.val (.int p1), .val (.int p2), .val (.int p3), .val (.int p4), .val (.ref b1), .val (.int ((p1 + (p4 &&& (3 : Int32))) - (1 : Int32))), .val (.int ((p2 + ((p4 >>> ((2 : Int32) &&& 31)) &&& (3 : Int32))) - (2 : Int32))), .val (.int (1 : Int32)), .val (.int (1 : Int32)), .val (.int (1 : Int32)), .val (.int (1 : Int32)), .val (.int (1 : Int32))] [(.int (1 : Int32))]))
  exact GoOn.retZ X10 hx hlk hret (by simp) rfl (hb hby at_173) ⟨rfl, N2⟩ (by decide) (by decide)
set_option maxRecDepth 65536 in
set_option maxHeartbeats 40000000 in
theorem comes_1 {Post : Tables → Env → Array Value → State → Outcome → State → Prop} (hpost : ∀ tb e args s v u, (limb_1_1.after args s (.returned v) u = true ∧ limb_1_2.after args s (.returned v) u = true ∧ True) → FrameEnd s (.returned v) u (Jvm.fieldLocs frame_1_writes args s ++ Jvm.arrayLocs frame_1_arrays args s ++ Jvm.staticLocs frame_1_statics s) 16 128 → Post tb e args s (.returned v) u) :
    ArmFor flags0 classFile x code maxLocals ret World_1 tables_1 room_1 Calls_1 rest_1 Pre_1 Post := by
  intro l hfl _ _ p e ha hc hk s m args below hf hA hF happ hP
  obtain ⟨hcalls, hrest, hpre⟩ := hP
  obtain ⟨-, -, -, hnamed, -, -, -, hat⟩ := (Spec.applies_iff hf).mp happ
  obtain ⟨hg, hn⟩ := and_e (Cond.before_iff.mp (show (Jvm.Cond.and given_1 narrow_1).before args s = true from hpre))
  obtain ⟨hcount, hk0⟩ := and_e hg
  obtain ⟨ha0, hk1⟩ := and_e hk0
  obtain ⟨ha1, hk2⟩ := and_e hk1
  obtain ⟨ha2, hk3⟩ := and_e hk2
  obtain ⟨w0, w1, w2, w3, rfl⟩ : ∃ w0 w1 w2 w3 : Value, args = #[w0, w1, w2, w3] := by
    have hs : args.size = 4 := by simpa [Cond.value, given_1] using hcount
    obtain ⟨L⟩ := args
    match L, hs with
    | [w0, w1, w2, w3], _ => exact ⟨w0, w1, w2, w3, rfl⟩
  have hw := fun d (hd : d ∈ tables_1) => atoms_spec (ws := Jvm.Cond.code x code maxLocals ret :: tables_1) hat d (List.mem_cons_of_mem _ hd)
  have hfit : Fit s := fun {y c} hc i hi => by
    obtain ⟨ha, rfl⟩ := Array.getElem?_eq_some_iff.mp hc
    have q := List.all_eq_true.mp ((Array.all_eq_true_iff_forall_mem.mp hF) _ (Array.getElem_mem ha)) i (List.mem_range.mpr hi)
    simpa [Array.getElem?_eq_getElem hi] using q
  obtain ⟨i0, ei0⟩ := is_v ha0
  obtain rfl : w0 = (.int i0) := Option.some.inj ei0
  obtain ⟨i1, ei1⟩ := is_v ha1
  obtain rfl : w1 = (.int i1) := Option.some.inj ei1
  obtain ⟨i2, ei2⟩ := is_v ha2
  obtain rfl : w2 = (.int i2) := Option.some.inj ei2
  obtain ⟨i3, ei3⟩ := is_v hk3
  obtain rfl : w3 = (.int i3) := Option.some.inj ei3
  obtain ⟨n, o, h1, h2, h3, _, L, rfl, ⟨rfl, N⟩, hq⟩ := rm_law l s _ hw tables_1 i0 i1 i2 i3 s.heap s.heap.size (Nat.le_refl _) p e ha hc hk s m _ below hf ((Spec.applies_iff_loose hf).mp happ).1 ⟨rfl, State.Warmed39.refl s, rfl⟩ trivial
  refine ⟨n, _, h1, h2, h3, hpost _ _ _ _ _ _ ⟨Cond.after_iff.mpr rfl, Cond.after_iff.mpr (eq_i res_at (Term.int_eval (1)) rfl), trivial⟩ ⟨hq.1, hq.2.1, (hq.2.2.sift fun y hy => Or.inr (N y hy)).mono (by decide) (by decide)⟩⟩
theorem main_1_1 : Claimed_1_1 := comes_1 fun _ _ _ _ _ _ h hF => ⟨h.1, hF⟩
theorem main_1_2 : Claimed_1_2 := comes_1 fun _ _ _ _ _ _ h hF => ⟨h.2.1, hF⟩
end Jvm.Pilot.@@N@@
namespace Jvm.Pilot.@@N@@
open Jvm Jvm.ClassFile Sem Op Lib Jvm.Free Jvm.Stand Jvm.Pilot.@@N@@.Jvm.D
/-! MADE BY PROGRAM (witnessworld.py) out of the Statement's table words and the real class files: 10 classes; the members and pool entries that the words name. The judged class is class 1, her method 2. -/
namespace start1
open Jvm.ClassFile
def u (s : String) : CpInfo := .utf8 (stringToUtf16 s)
/-- a pool by its gaps: so many unusable entries, then the entry; so many at the end -/
def gap : Nat → List CpInfo → List CpInfo
  | 0, r => r
  | n + 1, r => .unusable :: gap n r
def poolList (es : List (Nat × CpInfo)) (last : Nat) : List CpInfo := es.foldr (fun e r => gap e.1 (e.2 :: r)) (gap last [])
def pool (es : List (Nat × CpInfo)) (last : Nat) : Array CpInfo := ⟨poolList es last⟩
def fileOf (pool : Array CpInfo) (this : Nat) (attrs : Array Attribute := #[]) (ms : Array MethodInfo := #[]) (fl : Nat := 33) (sup : Nat := 0) (ifs : Array Nat := #[]) (fds : Array FieldInfo := #[]) : ClassFile where
  minorVersion := 0
  majorVersion := 65
  constantPool := pool
  accessFlags := fl
  thisClass := this
  superClass := sup
  interfaces := ifs
  fields := fds
  methods := ms
  attributes := attrs
def plain (name : String) (sup : Option ClassId) : Class where
  name := name
  kind := .ordinary
  loader := none
  accessFlags := 33
  super := sup
  interfaces := #[]
  cf := none
  fields := #[]
  methods := #[]
  instanceTypes := #[]
  staticTypes := #[]
  resolved := #[]
  callSites := []
  init := .initialized
  statics := none
  mirror := none

def pool0 : Array CpInfo := pool [(5, u "<init>"), (0, u "()V"), (1, .class_ 10), (1, u "java/lang/Object")] 113

def k0c0 : Code := { maxStack := 0, maxLocals := 1, code := object_method_1_code, exceptionTable := #[], attributes := #[] }
def k0m0 : Method := { name := "<init>", desc := "()V", sig := { parameters := [], returnType := none }, accessFlags := 1, code := some k0c0 }
/-- java/lang/Object -/
def k0 : Class := { plain "java/lang/Object" none with
  accessFlags := 33
  interfaces := #[]
  cf := some (fileOf pool0 8 #[] #[{ accessFlags := 1, nameIndex := 5, descriptorIndex := 6, attributes := #[] }] 33 0 #[] #[])
  fields := #[]
  methods := #[k0m0]
  instanceTypes := #[]
  staticTypes := #[]
  resolved := Array.replicate 124 none
  statics := none }

def pool1 : Array CpInfo := pool [(2, .class_ 4), (1, u "java/lang/Object"), (0, u "<init>"), (0, u "()V"), (0, .class_ 8), (0, u "com/example/tendfold/tendfold/blueprint/HereDocument$Span"), (0, .methodref 7 10), (0, .nameAndType 5 11), (0, u "(II)V"), (0, .methodref 7 13), (0, .nameAndType 14 15), (0, u "holds"), (0, u "(I)Z"), (0, .methodref 17 18), (0, .class_ 19), (0, .nameAndType 20 21), (0, u "com/example/tendfold/tendfold/blueprint/SpanHoldsPinLaw"), (0, u "expected"), (0, u "(III)Z"), (3, u "law"), (0, u "(IIII)Z")] 6

def k1m0 : Method := { name := "<init>", desc := "()V", sig := { parameters := [], returnType := none }, accessFlags := 1, code := none }
def k1c1 : Code := { maxStack := 4, maxLocals := 9, code := method_2_code, exceptionTable := #[], attributes := #[] }
def k1m1 : Method := { name := "expected", desc := "(III)Z", sig := { parameters := [.int, .int, .int], returnType := some .boolean }, accessFlags := 10, code := some k1c1 }
def k1c2 : Code := { maxStack := 4, maxLocals := 12, code := code, exceptionTable := #[], attributes := #[] }
def k1m2 : Method := { name := "law", desc := "(IIII)Z", sig := { parameters := [.int, .int, .int, .int], returnType := some .boolean }, accessFlags := 9, code := some k1c2 }
/-- com/example/tendfold/tendfold/blueprint/SpanHoldsPinLaw -/
def k1 : Class := { plain "com/example/tendfold/tendfold/blueprint/SpanHoldsPinLaw" (some 0) with
  accessFlags := 49
  interfaces := #[]
  cf := some (fileOf pool1 17 #[] #[{ accessFlags := 1, nameIndex := 5, descriptorIndex := 6, attributes := #[] }, { accessFlags := 10, nameIndex := 20, descriptorIndex := 21, attributes := #[] }, { accessFlags := 9, nameIndex := 25, descriptorIndex := 26, attributes := #[] }] 49 2 #[] #[])
  fields := #[]
  methods := #[k1m0, k1m1, k1m2]
  instanceTypes := #[]
  staticTypes := #[]
  resolved := Array.replicate 33 none
  statics := none }

def pool2 : Array CpInfo := pool [(1, .methodref 2 3), (0, .class_ 4), (0, .nameAndType 5 6), (0, u "java/lang/Object"), (0, u "<init>"), (0, u "()V"), (0, .class_ 8), (0, u "java/lang/Record")] 13

def k2c0 : Code := { maxStack := 1, maxLocals := 1, code := jdk_30_method_1_code, exceptionTable := #[], attributes := #[] }
def k2m0 : Method := { name := "<init>", desc := "()V", sig := { parameters := [], returnType := none }, accessFlags := 4, code := some k2c0 }
/-- java/lang/Record -/
def k2 : Class := { plain "java/lang/Record" (some 0) with
  accessFlags := 1057
  interfaces := #[]
  cf := some (fileOf pool2 7 #[] #[{ accessFlags := 4, nameIndex := 5, descriptorIndex := 6, attributes := #[] }] 1057 2 #[] #[])
  fields := #[]
  methods := #[k2m0]
  instanceTypes := #[]
  staticTypes := #[]
  resolved := Array.replicate 22 none
  statics := none }

def pool3 : Array CpInfo := pool [(1, .methodref 2 3), (0, .class_ 4), (0, .nameAndType 5 6), (0, u "java/lang/Record"), (0, u "<init>"), (0, u "()V"), (0, .fieldref 8 9), (0, .class_ 10), (0, .nameAndType 11 12), (0, u "com/example/tendfold/tendfold/blueprint/HereDocument$Span"), (0, u "from"), (0, u "I"), (0, .fieldref 8 14), (0, .nameAndType 15 12), (0, u "to"), (18, u "holds"), (0, u "(I)Z"), (12, u "(II)V"), (14, .class_ 64), (0, u "com/example/tendfold/tendfold/blueprint/HereDocument")] 20

def k3c0 : Code := { maxStack := 2, maxLocals := 3, code := prog_9_method_1_code, exceptionTable := #[], attributes := #[] }
def k3m0 : Method := { name := "<init>", desc := "(II)V", sig := { parameters := [.int, .int], returnType := none }, accessFlags := 0, code := some k3c0 }
def k3c1 : Code := { maxStack := 2, maxLocals := 2, code := prog_9_method_2_code, exceptionTable := #[], attributes := #[] }
def k3m1 : Method := { name := "holds", desc := "(I)Z", sig := { parameters := [.int], returnType := some .boolean }, accessFlags := 0, code := some k3c1 }
/-- com/example/tendfold/tendfold/blueprint/HereDocument$Span -/
def k3 : Class := { plain "com/example/tendfold/tendfold/blueprint/HereDocument$Span" (some 2) with
  accessFlags := 48
  interfaces := #[]
  cf := some (fileOf pool3 8 #[.nestHost 63] #[{ accessFlags := 0, nameIndex := 5, descriptorIndex := 48, attributes := #[] }, { accessFlags := 0, nameIndex := 34, descriptorIndex := 35, attributes := #[] }] 48 2 #[] #[{ accessFlags := 18, nameIndex := 11, descriptorIndex := 12, attributes := #[] }, { accessFlags := 18, nameIndex := 15, descriptorIndex := 12, attributes := #[] }])
  fields := #[{ name := "from", type := .int, accessFlags := 18, slot := 0, constantValue := 0 }, { name := "to", type := .int, accessFlags := 18, slot := 1, constantValue := 0 }]
  methods := #[k3m0, k3m1]
  instanceTypes := #[.int, .int]
  staticTypes := #[]
  resolved := Array.replicate 85 none
  statics := none }

def pool4 : Array CpInfo := pool [(1, u "java/lang/Cloneable"), (0, .class_ 1), (0, u "java/lang/Object"), (0, .class_ 3)] 3

/-- java/lang/Cloneable -/
def k4 : Class := { plain "java/lang/Cloneable" (some 0) with
  accessFlags := 1537
  interfaces := #[]
  cf := some (fileOf pool4 2 #[] #[] 1537 4 #[] #[])
  fields := #[]
  methods := #[]
  instanceTypes := #[]
  staticTypes := #[]
  resolved := Array.replicate 8 none
  statics := none }

def pool5 : Array CpInfo := pool [(1, u "java/io/Serializable"), (0, .class_ 1), (0, u "java/lang/Object"), (0, .class_ 3)] 3

/-- java/io/Serializable -/
def k5 : Class := { plain "java/io/Serializable" (some 0) with
  accessFlags := 1537
  interfaces := #[]
  cf := some (fileOf pool5 2 #[] #[] 1537 4 #[] #[])
  fields := #[]
  methods := #[]
  instanceTypes := #[]
  staticTypes := #[]
  resolved := Array.replicate 8 none
  statics := none }

/-- the primitive byte -/
def k6 : Class := { plain "byte" none with kind := .primitive 'B', accessFlags := 0x411 }
/-- [B -/
def k7 : Class := { plain "[B" (some 0) with kind := .array 6 .byte, interfaces := #[4, 5], accessFlags := 1041 }

/-- the primitive int -/
def k8 : Class := { plain "int" none with kind := .primitive 'I', accessFlags := 0x411 }
/-- [I -/
def k9 : Class := { plain "[I" (some 0) with kind := .array 8 .int, interfaces := #[4, 5], accessFlags := 1041 }

def heap : Heap := #[]
def classes : Array Class := #[k0, k1, k2, k3, k4, k5, k6, k7, k8, k9]
def interned : List (Array UInt16 × Addr) := []
def slotsUsed : Nat := 0
def theMethod : MethodId := ⟨1, 2⟩
def args0 : Array Value := #[.int 5, .int 7, .int 6, .int 3]
def aboutOver (below : List Frame) : State where
  vm := { classes := classes, interned := interned.toArray }
  heap := heap
  slotsUsed := slotsUsed
  threads := #[{ frames := .invoking theMethod args0 :: below }]
def below0 : List Frame := [.native { method := ⟨0, 0⟩, args := #[] }]
def about1 : State := aboutOver below0
def p0 : Program := .bare "" "" ""
def e0 : Env := launch0.env 0 0 0
theorem w_frames : about1.frames = Frame.invoking theMethod args0 :: below0 := rfl
set_option maxRecDepth 65536 in
theorem w_args : argsFit about1.vm theMethod args0 = true := by decide +kernel
set_option maxRecDepth 65536 in
theorem w_heap : heapFits about1 = true := by decide +kernel
set_option maxRecDepth 65536 in
theorem w_runnable : about1.curStatus? = some .runnable := by decide +kernel
set_option maxRecDepth 65536 in
theorem w_alone : about1.alone = true := by decide +kernel
set_option maxRecDepth 65536 in
theorem w_named : about1.methodNamed? x = some theMethod := by decide +kernel
set_option maxRecDepth 65536 in
theorem w_hears : about1.hears theMethod below0 = true := by decide +kernel
set_option maxRecDepth 65536 in
theorem w_ripe : about1.ripe theMethod args0 below0 = true := by decide +kernel
theorem w_running : about1.status = .running := rfl
set_option maxRecDepth 65536 in
theorem w_room : about1.hasRoom e0.platform room_1 = true :=
  launch0.hasRoom_least _ room_1 (by decide +kernel) (by decide +kernel) (by decide +kernel) (by decide +kernel) (by decide +kernel) (by decide +kernel)
theorem allAtoms_all (ts : List Jvm.Cond) (a : Array Jvm.Value) (st : Jvm.State) : (allAtoms ts).before a st = ts.all (fun c => c.before a st) := by
  induction ts with
  | nil => rfl
  | cons c t ih =>
    show (Jvm.Cond.and c (allAtoms t)).before a st = _
    rw [Jvm.Cond.before_and, ih, List.all_cons]
def words1 : List Jvm.Cond := Jvm.Cond.code x code maxLocals ret :: tables_1
/-- a 'code' word, met by the world's own term for the bytes: nothing is compared byte by byte -/
theorem code_word {y : MethodName} {bytes : ByteArray} {mx : Nat} {rt : Option FieldType} {a : Array Value} {s : State} {m : MethodId} {meth : Method} {c : Code} (h1 : s.methodNamed? y = some m) (h2 : s.vm.method? m = some meth) (h3 : meth.code = some c) (h4 : c.code = bytes)
    (h5 : (c.maxLocals == mx && c.exceptionTable.isEmpty && decide (c.maxStack ≤ mostOperands) && decide (meth.sig.returnType = rt) && !meth.locks && decide (parseMethodDescriptor y.desc = some meth.sig)) = true) : (Jvm.Cond.code y bytes mx rt).before a s = true := by
  simp only [Bool.and_eq_true, beq_iff_eq, Bool.not_eq_true', decide_eq_true_eq] at h5
  obtain ⟨⟨⟨⟨⟨g1, g2⟩, g3⟩, g4⟩, g5⟩, g6⟩ := h5
  simp [Cond.before, Cond.holds, Cond.value, h1, h2, h3, h4, g1, g2, g3, g4, g5, g6]
def isCode : Jvm.Cond → Bool
  | .code _ _ _ _ => true
  | _ => false
theorem all_split {L : List Jvm.Cond} {P : Jvm.Cond → Bool} (h1 : L.all (fun c => isCode c || P c) = true) (h2 : ∀ c ∈ L.filter isCode, P c = true) : L.all P = true := by
  refine List.all_eq_true.mpr fun c hc => ?_
  have h := List.all_eq_true.mp h1 c hc
  rcases Bool.eq_false_or_eq_true (isCode c) with hi | hi
  · exact h2 c (List.mem_filter.mpr ⟨hc, hi⟩)
  · simpa [hi] using h
set_option maxRecDepth 65536 in
theorem w_c0 : (Jvm.Cond.code x code maxLocals ret).before args0 about1 = true := code_word (m := ⟨1, 2⟩) (meth := k1m2) (c := k1c2) (by decide +kernel) rfl rfl rfl (by decide +kernel)
set_option maxRecDepth 65536 in
theorem w_c1 : (Jvm.Cond.code ({ cls := "com/example/tendfold/tendfold/blueprint/HereDocument$Span", name := "<init>", desc := "(II)V" } : Jvm.MethodName) prog_9_method_1_code (3 : Nat) (Option.none : Option Jvm.ClassFile.FieldType)).before args0 about1 = true := code_word (m := ⟨3, 0⟩) (meth := k3m0) (c := k3c0) (by decide +kernel) rfl rfl rfl (by decide +kernel)
set_option maxRecDepth 65536 in
theorem w_c2 : (Jvm.Cond.code ({ cls := "java/lang/Record", name := "<init>", desc := "()V" } : Jvm.MethodName) jdk_30_method_1_code (1 : Nat) (Option.none : Option Jvm.ClassFile.FieldType)).before args0 about1 = true := code_word (m := ⟨2, 0⟩) (meth := k2m0) (c := k2c0) (by decide +kernel) rfl rfl rfl (by decide +kernel)
set_option maxRecDepth 65536 in
theorem w_c3 : (Jvm.Cond.code ({ cls := "java/lang/Object", name := "<init>", desc := "()V" } : Jvm.MethodName) object_method_1_code (1 : Nat) (Option.none : Option Jvm.ClassFile.FieldType)).before args0 about1 = true := code_word (m := ⟨0, 0⟩) (meth := k0m0) (c := k0c0) (by decide +kernel) rfl rfl rfl (by decide +kernel)
set_option maxRecDepth 65536 in
theorem w_c4 : (Jvm.Cond.code ({ cls := "com/example/tendfold/tendfold/blueprint/HereDocument$Span", name := "holds", desc := "(I)Z" } : Jvm.MethodName) prog_9_method_2_code (2 : Nat) (Option.some Jvm.ClassFile.FieldType.boolean)).before args0 about1 = true := code_word (m := ⟨3, 1⟩) (meth := k3m1) (c := k3c1) (by decide +kernel) rfl rfl rfl (by decide +kernel)
set_option maxRecDepth 65536 in
theorem w_c5 : (Jvm.Cond.code ({ cls := "com/example/tendfold/tendfold/blueprint/SpanHoldsPinLaw", name := "expected", desc := "(III)Z" } : Jvm.MethodName) method_2_code (9 : Nat) (Option.some Jvm.ClassFile.FieldType.boolean)).before args0 about1 = true := code_word (m := ⟨1, 1⟩) (meth := k1m1) (c := k1c1) (by decide +kernel) rfl rfl rfl (by decide +kernel)
def codes1 : List Jvm.Cond := [Jvm.Cond.code x code maxLocals ret, Jvm.Cond.code ({ cls := "com/example/tendfold/tendfold/blueprint/HereDocument$Span", name := "<init>", desc := "(II)V" } : Jvm.MethodName) prog_9_method_1_code (3 : Nat) (Option.none : Option Jvm.ClassFile.FieldType), Jvm.Cond.code ({ cls := "java/lang/Record", name := "<init>", desc := "()V" } : Jvm.MethodName) jdk_30_method_1_code (1 : Nat) (Option.none : Option Jvm.ClassFile.FieldType), Jvm.Cond.code ({ cls := "java/lang/Object", name := "<init>", desc := "()V" } : Jvm.MethodName) object_method_1_code (1 : Nat) (Option.none : Option Jvm.ClassFile.FieldType), Jvm.Cond.code ({ cls := "com/example/tendfold/tendfold/blueprint/HereDocument$Span", name := "holds", desc := "(I)Z" } : Jvm.MethodName) prog_9_method_2_code (2 : Nat) (Option.some Jvm.ClassFile.FieldType.boolean), Jvm.Cond.code ({ cls := "com/example/tendfold/tendfold/blueprint/SpanHoldsPinLaw", name := "expected", desc := "(III)Z" } : Jvm.MethodName) method_2_code (9 : Nat) (Option.some Jvm.ClassFile.FieldType.boolean)]
set_option maxRecDepth 65536 in
theorem codes_eq : words1.filter isCode = codes1 := rfl
theorem w_codes : ∀ c ∈ words1.filter isCode, c.before args0 about1 = true := by
  rw [codes_eq]
  intro c hc
  simp only [codes1, List.mem_cons, List.not_mem_nil, or_false] at hc
  rcases hc with rfl | rfl | rfl | rfl | rfl | rfl
  · exact w_c0
  · exact w_c1
  · exact w_c2
  · exact w_c3
  · exact w_c4
  · exact w_c5
set_option maxRecDepth 65536 in
theorem w_t1 : (words1.take 24).all (fun c => isCode c || c.before args0 about1) = true := by decide +kernel
set_option maxRecDepth 65536 in
theorem w_t2 : (words1.drop 24).all (fun c => isCode c || c.before args0 about1) = true := by decide +kernel
theorem w_tables : (allAtoms (Jvm.Cond.code x code maxLocals ret :: tables_1)).before args0 about1 = true := by
  rw [allAtoms_all]
  show words1.all (fun c => c.before args0 about1) = true
  refine all_split ?_ w_codes
  rw [← List.take_append_drop 24 words1, List.all_append, w_t1, w_t2]
  rfl
set_option maxRecDepth 65536 in
theorem w_case : (Jvm.Cond.and given_1 narrow_1).before args0 about1 = true := by decide +kernel
theorem w_applies : (headSpec (Jvm.Cond.code x code maxLocals ret :: tables_1) room_1).applies x e0.platform about1 = true :=
  (Spec.applies_iff w_frames).mpr ⟨w_running, w_runnable, w_alone, w_named, w_hears, w_ripe, w_room, w_tables⟩
theorem atStart : AtStart classFile x code maxLocals ret World_1 tables_1 room_1 Calls_1 rest_1 Pre_1 launch0 p0 e0 about1 theMethod args0 below0 :=
  ⟨lists_1, trivial, launch0.admits_env _ _ _, launch0.least_env, fairChoices_fair.cas, fairChoices_fair.clock, w_frames, w_args, w_heap, w_applies, trivial, trivial, w_case⟩
end start1
theorem witness_1 : WitnessClaimed_1 := ⟨start1.p0, start1.e0, start1.about1, start1.theMethod, start1.args0, start1.below0, start1.atStart⟩
end Jvm.Pilot.@@N@@
