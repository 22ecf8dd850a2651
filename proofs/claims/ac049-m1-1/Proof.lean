import JvmDerived
import JvmDerived.Pilot.@@N@@Statement
import JvmDerived.Pilot.@@N@@Code
set_option linter.unusedVariables false
set_option linter.unusedSimpArgs false
namespace Jvm.Pilot.@@N@@
open Jvm Jvm.ClassFile Sem Op Lib Jvm.Free Jvm.Stand Jvm.LawKit Jvm.RoadKit Bundle Jvm.Pilot.@@N@@.Jvm.D
/-! own kit: a walk told forwards -/
section OwnKit
variable {p : Program} {l : Launch} {e : Env} {R : Room} {s : State} {m : MethodId} {args : Array Value} {below : List Frame} {meth : Method} {c : Code} {T : State} {locs : List Loc} {cells slots : Nat} {Z : State} {a0 : Array Value} {h : Heap}
/-- from here the run comes to an end of which K speaks -/
def own_Goes (p : Program) (e : Env) (below : List Frame) (K : Outcome → State → Prop) (T : State) (g : JFrame) : Prop :=
  ∃ s₂ o, Steps p.tables e below (T.setTop g) s₂ ∧ s₂.status = .running ∧ Ended s₂ below o ∧ K o s₂
theorem own_step {K : Outcome → State → Prop} {T' : State} {g g' : JFrame} (st : ∀ t, Steps p.tables e below (T'.setTop g') t → Steps p.tables e below (T.setTop g) t) (hg : own_Goes p e below K T' g') : own_Goes p e below K T g := by
  obtain ⟨s2, o, a, b⟩ := hg
  exact ⟨s2, o, st _ a, b⟩
theorem own_castG {K : Outcome → State → Prop} {g g' : JFrame} (q : g = g') (hg : own_Goes p e below K T g') : own_Goes p e below K T g := q ▸ hg
def own_K (s : State) (Q : Option Value → Heap → List Loc → Prop) (rc rs : Nat) : Outcome → State → Prop := fun o u => ∃ v L, o = .returned v ∧ Q v u.heap L ∧ FrameEnd s o u L rc rs
def own_Met (l : Launch) (Z : State) (y : MethodName) (bytes : ByteArray) (maxL : Nat) (ret : Option FieldType) (ws : List Jvm.Cond) (rm : Room) (as' : Array Value) (h0 : Heap) (Q : Option Value → Heap → List Loc → Prop) : Prop :=
  MetFree l y (head1 (Jvm.Cond.code y bytes maxL ret :: ws) rm) (fun a U => a = as' ∧ Z.Warmed39 U.vm ∧ U.heap = h0) (fun _ _ _ _ _ => True) (fun _ U o U' => ∃ v L, o = .returned v ∧ Q v U'.heap L ∧ FrameEnd U o U' L rm.cells rm.slots)
theorem own_body {y : MethodName} {bytes : ByteArray} {maxL : Nat} {ret : Option FieldType} {ws : List Jvm.Cond} {rm : Room} {as' : Array Value} {h0 : Heap} {Q : Option Value → Heap → List Loc → Prop} (hp : plainFor y = true)
    (body : ∀ (p : Program) (e : Env) (s : State) (m : MethodId) (below : List Frame) (meth : Method) (c : Code) (s₁ : State), p.tables.exec = Jvm.exec → c.code = bytes → c.maxLocals = maxL → meth.sig.returnType = ret → meth.locks = false → s.vm.findClass y.cls = some m.cls → meth.name = y.name → Z.Warmed39 s.vm →
      Stand p l e rm s m as' below meth c s₁ [] 0 0 → s₁.heap = h0 → own_Goes p e below (own_K s Q rm.cells rm.slots) s₁ (entryFrame m as' maxL)) : own_Met l Z y bytes maxL ret ws rm as' h0 Q := by
  refine MetFree.of_bodySF hp hisR ?_
  intro p e s m args below meth c s₁ Bd hml0 hP hK
  obtain ⟨rfl, hZ, hh⟩ := hP
  exact body p e s m below meth c s₁ Bd.exec Bd.bytes hml0 Bd.returns (BodyLoose.notSynchronized Bd) (findClass_of_methodNamed Bd.named) (name_of_methodNamed Bd.named Bd.method).1 hZ (Stand.of_body Bd) (by rw [← hh, Bd.state]; rfl)
theorem own_out (X : Stand p l e R s m args below meth c T locs cells slots) (hlk : meth.locks = false) {v : Option Value} (hv : meth.sig.returnType = none → v = none) {Q : Option Value → Heap → List Loc → Prop} {rc rs : Nat} {g : JFrame}
    (st : ∀ fs, (∀ (f : JFrame) (acts : List Action), f.method = m → f.locked = none → f.entered = [] → (doReturn e (T.setTop f) acts v).1 = T.setFrames fs) → Steps p.tables e below (T.setTop g) (T.setFrames fs))
    (hQ : Q v T.heap locs) (hc : cells ≤ rc) (hs : slots ≤ rs) : own_Goes p e below (own_K s Q rc rs) T g := by
  obtain ⟨fs, hr, hrun, hended, hW, hsame⟩ := X.leave (v := v) hv hlk
  exact ⟨_, _, st fs hr, hrun, hended, v, locs, rfl, hQ, ⟨_, rfl⟩, hW, hsame.mono hc hs⟩
theorem own_retN (X : Stand p l e R s m args below meth c T locs cells slots) (hx : p.tables.exec = Jvm.exec) (hlk : meth.locks = false) {pc : Nat} {Ls : Array Slot} {z : Int32} {t : FieldType} {rest : List Value} (hret : meth.sig.returnType = some t) (ht : t = .boolean ∨ t = .byte ∨ t = .char ∨ t = .short)
    (hd : decode c.code pc = .ok (.ireturn, 1)) {Q : Option Value → Heap → List Loc → Prop} {rc rs : Nat} (hQ : Q (some (.int (nar t z))) T.heap locs) (hc : cells ≤ rc) (hs : slots ≤ rs) : own_Goes p e below (own_K s Q rc rs) T (mkF m pc Ls (.int z :: rest)) :=
  own_out X hlk (fun q => by rw [hret] at q; cases q) (fun fs hr => retN X hx hret ht hd hr) hQ hc hs
theorem own_retI (X : Stand p l e R s m args below meth c T locs cells slots) (hx : p.tables.exec = Jvm.exec) (hlk : meth.locks = false) {pc : Nat} {Ls : Array Slot} {z : Int32} {rest : List Value} (hret : meth.sig.returnType = some .int)
    (hd : decode c.code pc = .ok (.ireturn, 1)) {Q : Option Value → Heap → List Loc → Prop} {rc rs : Nat} (hQ : Q (some (.int z)) T.heap locs) (hc : cells ≤ rc) (hs : slots ≤ rs) : own_Goes p e below (own_K s Q rc rs) T (mkF m pc Ls (.int z :: rest)) :=
  own_out X hlk (fun q => by rw [hret] at q; cases q) (fun fs hr => retOut X hx hret rfl (Or.inl ⟨rfl, Or.inl rfl, z, rfl⟩) hd hr) hQ hc hs
theorem own_retL (X : Stand p l e R s m args below meth c T locs cells slots) (hx : p.tables.exec = Jvm.exec) (hlk : meth.locks = false) {pc : Nat} {Ls : Array Slot} {z : Int64} {rest : List Value} (hret : meth.sig.returnType = some .long)
    (hd : decode c.code pc = .ok (.lreturn, 1)) {Q : Option Value → Heap → List Loc → Prop} {rc rs : Nat} (hQ : Q (some (.long z)) T.heap locs) (hc : cells ≤ rc) (hs : slots ≤ rs) : own_Goes p e below (own_K s Q rc rs) T (mkF m pc Ls (.long z :: rest)) :=
  own_out X hlk (fun q => by rw [hret] at q; cases q) (fun fs hr => retOut X hx hret rfl (Or.inr (Or.inl ⟨rfl, rfl, z, rfl⟩)) hd hr) hQ hc hs
theorem own_retA (X : Stand p l e R s m args below meth c T locs cells slots) (hx : p.tables.exec = Jvm.exec) (hlk : meth.locks = false) {pc : Nat} {Ls : Array Slot} {w : Value} {t : FieldType} {rest : List Value} (hret : meth.sig.returnType = some t) (hn : narrow t w = w) (ht : t.isReference = true) (hw : w.isRef = true)
    (hd : decode c.code pc = .ok (.areturn, 1)) {Q : Option Value → Heap → List Loc → Prop} {rc rs : Nat} (hQ : Q (some w) T.heap locs) (hc : cells ≤ rc) (hs : slots ≤ rs) : own_Goes p e below (own_K s Q rc rs) T (mkF m pc Ls (w :: rest)) :=
  own_out X hlk (fun q => by rw [hret] at q; cases q) (fun fs hr => retOut X hx hret hn (Or.inr (Or.inr (Or.inr (Or.inr ⟨rfl, ht, hw⟩)))) hd hr) hQ hc hs
theorem own_retV (X : Stand p l e R s m args below meth c T locs cells slots) (hx : p.tables.exec = Jvm.exec) (hlk : meth.locks = false) {pc : Nat} {Ls : Array Slot} (hret : meth.sig.returnType = none)
    (hd : decode c.code pc = .ok (.return_, 1)) {Q : Option Value → Heap → List Loc → Prop} {rc rs : Nat} (hQ : Q none T.heap locs) (hc : cells ≤ rc) (hs : slots ≤ rs) : own_Goes p e below (own_K s Q rc rs) T (mkF m pc Ls []) :=
  own_out X hlk (fun _ => rfl) (fun fs hr => X.returnOut hx hret hd hr) hQ hc hs
theorem own_callS (X : Stand p l e R s m args below meth c T locs cells slots) (hx : p.tables.exec = Jvm.exec) (hZ : Z.Warmed39 s.vm) {own : String} {index : Nat} {y : MethodName} {bytes : ByteArray} {maxL : Nat} {ret : Option FieldType} (hown : s.vm.findClass own = some m.cls)
    (w1 : (Jvm.Cond.methodLink own index y).before a0 Z = true) (w2 : (Jvm.Cond.static y).before a0 Z = true) (w3 : (Jvm.Cond.initialized y.cls).before a0 Z = true) (w4 : (Jvm.Cond.code y bytes maxL ret).before a0 Z = true) (hy : y.cls ≠ "java/lang/invoke/MethodHandle" ∧ y.cls ≠ "java/lang/invoke/VarHandle")
    {rm : Room} (W : Nat) (argsL rest : List Value) {Q : Option Value → Heap → List Loc → Prop} (hM : own_Met l Z y bytes maxL ret [] rm argsL.toArray h Q) (eT : T.heap = h)
    (hf : rm.frames + 1 ≤ R.frames) (hl : W + (maxL + 11) + rm.locals ≤ R.locals) (hc : cells + rm.cells ≤ R.cells) (hs : slots + rm.slots ≤ R.slots)
    {g : JFrame} (hg : g.method = m) (hsize : g.locals.size = c.maxLocals) {ps : List FieldType} {r : Option FieldType} (hpd : parseMethodDescriptor y.desc = some ⟨ps, r⟩) (hlen : argsL.length = ps.length)
    (hstack : g.stack = argsL.reverse ++ rest) (hW : 2 * g.monitorRoom + (rest.map fun v => v.category).sum ≤ W) (hd : decode c.code g.pc = .ok (.invokestatic index, 3))
    {K : Outcome → State → Prop} (go : ∀ T' v L, Stand p l e R s m args below meth c T' (locs ++ L) (cells + rm.cells) (slots + rm.slots) → Q v T'.heap L → own_Goes p e below K T' { g with pc := g.pc + 3, stack := v.toList ++ rest }) : own_Goes p e below K T g := by
  obtain ⟨v, _, ⟨T', L', k', n'⟩, -, X', ⟨Lc, hQ, l1, y1, z1⟩, st⟩ := Jvm.LawKit.callS X hx (y := y) hown (mvT hZ w1) (mvT hZ w2) (mvT hZ w3) (mvT hZ w4) hy (backOf (W := W) hM hZ w4 w3 hf hl) hg hsize (lenOf hpd hlen) hstack hW hd (fun _ _ => ⟨rfl, eT, hc, hs⟩)
  dsimp only [Pt.U, Pt.locs, Pt.cells, Pt.slots] at X' l1 y1 z1 st hQ
  subst l1 y1 z1
  exact own_step st (go _ _ _ X' hQ)
theorem own_callV (X : Stand p l e R s m args below meth c T locs cells slots) (hx : p.tables.exec = Jvm.exec) (hZ : Z.Warmed39 s.vm) {own C : String} {index : Nat} {y z : MethodName} {bytes : ByteArray} {maxL : Nat} {ret : Option FieldType} (hown : s.vm.findClass own = some m.cls)
    (w1 : (Jvm.Cond.methodLink own index y).before a0 Z = true) (w2 : (Jvm.Cond.declares y).before a0 Z = true) (nf : NotFace s y) (w3 : (Jvm.Cond.selects C y z).before a0 Z = true) (w4 : (Jvm.Cond.instanceMethod z).before a0 Z = true) (w5 : (Jvm.Cond.code z bytes maxL ret).before a0 Z = true) (w6 : (Jvm.Cond.initialized z.cls).before a0 Z = true)
    (hy : y.cls ≠ "java/lang/invoke/MethodHandle" ∧ y.cls ≠ "java/lang/invoke/VarHandle")
    {rm : Room} (W : Nat) {a : Addr} (E : Exa Z h a C) (argsL rest : List Value) {Q : Option Value → Heap → List Loc → Prop} (hM : own_Met l Z z bytes maxL ret [] rm (.ref a :: argsL).toArray h Q) (eT : T.heap = h)
    (hf : rm.frames + 1 ≤ R.frames) (hl : W + (maxL + 11) + rm.locals ≤ R.locals) (hc : cells + rm.cells ≤ R.cells) (hs : slots + rm.slots ≤ R.slots)
    {g : JFrame} (hg : g.method = m) (hsize : g.locals.size = c.maxLocals) {ps : List FieldType} {r : Option FieldType} (hpd : parseMethodDescriptor y.desc = some ⟨ps, r⟩) (hlen : argsL.length = ps.length)
    (hstack : g.stack = argsL.reverse ++ .ref a :: rest) (hW : 2 * g.monitorRoom + (rest.map fun v => v.category).sum ≤ W) (hd : decode c.code g.pc = .ok (.invokevirtual index, 3))
    {K : Outcome → State → Prop} (go : ∀ T' v L, Stand p l e R s m args below meth c T' (locs ++ L) (cells + rm.cells) (slots + rm.slots) → Q v T'.heap L → own_Goes p e below K T' { g with pc := g.pc + 3, stack := v.toList ++ rest }) : own_Goes p e below K T g := by
  obtain ⟨cq, kq, qa, qb, qc⟩ := isOf hZ eT E
  obtain ⟨v, _, ⟨T', L', k', n'⟩, -, X', ⟨Lc, hQ, l1, y1, z1⟩, st⟩ := X.virtualBack hx (y := y) (z := z) hown (mvT hZ w1) (mvT hZ w2) nf (mvT hZ w3) (mvT hZ w4) hy (backOf (W := W) hM hZ w5 w6 hf hl) qa qc hg hsize (Steps.refl _) (lenOf hpd hlen) hstack hW hd (fun _ _ => ⟨rfl, eT, hc, hs⟩)
  dsimp only [Pt.U, Pt.locs, Pt.cells, Pt.slots] at X' l1 y1 z1 st hQ
  subst l1 y1 z1
  exact own_step (fun t k => st.trans k) (go _ _ _ X' hQ)
theorem own_callC (X : Stand p l e R s m args below meth c T locs cells slots) (hx : p.tables.exec = Jvm.exec) (hZ : Z.Warmed39 s.vm) {own : String} {index : Nat} {y : MethodName} {bytes : ByteArray} {maxL : Nat} (hy1 : y.name = "<init>") (hown : s.vm.findClass own = some m.cls)
    (w1 : (Jvm.Cond.methodLink own index y).before a0 Z = true) (w2 : (Jvm.Cond.instanceMethod y).before a0 Z = true) (w3 : (Jvm.Cond.code y bytes maxL none).before a0 Z = true) (w4 : (Jvm.Cond.initialized y.cls).before a0 Z = true)
    (hy : y.cls ≠ "java/lang/invoke/MethodHandle" ∧ y.cls ≠ "java/lang/invoke/VarHandle")
    {rm : Room} (W : Nat) {a : Addr} (argsL rest : List Value) {Q : Option Value → Heap → List Loc → Prop} (hM : own_Met l Z y bytes maxL none [] rm (.ref a :: argsL).toArray h Q) (eT : T.heap = h)
    (hf : rm.frames + 1 ≤ R.frames) (hl : W + (maxL + 11) + rm.locals ≤ R.locals) (hc : cells + rm.cells ≤ R.cells) (hs : slots + rm.slots ≤ R.slots)
    {g : JFrame} (hg : g.method = m) (hsize : g.locals.size = c.maxLocals) {ps : List FieldType} {r : Option FieldType} (hpd : parseMethodDescriptor y.desc = some ⟨ps, r⟩) (hlen : argsL.length = ps.length)
    (hstack : g.stack = argsL.reverse ++ .ref a :: rest) (hW : 2 * g.monitorRoom + (rest.map fun v => v.category).sum ≤ W) (hd : decode c.code g.pc = .ok (.invokespecial index, 3))
    {K : Outcome → State → Prop} (go : ∀ T' v L, Stand p l e R s m args below meth c T' (locs ++ L) (cells + rm.cells) (slots + rm.slots) → Q v T'.heap L → own_Goes p e below K T' { g with pc := g.pc + 3, stack := v.toList ++ rest }) : own_Goes p e below K T g := by
  obtain ⟨v, _, ⟨T', L', k', n'⟩, -, X', ⟨Lc, hQ, l1, y1, z1⟩, st⟩ := X.specialBack hx (y := y) hy1 hown (mvT hZ w1) (mvT hZ w2) (mvT hZ w3) hy (backOf (W := W) hM hZ w3 w4 hf hl) hg hsize (Steps.refl _) (a := a) (lenOf hpd hlen) hstack hW hd (fun _ _ => ⟨rfl, eT, hc, hs⟩)
  dsimp only [Pt.U, Pt.locs, Pt.cells, Pt.slots] at X' l1 y1 z1 st hQ
  subst l1 y1 z1
  exact own_step (fun t k => st.trans k) (go _ _ _ X' hQ)
theorem own_fldI {t : Term} {C n d : String} {k : Int32} {a : Addr} (ev : t.eval args s none [] s = some (.ref a)) (hq : (Jvm.Cond.eq (.field t C n d) (.int k)).value args s none s [] = some true) : Fld s s.heap a C n d (.int k) := by
  have e1 := fld_at (C := C) (n := n) (dd := d) ev
  refine Fld.start ?_
  simp only [Jvm.Cond.value, e1, Term.int_eval] at hq
  cases hf : s.fieldOf? a C n d with
  | none => simp [hf] at hq
  | some v => cases v <;> simp [hf] at hq; rw [hq]
theorem own_callU (X : Stand p l e R s m args below meth c T locs cells slots) (hx : p.tables.exec = Jvm.exec) (hZ : Z.Warmed39 s.vm) {own C owner : String} {index : Nat} {y z : MethodName} {bytes : ByteArray} {maxL : Nat} {ret : Option FieldType} (hown : s.vm.findClass own = some m.cls)
    (w1 : (Jvm.Cond.methodLink own index y).before a0 Z = true) (w2 : (Jvm.Cond.sameMethod y.cls owner y.name y.desc).before a0 Z = true) (w2' : (Jvm.Cond.declares ⟨owner, y.name, y.desc⟩).before a0 Z = true) (w3 : (Jvm.Cond.selects C y z).before a0 Z = true) (w4 : (Jvm.Cond.instanceMethod z).before a0 Z = true) (w5 : (Jvm.Cond.code z bytes maxL ret).before a0 Z = true) (w6 : (Jvm.Cond.initialized z.cls).before a0 Z = true)
    (hy : owner ≠ "java/lang/invoke/MethodHandle" ∧ owner ≠ "java/lang/invoke/VarHandle")
    {rm : Room} (W : Nat) {a : Addr} (E : Exa Z h a C) (argsL rest : List Value) {Q : Option Value → Heap → List Loc → Prop} (hM : own_Met l Z z bytes maxL ret [] rm (.ref a :: argsL).toArray h Q) (eT : T.heap = h)
    (hf : rm.frames + 1 ≤ R.frames) (hl : W + (maxL + 11) + rm.locals ≤ R.locals) (hc : cells + rm.cells ≤ R.cells) (hs : slots + rm.slots ≤ R.slots)
    {g : JFrame} (hg : g.method = m) (hsize : g.locals.size = c.maxLocals) {ps : List FieldType} {r : Option FieldType} (hpd : parseMethodDescriptor y.desc = some ⟨ps, r⟩) (hlen : argsL.length = ps.length)
    (hstack : g.stack = argsL.reverse ++ .ref a :: rest) (hW : 2 * g.monitorRoom + (rest.map fun v => v.category).sum ≤ W) (hd : decode c.code g.pc = .ok (.invokevirtual index, 3))
    {K : Outcome → State → Prop} (go : ∀ T' v L, Stand p l e R s m args below meth c T' (locs ++ L) (cells + rm.cells) (slots + rm.slots) → Q v T'.heap L → own_Goes p e below K T' { g with pc := g.pc + 3, stack := v.toList ++ rest }) : own_Goes p e below K T g := by
  obtain ⟨cq, kq, qa, qb, qc⟩ := isOf hZ eT E
  obtain ⟨v, _, ⟨T', L', k', n'⟩, -, X', ⟨Lc, hQ, l1, y1, z1⟩, st⟩ := X.virtualBackUp hx (x := y) (y := z) hown (mvT hZ w1) (mvT hZ w2) (mvT hZ w2') hy (mvT hZ w3) (mvT hZ w4) (backOf (W := W) hM hZ w5 w6 hf hl) qa qc hg hsize (Steps.refl _) (lenOf hpd hlen) hstack hW hd (fun _ _ => ⟨rfl, eT, hc, hs⟩)
  dsimp only [Pt.U, Pt.locs, Pt.cells, Pt.slots] at X' l1 y1 z1 st hQ
  subst l1 y1 z1
  exact own_step (fun t k => st.trans k) (go _ _ _ X' hQ)
theorem own_aaload (X : Stand p l e R s m args below meth c T locs cells slots) (hx : p.tables.exec = Jvm.exec) (hZ : Z.Warmed39 s.vm) (eT : T.heap = h) {a : Addr} {k : ClassId} {ty : FieldType} {n : Int32} {vs : List Value} {dv : Value} (F : Arv Z h a k ty n vs dv) (hty : ty.isReference = true) {j : Int32} (v : Value) (hj : ¬ j < 0 ∧ j < n) (hv : vs.getD j.toNatClampNeg dv = v)
    {g : JFrame} (hg : g.method = m) {rest : List Value} (hs : g.stack = .int j :: .ref a :: rest) (hd : decode c.code g.pc = .ok (.aaload, 1)) : ∀ t, Steps p.tables e below (T.setTop { g with pc := g.pc + 1, stack := v :: rest }) t → Steps p.tables e below (T.setTop g) t := by
  obtain ⟨cl, A, q1, S, q3, H, G⟩ := F
  have hin := inb_of S hj
  exact fun t kk => X.aaload hx (by rw [eT]; exact A.1) (State.isArrayOf_alike hZ.alike A.2.1) hty A.2.2 hin (H.at hin hv) hg hs hd t kk
theorem own_aastore (X : Stand p l e R s m args below meth c T locs cells slots) (hx : p.tables.exec = Jvm.exec) (hZ : Z.Warmed39 s.vm) (eT : T.heap = h) {a : Addr} {k : ClassId} {C : String} {n : Int32} {vs : List Value} {dv : Value} (F : Arv Z h a k (.object C) n vs dv) (O : Ovr Z k C) {y : Addr} (I : Ins Z h y C true) {j : Int32} (hj : ¬ j < 0 ∧ j < n) (i : Nat) (hi : j.toNatClampNeg = i) (hl : i < vs.length)
    {g : JFrame} (hg : g.method = m) {rest : List Value} (hs : g.stack = .ref y :: .int j :: .ref a :: rest) (hd : decode c.code g.pc = .ok (.aastore, 1)) :
    ∃ T' h', Stand p l e R s m args below meth c T' (locs ++ [⟨a, j.toNatClampNeg⟩]) cells slots ∧ T'.heap = h' ∧ Wr h h' a j.toNatClampNeg (.ref y) ∧ Arv Z h' a k (.object C) n (vs.set i (.ref y)) dv ∧ ∀ target, Steps p.tables e below (T'.setTop { g with pc := g.pc + 1, stack := rest }) target → Steps p.tables e below (T.setTop g) target := by
  obtain ⟨cl, A, q1, S, q3, H, G⟩ := F
  obtain ⟨T', h', X', e', W', st⟩ := stR X hx hZ eT A (inb_of S hj) rfl (Sto.ofV A q1 O I) hg hs hd
  exact ⟨T', h', X', e', W', Arv.set A q1 S q3 H G rfl W' i hi hl, st⟩
theorem own_staKeep {C n d : String} {v : Value} {h' : Heap} {ws : List Addr} (F : Sta Z h C n d v) (K : Keep h h' ws) (q : ∀ x ∈ ws, ∀ cell : Cell, h[x]? = some cell → cell.vm.isStatics = false) : Sta Z h' C n d v := by
  obtain ⟨cf, i, k, f, st, cell, h1, h2, h3, h4, h5, h6, h7⟩ := F
  refine ⟨cf, i, k, f, st, cell, h1, h2, h3, h4, K.2.1 _ _ h5 (fun z => ?_), h6, h7⟩
  have := q _ z _ h5
  rw [h6] at this; cases this
end OwnKit
theorem own_pn_com_example_polyphony_polyphony_policy_Operator : plainName "com/example/polyphony/polyphony/policy/Operator" = true := by first | (simp [plainName, overriddenIn]; done) | decide +kernel
theorem own_ef0 (m : MethodId) (x0 : Addr) (x1 : Int32) : entryFrame m #[(.ref x0), (.int x1)] 3 = mkF m 0 #[.val (.ref x0), .val (.int x1), .unset] [] := by first | (simp [entryFrame, mkF, argsToLocals, Value.category]; done) | rfl
theorem own_prog_48_method_6_0 : decode prog_48_method_6_code 0 = .ok (.iload_n 1, 1) := by decide +kernel
theorem own_prog_48_method_6_1 : decode prog_48_method_6_code 1 = .ok (.ifCond .ge 11, 3) := by decide +kernel
theorem own_prog_48_method_6_4 : decode prog_48_method_6_code 4 = .ok (.aload_n 0, 1) := by decide +kernel
theorem own_prog_48_method_6_5 : decode prog_48_method_6_code 5 = .ok (.getfield 45, 3) := by decide +kernel
theorem own_prog_48_method_6_8 : decode prog_48_method_6_code 8 = .ok (.istore_n 2, 1) := by decide +kernel
theorem own_prog_48_method_6_9 : decode prog_48_method_6_code 9 = .ok (.goto 20, 3) := by decide +kernel
theorem own_prog_48_method_6_29 : decode prog_48_method_6_code 29 = .ok (.iload_n 2, 1) := by decide +kernel
theorem own_prog_48_method_6_30 : decode prog_48_method_6_code 30 = .ok (.ireturn, 1) := by decide +kernel
set_option maxRecDepth 65536 in
set_option maxHeartbeats 40000000 in
theorem own_holds_n0 (l : Launch) (Z : State) (a0 : Array Value) (hw : ∀ d ∈ tables_1, d.before a0 Z = true) (ws : List Jvm.Cond) (a : Addr) (pv : Int32) (h0 : Heap) (n0 : Nat) (Z0 : n0 ≤ h0.size) (F_a_whenBefore : Fld Z h0 a "com/example/polyphony/polyphony/policy/Operator" "whenBefore" "Z" (.int (0 : Int32))) (q1 : pv < (0 : Int32)) :
    own_Met l Z (⟨"com/example/polyphony/polyphony/policy/Operator", "holds", "(I)Z"⟩ : MethodName) prog_48_method_6_code 3 (some .boolean) ws ({ frames := 0, cells := 0, slots := 0, locals := 0 } : Room) #[(.ref a), (.int pv)] h0 (fun v h L => v = some (.int 0) ∧ Fr n0 L ∧ h = h0) := by
  refine own_body (plainFor_of_name own_pn_com_example_polyphony_polyphony_policy_Operator) (fun p e s m below meth c s₁ hx hby hml0 hrt hlk hown0 hnm hZ X0 e0 => ?_)
  have N0 := Fr.nil n0
  have hown : s.vm.findClass "com/example/polyphony/polyphony/policy/Operator" = some m.cls := hown0
  have hml : c.maxLocals = 3 := hml0
  refine own_castG (own_ef0 m a pv) ?_
  show own_Goes _ _ _ _ s₁ (mkF m 0 #[.val (.ref a), .val (.int pv), .unset] [])
  refine own_step (fun t k => XS.iloadN X0.here hx rfl (hb hby own_prog_48_method_6_0) rfl k) ?_
  show own_Goes _ _ _ _ s₁ (mkF m 1 #[.val (.ref a), .val (.int pv), .unset] [(.int pv)])
  refine own_step (fun t k => XS.ifNo X0.here hx rfl (hb hby own_prog_48_method_6_1) rfl ((if0 _ _).trans (tlt (show pv < (0 : Int32) from q1)).2.1) k) ?_
  show own_Goes _ _ _ _ s₁ (mkF m 4 #[.val (.ref a), .val (.int pv), .unset] [])
  refine own_step (fun t k => XS.aloadN X0.here hx rfl (hb hby own_prog_48_method_6_4) rfl rfl k) ?_
  show own_Goes _ _ _ _ s₁ (mkF m 5 #[.val (.ref a), .val (.int pv), .unset] [(.ref a)])
  obtain ⟨T1, X1, e1, st1⟩ := getF X0 hx hZ hown (host := "") (Or.inl (hw _ (List.mem_of_getElem? (i := 13) rfl))) Via.refl e0 F_a_whenBefore (g := (mkF m 5 #[.val (.ref a), .val (.int pv), .unset] [(.ref a)])) rfl rfl (hb hby own_prog_48_method_6_5)
  refine own_step st1 ?_
  show own_Goes _ _ _ _ T1 (mkF m 8 #[.val (.ref a), .val (.int pv), .unset] [(.int (0 : Int32))])
  refine own_step (fun t k => XS.istoreN X1.here hx rfl (hb hby own_prog_48_method_6_8) rfl (l' := #[.val (.ref a), .val (.int pv), .val (.int (0 : Int32))]) rfl k) ?_
  show own_Goes _ _ _ _ T1 (mkF m 9 #[.val (.ref a), .val (.int pv), .val (.int (0 : Int32))] [])
  refine own_step (fun t k => XS.goto X1.here hx rfl (pc0 := 9) (pc' := 29) rfl (hb hby own_prog_48_method_6_9) (by decide) (by decide) k) ?_
  show own_Goes _ _ _ _ T1 (mkF m 29 #[.val (.ref a), .val (.int pv), .val (.int (0 : Int32))] [])
  refine own_step (fun t k => XS.iloadN X1.here hx rfl (hb hby own_prog_48_method_6_29) rfl k) ?_
  show own_Goes _ _ _ _ T1 (mkF m 30 #[.val (.ref a), .val (.int pv), .val (.int (0 : Int32))] [(.int (0 : Int32))])
  exact own_retN X1 hx hlk (t := .boolean) hrt (by simp) (hb hby own_prog_48_method_6_30) ⟨rfl, N0, e1⟩ (by decide) (by decide)
set_option maxRecDepth 65536 in
set_option maxHeartbeats 40000000 in
theorem own_holds_n1 (l : Launch) (Z : State) (a0 : Array Value) (hw : ∀ d ∈ tables_1, d.before a0 Z = true) (ws : List Jvm.Cond) (a : Addr) (pv : Int32) (h0 : Heap) (n0 : Nat) (Z0 : n0 ≤ h0.size) (F_a_whenBefore : Fld Z h0 a "com/example/polyphony/polyphony/policy/Operator" "whenBefore" "Z" (.int (1 : Int32))) (q1 : pv < (0 : Int32)) :
    own_Met l Z (⟨"com/example/polyphony/polyphony/policy/Operator", "holds", "(I)Z"⟩ : MethodName) prog_48_method_6_code 3 (some .boolean) ws ({ frames := 0, cells := 0, slots := 0, locals := 0 } : Room) #[(.ref a), (.int pv)] h0 (fun v h L => v = some (.int 1) ∧ Fr n0 L ∧ h = h0) := by
  refine own_body (plainFor_of_name own_pn_com_example_polyphony_polyphony_policy_Operator) (fun p e s m below meth c s₁ hx hby hml0 hrt hlk hown0 hnm hZ X0 e0 => ?_)
  have N0 := Fr.nil n0
  have hown : s.vm.findClass "com/example/polyphony/polyphony/policy/Operator" = some m.cls := hown0
  have hml : c.maxLocals = 3 := hml0
  refine own_castG (own_ef0 m a pv) ?_
  show own_Goes _ _ _ _ s₁ (mkF m 0 #[.val (.ref a), .val (.int pv), .unset] [])
  refine own_step (fun t k => XS.iloadN X0.here hx rfl (hb hby own_prog_48_method_6_0) rfl k) ?_
  show own_Goes _ _ _ _ s₁ (mkF m 1 #[.val (.ref a), .val (.int pv), .unset] [(.int pv)])
  refine own_step (fun t k => XS.ifNo X0.here hx rfl (hb hby own_prog_48_method_6_1) rfl ((if0 _ _).trans (tlt (show pv < (0 : Int32) from q1)).2.1) k) ?_
  show own_Goes _ _ _ _ s₁ (mkF m 4 #[.val (.ref a), .val (.int pv), .unset] [])
  refine own_step (fun t k => XS.aloadN X0.here hx rfl (hb hby own_prog_48_method_6_4) rfl rfl k) ?_
  show own_Goes _ _ _ _ s₁ (mkF m 5 #[.val (.ref a), .val (.int pv), .unset] [(.ref a)])
  obtain ⟨T1, X1, e1, st1⟩ := getF X0 hx hZ hown (host := "") (Or.inl (hw _ (List.mem_of_getElem? (i := 13) rfl))) Via.refl e0 F_a_whenBefore (g := (mkF m 5 #[.val (.ref a), .val (.int pv), .unset] [(.ref a)])) rfl rfl (hb hby own_prog_48_method_6_5)
  refine own_step st1 ?_
  show own_Goes _ _ _ _ T1 (mkF m 8 #[.val (.ref a), .val (.int pv), .unset] [(.int (1 : Int32))])
  refine own_step (fun t k => XS.istoreN X1.here hx rfl (hb hby own_prog_48_method_6_8) rfl (l' := #[.val (.ref a), .val (.int pv), .val (.int (1 : Int32))]) rfl k) ?_
  show own_Goes _ _ _ _ T1 (mkF m 9 #[.val (.ref a), .val (.int pv), .val (.int (1 : Int32))] [])
  refine own_step (fun t k => XS.goto X1.here hx rfl (pc0 := 9) (pc' := 29) rfl (hb hby own_prog_48_method_6_9) (by decide) (by decide) k) ?_
  show own_Goes _ _ _ _ T1 (mkF m 29 #[.val (.ref a), .val (.int pv), .val (.int (1 : Int32))] [])
  refine own_step (fun t k => XS.iloadN X1.here hx rfl (hb hby own_prog_48_method_6_29) rfl k) ?_
  show own_Goes _ _ _ _ T1 (mkF m 30 #[.val (.ref a), .val (.int pv), .val (.int (1 : Int32))] [(.int (1 : Int32))])
  exact own_retN X1 hx hlk (t := .boolean) hrt (by simp) (hb hby own_prog_48_method_6_30) ⟨rfl, N0, e1⟩ (by decide) (by decide)
theorem own_prog_48_method_6_12 : decode prog_48_method_6_code 12 = .ok (.iload_n 1, 1) := by decide +kernel
theorem own_prog_48_method_6_13 : decode prog_48_method_6_code 13 = .ok (.ifCond .ne 11, 3) := by decide +kernel
theorem own_prog_48_method_6_16 : decode prog_48_method_6_code 16 = .ok (.aload_n 0, 1) := by decide +kernel
theorem own_prog_48_method_6_17 : decode prog_48_method_6_code 17 = .ok (.getfield 49, 3) := by decide +kernel
theorem own_prog_48_method_6_20 : decode prog_48_method_6_code 20 = .ok (.istore_n 2, 1) := by decide +kernel
theorem own_prog_48_method_6_21 : decode prog_48_method_6_code 21 = .ok (.goto 8, 3) := by decide +kernel
set_option maxRecDepth 65536 in
set_option maxHeartbeats 40000000 in
theorem own_holds_z0 (l : Launch) (Z : State) (a0 : Array Value) (hw : ∀ d ∈ tables_1, d.before a0 Z = true) (ws : List Jvm.Cond) (a : Addr) (pv : Int32) (h0 : Heap) (n0 : Nat) (Z0 : n0 ≤ h0.size) (F_a_whenEqual : Fld Z h0 a "com/example/polyphony/polyphony/policy/Operator" "whenEqual" "Z" (.int (0 : Int32))) (q1 : ¬ (pv < (0 : Int32))) (q2 : pv = (0 : Int32)) :
    own_Met l Z (⟨"com/example/polyphony/polyphony/policy/Operator", "holds", "(I)Z"⟩ : MethodName) prog_48_method_6_code 3 (some .boolean) ws ({ frames := 0, cells := 0, slots := 0, locals := 0 } : Room) #[(.ref a), (.int pv)] h0 (fun v h L => v = some (.int 0) ∧ Fr n0 L ∧ h = h0) := by
  refine own_body (plainFor_of_name own_pn_com_example_polyphony_polyphony_policy_Operator) (fun p e s m below meth c s₁ hx hby hml0 hrt hlk hown0 hnm hZ X0 e0 => ?_)
  have N0 := Fr.nil n0
  have hown : s.vm.findClass "com/example/polyphony/polyphony/policy/Operator" = some m.cls := hown0
  have hml : c.maxLocals = 3 := hml0
  refine own_castG (own_ef0 m a pv) ?_
  show own_Goes _ _ _ _ s₁ (mkF m 0 #[.val (.ref a), .val (.int pv), .unset] [])
  refine own_step (fun t k => XS.iloadN X0.here hx rfl (hb hby own_prog_48_method_6_0) rfl k) ?_
  show own_Goes _ _ _ _ s₁ (mkF m 1 #[.val (.ref a), .val (.int pv), .unset] [(.int pv)])
  refine own_step (fun t k => XS.ifYes X0.here hx rfl (pc0 := 1) (pc' := 12) rfl (hb hby own_prog_48_method_6_1) rfl ((if0 _ _).trans (flt (show ¬ (pv < (0 : Int32)) from q1)).2.1) (by decide) (by decide) k) ?_
  show own_Goes _ _ _ _ s₁ (mkF m 12 #[.val (.ref a), .val (.int pv), .unset] [])
  refine own_step (fun t k => XS.iloadN X0.here hx rfl (hb hby own_prog_48_method_6_12) rfl k) ?_
  show own_Goes _ _ _ _ s₁ (mkF m 13 #[.val (.ref a), .val (.int pv), .unset] [(.int pv)])
  refine own_step (fun t k => XS.ifNo X0.here hx rfl (hb hby own_prog_48_method_6_13) rfl ((if0 _ _).trans (teq (show pv = (0 : Int32) from q2)).2) k) ?_
  show own_Goes _ _ _ _ s₁ (mkF m 16 #[.val (.ref a), .val (.int pv), .unset] [])
  refine own_step (fun t k => XS.aloadN X0.here hx rfl (hb hby own_prog_48_method_6_16) rfl rfl k) ?_
  show own_Goes _ _ _ _ s₁ (mkF m 17 #[.val (.ref a), .val (.int pv), .unset] [(.ref a)])
  obtain ⟨T1, X1, e1, st1⟩ := getF X0 hx hZ hown (host := "") (Or.inl (hw _ (List.mem_of_getElem? (i := 23) rfl))) Via.refl e0 F_a_whenEqual (g := (mkF m 17 #[.val (.ref a), .val (.int pv), .unset] [(.ref a)])) rfl rfl (hb hby own_prog_48_method_6_17)
  refine own_step st1 ?_
  show own_Goes _ _ _ _ T1 (mkF m 20 #[.val (.ref a), .val (.int pv), .unset] [(.int (0 : Int32))])
  refine own_step (fun t k => XS.istoreN X1.here hx rfl (hb hby own_prog_48_method_6_20) rfl (l' := #[.val (.ref a), .val (.int pv), .val (.int (0 : Int32))]) rfl k) ?_
  show own_Goes _ _ _ _ T1 (mkF m 21 #[.val (.ref a), .val (.int pv), .val (.int (0 : Int32))] [])
  refine own_step (fun t k => XS.goto X1.here hx rfl (pc0 := 21) (pc' := 29) rfl (hb hby own_prog_48_method_6_21) (by decide) (by decide) k) ?_
  show own_Goes _ _ _ _ T1 (mkF m 29 #[.val (.ref a), .val (.int pv), .val (.int (0 : Int32))] [])
  refine own_step (fun t k => XS.iloadN X1.here hx rfl (hb hby own_prog_48_method_6_29) rfl k) ?_
  show own_Goes _ _ _ _ T1 (mkF m 30 #[.val (.ref a), .val (.int pv), .val (.int (0 : Int32))] [(.int (0 : Int32))])
  exact own_retN X1 hx hlk (t := .boolean) hrt (by simp) (hb hby own_prog_48_method_6_30) ⟨rfl, N0, e1⟩ (by decide) (by decide)
set_option maxRecDepth 65536 in
set_option maxHeartbeats 40000000 in
theorem own_holds_z1 (l : Launch) (Z : State) (a0 : Array Value) (hw : ∀ d ∈ tables_1, d.before a0 Z = true) (ws : List Jvm.Cond) (a : Addr) (pv : Int32) (h0 : Heap) (n0 : Nat) (Z0 : n0 ≤ h0.size) (F_a_whenEqual : Fld Z h0 a "com/example/polyphony/polyphony/policy/Operator" "whenEqual" "Z" (.int (1 : Int32))) (q1 : ¬ (pv < (0 : Int32))) (q2 : pv = (0 : Int32)) :
    own_Met l Z (⟨"com/example/polyphony/polyphony/policy/Operator", "holds", "(I)Z"⟩ : MethodName) prog_48_method_6_code 3 (some .boolean) ws ({ frames := 0, cells := 0, slots := 0, locals := 0 } : Room) #[(.ref a), (.int pv)] h0 (fun v h L => v = some (.int 1) ∧ Fr n0 L ∧ h = h0) := by
  refine own_body (plainFor_of_name own_pn_com_example_polyphony_polyphony_policy_Operator) (fun p e s m below meth c s₁ hx hby hml0 hrt hlk hown0 hnm hZ X0 e0 => ?_)
  have N0 := Fr.nil n0
  have hown : s.vm.findClass "com/example/polyphony/polyphony/policy/Operator" = some m.cls := hown0
  have hml : c.maxLocals = 3 := hml0
  refine own_castG (own_ef0 m a pv) ?_
  show own_Goes _ _ _ _ s₁ (mkF m 0 #[.val (.ref a), .val (.int pv), .unset] [])
  refine own_step (fun t k => XS.iloadN X0.here hx rfl (hb hby own_prog_48_method_6_0) rfl k) ?_
  show own_Goes _ _ _ _ s₁ (mkF m 1 #[.val (.ref a), .val (.int pv), .unset] [(.int pv)])
  refine own_step (fun t k => XS.ifYes X0.here hx rfl (pc0 := 1) (pc' := 12) rfl (hb hby own_prog_48_method_6_1) rfl ((if0 _ _).trans (flt (show ¬ (pv < (0 : Int32)) from q1)).2.1) (by decide) (by decide) k) ?_
  show own_Goes _ _ _ _ s₁ (mkF m 12 #[.val (.ref a), .val (.int pv), .unset] [])
  refine own_step (fun t k => XS.iloadN X0.here hx rfl (hb hby own_prog_48_method_6_12) rfl k) ?_
  show own_Goes _ _ _ _ s₁ (mkF m 13 #[.val (.ref a), .val (.int pv), .unset] [(.int pv)])
  refine own_step (fun t k => XS.ifNo X0.here hx rfl (hb hby own_prog_48_method_6_13) rfl ((if0 _ _).trans (teq (show pv = (0 : Int32) from q2)).2) k) ?_
  show own_Goes _ _ _ _ s₁ (mkF m 16 #[.val (.ref a), .val (.int pv), .unset] [])
  refine own_step (fun t k => XS.aloadN X0.here hx rfl (hb hby own_prog_48_method_6_16) rfl rfl k) ?_
  show own_Goes _ _ _ _ s₁ (mkF m 17 #[.val (.ref a), .val (.int pv), .unset] [(.ref a)])
  obtain ⟨T1, X1, e1, st1⟩ := getF X0 hx hZ hown (host := "") (Or.inl (hw _ (List.mem_of_getElem? (i := 23) rfl))) Via.refl e0 F_a_whenEqual (g := (mkF m 17 #[.val (.ref a), .val (.int pv), .unset] [(.ref a)])) rfl rfl (hb hby own_prog_48_method_6_17)
  refine own_step st1 ?_
  show own_Goes _ _ _ _ T1 (mkF m 20 #[.val (.ref a), .val (.int pv), .unset] [(.int (1 : Int32))])
  refine own_step (fun t k => XS.istoreN X1.here hx rfl (hb hby own_prog_48_method_6_20) rfl (l' := #[.val (.ref a), .val (.int pv), .val (.int (1 : Int32))]) rfl k) ?_
  show own_Goes _ _ _ _ T1 (mkF m 21 #[.val (.ref a), .val (.int pv), .val (.int (1 : Int32))] [])
  refine own_step (fun t k => XS.goto X1.here hx rfl (pc0 := 21) (pc' := 29) rfl (hb hby own_prog_48_method_6_21) (by decide) (by decide) k) ?_
  show own_Goes _ _ _ _ T1 (mkF m 29 #[.val (.ref a), .val (.int pv), .val (.int (1 : Int32))] [])
  refine own_step (fun t k => XS.iloadN X1.here hx rfl (hb hby own_prog_48_method_6_29) rfl k) ?_
  show own_Goes _ _ _ _ T1 (mkF m 30 #[.val (.ref a), .val (.int pv), .val (.int (1 : Int32))] [(.int (1 : Int32))])
  exact own_retN X1 hx hlk (t := .boolean) hrt (by simp) (hb hby own_prog_48_method_6_30) ⟨rfl, N0, e1⟩ (by decide) (by decide)
theorem own_prog_48_method_6_24 : decode prog_48_method_6_code 24 = .ok (.aload_n 0, 1) := by decide +kernel
theorem own_prog_48_method_6_25 : decode prog_48_method_6_code 25 = .ok (.getfield 52, 3) := by decide +kernel
theorem own_prog_48_method_6_28 : decode prog_48_method_6_code 28 = .ok (.istore_n 2, 1) := by decide +kernel
set_option maxRecDepth 65536 in
set_option maxHeartbeats 40000000 in
theorem own_holds_p0 (l : Launch) (Z : State) (a0 : Array Value) (hw : ∀ d ∈ tables_1, d.before a0 Z = true) (ws : List Jvm.Cond) (a : Addr) (pv : Int32) (h0 : Heap) (n0 : Nat) (Z0 : n0 ≤ h0.size) (F_a_whenAfter : Fld Z h0 a "com/example/polyphony/polyphony/policy/Operator" "whenAfter" "Z" (.int (0 : Int32))) (q1 : ¬ (pv < (0 : Int32))) (q2 : ¬ (pv = (0 : Int32))) :
    own_Met l Z (⟨"com/example/polyphony/polyphony/policy/Operator", "holds", "(I)Z"⟩ : MethodName) prog_48_method_6_code 3 (some .boolean) ws ({ frames := 0, cells := 0, slots := 0, locals := 0 } : Room) #[(.ref a), (.int pv)] h0 (fun v h L => v = some (.int 0) ∧ Fr n0 L ∧ h = h0) := by
  refine own_body (plainFor_of_name own_pn_com_example_polyphony_polyphony_policy_Operator) (fun p e s m below meth c s₁ hx hby hml0 hrt hlk hown0 hnm hZ X0 e0 => ?_)
  have N0 := Fr.nil n0
  have hown : s.vm.findClass "com/example/polyphony/polyphony/policy/Operator" = some m.cls := hown0
  have hml : c.maxLocals = 3 := hml0
  refine own_castG (own_ef0 m a pv) ?_
  show own_Goes _ _ _ _ s₁ (mkF m 0 #[.val (.ref a), .val (.int pv), .unset] [])
  refine own_step (fun t k => XS.iloadN X0.here hx rfl (hb hby own_prog_48_method_6_0) rfl k) ?_
  show own_Goes _ _ _ _ s₁ (mkF m 1 #[.val (.ref a), .val (.int pv), .unset] [(.int pv)])
  refine own_step (fun t k => XS.ifYes X0.here hx rfl (pc0 := 1) (pc' := 12) rfl (hb hby own_prog_48_method_6_1) rfl ((if0 _ _).trans (flt (show ¬ (pv < (0 : Int32)) from q1)).2.1) (by decide) (by decide) k) ?_
  show own_Goes _ _ _ _ s₁ (mkF m 12 #[.val (.ref a), .val (.int pv), .unset] [])
  refine own_step (fun t k => XS.iloadN X0.here hx rfl (hb hby own_prog_48_method_6_12) rfl k) ?_
  show own_Goes _ _ _ _ s₁ (mkF m 13 #[.val (.ref a), .val (.int pv), .unset] [(.int pv)])
  refine own_step (fun t k => XS.ifYes X0.here hx rfl (pc0 := 13) (pc' := 24) rfl (hb hby own_prog_48_method_6_13) rfl ((if0 _ _).trans (feq (show ¬ (pv = (0 : Int32)) from q2)).2) (by decide) (by decide) k) ?_
  show own_Goes _ _ _ _ s₁ (mkF m 24 #[.val (.ref a), .val (.int pv), .unset] [])
  refine own_step (fun t k => XS.aloadN X0.here hx rfl (hb hby own_prog_48_method_6_24) rfl rfl k) ?_
  show own_Goes _ _ _ _ s₁ (mkF m 25 #[.val (.ref a), .val (.int pv), .unset] [(.ref a)])
  obtain ⟨T1, X1, e1, st1⟩ := getF X0 hx hZ hown (host := "") (Or.inl (hw _ (List.mem_of_getElem? (i := 9) rfl))) Via.refl e0 F_a_whenAfter (g := (mkF m 25 #[.val (.ref a), .val (.int pv), .unset] [(.ref a)])) rfl rfl (hb hby own_prog_48_method_6_25)
  refine own_step st1 ?_
  show own_Goes _ _ _ _ T1 (mkF m 28 #[.val (.ref a), .val (.int pv), .unset] [(.int (0 : Int32))])
  refine own_step (fun t k => XS.istoreN X1.here hx rfl (hb hby own_prog_48_method_6_28) rfl (l' := #[.val (.ref a), .val (.int pv), .val (.int (0 : Int32))]) rfl k) ?_
  show own_Goes _ _ _ _ T1 (mkF m 29 #[.val (.ref a), .val (.int pv), .val (.int (0 : Int32))] [])
  refine own_step (fun t k => XS.iloadN X1.here hx rfl (hb hby own_prog_48_method_6_29) rfl k) ?_
  show own_Goes _ _ _ _ T1 (mkF m 30 #[.val (.ref a), .val (.int pv), .val (.int (0 : Int32))] [(.int (0 : Int32))])
  exact own_retN X1 hx hlk (t := .boolean) hrt (by simp) (hb hby own_prog_48_method_6_30) ⟨rfl, N0, e1⟩ (by decide) (by decide)
set_option maxRecDepth 65536 in
set_option maxHeartbeats 40000000 in
theorem own_holds_p1 (l : Launch) (Z : State) (a0 : Array Value) (hw : ∀ d ∈ tables_1, d.before a0 Z = true) (ws : List Jvm.Cond) (a : Addr) (pv : Int32) (h0 : Heap) (n0 : Nat) (Z0 : n0 ≤ h0.size) (F_a_whenAfter : Fld Z h0 a "com/example/polyphony/polyphony/policy/Operator" "whenAfter" "Z" (.int (1 : Int32))) (q1 : ¬ (pv < (0 : Int32))) (q2 : ¬ (pv = (0 : Int32))) :
    own_Met l Z (⟨"com/example/polyphony/polyphony/policy/Operator", "holds", "(I)Z"⟩ : MethodName) prog_48_method_6_code 3 (some .boolean) ws ({ frames := 0, cells := 0, slots := 0, locals := 0 } : Room) #[(.ref a), (.int pv)] h0 (fun v h L => v = some (.int 1) ∧ Fr n0 L ∧ h = h0) := by
  refine own_body (plainFor_of_name own_pn_com_example_polyphony_polyphony_policy_Operator) (fun p e s m below meth c s₁ hx hby hml0 hrt hlk hown0 hnm hZ X0 e0 => ?_)
  have N0 := Fr.nil n0
  have hown : s.vm.findClass "com/example/polyphony/polyphony/policy/Operator" = some m.cls := hown0
  have hml : c.maxLocals = 3 := hml0
  refine own_castG (own_ef0 m a pv) ?_
  show own_Goes _ _ _ _ s₁ (mkF m 0 #[.val (.ref a), .val (.int pv), .unset] [])
  refine own_step (fun t k => XS.iloadN X0.here hx rfl (hb hby own_prog_48_method_6_0) rfl k) ?_
  show own_Goes _ _ _ _ s₁ (mkF m 1 #[.val (.ref a), .val (.int pv), .unset] [(.int pv)])
  refine own_step (fun t k => XS.ifYes X0.here hx rfl (pc0 := 1) (pc' := 12) rfl (hb hby own_prog_48_method_6_1) rfl ((if0 _ _).trans (flt (show ¬ (pv < (0 : Int32)) from q1)).2.1) (by decide) (by decide) k) ?_
  show own_Goes _ _ _ _ s₁ (mkF m 12 #[.val (.ref a), .val (.int pv), .unset] [])
  refine own_step (fun t k => XS.iloadN X0.here hx rfl (hb hby own_prog_48_method_6_12) rfl k) ?_
  show own_Goes _ _ _ _ s₁ (mkF m 13 #[.val (.ref a), .val (.int pv), .unset] [(.int pv)])
  refine own_step (fun t k => XS.ifYes X0.here hx rfl (pc0 := 13) (pc' := 24) rfl (hb hby own_prog_48_method_6_13) rfl ((if0 _ _).trans (feq (show ¬ (pv = (0 : Int32)) from q2)).2) (by decide) (by decide) k) ?_
  show own_Goes _ _ _ _ s₁ (mkF m 24 #[.val (.ref a), .val (.int pv), .unset] [])
  refine own_step (fun t k => XS.aloadN X0.here hx rfl (hb hby own_prog_48_method_6_24) rfl rfl k) ?_
  show own_Goes _ _ _ _ s₁ (mkF m 25 #[.val (.ref a), .val (.int pv), .unset] [(.ref a)])
  obtain ⟨T1, X1, e1, st1⟩ := getF X0 hx hZ hown (host := "") (Or.inl (hw _ (List.mem_of_getElem? (i := 9) rfl))) Via.refl e0 F_a_whenAfter (g := (mkF m 25 #[.val (.ref a), .val (.int pv), .unset] [(.ref a)])) rfl rfl (hb hby own_prog_48_method_6_25)
  refine own_step st1 ?_
  show own_Goes _ _ _ _ T1 (mkF m 28 #[.val (.ref a), .val (.int pv), .unset] [(.int (1 : Int32))])
  refine own_step (fun t k => XS.istoreN X1.here hx rfl (hb hby own_prog_48_method_6_28) rfl (l' := #[.val (.ref a), .val (.int pv), .val (.int (1 : Int32))]) rfl k) ?_
  show own_Goes _ _ _ _ T1 (mkF m 29 #[.val (.ref a), .val (.int pv), .val (.int (1 : Int32))] [])
  refine own_step (fun t k => XS.iloadN X1.here hx rfl (hb hby own_prog_48_method_6_29) rfl k) ?_
  show own_Goes _ _ _ _ T1 (mkF m 30 #[.val (.ref a), .val (.int pv), .val (.int (1 : Int32))] [(.int (1 : Int32))])
  exact own_retN X1 hx hlk (t := .boolean) hrt (by simp) (hb hby own_prog_48_method_6_30) ⟨rfl, N0, e1⟩ (by decide) (by decide)
theorem own_mod (x : Int32) : ((x &&& (2147483647 : Int32)) - ((x &&& (2147483647 : Int32)) / (6 : Int32)) * (6 : Int32)) = (0 : Int32) ∨ ((x &&& (2147483647 : Int32)) - ((x &&& (2147483647 : Int32)) / (6 : Int32)) * (6 : Int32)) = (1 : Int32) ∨ ((x &&& (2147483647 : Int32)) - ((x &&& (2147483647 : Int32)) / (6 : Int32)) * (6 : Int32)) = (2 : Int32) ∨ ((x &&& (2147483647 : Int32)) - ((x &&& (2147483647 : Int32)) / (6 : Int32)) * (6 : Int32)) = (3 : Int32) ∨ ((x &&& (2147483647 : Int32)) - ((x &&& (2147483647 : Int32)) / (6 : Int32)) * (6 : Int32)) = (4 : Int32) ∨ ((x &&& (2147483647 : Int32)) - ((x &&& (2147483647 : Int32)) / (6 : Int32)) * (6 : Int32)) = (5 : Int32) := by
  rw [irem_eq_mod]
  have h1 := c_mask x (2147483647 : Int32) 31 (by decide) (by decide)
  have h2 := (c_irem (x &&& (2147483647 : Int32)) (6 : Int32) 6 (by decide)).1 (by rw [h1]; omega)
  have h3 : 0 ≤ ((x &&& (2147483647 : Int32)) % (6 : Int32)).toInt ∧ ((x &&& (2147483647 : Int32)) % (6 : Int32)).toInt < 6 := by rw [h2]; omega
  generalize (x &&& (2147483647 : Int32)) % (6 : Int32) = t at *
  have key : ∀ n : Int32, t.toInt = n.toInt → t = n := fun n h => Int32.toInt_inj.mp h
  have e0 : (0 : Int32).toInt = 0 := by decide
  have e1 : (1 : Int32).toInt = 1 := by decide
  have e2 : (2 : Int32).toInt = 2 := by decide
  have e3 : (3 : Int32).toInt = 3 := by decide
  have e4 : (4 : Int32).toInt = 4 := by decide
  have e5 : (5 : Int32).toInt = 5 := by decide
  have q : t.toInt = (0 : Int32).toInt ∨ t.toInt = (1 : Int32).toInt ∨ t.toInt = (2 : Int32).toInt ∨ t.toInt = (3 : Int32).toInt ∨ t.toInt = (4 : Int32).toInt ∨ t.toInt = (5 : Int32).toInt := by omega
  rcases q with h | h | h | h | h | h
  · exact Or.inl (key _ h)
  · exact Or.inr (Or.inl (key _ h))
  · exact Or.inr (Or.inr (Or.inl (key _ h)))
  · exact Or.inr (Or.inr (Or.inr (Or.inl (key _ h))))
  · exact Or.inr (Or.inr (Or.inr (Or.inr (Or.inl (key _ h)))))
  · exact Or.inr (Or.inr (Or.inr (Or.inr (Or.inr (key _ h)))))
theorem own_pn_com_example_polyphony_polyphony_policy_OperatorHoldsPinLaw : plainName "com/example/polyphony/polyphony/policy/OperatorHoldsPinLaw" = true := by first | (simp [plainName, overriddenIn]; done) | decide +kernel
theorem own_ef1 (m : MethodId) (x0 : Int32) (x1 : Int32) : entryFrame m #[(.int x0), (.int x1)] maxLocals = mkF m 0 #[.val (.int x0), .val (.int x1), .unset, .unset, .unset] [] := by first | (simp [entryFrame, mkF, argsToLocals, Value.category, maxLocals]; done) | rfl
theorem own_pd0 : parseMethodDescriptor "(I)Z" = some ⟨[.int], some .boolean⟩ := by decide +kernel
set_option maxRecDepth 65536 in
set_option maxHeartbeats 40000000 in
theorem own_law0n (l : Launch) (Z : State) (a0 : Array Value) (hw : ∀ d ∈ tables_1, d.before a0 Z = true) (ws : List Jvm.Cond) (p1 : Int32) (p2 : Int32) (w_EQUAL : Addr) (h0 : Heap) (n0 : Nat) (Z0 : n0 ≤ h0.size) (S_EQUAL : Sta Z h0 "com/example/polyphony/polyphony/policy/Operator" "EQUAL" "Lcom/example/polyphony/polyphony/policy/Operator;" (.ref w_EQUAL)) (E_w_EQUAL : Exa Z h0 w_EQUAL "com/example/polyphony/polyphony/policy/Operator") (F_w_EQUAL_whenBefore : Fld Z h0 w_EQUAL "com/example/polyphony/polyphony/policy/Operator" "whenBefore" "Z" (.int (0 : Int32))) (F_w_EQUAL_whenEqual : Fld Z h0 w_EQUAL "com/example/polyphony/polyphony/policy/Operator" "whenEqual" "Z" (.int (1 : Int32))) (F_w_EQUAL_whenAfter : Fld Z h0 w_EQUAL "com/example/polyphony/polyphony/policy/Operator" "whenAfter" "Z" (.int (0 : Int32))) (hi : ((p1 &&& (2147483647 : Int32)) - ((p1 &&& (2147483647 : Int32)) / (6 : Int32)) * (6 : Int32)) = (0 : Int32)) (q1 : p2 < (0 : Int32)) (q2 : ¬ (p2 = (0 : Int32))) (q3 : ¬ ((0 : Int32) < p2)) :
    own_Met l Z x code maxLocals ret ws room_1 #[(.int p1), (.int p2)] h0 (fun v h L => v = some (.int 1) ∧ Fr n0 L) := by
  refine own_body (plainFor_of_name own_pn_com_example_polyphony_polyphony_policy_OperatorHoldsPinLaw) (fun p e s m below meth c s₁ hx hby hml0 hrt hlk hown0 hnm hZ X0 e0 => ?_)
  have N0 := Fr.nil n0
  have hown : s.vm.findClass "com/example/polyphony/polyphony/policy/OperatorHoldsPinLaw" = some m.cls := hown0
  have hml : c.maxLocals = 5 := hml0
  refine own_castG (own_ef1 m p1 p2) ?_
  show own_Goes _ _ _ _ s₁ (mkF m 0 #[.val (.int p1), .val (.int p2), .unset, .unset, .unset] [])
  refine own_step (fun t k => XS.iloadN X0.here hx rfl (hb hby at_0) rfl k) ?_
  show own_Goes _ _ _ _ s₁ (mkF m 1 #[.val (.int p1), .val (.int p2), .unset, .unset, .unset] [(.int p1)])
  refine own_step (X0.ldcInt hx hown (mvT hZ (hw _ (List.mem_of_getElem? (i := 0) rfl))) (g := (mkF m 1 #[.val (.int p1), .val (.int p2), .unset, .unset, .unset] [(.int p1)])) rfl (hb hby at_1)) ?_
  show own_Goes _ _ _ _ s₁ (mkF m 3 #[.val (.int p1), .val (.int p2), .unset, .unset, .unset] [(.int (2147483647 : Int32)), (.int p1)])
  refine own_step (fun t k => XS.iand X0.here hx rfl (hb hby at_3) rfl k) ?_
  show own_Goes _ _ _ _ s₁ (mkF m 4 #[.val (.int p1), .val (.int p2), .unset, .unset, .unset] [(.int (p1 &&& (2147483647 : Int32)))])
  refine own_step (fun t k => XS.bipush X0.here hx rfl (hb hby at_4) k) ?_
  show own_Goes _ _ _ _ s₁ (mkF m 6 #[.val (.int p1), .val (.int p2), .unset, .unset, .unset] [(.int (6 : Int32)), (.int (p1 &&& (2147483647 : Int32)))])
  refine own_step (fun t k => XS.irem X0.here hx rfl (hb hby at_6) rfl (by decide) k) ?_
  show own_Goes _ _ _ _ s₁ (mkF m 7 #[.val (.int p1), .val (.int p2), .unset, .unset, .unset] [(.int ((p1 &&& (2147483647 : Int32)) - ((p1 &&& (2147483647 : Int32)) / (6 : Int32)) * (6 : Int32)))])
  rw [hi]
  show own_Goes _ _ _ _ s₁ (mkF m 7 #[.val (.int p1), .val (.int p2), .unset, .unset, .unset] [(.int (0 : Int32))])
  refine own_step (fun t k => XS.istoreN X0.here hx rfl (hb hby at_7) rfl (l' := #[.val (.int p1), .val (.int p2), .val (.int (0 : Int32)), .unset, .unset]) rfl k) ?_
  show own_Goes _ _ _ _ s₁ (mkF m 8 #[.val (.int p1), .val (.int p2), .val (.int (0 : Int32)), .unset, .unset] [])
  refine own_step (fun t k => XS.iloadN X0.here hx rfl (hb hby at_8) rfl k) ?_
  show own_Goes _ _ _ _ s₁ (mkF m 9 #[.val (.int p1), .val (.int p2), .val (.int (0 : Int32)), .unset, .unset] [(.int (0 : Int32))])
  refine own_step (fun t k => XS.ifNo X0.here hx rfl (hb hby at_9) rfl ((if0 _ _).trans (teq (show (0 : Int32) = (0 : Int32) from (by decide))).2) k) ?_
  show own_Goes _ _ _ _ s₁ (mkF m 12 #[.val (.int p1), .val (.int p2), .val (.int (0 : Int32)), .unset, .unset] [])
  obtain ⟨T1, X1, e1, st1⟩ := getS2 X0 hx hZ hown (host := "") (Or.inl (hw _ (List.mem_of_getElem? (i := 1) rfl))) Via.refl e0 S_EQUAL (g := (mkF m 12 #[.val (.int p1), .val (.int p2), .val (.int (0 : Int32)), .unset, .unset] [])) rfl (hb hby at_12)
  refine own_step st1 ?_
  show own_Goes _ _ _ _ T1 (mkF m 15 #[.val (.int p1), .val (.int p2), .val (.int (0 : Int32)), .unset, .unset] [(.ref w_EQUAL)])
  refine own_step (fun t k => XS.astoreN X1.here hx rfl (hb hby at_15) rfl rfl (l' := #[.val (.int p1), .val (.int p2), .val (.int (0 : Int32)), .val (.ref w_EQUAL), .unset]) rfl k) ?_
  show own_Goes _ _ _ _ T1 (mkF m 16 #[.val (.int p1), .val (.int p2), .val (.int (0 : Int32)), .val (.ref w_EQUAL), .unset] [])
  refine own_step (fun t k => XS.iloadN X1.here hx rfl (hb hby at_16) rfl k) ?_
  show own_Goes _ _ _ _ T1 (mkF m 17 #[.val (.int p1), .val (.int p2), .val (.int (0 : Int32)), .val (.ref w_EQUAL), .unset] [(.int p2)])
  refine own_step (fun t k => XS.ifYes X1.here hx rfl (pc0 := 17) (pc' := 24) rfl (hb hby at_17) rfl ((if0 _ _).trans (feq (show ¬ (p2 = (0 : Int32)) from q2)).2) (by decide) (by decide) k) ?_
  show own_Goes _ _ _ _ T1 (mkF m 24 #[.val (.int p1), .val (.int p2), .val (.int (0 : Int32)), .val (.ref w_EQUAL), .unset] [])
  refine own_step (fun t k => XS.iconst X1.here hx rfl (hb hby at_24) k) ?_
  show own_Goes _ _ _ _ T1 (mkF m 25 #[.val (.int p1), .val (.int p2), .val (.int (0 : Int32)), .val (.ref w_EQUAL), .unset] [(.int (0 : Int32))])
  refine own_step (fun t k => XS.istore X1.here hx rfl (hb hby at_25) rfl (l' := #[.val (.int p1), .val (.int p2), .val (.int (0 : Int32)), .val (.ref w_EQUAL), .val (.int (0 : Int32))]) rfl k) ?_
  show own_Goes _ _ _ _ T1 (mkF m 27 #[.val (.int p1), .val (.int p2), .val (.int (0 : Int32)), .val (.ref w_EQUAL), .val (.int (0 : Int32))] [])
  refine own_step (fun t k => XS.goto X1.here hx rfl (pc0 := 27) (pc' := 137) rfl (hb hby at_27) (by decide) (by decide) k) ?_
  show own_Goes _ _ _ _ T1 (mkF m 137 #[.val (.int p1), .val (.int p2), .val (.int (0 : Int32)), .val (.ref w_EQUAL), .val (.int (0 : Int32))] [])
  refine own_step (fun t k => XS.aloadN X1.here hx rfl (hb hby at_137) rfl rfl k) ?_
  show own_Goes _ _ _ _ T1 (mkF m 138 #[.val (.int p1), .val (.int p2), .val (.int (0 : Int32)), .val (.ref w_EQUAL), .val (.int (0 : Int32))] [(.ref w_EQUAL)])
  refine own_step (fun t k => XS.iloadN X1.here hx rfl (hb hby at_138) rfl k) ?_
  show own_Goes _ _ _ _ T1 (mkF m 139 #[.val (.int p1), .val (.int p2), .val (.int (0 : Int32)), .val (.ref w_EQUAL), .val (.int (0 : Int32))] [(.int p2), (.ref w_EQUAL)])
  refine own_callV X1 hx hZ (y := (⟨"com/example/polyphony/polyphony/policy/Operator", "holds", "(I)Z"⟩ : MethodName)) (z := (⟨"com/example/polyphony/polyphony/policy/Operator", "holds", "(I)Z"⟩ : MethodName)) hown (hw _ (List.mem_of_getElem? (i := 4) rfl)) (hw _ (List.mem_of_getElem? (i := 5) rfl)) (notFace_of_selects (args := #[]) (mvT hZ (hw _ (List.mem_of_getElem? (i := 7) rfl)))) (hw _ (List.mem_of_getElem? (i := 7) rfl)) (hw _ (List.mem_of_getElem? (i := 6) rfl)) (hw _ (List.mem_of_getElem? (i := 8) rfl)) (hw _ (List.mem_of_getElem? (i := 2) rfl)) (by decide) 0 E_w_EQUAL [(.int p2)] [] (own_holds_n0 l Z a0 hw [] w_EQUAL p2 h0 n0 Z0 F_w_EQUAL_whenBefore q1) e1 (by decide) (by decide) (by decide) (by decide) (g := (mkF m 139 #[.val (.int p1), .val (.int p2), .val (.int (0 : Int32)), .val (.ref w_EQUAL), .val (.int (0 : Int32))] [(.int p2), (.ref w_EQUAL)])) rfl (by rw [hml]; rfl) own_pd0 rfl rfl (by show 2 * 0 + _ ≤ _; exact Nat.le_of_eq rfl) (hb hby at_139) ?_
  intro T2 v2 L2 X2 hQ2
  obtain ⟨rfl, N2q, e2⟩ := hQ2
  have N2 := Fr.app N0 N2q
  show own_Goes _ _ _ _ T2 (mkF m 142 #[.val (.int p1), .val (.int p2), .val (.int (0 : Int32)), .val (.ref w_EQUAL), .val (.int (0 : Int32))] [(.int (0 : Int32))])
  refine own_step (fun t k => XS.iload X2.here hx rfl (hb hby at_142) rfl k) ?_
  show own_Goes _ _ _ _ T2 (mkF m 144 #[.val (.int p1), .val (.int p2), .val (.int (0 : Int32)), .val (.ref w_EQUAL), .val (.int (0 : Int32))] [(.int (0 : Int32)), (.int (0 : Int32))])
  refine own_step (fun t k => XS.icmpNo X2.here hx rfl (hb hby at_144) rfl (teq (show (0 : Int32) = (0 : Int32) from (by decide))).2 k) ?_
  show own_Goes _ _ _ _ T2 (mkF m 147 #[.val (.int p1), .val (.int p2), .val (.int (0 : Int32)), .val (.ref w_EQUAL), .val (.int (0 : Int32))] [])
  refine own_step (fun t k => XS.iconst X2.here hx rfl (hb hby at_147) k) ?_
  show own_Goes _ _ _ _ T2 (mkF m 148 #[.val (.int p1), .val (.int p2), .val (.int (0 : Int32)), .val (.ref w_EQUAL), .val (.int (0 : Int32))] [(.int (1 : Int32))])
  refine own_step (fun t k => XS.goto X2.here hx rfl (pc0 := 148) (pc' := 152) rfl (hb hby at_148) (by decide) (by decide) k) ?_
  show own_Goes _ _ _ _ T2 (mkF m 152 #[.val (.int p1), .val (.int p2), .val (.int (0 : Int32)), .val (.ref w_EQUAL), .val (.int (0 : Int32))] [(.int (1 : Int32))])
  exact own_retN X2 hx hlk (t := .boolean) hrt (by simp) (hb hby at_152) ⟨rfl, N2⟩ (by decide) (by decide)
set_option maxRecDepth 65536 in
set_option maxHeartbeats 40000000 in
theorem own_law0z (l : Launch) (Z : State) (a0 : Array Value) (hw : ∀ d ∈ tables_1, d.before a0 Z = true) (ws : List Jvm.Cond) (p1 : Int32) (p2 : Int32) (w_EQUAL : Addr) (h0 : Heap) (n0 : Nat) (Z0 : n0 ≤ h0.size) (S_EQUAL : Sta Z h0 "com/example/polyphony/polyphony/policy/Operator" "EQUAL" "Lcom/example/polyphony/polyphony/policy/Operator;" (.ref w_EQUAL)) (E_w_EQUAL : Exa Z h0 w_EQUAL "com/example/polyphony/polyphony/policy/Operator") (F_w_EQUAL_whenBefore : Fld Z h0 w_EQUAL "com/example/polyphony/polyphony/policy/Operator" "whenBefore" "Z" (.int (0 : Int32))) (F_w_EQUAL_whenEqual : Fld Z h0 w_EQUAL "com/example/polyphony/polyphony/policy/Operator" "whenEqual" "Z" (.int (1 : Int32))) (F_w_EQUAL_whenAfter : Fld Z h0 w_EQUAL "com/example/polyphony/polyphony/policy/Operator" "whenAfter" "Z" (.int (0 : Int32))) (hi : ((p1 &&& (2147483647 : Int32)) - ((p1 &&& (2147483647 : Int32)) / (6 : Int32)) * (6 : Int32)) = (0 : Int32)) (q1 : ¬ (p2 < (0 : Int32))) (q2 : p2 = (0 : Int32)) (q3 : ¬ ((0 : Int32) < p2)) :
    own_Met l Z x code maxLocals ret ws room_1 #[(.int p1), (.int p2)] h0 (fun v h L => v = some (.int 1) ∧ Fr n0 L) := by
  refine own_body (plainFor_of_name own_pn_com_example_polyphony_polyphony_policy_OperatorHoldsPinLaw) (fun p e s m below meth c s₁ hx hby hml0 hrt hlk hown0 hnm hZ X0 e0 => ?_)
  have N0 := Fr.nil n0
  have hown : s.vm.findClass "com/example/polyphony/polyphony/policy/OperatorHoldsPinLaw" = some m.cls := hown0
  have hml : c.maxLocals = 5 := hml0
  refine own_castG (own_ef1 m p1 p2) ?_
  show own_Goes _ _ _ _ s₁ (mkF m 0 #[.val (.int p1), .val (.int p2), .unset, .unset, .unset] [])
  refine own_step (fun t k => XS.iloadN X0.here hx rfl (hb hby at_0) rfl k) ?_
  show own_Goes _ _ _ _ s₁ (mkF m 1 #[.val (.int p1), .val (.int p2), .unset, .unset, .unset] [(.int p1)])
  refine own_step (X0.ldcInt hx hown (mvT hZ (hw _ (List.mem_of_getElem? (i := 0) rfl))) (g := (mkF m 1 #[.val (.int p1), .val (.int p2), .unset, .unset, .unset] [(.int p1)])) rfl (hb hby at_1)) ?_
  show own_Goes _ _ _ _ s₁ (mkF m 3 #[.val (.int p1), .val (.int p2), .unset, .unset, .unset] [(.int (2147483647 : Int32)), (.int p1)])
  refine own_step (fun t k => XS.iand X0.here hx rfl (hb hby at_3) rfl k) ?_
  show own_Goes _ _ _ _ s₁ (mkF m 4 #[.val (.int p1), .val (.int p2), .unset, .unset, .unset] [(.int (p1 &&& (2147483647 : Int32)))])
  refine own_step (fun t k => XS.bipush X0.here hx rfl (hb hby at_4) k) ?_
  show own_Goes _ _ _ _ s₁ (mkF m 6 #[.val (.int p1), .val (.int p2), .unset, .unset, .unset] [(.int (6 : Int32)), (.int (p1 &&& (2147483647 : Int32)))])
  refine own_step (fun t k => XS.irem X0.here hx rfl (hb hby at_6) rfl (by decide) k) ?_
  show own_Goes _ _ _ _ s₁ (mkF m 7 #[.val (.int p1), .val (.int p2), .unset, .unset, .unset] [(.int ((p1 &&& (2147483647 : Int32)) - ((p1 &&& (2147483647 : Int32)) / (6 : Int32)) * (6 : Int32)))])
  rw [hi]
  show own_Goes _ _ _ _ s₁ (mkF m 7 #[.val (.int p1), .val (.int p2), .unset, .unset, .unset] [(.int (0 : Int32))])
  refine own_step (fun t k => XS.istoreN X0.here hx rfl (hb hby at_7) rfl (l' := #[.val (.int p1), .val (.int p2), .val (.int (0 : Int32)), .unset, .unset]) rfl k) ?_
  show own_Goes _ _ _ _ s₁ (mkF m 8 #[.val (.int p1), .val (.int p2), .val (.int (0 : Int32)), .unset, .unset] [])
  refine own_step (fun t k => XS.iloadN X0.here hx rfl (hb hby at_8) rfl k) ?_
  show own_Goes _ _ _ _ s₁ (mkF m 9 #[.val (.int p1), .val (.int p2), .val (.int (0 : Int32)), .unset, .unset] [(.int (0 : Int32))])
  refine own_step (fun t k => XS.ifNo X0.here hx rfl (hb hby at_9) rfl ((if0 _ _).trans (teq (show (0 : Int32) = (0 : Int32) from (by decide))).2) k) ?_
  show own_Goes _ _ _ _ s₁ (mkF m 12 #[.val (.int p1), .val (.int p2), .val (.int (0 : Int32)), .unset, .unset] [])
  obtain ⟨T1, X1, e1, st1⟩ := getS2 X0 hx hZ hown (host := "") (Or.inl (hw _ (List.mem_of_getElem? (i := 1) rfl))) Via.refl e0 S_EQUAL (g := (mkF m 12 #[.val (.int p1), .val (.int p2), .val (.int (0 : Int32)), .unset, .unset] [])) rfl (hb hby at_12)
  refine own_step st1 ?_
  show own_Goes _ _ _ _ T1 (mkF m 15 #[.val (.int p1), .val (.int p2), .val (.int (0 : Int32)), .unset, .unset] [(.ref w_EQUAL)])
  refine own_step (fun t k => XS.astoreN X1.here hx rfl (hb hby at_15) rfl rfl (l' := #[.val (.int p1), .val (.int p2), .val (.int (0 : Int32)), .val (.ref w_EQUAL), .unset]) rfl k) ?_
  show own_Goes _ _ _ _ T1 (mkF m 16 #[.val (.int p1), .val (.int p2), .val (.int (0 : Int32)), .val (.ref w_EQUAL), .unset] [])
  refine own_step (fun t k => XS.iloadN X1.here hx rfl (hb hby at_16) rfl k) ?_
  show own_Goes _ _ _ _ T1 (mkF m 17 #[.val (.int p1), .val (.int p2), .val (.int (0 : Int32)), .val (.ref w_EQUAL), .unset] [(.int p2)])
  refine own_step (fun t k => XS.ifNo X1.here hx rfl (hb hby at_17) rfl ((if0 _ _).trans (teq (show p2 = (0 : Int32) from q2)).2) k) ?_
  show own_Goes _ _ _ _ T1 (mkF m 20 #[.val (.int p1), .val (.int p2), .val (.int (0 : Int32)), .val (.ref w_EQUAL), .unset] [])
  refine own_step (fun t k => XS.iconst X1.here hx rfl (hb hby at_20) k) ?_
  show own_Goes _ _ _ _ T1 (mkF m 21 #[.val (.int p1), .val (.int p2), .val (.int (0 : Int32)), .val (.ref w_EQUAL), .unset] [(.int (1 : Int32))])
  refine own_step (fun t k => XS.goto X1.here hx rfl (pc0 := 21) (pc' := 25) rfl (hb hby at_21) (by decide) (by decide) k) ?_
  show own_Goes _ _ _ _ T1 (mkF m 25 #[.val (.int p1), .val (.int p2), .val (.int (0 : Int32)), .val (.ref w_EQUAL), .unset] [(.int (1 : Int32))])
  refine own_step (fun t k => XS.istore X1.here hx rfl (hb hby at_25) rfl (l' := #[.val (.int p1), .val (.int p2), .val (.int (0 : Int32)), .val (.ref w_EQUAL), .val (.int (1 : Int32))]) rfl k) ?_
  show own_Goes _ _ _ _ T1 (mkF m 27 #[.val (.int p1), .val (.int p2), .val (.int (0 : Int32)), .val (.ref w_EQUAL), .val (.int (1 : Int32))] [])
  refine own_step (fun t k => XS.goto X1.here hx rfl (pc0 := 27) (pc' := 137) rfl (hb hby at_27) (by decide) (by decide) k) ?_
  show own_Goes _ _ _ _ T1 (mkF m 137 #[.val (.int p1), .val (.int p2), .val (.int (0 : Int32)), .val (.ref w_EQUAL), .val (.int (1 : Int32))] [])
  refine own_step (fun t k => XS.aloadN X1.here hx rfl (hb hby at_137) rfl rfl k) ?_
  show own_Goes _ _ _ _ T1 (mkF m 138 #[.val (.int p1), .val (.int p2), .val (.int (0 : Int32)), .val (.ref w_EQUAL), .val (.int (1 : Int32))] [(.ref w_EQUAL)])
  refine own_step (fun t k => XS.iloadN X1.here hx rfl (hb hby at_138) rfl k) ?_
  show own_Goes _ _ _ _ T1 (mkF m 139 #[.val (.int p1), .val (.int p2), .val (.int (0 : Int32)), .val (.ref w_EQUAL), .val (.int (1 : Int32))] [(.int p2), (.ref w_EQUAL)])
  refine own_callV X1 hx hZ (y := (⟨"com/example/polyphony/polyphony/policy/Operator", "holds", "(I)Z"⟩ : MethodName)) (z := (⟨"com/example/polyphony/polyphony/policy/Operator", "holds", "(I)Z"⟩ : MethodName)) hown (hw _ (List.mem_of_getElem? (i := 4) rfl)) (hw _ (List.mem_of_getElem? (i := 5) rfl)) (notFace_of_selects (args := #[]) (mvT hZ (hw _ (List.mem_of_getElem? (i := 7) rfl)))) (hw _ (List.mem_of_getElem? (i := 7) rfl)) (hw _ (List.mem_of_getElem? (i := 6) rfl)) (hw _ (List.mem_of_getElem? (i := 8) rfl)) (hw _ (List.mem_of_getElem? (i := 2) rfl)) (by decide) 0 E_w_EQUAL [(.int p2)] [] (own_holds_z1 l Z a0 hw [] w_EQUAL p2 h0 n0 Z0 F_w_EQUAL_whenEqual q1 q2) e1 (by decide) (by decide) (by decide) (by decide) (g := (mkF m 139 #[.val (.int p1), .val (.int p2), .val (.int (0 : Int32)), .val (.ref w_EQUAL), .val (.int (1 : Int32))] [(.int p2), (.ref w_EQUAL)])) rfl (by rw [hml]; rfl) own_pd0 rfl rfl (by show 2 * 0 + _ ≤ _; exact Nat.le_of_eq rfl) (hb hby at_139) ?_
  intro T2 v2 L2 X2 hQ2
  obtain ⟨rfl, N2q, e2⟩ := hQ2
  have N2 := Fr.app N0 N2q
  show own_Goes _ _ _ _ T2 (mkF m 142 #[.val (.int p1), .val (.int p2), .val (.int (0 : Int32)), .val (.ref w_EQUAL), .val (.int (1 : Int32))] [(.int (1 : Int32))])
  refine own_step (fun t k => XS.iload X2.here hx rfl (hb hby at_142) rfl k) ?_
  show own_Goes _ _ _ _ T2 (mkF m 144 #[.val (.int p1), .val (.int p2), .val (.int (0 : Int32)), .val (.ref w_EQUAL), .val (.int (1 : Int32))] [(.int (1 : Int32)), (.int (1 : Int32))])
  refine own_step (fun t k => XS.icmpNo X2.here hx rfl (hb hby at_144) rfl (teq (show (1 : Int32) = (1 : Int32) from (by decide))).2 k) ?_
  show own_Goes _ _ _ _ T2 (mkF m 147 #[.val (.int p1), .val (.int p2), .val (.int (0 : Int32)), .val (.ref w_EQUAL), .val (.int (1 : Int32))] [])
  refine own_step (fun t k => XS.iconst X2.here hx rfl (hb hby at_147) k) ?_
  show own_Goes _ _ _ _ T2 (mkF m 148 #[.val (.int p1), .val (.int p2), .val (.int (0 : Int32)), .val (.ref w_EQUAL), .val (.int (1 : Int32))] [(.int (1 : Int32))])
  refine own_step (fun t k => XS.goto X2.here hx rfl (pc0 := 148) (pc' := 152) rfl (hb hby at_148) (by decide) (by decide) k) ?_
  show own_Goes _ _ _ _ T2 (mkF m 152 #[.val (.int p1), .val (.int p2), .val (.int (0 : Int32)), .val (.ref w_EQUAL), .val (.int (1 : Int32))] [(.int (1 : Int32))])
  exact own_retN X2 hx hlk (t := .boolean) hrt (by simp) (hb hby at_152) ⟨rfl, N2⟩ (by decide) (by decide)
set_option maxRecDepth 65536 in
set_option maxHeartbeats 40000000 in
theorem own_law0p (l : Launch) (Z : State) (a0 : Array Value) (hw : ∀ d ∈ tables_1, d.before a0 Z = true) (ws : List Jvm.Cond) (p1 : Int32) (p2 : Int32) (w_EQUAL : Addr) (h0 : Heap) (n0 : Nat) (Z0 : n0 ≤ h0.size) (S_EQUAL : Sta Z h0 "com/example/polyphony/polyphony/policy/Operator" "EQUAL" "Lcom/example/polyphony/polyphony/policy/Operator;" (.ref w_EQUAL)) (E_w_EQUAL : Exa Z h0 w_EQUAL "com/example/polyphony/polyphony/policy/Operator") (F_w_EQUAL_whenBefore : Fld Z h0 w_EQUAL "com/example/polyphony/polyphony/policy/Operator" "whenBefore" "Z" (.int (0 : Int32))) (F_w_EQUAL_whenEqual : Fld Z h0 w_EQUAL "com/example/polyphony/polyphony/policy/Operator" "whenEqual" "Z" (.int (1 : Int32))) (F_w_EQUAL_whenAfter : Fld Z h0 w_EQUAL "com/example/polyphony/polyphony/policy/Operator" "whenAfter" "Z" (.int (0 : Int32))) (hi : ((p1 &&& (2147483647 : Int32)) - ((p1 &&& (2147483647 : Int32)) / (6 : Int32)) * (6 : Int32)) = (0 : Int32)) (q1 : ¬ (p2 < (0 : Int32))) (q2 : ¬ (p2 = (0 : Int32))) (q3 : (0 : Int32) < p2) :
    own_Met l Z x code maxLocals ret ws room_1 #[(.int p1), (.int p2)] h0 (fun v h L => v = some (.int 1) ∧ Fr n0 L) := by
  refine own_body (plainFor_of_name own_pn_com_example_polyphony_polyphony_policy_OperatorHoldsPinLaw) (fun p e s m below meth c s₁ hx hby hml0 hrt hlk hown0 hnm hZ X0 e0 => ?_)
  have N0 := Fr.nil n0
  have hown : s.vm.findClass "com/example/polyphony/polyphony/policy/OperatorHoldsPinLaw" = some m.cls := hown0
  have hml : c.maxLocals = 5 := hml0
  refine own_castG (own_ef1 m p1 p2) ?_
  show own_Goes _ _ _ _ s₁ (mkF m 0 #[.val (.int p1), .val (.int p2), .unset, .unset, .unset] [])
  refine own_step (fun t k => XS.iloadN X0.here hx rfl (hb hby at_0) rfl k) ?_
  show own_Goes _ _ _ _ s₁ (mkF m 1 #[.val (.int p1), .val (.int p2), .unset, .unset, .unset] [(.int p1)])
  refine own_step (X0.ldcInt hx hown (mvT hZ (hw _ (List.mem_of_getElem? (i := 0) rfl))) (g := (mkF m 1 #[.val (.int p1), .val (.int p2), .unset, .unset, .unset] [(.int p1)])) rfl (hb hby at_1)) ?_
  show own_Goes _ _ _ _ s₁ (mkF m 3 #[.val (.int p1), .val (.int p2), .unset, .unset, .unset] [(.int (2147483647 : Int32)), (.int p1)])
  refine own_step (fun t k => XS.iand X0.here hx rfl (hb hby at_3) rfl k) ?_
  show own_Goes _ _ _ _ s₁ (mkF m 4 #[.val (.int p1), .val (.int p2), .unset, .unset, .unset] [(.int (p1 &&& (2147483647 : Int32)))])
  refine own_step (fun t k => XS.bipush X0.here hx rfl (hb hby at_4) k) ?_
  show own_Goes _ _ _ _ s₁ (mkF m 6 #[.val (.int p1), .val (.int p2), .unset, .unset, .unset] [(.int (6 : Int32)), (.int (p1 &&& (2147483647 : Int32)))])
  refine own_step (fun t k => XS.irem X0.here hx rfl (hb hby at_6) rfl (by decide) k) ?_
  show own_Goes _ _ _ _ s₁ (mkF m 7 #[.val (.int p1), .val (.int p2), .unset, .unset, .unset] [(.int ((p1 &&& (2147483647 : Int32)) - ((p1 &&& (2147483647 : Int32)) / (6 : Int32)) * (6 : Int32)))])
  rw [hi]
  show own_Goes _ _ _ _ s₁ (mkF m 7 #[.val (.int p1), .val (.int p2), .unset, .unset, .unset] [(.int (0 : Int32))])
  refine own_step (fun t k => XS.istoreN X0.here hx rfl (hb hby at_7) rfl (l' := #[.val (.int p1), .val (.int p2), .val (.int (0 : Int32)), .unset, .unset]) rfl k) ?_
  show own_Goes _ _ _ _ s₁ (mkF m 8 #[.val (.int p1), .val (.int p2), .val (.int (0 : Int32)), .unset, .unset] [])
  refine own_step (fun t k => XS.iloadN X0.here hx rfl (hb hby at_8) rfl k) ?_
  show own_Goes _ _ _ _ s₁ (mkF m 9 #[.val (.int p1), .val (.int p2), .val (.int (0 : Int32)), .unset, .unset] [(.int (0 : Int32))])
  refine own_step (fun t k => XS.ifNo X0.here hx rfl (hb hby at_9) rfl ((if0 _ _).trans (teq (show (0 : Int32) = (0 : Int32) from (by decide))).2) k) ?_
  show own_Goes _ _ _ _ s₁ (mkF m 12 #[.val (.int p1), .val (.int p2), .val (.int (0 : Int32)), .unset, .unset] [])
  obtain ⟨T1, X1, e1, st1⟩ := getS2 X0 hx hZ hown (host := "") (Or.inl (hw _ (List.mem_of_getElem? (i := 1) rfl))) Via.refl e0 S_EQUAL (g := (mkF m 12 #[.val (.int p1), .val (.int p2), .val (.int (0 : Int32)), .unset, .unset] [])) rfl (hb hby at_12)
  refine own_step st1 ?_
  show own_Goes _ _ _ _ T1 (mkF m 15 #[.val (.int p1), .val (.int p2), .val (.int (0 : Int32)), .unset, .unset] [(.ref w_EQUAL)])
  refine own_step (fun t k => XS.astoreN X1.here hx rfl (hb hby at_15) rfl rfl (l' := #[.val (.int p1), .val (.int p2), .val (.int (0 : Int32)), .val (.ref w_EQUAL), .unset]) rfl k) ?_
  show own_Goes _ _ _ _ T1 (mkF m 16 #[.val (.int p1), .val (.int p2), .val (.int (0 : Int32)), .val (.ref w_EQUAL), .unset] [])
  refine own_step (fun t k => XS.iloadN X1.here hx rfl (hb hby at_16) rfl k) ?_
  show own_Goes _ _ _ _ T1 (mkF m 17 #[.val (.int p1), .val (.int p2), .val (.int (0 : Int32)), .val (.ref w_EQUAL), .unset] [(.int p2)])
  refine own_step (fun t k => XS.ifYes X1.here hx rfl (pc0 := 17) (pc' := 24) rfl (hb hby at_17) rfl ((if0 _ _).trans (feq (show ¬ (p2 = (0 : Int32)) from q2)).2) (by decide) (by decide) k) ?_
  show own_Goes _ _ _ _ T1 (mkF m 24 #[.val (.int p1), .val (.int p2), .val (.int (0 : Int32)), .val (.ref w_EQUAL), .unset] [])
  refine own_step (fun t k => XS.iconst X1.here hx rfl (hb hby at_24) k) ?_
  show own_Goes _ _ _ _ T1 (mkF m 25 #[.val (.int p1), .val (.int p2), .val (.int (0 : Int32)), .val (.ref w_EQUAL), .unset] [(.int (0 : Int32))])
  refine own_step (fun t k => XS.istore X1.here hx rfl (hb hby at_25) rfl (l' := #[.val (.int p1), .val (.int p2), .val (.int (0 : Int32)), .val (.ref w_EQUAL), .val (.int (0 : Int32))]) rfl k) ?_
  show own_Goes _ _ _ _ T1 (mkF m 27 #[.val (.int p1), .val (.int p2), .val (.int (0 : Int32)), .val (.ref w_EQUAL), .val (.int (0 : Int32))] [])
  refine own_step (fun t k => XS.goto X1.here hx rfl (pc0 := 27) (pc' := 137) rfl (hb hby at_27) (by decide) (by decide) k) ?_
  show own_Goes _ _ _ _ T1 (mkF m 137 #[.val (.int p1), .val (.int p2), .val (.int (0 : Int32)), .val (.ref w_EQUAL), .val (.int (0 : Int32))] [])
  refine own_step (fun t k => XS.aloadN X1.here hx rfl (hb hby at_137) rfl rfl k) ?_
  show own_Goes _ _ _ _ T1 (mkF m 138 #[.val (.int p1), .val (.int p2), .val (.int (0 : Int32)), .val (.ref w_EQUAL), .val (.int (0 : Int32))] [(.ref w_EQUAL)])
  refine own_step (fun t k => XS.iloadN X1.here hx rfl (hb hby at_138) rfl k) ?_
  show own_Goes _ _ _ _ T1 (mkF m 139 #[.val (.int p1), .val (.int p2), .val (.int (0 : Int32)), .val (.ref w_EQUAL), .val (.int (0 : Int32))] [(.int p2), (.ref w_EQUAL)])
  refine own_callV X1 hx hZ (y := (⟨"com/example/polyphony/polyphony/policy/Operator", "holds", "(I)Z"⟩ : MethodName)) (z := (⟨"com/example/polyphony/polyphony/policy/Operator", "holds", "(I)Z"⟩ : MethodName)) hown (hw _ (List.mem_of_getElem? (i := 4) rfl)) (hw _ (List.mem_of_getElem? (i := 5) rfl)) (notFace_of_selects (args := #[]) (mvT hZ (hw _ (List.mem_of_getElem? (i := 7) rfl)))) (hw _ (List.mem_of_getElem? (i := 7) rfl)) (hw _ (List.mem_of_getElem? (i := 6) rfl)) (hw _ (List.mem_of_getElem? (i := 8) rfl)) (hw _ (List.mem_of_getElem? (i := 2) rfl)) (by decide) 0 E_w_EQUAL [(.int p2)] [] (own_holds_p0 l Z a0 hw [] w_EQUAL p2 h0 n0 Z0 F_w_EQUAL_whenAfter q1 q2) e1 (by decide) (by decide) (by decide) (by decide) (g := (mkF m 139 #[.val (.int p1), .val (.int p2), .val (.int (0 : Int32)), .val (.ref w_EQUAL), .val (.int (0 : Int32))] [(.int p2), (.ref w_EQUAL)])) rfl (by rw [hml]; rfl) own_pd0 rfl rfl (by show 2 * 0 + _ ≤ _; exact Nat.le_of_eq rfl) (hb hby at_139) ?_
  intro T2 v2 L2 X2 hQ2
  obtain ⟨rfl, N2q, e2⟩ := hQ2
  have N2 := Fr.app N0 N2q
  show own_Goes _ _ _ _ T2 (mkF m 142 #[.val (.int p1), .val (.int p2), .val (.int (0 : Int32)), .val (.ref w_EQUAL), .val (.int (0 : Int32))] [(.int (0 : Int32))])
  refine own_step (fun t k => XS.iload X2.here hx rfl (hb hby at_142) rfl k) ?_
  show own_Goes _ _ _ _ T2 (mkF m 144 #[.val (.int p1), .val (.int p2), .val (.int (0 : Int32)), .val (.ref w_EQUAL), .val (.int (0 : Int32))] [(.int (0 : Int32)), (.int (0 : Int32))])
  refine own_step (fun t k => XS.icmpNo X2.here hx rfl (hb hby at_144) rfl (teq (show (0 : Int32) = (0 : Int32) from (by decide))).2 k) ?_
  show own_Goes _ _ _ _ T2 (mkF m 147 #[.val (.int p1), .val (.int p2), .val (.int (0 : Int32)), .val (.ref w_EQUAL), .val (.int (0 : Int32))] [])
  refine own_step (fun t k => XS.iconst X2.here hx rfl (hb hby at_147) k) ?_
  show own_Goes _ _ _ _ T2 (mkF m 148 #[.val (.int p1), .val (.int p2), .val (.int (0 : Int32)), .val (.ref w_EQUAL), .val (.int (0 : Int32))] [(.int (1 : Int32))])
  refine own_step (fun t k => XS.goto X2.here hx rfl (pc0 := 148) (pc' := 152) rfl (hb hby at_148) (by decide) (by decide) k) ?_
  show own_Goes _ _ _ _ T2 (mkF m 152 #[.val (.int p1), .val (.int p2), .val (.int (0 : Int32)), .val (.ref w_EQUAL), .val (.int (0 : Int32))] [(.int (1 : Int32))])
  exact own_retN X2 hx hlk (t := .boolean) hrt (by simp) (hb hby at_152) ⟨rfl, N2⟩ (by decide) (by decide)
set_option maxRecDepth 65536 in
set_option maxHeartbeats 40000000 in
theorem own_law1n (l : Launch) (Z : State) (a0 : Array Value) (hw : ∀ d ∈ tables_1, d.before a0 Z = true) (ws : List Jvm.Cond) (p1 : Int32) (p2 : Int32) (w_NOT_EQUAL : Addr) (h0 : Heap) (n0 : Nat) (Z0 : n0 ≤ h0.size) (S_NOT_EQUAL : Sta Z h0 "com/example/polyphony/polyphony/policy/Operator" "NOT_EQUAL" "Lcom/example/polyphony/polyphony/policy/Operator;" (.ref w_NOT_EQUAL)) (E_w_NOT_EQUAL : Exa Z h0 w_NOT_EQUAL "com/example/polyphony/polyphony/policy/Operator") (F_w_NOT_EQUAL_whenBefore : Fld Z h0 w_NOT_EQUAL "com/example/polyphony/polyphony/policy/Operator" "whenBefore" "Z" (.int (1 : Int32))) (F_w_NOT_EQUAL_whenEqual : Fld Z h0 w_NOT_EQUAL "com/example/polyphony/polyphony/policy/Operator" "whenEqual" "Z" (.int (0 : Int32))) (F_w_NOT_EQUAL_whenAfter : Fld Z h0 w_NOT_EQUAL "com/example/polyphony/polyphony/policy/Operator" "whenAfter" "Z" (.int (1 : Int32))) (hi : ((p1 &&& (2147483647 : Int32)) - ((p1 &&& (2147483647 : Int32)) / (6 : Int32)) * (6 : Int32)) = (1 : Int32)) (q1 : p2 < (0 : Int32)) (q2 : ¬ (p2 = (0 : Int32))) (q3 : ¬ ((0 : Int32) < p2)) :
    own_Met l Z x code maxLocals ret ws room_1 #[(.int p1), (.int p2)] h0 (fun v h L => v = some (.int 1) ∧ Fr n0 L) := by
  refine own_body (plainFor_of_name own_pn_com_example_polyphony_polyphony_policy_OperatorHoldsPinLaw) (fun p e s m below meth c s₁ hx hby hml0 hrt hlk hown0 hnm hZ X0 e0 => ?_)
  have N0 := Fr.nil n0
  have hown : s.vm.findClass "com/example/polyphony/polyphony/policy/OperatorHoldsPinLaw" = some m.cls := hown0
  have hml : c.maxLocals = 5 := hml0
  refine own_castG (own_ef1 m p1 p2) ?_
  show own_Goes _ _ _ _ s₁ (mkF m 0 #[.val (.int p1), .val (.int p2), .unset, .unset, .unset] [])
  refine own_step (fun t k => XS.iloadN X0.here hx rfl (hb hby at_0) rfl k) ?_
  show own_Goes _ _ _ _ s₁ (mkF m 1 #[.val (.int p1), .val (.int p2), .unset, .unset, .unset] [(.int p1)])
  refine own_step (X0.ldcInt hx hown (mvT hZ (hw _ (List.mem_of_getElem? (i := 0) rfl))) (g := (mkF m 1 #[.val (.int p1), .val (.int p2), .unset, .unset, .unset] [(.int p1)])) rfl (hb hby at_1)) ?_
  show own_Goes _ _ _ _ s₁ (mkF m 3 #[.val (.int p1), .val (.int p2), .unset, .unset, .unset] [(.int (2147483647 : Int32)), (.int p1)])
  refine own_step (fun t k => XS.iand X0.here hx rfl (hb hby at_3) rfl k) ?_
  show own_Goes _ _ _ _ s₁ (mkF m 4 #[.val (.int p1), .val (.int p2), .unset, .unset, .unset] [(.int (p1 &&& (2147483647 : Int32)))])
  refine own_step (fun t k => XS.bipush X0.here hx rfl (hb hby at_4) k) ?_
  show own_Goes _ _ _ _ s₁ (mkF m 6 #[.val (.int p1), .val (.int p2), .unset, .unset, .unset] [(.int (6 : Int32)), (.int (p1 &&& (2147483647 : Int32)))])
  refine own_step (fun t k => XS.irem X0.here hx rfl (hb hby at_6) rfl (by decide) k) ?_
  show own_Goes _ _ _ _ s₁ (mkF m 7 #[.val (.int p1), .val (.int p2), .unset, .unset, .unset] [(.int ((p1 &&& (2147483647 : Int32)) - ((p1 &&& (2147483647 : Int32)) / (6 : Int32)) * (6 : Int32)))])
  rw [hi]
  show own_Goes _ _ _ _ s₁ (mkF m 7 #[.val (.int p1), .val (.int p2), .unset, .unset, .unset] [(.int (1 : Int32))])
  refine own_step (fun t k => XS.istoreN X0.here hx rfl (hb hby at_7) rfl (l' := #[.val (.int p1), .val (.int p2), .val (.int (1 : Int32)), .unset, .unset]) rfl k) ?_
  show own_Goes _ _ _ _ s₁ (mkF m 8 #[.val (.int p1), .val (.int p2), .val (.int (1 : Int32)), .unset, .unset] [])
  refine own_step (fun t k => XS.iloadN X0.here hx rfl (hb hby at_8) rfl k) ?_
  show own_Goes _ _ _ _ s₁ (mkF m 9 #[.val (.int p1), .val (.int p2), .val (.int (1 : Int32)), .unset, .unset] [(.int (1 : Int32))])
  refine own_step (fun t k => XS.ifYes X0.here hx rfl (pc0 := 9) (pc' := 30) rfl (hb hby at_9) rfl ((if0 _ _).trans (feq (show ¬ ((1 : Int32) = (0 : Int32)) from (by decide))).2) (by decide) (by decide) k) ?_
  show own_Goes _ _ _ _ s₁ (mkF m 30 #[.val (.int p1), .val (.int p2), .val (.int (1 : Int32)), .unset, .unset] [])
  refine own_step (fun t k => XS.iloadN X0.here hx rfl (hb hby at_30) rfl k) ?_
  show own_Goes _ _ _ _ s₁ (mkF m 31 #[.val (.int p1), .val (.int p2), .val (.int (1 : Int32)), .unset, .unset] [(.int (1 : Int32))])
  refine own_step (fun t k => XS.iconst X0.here hx rfl (hb hby at_31) k) ?_
  show own_Goes _ _ _ _ s₁ (mkF m 32 #[.val (.int p1), .val (.int p2), .val (.int (1 : Int32)), .unset, .unset] [(.int (1 : Int32)), (.int (1 : Int32))])
  refine own_step (fun t k => XS.icmpNo X0.here hx rfl (hb hby at_32) rfl (teq (show (1 : Int32) = (1 : Int32) from (by decide))).2 k) ?_
  show own_Goes _ _ _ _ s₁ (mkF m 35 #[.val (.int p1), .val (.int p2), .val (.int (1 : Int32)), .unset, .unset] [])
  obtain ⟨T1, X1, e1, st1⟩ := getS2 X0 hx hZ hown (host := "") (Or.inl (hw _ (List.mem_of_getElem? (i := 17) rfl))) Via.refl e0 S_NOT_EQUAL (g := (mkF m 35 #[.val (.int p1), .val (.int p2), .val (.int (1 : Int32)), .unset, .unset] [])) rfl (hb hby at_35)
  refine own_step st1 ?_
  show own_Goes _ _ _ _ T1 (mkF m 38 #[.val (.int p1), .val (.int p2), .val (.int (1 : Int32)), .unset, .unset] [(.ref w_NOT_EQUAL)])
  refine own_step (fun t k => XS.astoreN X1.here hx rfl (hb hby at_38) rfl rfl (l' := #[.val (.int p1), .val (.int p2), .val (.int (1 : Int32)), .val (.ref w_NOT_EQUAL), .unset]) rfl k) ?_
  show own_Goes _ _ _ _ T1 (mkF m 39 #[.val (.int p1), .val (.int p2), .val (.int (1 : Int32)), .val (.ref w_NOT_EQUAL), .unset] [])
  refine own_step (fun t k => XS.iloadN X1.here hx rfl (hb hby at_39) rfl k) ?_
  show own_Goes _ _ _ _ T1 (mkF m 40 #[.val (.int p1), .val (.int p2), .val (.int (1 : Int32)), .val (.ref w_NOT_EQUAL), .unset] [(.int p2)])
  refine own_step (fun t k => XS.ifNo X1.here hx rfl (hb hby at_40) rfl ((if0 _ _).trans (feq (show ¬ (p2 = (0 : Int32)) from q2)).1) k) ?_
  show own_Goes _ _ _ _ T1 (mkF m 43 #[.val (.int p1), .val (.int p2), .val (.int (1 : Int32)), .val (.ref w_NOT_EQUAL), .unset] [])
  refine own_step (fun t k => XS.iconst X1.here hx rfl (hb hby at_43) k) ?_
  show own_Goes _ _ _ _ T1 (mkF m 44 #[.val (.int p1), .val (.int p2), .val (.int (1 : Int32)), .val (.ref w_NOT_EQUAL), .unset] [(.int (1 : Int32))])
  refine own_step (fun t k => XS.goto X1.here hx rfl (pc0 := 44) (pc' := 48) rfl (hb hby at_44) (by decide) (by decide) k) ?_
  show own_Goes _ _ _ _ T1 (mkF m 48 #[.val (.int p1), .val (.int p2), .val (.int (1 : Int32)), .val (.ref w_NOT_EQUAL), .unset] [(.int (1 : Int32))])
  refine own_step (fun t k => XS.istore X1.here hx rfl (hb hby at_48) rfl (l' := #[.val (.int p1), .val (.int p2), .val (.int (1 : Int32)), .val (.ref w_NOT_EQUAL), .val (.int (1 : Int32))]) rfl k) ?_
  show own_Goes _ _ _ _ T1 (mkF m 50 #[.val (.int p1), .val (.int p2), .val (.int (1 : Int32)), .val (.ref w_NOT_EQUAL), .val (.int (1 : Int32))] [])
  refine own_step (fun t k => XS.goto X1.here hx rfl (pc0 := 50) (pc' := 137) rfl (hb hby at_50) (by decide) (by decide) k) ?_
  show own_Goes _ _ _ _ T1 (mkF m 137 #[.val (.int p1), .val (.int p2), .val (.int (1 : Int32)), .val (.ref w_NOT_EQUAL), .val (.int (1 : Int32))] [])
  refine own_step (fun t k => XS.aloadN X1.here hx rfl (hb hby at_137) rfl rfl k) ?_
  show own_Goes _ _ _ _ T1 (mkF m 138 #[.val (.int p1), .val (.int p2), .val (.int (1 : Int32)), .val (.ref w_NOT_EQUAL), .val (.int (1 : Int32))] [(.ref w_NOT_EQUAL)])
  refine own_step (fun t k => XS.iloadN X1.here hx rfl (hb hby at_138) rfl k) ?_
  show own_Goes _ _ _ _ T1 (mkF m 139 #[.val (.int p1), .val (.int p2), .val (.int (1 : Int32)), .val (.ref w_NOT_EQUAL), .val (.int (1 : Int32))] [(.int p2), (.ref w_NOT_EQUAL)])
  refine own_callV X1 hx hZ (y := (⟨"com/example/polyphony/polyphony/policy/Operator", "holds", "(I)Z"⟩ : MethodName)) (z := (⟨"com/example/polyphony/polyphony/policy/Operator", "holds", "(I)Z"⟩ : MethodName)) hown (hw _ (List.mem_of_getElem? (i := 4) rfl)) (hw _ (List.mem_of_getElem? (i := 5) rfl)) (notFace_of_selects (args := #[]) (mvT hZ (hw _ (List.mem_of_getElem? (i := 7) rfl)))) (hw _ (List.mem_of_getElem? (i := 7) rfl)) (hw _ (List.mem_of_getElem? (i := 6) rfl)) (hw _ (List.mem_of_getElem? (i := 8) rfl)) (hw _ (List.mem_of_getElem? (i := 2) rfl)) (by decide) 0 E_w_NOT_EQUAL [(.int p2)] [] (own_holds_n1 l Z a0 hw [] w_NOT_EQUAL p2 h0 n0 Z0 F_w_NOT_EQUAL_whenBefore q1) e1 (by decide) (by decide) (by decide) (by decide) (g := (mkF m 139 #[.val (.int p1), .val (.int p2), .val (.int (1 : Int32)), .val (.ref w_NOT_EQUAL), .val (.int (1 : Int32))] [(.int p2), (.ref w_NOT_EQUAL)])) rfl (by rw [hml]; rfl) own_pd0 rfl rfl (by show 2 * 0 + _ ≤ _; exact Nat.le_of_eq rfl) (hb hby at_139) ?_
  intro T2 v2 L2 X2 hQ2
  obtain ⟨rfl, N2q, e2⟩ := hQ2
  have N2 := Fr.app N0 N2q
  show own_Goes _ _ _ _ T2 (mkF m 142 #[.val (.int p1), .val (.int p2), .val (.int (1 : Int32)), .val (.ref w_NOT_EQUAL), .val (.int (1 : Int32))] [(.int (1 : Int32))])
  refine own_step (fun t k => XS.iload X2.here hx rfl (hb hby at_142) rfl k) ?_
  show own_Goes _ _ _ _ T2 (mkF m 144 #[.val (.int p1), .val (.int p2), .val (.int (1 : Int32)), .val (.ref w_NOT_EQUAL), .val (.int (1 : Int32))] [(.int (1 : Int32)), (.int (1 : Int32))])
  refine own_step (fun t k => XS.icmpNo X2.here hx rfl (hb hby at_144) rfl (teq (show (1 : Int32) = (1 : Int32) from (by decide))).2 k) ?_
  show own_Goes _ _ _ _ T2 (mkF m 147 #[.val (.int p1), .val (.int p2), .val (.int (1 : Int32)), .val (.ref w_NOT_EQUAL), .val (.int (1 : Int32))] [])
  refine own_step (fun t k => XS.iconst X2.here hx rfl (hb hby at_147) k) ?_
  show own_Goes _ _ _ _ T2 (mkF m 148 #[.val (.int p1), .val (.int p2), .val (.int (1 : Int32)), .val (.ref w_NOT_EQUAL), .val (.int (1 : Int32))] [(.int (1 : Int32))])
  refine own_step (fun t k => XS.goto X2.here hx rfl (pc0 := 148) (pc' := 152) rfl (hb hby at_148) (by decide) (by decide) k) ?_
  show own_Goes _ _ _ _ T2 (mkF m 152 #[.val (.int p1), .val (.int p2), .val (.int (1 : Int32)), .val (.ref w_NOT_EQUAL), .val (.int (1 : Int32))] [(.int (1 : Int32))])
  exact own_retN X2 hx hlk (t := .boolean) hrt (by simp) (hb hby at_152) ⟨rfl, N2⟩ (by decide) (by decide)
set_option maxRecDepth 65536 in
set_option maxHeartbeats 40000000 in
theorem own_law1z (l : Launch) (Z : State) (a0 : Array Value) (hw : ∀ d ∈ tables_1, d.before a0 Z = true) (ws : List Jvm.Cond) (p1 : Int32) (p2 : Int32) (w_NOT_EQUAL : Addr) (h0 : Heap) (n0 : Nat) (Z0 : n0 ≤ h0.size) (S_NOT_EQUAL : Sta Z h0 "com/example/polyphony/polyphony/policy/Operator" "NOT_EQUAL" "Lcom/example/polyphony/polyphony/policy/Operator;" (.ref w_NOT_EQUAL)) (E_w_NOT_EQUAL : Exa Z h0 w_NOT_EQUAL "com/example/polyphony/polyphony/policy/Operator") (F_w_NOT_EQUAL_whenBefore : Fld Z h0 w_NOT_EQUAL "com/example/polyphony/polyphony/policy/Operator" "whenBefore" "Z" (.int (1 : Int32))) (F_w_NOT_EQUAL_whenEqual : Fld Z h0 w_NOT_EQUAL "com/example/polyphony/polyphony/policy/Operator" "whenEqual" "Z" (.int (0 : Int32))) (F_w_NOT_EQUAL_whenAfter : Fld Z h0 w_NOT_EQUAL "com/example/polyphony/polyphony/policy/Operator" "whenAfter" "Z" (.int (1 : Int32))) (hi : ((p1 &&& (2147483647 : Int32)) - ((p1 &&& (2147483647 : Int32)) / (6 : Int32)) * (6 : Int32)) = (1 : Int32)) (q1 : ¬ (p2 < (0 : Int32))) (q2 : p2 = (0 : Int32)) (q3 : ¬ ((0 : Int32) < p2)) :
    own_Met l Z x code maxLocals ret ws room_1 #[(.int p1), (.int p2)] h0 (fun v h L => v = some (.int 1) ∧ Fr n0 L) := by
  refine own_body (plainFor_of_name own_pn_com_example_polyphony_polyphony_policy_OperatorHoldsPinLaw) (fun p e s m below meth c s₁ hx hby hml0 hrt hlk hown0 hnm hZ X0 e0 => ?_)
  have N0 := Fr.nil n0
  have hown : s.vm.findClass "com/example/polyphony/polyphony/policy/OperatorHoldsPinLaw" = some m.cls := hown0
  have hml : c.maxLocals = 5 := hml0
  refine own_castG (own_ef1 m p1 p2) ?_
  show own_Goes _ _ _ _ s₁ (mkF m 0 #[.val (.int p1), .val (.int p2), .unset, .unset, .unset] [])
  refine own_step (fun t k => XS.iloadN X0.here hx rfl (hb hby at_0) rfl k) ?_
  show own_Goes _ _ _ _ s₁ (mkF m 1 #[.val (.int p1), .val (.int p2), .unset, .unset, .unset] [(.int p1)])
  refine own_step (X0.ldcInt hx hown (mvT hZ (hw _ (List.mem_of_getElem? (i := 0) rfl))) (g := (mkF m 1 #[.val (.int p1), .val (.int p2), .unset, .unset, .unset] [(.int p1)])) rfl (hb hby at_1)) ?_
  show own_Goes _ _ _ _ s₁ (mkF m 3 #[.val (.int p1), .val (.int p2), .unset, .unset, .unset] [(.int (2147483647 : Int32)), (.int p1)])
  refine own_step (fun t k => XS.iand X0.here hx rfl (hb hby at_3) rfl k) ?_
  show own_Goes _ _ _ _ s₁ (mkF m 4 #[.val (.int p1), .val (.int p2), .unset, .unset, .unset] [(.int (p1 &&& (2147483647 : Int32)))])
  refine own_step (fun t k => XS.bipush X0.here hx rfl (hb hby at_4) k) ?_
  show own_Goes _ _ _ _ s₁ (mkF m 6 #[.val (.int p1), .val (.int p2), .unset, .unset, .unset] [(.int (6 : Int32)), (.int (p1 &&& (2147483647 : Int32)))])
  refine own_step (fun t k => XS.irem X0.here hx rfl (hb hby at_6) rfl (by decide) k) ?_
  show own_Goes _ _ _ _ s₁ (mkF m 7 #[.val (.int p1), .val (.int p2), .unset, .unset, .unset] [(.int ((p1 &&& (2147483647 : Int32)) - ((p1 &&& (2147483647 : Int32)) / (6 : Int32)) * (6 : Int32)))])
  rw [hi]
  show own_Goes _ _ _ _ s₁ (mkF m 7 #[.val (.int p1), .val (.int p2), .unset, .unset, .unset] [(.int (1 : Int32))])
  refine own_step (fun t k => XS.istoreN X0.here hx rfl (hb hby at_7) rfl (l' := #[.val (.int p1), .val (.int p2), .val (.int (1 : Int32)), .unset, .unset]) rfl k) ?_
  show own_Goes _ _ _ _ s₁ (mkF m 8 #[.val (.int p1), .val (.int p2), .val (.int (1 : Int32)), .unset, .unset] [])
  refine own_step (fun t k => XS.iloadN X0.here hx rfl (hb hby at_8) rfl k) ?_
  show own_Goes _ _ _ _ s₁ (mkF m 9 #[.val (.int p1), .val (.int p2), .val (.int (1 : Int32)), .unset, .unset] [(.int (1 : Int32))])
  refine own_step (fun t k => XS.ifYes X0.here hx rfl (pc0 := 9) (pc' := 30) rfl (hb hby at_9) rfl ((if0 _ _).trans (feq (show ¬ ((1 : Int32) = (0 : Int32)) from (by decide))).2) (by decide) (by decide) k) ?_
  show own_Goes _ _ _ _ s₁ (mkF m 30 #[.val (.int p1), .val (.int p2), .val (.int (1 : Int32)), .unset, .unset] [])
  refine own_step (fun t k => XS.iloadN X0.here hx rfl (hb hby at_30) rfl k) ?_
  show own_Goes _ _ _ _ s₁ (mkF m 31 #[.val (.int p1), .val (.int p2), .val (.int (1 : Int32)), .unset, .unset] [(.int (1 : Int32))])
  refine own_step (fun t k => XS.iconst X0.here hx rfl (hb hby at_31) k) ?_
  show own_Goes _ _ _ _ s₁ (mkF m 32 #[.val (.int p1), .val (.int p2), .val (.int (1 : Int32)), .unset, .unset] [(.int (1 : Int32)), (.int (1 : Int32))])
  refine own_step (fun t k => XS.icmpNo X0.here hx rfl (hb hby at_32) rfl (teq (show (1 : Int32) = (1 : Int32) from (by decide))).2 k) ?_
  show own_Goes _ _ _ _ s₁ (mkF m 35 #[.val (.int p1), .val (.int p2), .val (.int (1 : Int32)), .unset, .unset] [])
  obtain ⟨T1, X1, e1, st1⟩ := getS2 X0 hx hZ hown (host := "") (Or.inl (hw _ (List.mem_of_getElem? (i := 17) rfl))) Via.refl e0 S_NOT_EQUAL (g := (mkF m 35 #[.val (.int p1), .val (.int p2), .val (.int (1 : Int32)), .unset, .unset] [])) rfl (hb hby at_35)
  refine own_step st1 ?_
  show own_Goes _ _ _ _ T1 (mkF m 38 #[.val (.int p1), .val (.int p2), .val (.int (1 : Int32)), .unset, .unset] [(.ref w_NOT_EQUAL)])
  refine own_step (fun t k => XS.astoreN X1.here hx rfl (hb hby at_38) rfl rfl (l' := #[.val (.int p1), .val (.int p2), .val (.int (1 : Int32)), .val (.ref w_NOT_EQUAL), .unset]) rfl k) ?_
  show own_Goes _ _ _ _ T1 (mkF m 39 #[.val (.int p1), .val (.int p2), .val (.int (1 : Int32)), .val (.ref w_NOT_EQUAL), .unset] [])
  refine own_step (fun t k => XS.iloadN X1.here hx rfl (hb hby at_39) rfl k) ?_
  show own_Goes _ _ _ _ T1 (mkF m 40 #[.val (.int p1), .val (.int p2), .val (.int (1 : Int32)), .val (.ref w_NOT_EQUAL), .unset] [(.int p2)])
  refine own_step (fun t k => XS.ifYes X1.here hx rfl (pc0 := 40) (pc' := 47) rfl (hb hby at_40) rfl ((if0 _ _).trans (teq (show p2 = (0 : Int32) from q2)).1) (by decide) (by decide) k) ?_
  show own_Goes _ _ _ _ T1 (mkF m 47 #[.val (.int p1), .val (.int p2), .val (.int (1 : Int32)), .val (.ref w_NOT_EQUAL), .unset] [])
  refine own_step (fun t k => XS.iconst X1.here hx rfl (hb hby at_47) k) ?_
  show own_Goes _ _ _ _ T1 (mkF m 48 #[.val (.int p1), .val (.int p2), .val (.int (1 : Int32)), .val (.ref w_NOT_EQUAL), .unset] [(.int (0 : Int32))])
  refine own_step (fun t k => XS.istore X1.here hx rfl (hb hby at_48) rfl (l' := #[.val (.int p1), .val (.int p2), .val (.int (1 : Int32)), .val (.ref w_NOT_EQUAL), .val (.int (0 : Int32))]) rfl k) ?_
  show own_Goes _ _ _ _ T1 (mkF m 50 #[.val (.int p1), .val (.int p2), .val (.int (1 : Int32)), .val (.ref w_NOT_EQUAL), .val (.int (0 : Int32))] [])
  refine own_step (fun t k => XS.goto X1.here hx rfl (pc0 := 50) (pc' := 137) rfl (hb hby at_50) (by decide) (by decide) k) ?_
  show own_Goes _ _ _ _ T1 (mkF m 137 #[.val (.int p1), .val (.int p2), .val (.int (1 : Int32)), .val (.ref w_NOT_EQUAL), .val (.int (0 : Int32))] [])
  refine own_step (fun t k => XS.aloadN X1.here hx rfl (hb hby at_137) rfl rfl k) ?_
  show own_Goes _ _ _ _ T1 (mkF m 138 #[.val (.int p1), .val (.int p2), .val (.int (1 : Int32)), .val (.ref w_NOT_EQUAL), .val (.int (0 : Int32))] [(.ref w_NOT_EQUAL)])
  refine own_step (fun t k => XS.iloadN X1.here hx rfl (hb hby at_138) rfl k) ?_
  show own_Goes _ _ _ _ T1 (mkF m 139 #[.val (.int p1), .val (.int p2), .val (.int (1 : Int32)), .val (.ref w_NOT_EQUAL), .val (.int (0 : Int32))] [(.int p2), (.ref w_NOT_EQUAL)])
  refine own_callV X1 hx hZ (y := (⟨"com/example/polyphony/polyphony/policy/Operator", "holds", "(I)Z"⟩ : MethodName)) (z := (⟨"com/example/polyphony/polyphony/policy/Operator", "holds", "(I)Z"⟩ : MethodName)) hown (hw _ (List.mem_of_getElem? (i := 4) rfl)) (hw _ (List.mem_of_getElem? (i := 5) rfl)) (notFace_of_selects (args := #[]) (mvT hZ (hw _ (List.mem_of_getElem? (i := 7) rfl)))) (hw _ (List.mem_of_getElem? (i := 7) rfl)) (hw _ (List.mem_of_getElem? (i := 6) rfl)) (hw _ (List.mem_of_getElem? (i := 8) rfl)) (hw _ (List.mem_of_getElem? (i := 2) rfl)) (by decide) 0 E_w_NOT_EQUAL [(.int p2)] [] (own_holds_z0 l Z a0 hw [] w_NOT_EQUAL p2 h0 n0 Z0 F_w_NOT_EQUAL_whenEqual q1 q2) e1 (by decide) (by decide) (by decide) (by decide) (g := (mkF m 139 #[.val (.int p1), .val (.int p2), .val (.int (1 : Int32)), .val (.ref w_NOT_EQUAL), .val (.int (0 : Int32))] [(.int p2), (.ref w_NOT_EQUAL)])) rfl (by rw [hml]; rfl) own_pd0 rfl rfl (by show 2 * 0 + _ ≤ _; exact Nat.le_of_eq rfl) (hb hby at_139) ?_
  intro T2 v2 L2 X2 hQ2
  obtain ⟨rfl, N2q, e2⟩ := hQ2
  have N2 := Fr.app N0 N2q
  show own_Goes _ _ _ _ T2 (mkF m 142 #[.val (.int p1), .val (.int p2), .val (.int (1 : Int32)), .val (.ref w_NOT_EQUAL), .val (.int (0 : Int32))] [(.int (0 : Int32))])
  refine own_step (fun t k => XS.iload X2.here hx rfl (hb hby at_142) rfl k) ?_
  show own_Goes _ _ _ _ T2 (mkF m 144 #[.val (.int p1), .val (.int p2), .val (.int (1 : Int32)), .val (.ref w_NOT_EQUAL), .val (.int (0 : Int32))] [(.int (0 : Int32)), (.int (0 : Int32))])
  refine own_step (fun t k => XS.icmpNo X2.here hx rfl (hb hby at_144) rfl (teq (show (0 : Int32) = (0 : Int32) from (by decide))).2 k) ?_
  show own_Goes _ _ _ _ T2 (mkF m 147 #[.val (.int p1), .val (.int p2), .val (.int (1 : Int32)), .val (.ref w_NOT_EQUAL), .val (.int (0 : Int32))] [])
  refine own_step (fun t k => XS.iconst X2.here hx rfl (hb hby at_147) k) ?_
  show own_Goes _ _ _ _ T2 (mkF m 148 #[.val (.int p1), .val (.int p2), .val (.int (1 : Int32)), .val (.ref w_NOT_EQUAL), .val (.int (0 : Int32))] [(.int (1 : Int32))])
  refine own_step (fun t k => XS.goto X2.here hx rfl (pc0 := 148) (pc' := 152) rfl (hb hby at_148) (by decide) (by decide) k) ?_
  show own_Goes _ _ _ _ T2 (mkF m 152 #[.val (.int p1), .val (.int p2), .val (.int (1 : Int32)), .val (.ref w_NOT_EQUAL), .val (.int (0 : Int32))] [(.int (1 : Int32))])
  exact own_retN X2 hx hlk (t := .boolean) hrt (by simp) (hb hby at_152) ⟨rfl, N2⟩ (by decide) (by decide)
set_option maxRecDepth 65536 in
set_option maxHeartbeats 40000000 in
theorem own_law1p (l : Launch) (Z : State) (a0 : Array Value) (hw : ∀ d ∈ tables_1, d.before a0 Z = true) (ws : List Jvm.Cond) (p1 : Int32) (p2 : Int32) (w_NOT_EQUAL : Addr) (h0 : Heap) (n0 : Nat) (Z0 : n0 ≤ h0.size) (S_NOT_EQUAL : Sta Z h0 "com/example/polyphony/polyphony/policy/Operator" "NOT_EQUAL" "Lcom/example/polyphony/polyphony/policy/Operator;" (.ref w_NOT_EQUAL)) (E_w_NOT_EQUAL : Exa Z h0 w_NOT_EQUAL "com/example/polyphony/polyphony/policy/Operator") (F_w_NOT_EQUAL_whenBefore : Fld Z h0 w_NOT_EQUAL "com/example/polyphony/polyphony/policy/Operator" "whenBefore" "Z" (.int (1 : Int32))) (F_w_NOT_EQUAL_whenEqual : Fld Z h0 w_NOT_EQUAL "com/example/polyphony/polyphony/policy/Operator" "whenEqual" "Z" (.int (0 : Int32))) (F_w_NOT_EQUAL_whenAfter : Fld Z h0 w_NOT_EQUAL "com/example/polyphony/polyphony/policy/Operator" "whenAfter" "Z" (.int (1 : Int32))) (hi : ((p1 &&& (2147483647 : Int32)) - ((p1 &&& (2147483647 : Int32)) / (6 : Int32)) * (6 : Int32)) = (1 : Int32)) (q1 : ¬ (p2 < (0 : Int32))) (q2 : ¬ (p2 = (0 : Int32))) (q3 : (0 : Int32) < p2) :
    own_Met l Z x code maxLocals ret ws room_1 #[(.int p1), (.int p2)] h0 (fun v h L => v = some (.int 1) ∧ Fr n0 L) := by
  refine own_body (plainFor_of_name own_pn_com_example_polyphony_polyphony_policy_OperatorHoldsPinLaw) (fun p e s m below meth c s₁ hx hby hml0 hrt hlk hown0 hnm hZ X0 e0 => ?_)
  have N0 := Fr.nil n0
  have hown : s.vm.findClass "com/example/polyphony/polyphony/policy/OperatorHoldsPinLaw" = some m.cls := hown0
  have hml : c.maxLocals = 5 := hml0
  refine own_castG (own_ef1 m p1 p2) ?_
  show own_Goes _ _ _ _ s₁ (mkF m 0 #[.val (.int p1), .val (.int p2), .unset, .unset, .unset] [])
  refine own_step (fun t k => XS.iloadN X0.here hx rfl (hb hby at_0) rfl k) ?_
  show own_Goes _ _ _ _ s₁ (mkF m 1 #[.val (.int p1), .val (.int p2), .unset, .unset, .unset] [(.int p1)])
  refine own_step (X0.ldcInt hx hown (mvT hZ (hw _ (List.mem_of_getElem? (i := 0) rfl))) (g := (mkF m 1 #[.val (.int p1), .val (.int p2), .unset, .unset, .unset] [(.int p1)])) rfl (hb hby at_1)) ?_
  show own_Goes _ _ _ _ s₁ (mkF m 3 #[.val (.int p1), .val (.int p2), .unset, .unset, .unset] [(.int (2147483647 : Int32)), (.int p1)])
  refine own_step (fun t k => XS.iand X0.here hx rfl (hb hby at_3) rfl k) ?_
  show own_Goes _ _ _ _ s₁ (mkF m 4 #[.val (.int p1), .val (.int p2), .unset, .unset, .unset] [(.int (p1 &&& (2147483647 : Int32)))])
  refine own_step (fun t k => XS.bipush X0.here hx rfl (hb hby at_4) k) ?_
  show own_Goes _ _ _ _ s₁ (mkF m 6 #[.val (.int p1), .val (.int p2), .unset, .unset, .unset] [(.int (6 : Int32)), (.int (p1 &&& (2147483647 : Int32)))])
  refine own_step (fun t k => XS.irem X0.here hx rfl (hb hby at_6) rfl (by decide) k) ?_
  show own_Goes _ _ _ _ s₁ (mkF m 7 #[.val (.int p1), .val (.int p2), .unset, .unset, .unset] [(.int ((p1 &&& (2147483647 : Int32)) - ((p1 &&& (2147483647 : Int32)) / (6 : Int32)) * (6 : Int32)))])
  rw [hi]
  show own_Goes _ _ _ _ s₁ (mkF m 7 #[.val (.int p1), .val (.int p2), .unset, .unset, .unset] [(.int (1 : Int32))])
  refine own_step (fun t k => XS.istoreN X0.here hx rfl (hb hby at_7) rfl (l' := #[.val (.int p1), .val (.int p2), .val (.int (1 : Int32)), .unset, .unset]) rfl k) ?_
  show own_Goes _ _ _ _ s₁ (mkF m 8 #[.val (.int p1), .val (.int p2), .val (.int (1 : Int32)), .unset, .unset] [])
  refine own_step (fun t k => XS.iloadN X0.here hx rfl (hb hby at_8) rfl k) ?_
  show own_Goes _ _ _ _ s₁ (mkF m 9 #[.val (.int p1), .val (.int p2), .val (.int (1 : Int32)), .unset, .unset] [(.int (1 : Int32))])
  refine own_step (fun t k => XS.ifYes X0.here hx rfl (pc0 := 9) (pc' := 30) rfl (hb hby at_9) rfl ((if0 _ _).trans (feq (show ¬ ((1 : Int32) = (0 : Int32)) from (by decide))).2) (by decide) (by decide) k) ?_
  show own_Goes _ _ _ _ s₁ (mkF m 30 #[.val (.int p1), .val (.int p2), .val (.int (1 : Int32)), .unset, .unset] [])
  refine own_step (fun t k => XS.iloadN X0.here hx rfl (hb hby at_30) rfl k) ?_
  show own_Goes _ _ _ _ s₁ (mkF m 31 #[.val (.int p1), .val (.int p2), .val (.int (1 : Int32)), .unset, .unset] [(.int (1 : Int32))])
  refine own_step (fun t k => XS.iconst X0.here hx rfl (hb hby at_31) k) ?_
  show own_Goes _ _ _ _ s₁ (mkF m 32 #[.val (.int p1), .val (.int p2), .val (.int (1 : Int32)), .unset, .unset] [(.int (1 : Int32)), (.int (1 : Int32))])
  refine own_step (fun t k => XS.icmpNo X0.here hx rfl (hb hby at_32) rfl (teq (show (1 : Int32) = (1 : Int32) from (by decide))).2 k) ?_
  show own_Goes _ _ _ _ s₁ (mkF m 35 #[.val (.int p1), .val (.int p2), .val (.int (1 : Int32)), .unset, .unset] [])
  obtain ⟨T1, X1, e1, st1⟩ := getS2 X0 hx hZ hown (host := "") (Or.inl (hw _ (List.mem_of_getElem? (i := 17) rfl))) Via.refl e0 S_NOT_EQUAL (g := (mkF m 35 #[.val (.int p1), .val (.int p2), .val (.int (1 : Int32)), .unset, .unset] [])) rfl (hb hby at_35)
  refine own_step st1 ?_
  show own_Goes _ _ _ _ T1 (mkF m 38 #[.val (.int p1), .val (.int p2), .val (.int (1 : Int32)), .unset, .unset] [(.ref w_NOT_EQUAL)])
  refine own_step (fun t k => XS.astoreN X1.here hx rfl (hb hby at_38) rfl rfl (l' := #[.val (.int p1), .val (.int p2), .val (.int (1 : Int32)), .val (.ref w_NOT_EQUAL), .unset]) rfl k) ?_
  show own_Goes _ _ _ _ T1 (mkF m 39 #[.val (.int p1), .val (.int p2), .val (.int (1 : Int32)), .val (.ref w_NOT_EQUAL), .unset] [])
  refine own_step (fun t k => XS.iloadN X1.here hx rfl (hb hby at_39) rfl k) ?_
  show own_Goes _ _ _ _ T1 (mkF m 40 #[.val (.int p1), .val (.int p2), .val (.int (1 : Int32)), .val (.ref w_NOT_EQUAL), .unset] [(.int p2)])
  refine own_step (fun t k => XS.ifNo X1.here hx rfl (hb hby at_40) rfl ((if0 _ _).trans (feq (show ¬ (p2 = (0 : Int32)) from q2)).1) k) ?_
  show own_Goes _ _ _ _ T1 (mkF m 43 #[.val (.int p1), .val (.int p2), .val (.int (1 : Int32)), .val (.ref w_NOT_EQUAL), .unset] [])
  refine own_step (fun t k => XS.iconst X1.here hx rfl (hb hby at_43) k) ?_
  show own_Goes _ _ _ _ T1 (mkF m 44 #[.val (.int p1), .val (.int p2), .val (.int (1 : Int32)), .val (.ref w_NOT_EQUAL), .unset] [(.int (1 : Int32))])
  refine own_step (fun t k => XS.goto X1.here hx rfl (pc0 := 44) (pc' := 48) rfl (hb hby at_44) (by decide) (by decide) k) ?_
  show own_Goes _ _ _ _ T1 (mkF m 48 #[.val (.int p1), .val (.int p2), .val (.int (1 : Int32)), .val (.ref w_NOT_EQUAL), .unset] [(.int (1 : Int32))])
  refine own_step (fun t k => XS.istore X1.here hx rfl (hb hby at_48) rfl (l' := #[.val (.int p1), .val (.int p2), .val (.int (1 : Int32)), .val (.ref w_NOT_EQUAL), .val (.int (1 : Int32))]) rfl k) ?_
  show own_Goes _ _ _ _ T1 (mkF m 50 #[.val (.int p1), .val (.int p2), .val (.int (1 : Int32)), .val (.ref w_NOT_EQUAL), .val (.int (1 : Int32))] [])
  refine own_step (fun t k => XS.goto X1.here hx rfl (pc0 := 50) (pc' := 137) rfl (hb hby at_50) (by decide) (by decide) k) ?_
  show own_Goes _ _ _ _ T1 (mkF m 137 #[.val (.int p1), .val (.int p2), .val (.int (1 : Int32)), .val (.ref w_NOT_EQUAL), .val (.int (1 : Int32))] [])
  refine own_step (fun t k => XS.aloadN X1.here hx rfl (hb hby at_137) rfl rfl k) ?_
  show own_Goes _ _ _ _ T1 (mkF m 138 #[.val (.int p1), .val (.int p2), .val (.int (1 : Int32)), .val (.ref w_NOT_EQUAL), .val (.int (1 : Int32))] [(.ref w_NOT_EQUAL)])
  refine own_step (fun t k => XS.iloadN X1.here hx rfl (hb hby at_138) rfl k) ?_
  show own_Goes _ _ _ _ T1 (mkF m 139 #[.val (.int p1), .val (.int p2), .val (.int (1 : Int32)), .val (.ref w_NOT_EQUAL), .val (.int (1 : Int32))] [(.int p2), (.ref w_NOT_EQUAL)])
  refine own_callV X1 hx hZ (y := (⟨"com/example/polyphony/polyphony/policy/Operator", "holds", "(I)Z"⟩ : MethodName)) (z := (⟨"com/example/polyphony/polyphony/policy/Operator", "holds", "(I)Z"⟩ : MethodName)) hown (hw _ (List.mem_of_getElem? (i := 4) rfl)) (hw _ (List.mem_of_getElem? (i := 5) rfl)) (notFace_of_selects (args := #[]) (mvT hZ (hw _ (List.mem_of_getElem? (i := 7) rfl)))) (hw _ (List.mem_of_getElem? (i := 7) rfl)) (hw _ (List.mem_of_getElem? (i := 6) rfl)) (hw _ (List.mem_of_getElem? (i := 8) rfl)) (hw _ (List.mem_of_getElem? (i := 2) rfl)) (by decide) 0 E_w_NOT_EQUAL [(.int p2)] [] (own_holds_p1 l Z a0 hw [] w_NOT_EQUAL p2 h0 n0 Z0 F_w_NOT_EQUAL_whenAfter q1 q2) e1 (by decide) (by decide) (by decide) (by decide) (g := (mkF m 139 #[.val (.int p1), .val (.int p2), .val (.int (1 : Int32)), .val (.ref w_NOT_EQUAL), .val (.int (1 : Int32))] [(.int p2), (.ref w_NOT_EQUAL)])) rfl (by rw [hml]; rfl) own_pd0 rfl rfl (by show 2 * 0 + _ ≤ _; exact Nat.le_of_eq rfl) (hb hby at_139) ?_
  intro T2 v2 L2 X2 hQ2
  obtain ⟨rfl, N2q, e2⟩ := hQ2
  have N2 := Fr.app N0 N2q
  show own_Goes _ _ _ _ T2 (mkF m 142 #[.val (.int p1), .val (.int p2), .val (.int (1 : Int32)), .val (.ref w_NOT_EQUAL), .val (.int (1 : Int32))] [(.int (1 : Int32))])
  refine own_step (fun t k => XS.iload X2.here hx rfl (hb hby at_142) rfl k) ?_
  show own_Goes _ _ _ _ T2 (mkF m 144 #[.val (.int p1), .val (.int p2), .val (.int (1 : Int32)), .val (.ref w_NOT_EQUAL), .val (.int (1 : Int32))] [(.int (1 : Int32)), (.int (1 : Int32))])
  refine own_step (fun t k => XS.icmpNo X2.here hx rfl (hb hby at_144) rfl (teq (show (1 : Int32) = (1 : Int32) from (by decide))).2 k) ?_
  show own_Goes _ _ _ _ T2 (mkF m 147 #[.val (.int p1), .val (.int p2), .val (.int (1 : Int32)), .val (.ref w_NOT_EQUAL), .val (.int (1 : Int32))] [])
  refine own_step (fun t k => XS.iconst X2.here hx rfl (hb hby at_147) k) ?_
  show own_Goes _ _ _ _ T2 (mkF m 148 #[.val (.int p1), .val (.int p2), .val (.int (1 : Int32)), .val (.ref w_NOT_EQUAL), .val (.int (1 : Int32))] [(.int (1 : Int32))])
  refine own_step (fun t k => XS.goto X2.here hx rfl (pc0 := 148) (pc' := 152) rfl (hb hby at_148) (by decide) (by decide) k) ?_
  show own_Goes _ _ _ _ T2 (mkF m 152 #[.val (.int p1), .val (.int p2), .val (.int (1 : Int32)), .val (.ref w_NOT_EQUAL), .val (.int (1 : Int32))] [(.int (1 : Int32))])
  exact own_retN X2 hx hlk (t := .boolean) hrt (by simp) (hb hby at_152) ⟨rfl, N2⟩ (by decide) (by decide)
set_option maxRecDepth 65536 in
set_option maxHeartbeats 40000000 in
theorem own_law2n (l : Launch) (Z : State) (a0 : Array Value) (hw : ∀ d ∈ tables_1, d.before a0 Z = true) (ws : List Jvm.Cond) (p1 : Int32) (p2 : Int32) (w_LESS : Addr) (h0 : Heap) (n0 : Nat) (Z0 : n0 ≤ h0.size) (S_LESS : Sta Z h0 "com/example/polyphony/polyphony/policy/Operator" "LESS" "Lcom/example/polyphony/polyphony/policy/Operator;" (.ref w_LESS)) (E_w_LESS : Exa Z h0 w_LESS "com/example/polyphony/polyphony/policy/Operator") (F_w_LESS_whenBefore : Fld Z h0 w_LESS "com/example/polyphony/polyphony/policy/Operator" "whenBefore" "Z" (.int (1 : Int32))) (F_w_LESS_whenEqual : Fld Z h0 w_LESS "com/example/polyphony/polyphony/policy/Operator" "whenEqual" "Z" (.int (0 : Int32))) (F_w_LESS_whenAfter : Fld Z h0 w_LESS "com/example/polyphony/polyphony/policy/Operator" "whenAfter" "Z" (.int (0 : Int32))) (hi : ((p1 &&& (2147483647 : Int32)) - ((p1 &&& (2147483647 : Int32)) / (6 : Int32)) * (6 : Int32)) = (2 : Int32)) (q1 : p2 < (0 : Int32)) (q2 : ¬ (p2 = (0 : Int32))) (q3 : ¬ ((0 : Int32) < p2)) :
    own_Met l Z x code maxLocals ret ws room_1 #[(.int p1), (.int p2)] h0 (fun v h L => v = some (.int 1) ∧ Fr n0 L) := by
  refine own_body (plainFor_of_name own_pn_com_example_polyphony_polyphony_policy_OperatorHoldsPinLaw) (fun p e s m below meth c s₁ hx hby hml0 hrt hlk hown0 hnm hZ X0 e0 => ?_)
  have N0 := Fr.nil n0
  have hown : s.vm.findClass "com/example/polyphony/polyphony/policy/OperatorHoldsPinLaw" = some m.cls := hown0
  have hml : c.maxLocals = 5 := hml0
  refine own_castG (own_ef1 m p1 p2) ?_
  show own_Goes _ _ _ _ s₁ (mkF m 0 #[.val (.int p1), .val (.int p2), .unset, .unset, .unset] [])
  refine own_step (fun t k => XS.iloadN X0.here hx rfl (hb hby at_0) rfl k) ?_
  show own_Goes _ _ _ _ s₁ (mkF m 1 #[.val (.int p1), .val (.int p2), .unset, .unset, .unset] [(.int p1)])
  refine own_step (X0.ldcInt hx hown (mvT hZ (hw _ (List.mem_of_getElem? (i := 0) rfl))) (g := (mkF m 1 #[.val (.int p1), .val (.int p2), .unset, .unset, .unset] [(.int p1)])) rfl (hb hby at_1)) ?_
  show own_Goes _ _ _ _ s₁ (mkF m 3 #[.val (.int p1), .val (.int p2), .unset, .unset, .unset] [(.int (2147483647 : Int32)), (.int p1)])
  refine own_step (fun t k => XS.iand X0.here hx rfl (hb hby at_3) rfl k) ?_
  show own_Goes _ _ _ _ s₁ (mkF m 4 #[.val (.int p1), .val (.int p2), .unset, .unset, .unset] [(.int (p1 &&& (2147483647 : Int32)))])
  refine own_step (fun t k => XS.bipush X0.here hx rfl (hb hby at_4) k) ?_
  show own_Goes _ _ _ _ s₁ (mkF m 6 #[.val (.int p1), .val (.int p2), .unset, .unset, .unset] [(.int (6 : Int32)), (.int (p1 &&& (2147483647 : Int32)))])
  refine own_step (fun t k => XS.irem X0.here hx rfl (hb hby at_6) rfl (by decide) k) ?_
  show own_Goes _ _ _ _ s₁ (mkF m 7 #[.val (.int p1), .val (.int p2), .unset, .unset, .unset] [(.int ((p1 &&& (2147483647 : Int32)) - ((p1 &&& (2147483647 : Int32)) / (6 : Int32)) * (6 : Int32)))])
  rw [hi]
  show own_Goes _ _ _ _ s₁ (mkF m 7 #[.val (.int p1), .val (.int p2), .unset, .unset, .unset] [(.int (2 : Int32))])
  refine own_step (fun t k => XS.istoreN X0.here hx rfl (hb hby at_7) rfl (l' := #[.val (.int p1), .val (.int p2), .val (.int (2 : Int32)), .unset, .unset]) rfl k) ?_
  show own_Goes _ _ _ _ s₁ (mkF m 8 #[.val (.int p1), .val (.int p2), .val (.int (2 : Int32)), .unset, .unset] [])
  refine own_step (fun t k => XS.iloadN X0.here hx rfl (hb hby at_8) rfl k) ?_
  show own_Goes _ _ _ _ s₁ (mkF m 9 #[.val (.int p1), .val (.int p2), .val (.int (2 : Int32)), .unset, .unset] [(.int (2 : Int32))])
  refine own_step (fun t k => XS.ifYes X0.here hx rfl (pc0 := 9) (pc' := 30) rfl (hb hby at_9) rfl ((if0 _ _).trans (feq (show ¬ ((2 : Int32) = (0 : Int32)) from (by decide))).2) (by decide) (by decide) k) ?_
  show own_Goes _ _ _ _ s₁ (mkF m 30 #[.val (.int p1), .val (.int p2), .val (.int (2 : Int32)), .unset, .unset] [])
  refine own_step (fun t k => XS.iloadN X0.here hx rfl (hb hby at_30) rfl k) ?_
  show own_Goes _ _ _ _ s₁ (mkF m 31 #[.val (.int p1), .val (.int p2), .val (.int (2 : Int32)), .unset, .unset] [(.int (2 : Int32))])
  refine own_step (fun t k => XS.iconst X0.here hx rfl (hb hby at_31) k) ?_
  show own_Goes _ _ _ _ s₁ (mkF m 32 #[.val (.int p1), .val (.int p2), .val (.int (2 : Int32)), .unset, .unset] [(.int (1 : Int32)), (.int (2 : Int32))])
  refine own_step (fun t k => XS.icmpYes X0.here hx rfl (pc0 := 32) (pc' := 53) rfl (hb hby at_32) rfl (feq (show ¬ ((2 : Int32) = (1 : Int32)) from (by decide))).2 (by decide) (by decide) k) ?_
  show own_Goes _ _ _ _ s₁ (mkF m 53 #[.val (.int p1), .val (.int p2), .val (.int (2 : Int32)), .unset, .unset] [])
  refine own_step (fun t k => XS.iloadN X0.here hx rfl (hb hby at_53) rfl k) ?_
  show own_Goes _ _ _ _ s₁ (mkF m 54 #[.val (.int p1), .val (.int p2), .val (.int (2 : Int32)), .unset, .unset] [(.int (2 : Int32))])
  refine own_step (fun t k => XS.iconst X0.here hx rfl (hb hby at_54) k) ?_
  show own_Goes _ _ _ _ s₁ (mkF m 55 #[.val (.int p1), .val (.int p2), .val (.int (2 : Int32)), .unset, .unset] [(.int (2 : Int32)), (.int (2 : Int32))])
  refine own_step (fun t k => XS.icmpNo X0.here hx rfl (hb hby at_55) rfl (teq (show (2 : Int32) = (2 : Int32) from (by decide))).2 k) ?_
  show own_Goes _ _ _ _ s₁ (mkF m 58 #[.val (.int p1), .val (.int p2), .val (.int (2 : Int32)), .unset, .unset] [])
  obtain ⟨T1, X1, e1, st1⟩ := getS2 X0 hx hZ hown (host := "") (Or.inl (hw _ (List.mem_of_getElem? (i := 11) rfl))) Via.refl e0 S_LESS (g := (mkF m 58 #[.val (.int p1), .val (.int p2), .val (.int (2 : Int32)), .unset, .unset] [])) rfl (hb hby at_58)
  refine own_step st1 ?_
  show own_Goes _ _ _ _ T1 (mkF m 61 #[.val (.int p1), .val (.int p2), .val (.int (2 : Int32)), .unset, .unset] [(.ref w_LESS)])
  refine own_step (fun t k => XS.astoreN X1.here hx rfl (hb hby at_61) rfl rfl (l' := #[.val (.int p1), .val (.int p2), .val (.int (2 : Int32)), .val (.ref w_LESS), .unset]) rfl k) ?_
  show own_Goes _ _ _ _ T1 (mkF m 62 #[.val (.int p1), .val (.int p2), .val (.int (2 : Int32)), .val (.ref w_LESS), .unset] [])
  refine own_step (fun t k => XS.iloadN X1.here hx rfl (hb hby at_62) rfl k) ?_
  show own_Goes _ _ _ _ T1 (mkF m 63 #[.val (.int p1), .val (.int p2), .val (.int (2 : Int32)), .val (.ref w_LESS), .unset] [(.int p2)])
  refine own_step (fun t k => XS.ifNo X1.here hx rfl (hb hby at_63) rfl ((if0 _ _).trans (tlt (show p2 < (0 : Int32) from q1)).2.1) k) ?_
  show own_Goes _ _ _ _ T1 (mkF m 66 #[.val (.int p1), .val (.int p2), .val (.int (2 : Int32)), .val (.ref w_LESS), .unset] [])
  refine own_step (fun t k => XS.iconst X1.here hx rfl (hb hby at_66) k) ?_
  show own_Goes _ _ _ _ T1 (mkF m 67 #[.val (.int p1), .val (.int p2), .val (.int (2 : Int32)), .val (.ref w_LESS), .unset] [(.int (1 : Int32))])
  refine own_step (fun t k => XS.goto X1.here hx rfl (pc0 := 67) (pc' := 71) rfl (hb hby at_67) (by decide) (by decide) k) ?_
  show own_Goes _ _ _ _ T1 (mkF m 71 #[.val (.int p1), .val (.int p2), .val (.int (2 : Int32)), .val (.ref w_LESS), .unset] [(.int (1 : Int32))])
  refine own_step (fun t k => XS.istore X1.here hx rfl (hb hby at_71) rfl (l' := #[.val (.int p1), .val (.int p2), .val (.int (2 : Int32)), .val (.ref w_LESS), .val (.int (1 : Int32))]) rfl k) ?_
  show own_Goes _ _ _ _ T1 (mkF m 73 #[.val (.int p1), .val (.int p2), .val (.int (2 : Int32)), .val (.ref w_LESS), .val (.int (1 : Int32))] [])
  refine own_step (fun t k => XS.goto X1.here hx rfl (pc0 := 73) (pc' := 137) rfl (hb hby at_73) (by decide) (by decide) k) ?_
  show own_Goes _ _ _ _ T1 (mkF m 137 #[.val (.int p1), .val (.int p2), .val (.int (2 : Int32)), .val (.ref w_LESS), .val (.int (1 : Int32))] [])
  refine own_step (fun t k => XS.aloadN X1.here hx rfl (hb hby at_137) rfl rfl k) ?_
  show own_Goes _ _ _ _ T1 (mkF m 138 #[.val (.int p1), .val (.int p2), .val (.int (2 : Int32)), .val (.ref w_LESS), .val (.int (1 : Int32))] [(.ref w_LESS)])
  refine own_step (fun t k => XS.iloadN X1.here hx rfl (hb hby at_138) rfl k) ?_
  show own_Goes _ _ _ _ T1 (mkF m 139 #[.val (.int p1), .val (.int p2), .val (.int (2 : Int32)), .val (.ref w_LESS), .val (.int (1 : Int32))] [(.int p2), (.ref w_LESS)])
  refine own_callV X1 hx hZ (y := (⟨"com/example/polyphony/polyphony/policy/Operator", "holds", "(I)Z"⟩ : MethodName)) (z := (⟨"com/example/polyphony/polyphony/policy/Operator", "holds", "(I)Z"⟩ : MethodName)) hown (hw _ (List.mem_of_getElem? (i := 4) rfl)) (hw _ (List.mem_of_getElem? (i := 5) rfl)) (notFace_of_selects (args := #[]) (mvT hZ (hw _ (List.mem_of_getElem? (i := 7) rfl)))) (hw _ (List.mem_of_getElem? (i := 7) rfl)) (hw _ (List.mem_of_getElem? (i := 6) rfl)) (hw _ (List.mem_of_getElem? (i := 8) rfl)) (hw _ (List.mem_of_getElem? (i := 2) rfl)) (by decide) 0 E_w_LESS [(.int p2)] [] (own_holds_n1 l Z a0 hw [] w_LESS p2 h0 n0 Z0 F_w_LESS_whenBefore q1) e1 (by decide) (by decide) (by decide) (by decide) (g := (mkF m 139 #[.val (.int p1), .val (.int p2), .val (.int (2 : Int32)), .val (.ref w_LESS), .val (.int (1 : Int32))] [(.int p2), (.ref w_LESS)])) rfl (by rw [hml]; rfl) own_pd0 rfl rfl (by show 2 * 0 + _ ≤ _; exact Nat.le_of_eq rfl) (hb hby at_139) ?_
  intro T2 v2 L2 X2 hQ2
  obtain ⟨rfl, N2q, e2⟩ := hQ2
  have N2 := Fr.app N0 N2q
  show own_Goes _ _ _ _ T2 (mkF m 142 #[.val (.int p1), .val (.int p2), .val (.int (2 : Int32)), .val (.ref w_LESS), .val (.int (1 : Int32))] [(.int (1 : Int32))])
  refine own_step (fun t k => XS.iload X2.here hx rfl (hb hby at_142) rfl k) ?_
  show own_Goes _ _ _ _ T2 (mkF m 144 #[.val (.int p1), .val (.int p2), .val (.int (2 : Int32)), .val (.ref w_LESS), .val (.int (1 : Int32))] [(.int (1 : Int32)), (.int (1 : Int32))])
  refine own_step (fun t k => XS.icmpNo X2.here hx rfl (hb hby at_144) rfl (teq (show (1 : Int32) = (1 : Int32) from (by decide))).2 k) ?_
  show own_Goes _ _ _ _ T2 (mkF m 147 #[.val (.int p1), .val (.int p2), .val (.int (2 : Int32)), .val (.ref w_LESS), .val (.int (1 : Int32))] [])
  refine own_step (fun t k => XS.iconst X2.here hx rfl (hb hby at_147) k) ?_
  show own_Goes _ _ _ _ T2 (mkF m 148 #[.val (.int p1), .val (.int p2), .val (.int (2 : Int32)), .val (.ref w_LESS), .val (.int (1 : Int32))] [(.int (1 : Int32))])
  refine own_step (fun t k => XS.goto X2.here hx rfl (pc0 := 148) (pc' := 152) rfl (hb hby at_148) (by decide) (by decide) k) ?_
  show own_Goes _ _ _ _ T2 (mkF m 152 #[.val (.int p1), .val (.int p2), .val (.int (2 : Int32)), .val (.ref w_LESS), .val (.int (1 : Int32))] [(.int (1 : Int32))])
  exact own_retN X2 hx hlk (t := .boolean) hrt (by simp) (hb hby at_152) ⟨rfl, N2⟩ (by decide) (by decide)
set_option maxRecDepth 65536 in
set_option maxHeartbeats 40000000 in
theorem own_law2z (l : Launch) (Z : State) (a0 : Array Value) (hw : ∀ d ∈ tables_1, d.before a0 Z = true) (ws : List Jvm.Cond) (p1 : Int32) (p2 : Int32) (w_LESS : Addr) (h0 : Heap) (n0 : Nat) (Z0 : n0 ≤ h0.size) (S_LESS : Sta Z h0 "com/example/polyphony/polyphony/policy/Operator" "LESS" "Lcom/example/polyphony/polyphony/policy/Operator;" (.ref w_LESS)) (E_w_LESS : Exa Z h0 w_LESS "com/example/polyphony/polyphony/policy/Operator") (F_w_LESS_whenBefore : Fld Z h0 w_LESS "com/example/polyphony/polyphony/policy/Operator" "whenBefore" "Z" (.int (1 : Int32))) (F_w_LESS_whenEqual : Fld Z h0 w_LESS "com/example/polyphony/polyphony/policy/Operator" "whenEqual" "Z" (.int (0 : Int32))) (F_w_LESS_whenAfter : Fld Z h0 w_LESS "com/example/polyphony/polyphony/policy/Operator" "whenAfter" "Z" (.int (0 : Int32))) (hi : ((p1 &&& (2147483647 : Int32)) - ((p1 &&& (2147483647 : Int32)) / (6 : Int32)) * (6 : Int32)) = (2 : Int32)) (q1 : ¬ (p2 < (0 : Int32))) (q2 : p2 = (0 : Int32)) (q3 : ¬ ((0 : Int32) < p2)) :
    own_Met l Z x code maxLocals ret ws room_1 #[(.int p1), (.int p2)] h0 (fun v h L => v = some (.int 1) ∧ Fr n0 L) := by
  refine own_body (plainFor_of_name own_pn_com_example_polyphony_polyphony_policy_OperatorHoldsPinLaw) (fun p e s m below meth c s₁ hx hby hml0 hrt hlk hown0 hnm hZ X0 e0 => ?_)
  have N0 := Fr.nil n0
  have hown : s.vm.findClass "com/example/polyphony/polyphony/policy/OperatorHoldsPinLaw" = some m.cls := hown0
  have hml : c.maxLocals = 5 := hml0
  refine own_castG (own_ef1 m p1 p2) ?_
  show own_Goes _ _ _ _ s₁ (mkF m 0 #[.val (.int p1), .val (.int p2), .unset, .unset, .unset] [])
  refine own_step (fun t k => XS.iloadN X0.here hx rfl (hb hby at_0) rfl k) ?_
  show own_Goes _ _ _ _ s₁ (mkF m 1 #[.val (.int p1), .val (.int p2), .unset, .unset, .unset] [(.int p1)])
  refine own_step (X0.ldcInt hx hown (mvT hZ (hw _ (List.mem_of_getElem? (i := 0) rfl))) (g := (mkF m 1 #[.val (.int p1), .val (.int p2), .unset, .unset, .unset] [(.int p1)])) rfl (hb hby at_1)) ?_
  show own_Goes _ _ _ _ s₁ (mkF m 3 #[.val (.int p1), .val (.int p2), .unset, .unset, .unset] [(.int (2147483647 : Int32)), (.int p1)])
  refine own_step (fun t k => XS.iand X0.here hx rfl (hb hby at_3) rfl k) ?_
  show own_Goes _ _ _ _ s₁ (mkF m 4 #[.val (.int p1), .val (.int p2), .unset, .unset, .unset] [(.int (p1 &&& (2147483647 : Int32)))])
  refine own_step (fun t k => XS.bipush X0.here hx rfl (hb hby at_4) k) ?_
  show own_Goes _ _ _ _ s₁ (mkF m 6 #[.val (.int p1), .val (.int p2), .unset, .unset, .unset] [(.int (6 : Int32)), (.int (p1 &&& (2147483647 : Int32)))])
  refine own_step (fun t k => XS.irem X0.here hx rfl (hb hby at_6) rfl (by decide) k) ?_
  show own_Goes _ _ _ _ s₁ (mkF m 7 #[.val (.int p1), .val (.int p2), .unset, .unset, .unset] [(.int ((p1 &&& (2147483647 : Int32)) - ((p1 &&& (2147483647 : Int32)) / (6 : Int32)) * (6 : Int32)))])
  rw [hi]
  show own_Goes _ _ _ _ s₁ (mkF m 7 #[.val (.int p1), .val (.int p2), .unset, .unset, .unset] [(.int (2 : Int32))])
  refine own_step (fun t k => XS.istoreN X0.here hx rfl (hb hby at_7) rfl (l' := #[.val (.int p1), .val (.int p2), .val (.int (2 : Int32)), .unset, .unset]) rfl k) ?_
  show own_Goes _ _ _ _ s₁ (mkF m 8 #[.val (.int p1), .val (.int p2), .val (.int (2 : Int32)), .unset, .unset] [])
  refine own_step (fun t k => XS.iloadN X0.here hx rfl (hb hby at_8) rfl k) ?_
  show own_Goes _ _ _ _ s₁ (mkF m 9 #[.val (.int p1), .val (.int p2), .val (.int (2 : Int32)), .unset, .unset] [(.int (2 : Int32))])
  refine own_step (fun t k => XS.ifYes X0.here hx rfl (pc0 := 9) (pc' := 30) rfl (hb hby at_9) rfl ((if0 _ _).trans (feq (show ¬ ((2 : Int32) = (0 : Int32)) from (by decide))).2) (by decide) (by decide) k) ?_
  show own_Goes _ _ _ _ s₁ (mkF m 30 #[.val (.int p1), .val (.int p2), .val (.int (2 : Int32)), .unset, .unset] [])
  refine own_step (fun t k => XS.iloadN X0.here hx rfl (hb hby at_30) rfl k) ?_
  show own_Goes _ _ _ _ s₁ (mkF m 31 #[.val (.int p1), .val (.int p2), .val (.int (2 : Int32)), .unset, .unset] [(.int (2 : Int32))])
  refine own_step (fun t k => XS.iconst X0.here hx rfl (hb hby at_31) k) ?_
  show own_Goes _ _ _ _ s₁ (mkF m 32 #[.val (.int p1), .val (.int p2), .val (.int (2 : Int32)), .unset, .unset] [(.int (1 : Int32)), (.int (2 : Int32))])
  refine own_step (fun t k => XS.icmpYes X0.here hx rfl (pc0 := 32) (pc' := 53) rfl (hb hby at_32) rfl (feq (show ¬ ((2 : Int32) = (1 : Int32)) from (by decide))).2 (by decide) (by decide) k) ?_
  show own_Goes _ _ _ _ s₁ (mkF m 53 #[.val (.int p1), .val (.int p2), .val (.int (2 : Int32)), .unset, .unset] [])
  refine own_step (fun t k => XS.iloadN X0.here hx rfl (hb hby at_53) rfl k) ?_
  show own_Goes _ _ _ _ s₁ (mkF m 54 #[.val (.int p1), .val (.int p2), .val (.int (2 : Int32)), .unset, .unset] [(.int (2 : Int32))])
  refine own_step (fun t k => XS.iconst X0.here hx rfl (hb hby at_54) k) ?_
  show own_Goes _ _ _ _ s₁ (mkF m 55 #[.val (.int p1), .val (.int p2), .val (.int (2 : Int32)), .unset, .unset] [(.int (2 : Int32)), (.int (2 : Int32))])
  refine own_step (fun t k => XS.icmpNo X0.here hx rfl (hb hby at_55) rfl (teq (show (2 : Int32) = (2 : Int32) from (by decide))).2 k) ?_
  show own_Goes _ _ _ _ s₁ (mkF m 58 #[.val (.int p1), .val (.int p2), .val (.int (2 : Int32)), .unset, .unset] [])
  obtain ⟨T1, X1, e1, st1⟩ := getS2 X0 hx hZ hown (host := "") (Or.inl (hw _ (List.mem_of_getElem? (i := 11) rfl))) Via.refl e0 S_LESS (g := (mkF m 58 #[.val (.int p1), .val (.int p2), .val (.int (2 : Int32)), .unset, .unset] [])) rfl (hb hby at_58)
  refine own_step st1 ?_
  show own_Goes _ _ _ _ T1 (mkF m 61 #[.val (.int p1), .val (.int p2), .val (.int (2 : Int32)), .unset, .unset] [(.ref w_LESS)])
  refine own_step (fun t k => XS.astoreN X1.here hx rfl (hb hby at_61) rfl rfl (l' := #[.val (.int p1), .val (.int p2), .val (.int (2 : Int32)), .val (.ref w_LESS), .unset]) rfl k) ?_
  show own_Goes _ _ _ _ T1 (mkF m 62 #[.val (.int p1), .val (.int p2), .val (.int (2 : Int32)), .val (.ref w_LESS), .unset] [])
  refine own_step (fun t k => XS.iloadN X1.here hx rfl (hb hby at_62) rfl k) ?_
  show own_Goes _ _ _ _ T1 (mkF m 63 #[.val (.int p1), .val (.int p2), .val (.int (2 : Int32)), .val (.ref w_LESS), .unset] [(.int p2)])
  refine own_step (fun t k => XS.ifYes X1.here hx rfl (pc0 := 63) (pc' := 70) rfl (hb hby at_63) rfl ((if0 _ _).trans (flt (show ¬ (p2 < (0 : Int32)) from q1)).2.1) (by decide) (by decide) k) ?_
  show own_Goes _ _ _ _ T1 (mkF m 70 #[.val (.int p1), .val (.int p2), .val (.int (2 : Int32)), .val (.ref w_LESS), .unset] [])
  refine own_step (fun t k => XS.iconst X1.here hx rfl (hb hby at_70) k) ?_
  show own_Goes _ _ _ _ T1 (mkF m 71 #[.val (.int p1), .val (.int p2), .val (.int (2 : Int32)), .val (.ref w_LESS), .unset] [(.int (0 : Int32))])
  refine own_step (fun t k => XS.istore X1.here hx rfl (hb hby at_71) rfl (l' := #[.val (.int p1), .val (.int p2), .val (.int (2 : Int32)), .val (.ref w_LESS), .val (.int (0 : Int32))]) rfl k) ?_
  show own_Goes _ _ _ _ T1 (mkF m 73 #[.val (.int p1), .val (.int p2), .val (.int (2 : Int32)), .val (.ref w_LESS), .val (.int (0 : Int32))] [])
  refine own_step (fun t k => XS.goto X1.here hx rfl (pc0 := 73) (pc' := 137) rfl (hb hby at_73) (by decide) (by decide) k) ?_
  show own_Goes _ _ _ _ T1 (mkF m 137 #[.val (.int p1), .val (.int p2), .val (.int (2 : Int32)), .val (.ref w_LESS), .val (.int (0 : Int32))] [])
  refine own_step (fun t k => XS.aloadN X1.here hx rfl (hb hby at_137) rfl rfl k) ?_
  show own_Goes _ _ _ _ T1 (mkF m 138 #[.val (.int p1), .val (.int p2), .val (.int (2 : Int32)), .val (.ref w_LESS), .val (.int (0 : Int32))] [(.ref w_LESS)])
  refine own_step (fun t k => XS.iloadN X1.here hx rfl (hb hby at_138) rfl k) ?_
  show own_Goes _ _ _ _ T1 (mkF m 139 #[.val (.int p1), .val (.int p2), .val (.int (2 : Int32)), .val (.ref w_LESS), .val (.int (0 : Int32))] [(.int p2), (.ref w_LESS)])
  refine own_callV X1 hx hZ (y := (⟨"com/example/polyphony/polyphony/policy/Operator", "holds", "(I)Z"⟩ : MethodName)) (z := (⟨"com/example/polyphony/polyphony/policy/Operator", "holds", "(I)Z"⟩ : MethodName)) hown (hw _ (List.mem_of_getElem? (i := 4) rfl)) (hw _ (List.mem_of_getElem? (i := 5) rfl)) (notFace_of_selects (args := #[]) (mvT hZ (hw _ (List.mem_of_getElem? (i := 7) rfl)))) (hw _ (List.mem_of_getElem? (i := 7) rfl)) (hw _ (List.mem_of_getElem? (i := 6) rfl)) (hw _ (List.mem_of_getElem? (i := 8) rfl)) (hw _ (List.mem_of_getElem? (i := 2) rfl)) (by decide) 0 E_w_LESS [(.int p2)] [] (own_holds_z0 l Z a0 hw [] w_LESS p2 h0 n0 Z0 F_w_LESS_whenEqual q1 q2) e1 (by decide) (by decide) (by decide) (by decide) (g := (mkF m 139 #[.val (.int p1), .val (.int p2), .val (.int (2 : Int32)), .val (.ref w_LESS), .val (.int (0 : Int32))] [(.int p2), (.ref w_LESS)])) rfl (by rw [hml]; rfl) own_pd0 rfl rfl (by show 2 * 0 + _ ≤ _; exact Nat.le_of_eq rfl) (hb hby at_139) ?_
  intro T2 v2 L2 X2 hQ2
  obtain ⟨rfl, N2q, e2⟩ := hQ2
  have N2 := Fr.app N0 N2q
  show own_Goes _ _ _ _ T2 (mkF m 142 #[.val (.int p1), .val (.int p2), .val (.int (2 : Int32)), .val (.ref w_LESS), .val (.int (0 : Int32))] [(.int (0 : Int32))])
  refine own_step (fun t k => XS.iload X2.here hx rfl (hb hby at_142) rfl k) ?_
  show own_Goes _ _ _ _ T2 (mkF m 144 #[.val (.int p1), .val (.int p2), .val (.int (2 : Int32)), .val (.ref w_LESS), .val (.int (0 : Int32))] [(.int (0 : Int32)), (.int (0 : Int32))])
  refine own_step (fun t k => XS.icmpNo X2.here hx rfl (hb hby at_144) rfl (teq (show (0 : Int32) = (0 : Int32) from (by decide))).2 k) ?_
  show own_Goes _ _ _ _ T2 (mkF m 147 #[.val (.int p1), .val (.int p2), .val (.int (2 : Int32)), .val (.ref w_LESS), .val (.int (0 : Int32))] [])
  refine own_step (fun t k => XS.iconst X2.here hx rfl (hb hby at_147) k) ?_
  show own_Goes _ _ _ _ T2 (mkF m 148 #[.val (.int p1), .val (.int p2), .val (.int (2 : Int32)), .val (.ref w_LESS), .val (.int (0 : Int32))] [(.int (1 : Int32))])
  refine own_step (fun t k => XS.goto X2.here hx rfl (pc0 := 148) (pc' := 152) rfl (hb hby at_148) (by decide) (by decide) k) ?_
  show own_Goes _ _ _ _ T2 (mkF m 152 #[.val (.int p1), .val (.int p2), .val (.int (2 : Int32)), .val (.ref w_LESS), .val (.int (0 : Int32))] [(.int (1 : Int32))])
  exact own_retN X2 hx hlk (t := .boolean) hrt (by simp) (hb hby at_152) ⟨rfl, N2⟩ (by decide) (by decide)
set_option maxRecDepth 65536 in
set_option maxHeartbeats 40000000 in
theorem own_law2p (l : Launch) (Z : State) (a0 : Array Value) (hw : ∀ d ∈ tables_1, d.before a0 Z = true) (ws : List Jvm.Cond) (p1 : Int32) (p2 : Int32) (w_LESS : Addr) (h0 : Heap) (n0 : Nat) (Z0 : n0 ≤ h0.size) (S_LESS : Sta Z h0 "com/example/polyphony/polyphony/policy/Operator" "LESS" "Lcom/example/polyphony/polyphony/policy/Operator;" (.ref w_LESS)) (E_w_LESS : Exa Z h0 w_LESS "com/example/polyphony/polyphony/policy/Operator") (F_w_LESS_whenBefore : Fld Z h0 w_LESS "com/example/polyphony/polyphony/policy/Operator" "whenBefore" "Z" (.int (1 : Int32))) (F_w_LESS_whenEqual : Fld Z h0 w_LESS "com/example/polyphony/polyphony/policy/Operator" "whenEqual" "Z" (.int (0 : Int32))) (F_w_LESS_whenAfter : Fld Z h0 w_LESS "com/example/polyphony/polyphony/policy/Operator" "whenAfter" "Z" (.int (0 : Int32))) (hi : ((p1 &&& (2147483647 : Int32)) - ((p1 &&& (2147483647 : Int32)) / (6 : Int32)) * (6 : Int32)) = (2 : Int32)) (q1 : ¬ (p2 < (0 : Int32))) (q2 : ¬ (p2 = (0 : Int32))) (q3 : (0 : Int32) < p2) :
    own_Met l Z x code maxLocals ret ws room_1 #[(.int p1), (.int p2)] h0 (fun v h L => v = some (.int 1) ∧ Fr n0 L) := by
  refine own_body (plainFor_of_name own_pn_com_example_polyphony_polyphony_policy_OperatorHoldsPinLaw) (fun p e s m below meth c s₁ hx hby hml0 hrt hlk hown0 hnm hZ X0 e0 => ?_)
  have N0 := Fr.nil n0
  have hown : s.vm.findClass "com/example/polyphony/polyphony/policy/OperatorHoldsPinLaw" = some m.cls := hown0
  have hml : c.maxLocals = 5 := hml0
  refine own_castG (own_ef1 m p1 p2) ?_
  show own_Goes _ _ _ _ s₁ (mkF m 0 #[.val (.int p1), .val (.int p2), .unset, .unset, .unset] [])
  refine own_step (fun t k => XS.iloadN X0.here hx rfl (hb hby at_0) rfl k) ?_
  show own_Goes _ _ _ _ s₁ (mkF m 1 #[.val (.int p1), .val (.int p2), .unset, .unset, .unset] [(.int p1)])
  refine own_step (X0.ldcInt hx hown (mvT hZ (hw _ (List.mem_of_getElem? (i := 0) rfl))) (g := (mkF m 1 #[.val (.int p1), .val (.int p2), .unset, .unset, .unset] [(.int p1)])) rfl (hb hby at_1)) ?_
  show own_Goes _ _ _ _ s₁ (mkF m 3 #[.val (.int p1), .val (.int p2), .unset, .unset, .unset] [(.int (2147483647 : Int32)), (.int p1)])
  refine own_step (fun t k => XS.iand X0.here hx rfl (hb hby at_3) rfl k) ?_
  show own_Goes _ _ _ _ s₁ (mkF m 4 #[.val (.int p1), .val (.int p2), .unset, .unset, .unset] [(.int (p1 &&& (2147483647 : Int32)))])
  refine own_step (fun t k => XS.bipush X0.here hx rfl (hb hby at_4) k) ?_
  show own_Goes _ _ _ _ s₁ (mkF m 6 #[.val (.int p1), .val (.int p2), .unset, .unset, .unset] [(.int (6 : Int32)), (.int (p1 &&& (2147483647 : Int32)))])
  refine own_step (fun t k => XS.irem X0.here hx rfl (hb hby at_6) rfl (by decide) k) ?_
  show own_Goes _ _ _ _ s₁ (mkF m 7 #[.val (.int p1), .val (.int p2), .unset, .unset, .unset] [(.int ((p1 &&& (2147483647 : Int32)) - ((p1 &&& (2147483647 : Int32)) / (6 : Int32)) * (6 : Int32)))])
  rw [hi]
  show own_Goes _ _ _ _ s₁ (mkF m 7 #[.val (.int p1), .val (.int p2), .unset, .unset, .unset] [(.int (2 : Int32))])
  refine own_step (fun t k => XS.istoreN X0.here hx rfl (hb hby at_7) rfl (l' := #[.val (.int p1), .val (.int p2), .val (.int (2 : Int32)), .unset, .unset]) rfl k) ?_
  show own_Goes _ _ _ _ s₁ (mkF m 8 #[.val (.int p1), .val (.int p2), .val (.int (2 : Int32)), .unset, .unset] [])
  refine own_step (fun t k => XS.iloadN X0.here hx rfl (hb hby at_8) rfl k) ?_
  show own_Goes _ _ _ _ s₁ (mkF m 9 #[.val (.int p1), .val (.int p2), .val (.int (2 : Int32)), .unset, .unset] [(.int (2 : Int32))])
  refine own_step (fun t k => XS.ifYes X0.here hx rfl (pc0 := 9) (pc' := 30) rfl (hb hby at_9) rfl ((if0 _ _).trans (feq (show ¬ ((2 : Int32) = (0 : Int32)) from (by decide))).2) (by decide) (by decide) k) ?_
  show own_Goes _ _ _ _ s₁ (mkF m 30 #[.val (.int p1), .val (.int p2), .val (.int (2 : Int32)), .unset, .unset] [])
  refine own_step (fun t k => XS.iloadN X0.here hx rfl (hb hby at_30) rfl k) ?_
  show own_Goes _ _ _ _ s₁ (mkF m 31 #[.val (.int p1), .val (.int p2), .val (.int (2 : Int32)), .unset, .unset] [(.int (2 : Int32))])
  refine own_step (fun t k => XS.iconst X0.here hx rfl (hb hby at_31) k) ?_
  show own_Goes _ _ _ _ s₁ (mkF m 32 #[.val (.int p1), .val (.int p2), .val (.int (2 : Int32)), .unset, .unset] [(.int (1 : Int32)), (.int (2 : Int32))])
  refine own_step (fun t k => XS.icmpYes X0.here hx rfl (pc0 := 32) (pc' := 53) rfl (hb hby at_32) rfl (feq (show ¬ ((2 : Int32) = (1 : Int32)) from (by decide))).2 (by decide) (by decide) k) ?_
  show own_Goes _ _ _ _ s₁ (mkF m 53 #[.val (.int p1), .val (.int p2), .val (.int (2 : Int32)), .unset, .unset] [])
  refine own_step (fun t k => XS.iloadN X0.here hx rfl (hb hby at_53) rfl k) ?_
  show own_Goes _ _ _ _ s₁ (mkF m 54 #[.val (.int p1), .val (.int p2), .val (.int (2 : Int32)), .unset, .unset] [(.int (2 : Int32))])
  refine own_step (fun t k => XS.iconst X0.here hx rfl (hb hby at_54) k) ?_
  show own_Goes _ _ _ _ s₁ (mkF m 55 #[.val (.int p1), .val (.int p2), .val (.int (2 : Int32)), .unset, .unset] [(.int (2 : Int32)), (.int (2 : Int32))])
  refine own_step (fun t k => XS.icmpNo X0.here hx rfl (hb hby at_55) rfl (teq (show (2 : Int32) = (2 : Int32) from (by decide))).2 k) ?_
  show own_Goes _ _ _ _ s₁ (mkF m 58 #[.val (.int p1), .val (.int p2), .val (.int (2 : Int32)), .unset, .unset] [])
  obtain ⟨T1, X1, e1, st1⟩ := getS2 X0 hx hZ hown (host := "") (Or.inl (hw _ (List.mem_of_getElem? (i := 11) rfl))) Via.refl e0 S_LESS (g := (mkF m 58 #[.val (.int p1), .val (.int p2), .val (.int (2 : Int32)), .unset, .unset] [])) rfl (hb hby at_58)
  refine own_step st1 ?_
  show own_Goes _ _ _ _ T1 (mkF m 61 #[.val (.int p1), .val (.int p2), .val (.int (2 : Int32)), .unset, .unset] [(.ref w_LESS)])
  refine own_step (fun t k => XS.astoreN X1.here hx rfl (hb hby at_61) rfl rfl (l' := #[.val (.int p1), .val (.int p2), .val (.int (2 : Int32)), .val (.ref w_LESS), .unset]) rfl k) ?_
  show own_Goes _ _ _ _ T1 (mkF m 62 #[.val (.int p1), .val (.int p2), .val (.int (2 : Int32)), .val (.ref w_LESS), .unset] [])
  refine own_step (fun t k => XS.iloadN X1.here hx rfl (hb hby at_62) rfl k) ?_
  show own_Goes _ _ _ _ T1 (mkF m 63 #[.val (.int p1), .val (.int p2), .val (.int (2 : Int32)), .val (.ref w_LESS), .unset] [(.int p2)])
  refine own_step (fun t k => XS.ifYes X1.here hx rfl (pc0 := 63) (pc' := 70) rfl (hb hby at_63) rfl ((if0 _ _).trans (flt (show ¬ (p2 < (0 : Int32)) from q1)).2.1) (by decide) (by decide) k) ?_
  show own_Goes _ _ _ _ T1 (mkF m 70 #[.val (.int p1), .val (.int p2), .val (.int (2 : Int32)), .val (.ref w_LESS), .unset] [])
  refine own_step (fun t k => XS.iconst X1.here hx rfl (hb hby at_70) k) ?_
  show own_Goes _ _ _ _ T1 (mkF m 71 #[.val (.int p1), .val (.int p2), .val (.int (2 : Int32)), .val (.ref w_LESS), .unset] [(.int (0 : Int32))])
  refine own_step (fun t k => XS.istore X1.here hx rfl (hb hby at_71) rfl (l' := #[.val (.int p1), .val (.int p2), .val (.int (2 : Int32)), .val (.ref w_LESS), .val (.int (0 : Int32))]) rfl k) ?_
  show own_Goes _ _ _ _ T1 (mkF m 73 #[.val (.int p1), .val (.int p2), .val (.int (2 : Int32)), .val (.ref w_LESS), .val (.int (0 : Int32))] [])
  refine own_step (fun t k => XS.goto X1.here hx rfl (pc0 := 73) (pc' := 137) rfl (hb hby at_73) (by decide) (by decide) k) ?_
  show own_Goes _ _ _ _ T1 (mkF m 137 #[.val (.int p1), .val (.int p2), .val (.int (2 : Int32)), .val (.ref w_LESS), .val (.int (0 : Int32))] [])
  refine own_step (fun t k => XS.aloadN X1.here hx rfl (hb hby at_137) rfl rfl k) ?_
  show own_Goes _ _ _ _ T1 (mkF m 138 #[.val (.int p1), .val (.int p2), .val (.int (2 : Int32)), .val (.ref w_LESS), .val (.int (0 : Int32))] [(.ref w_LESS)])
  refine own_step (fun t k => XS.iloadN X1.here hx rfl (hb hby at_138) rfl k) ?_
  show own_Goes _ _ _ _ T1 (mkF m 139 #[.val (.int p1), .val (.int p2), .val (.int (2 : Int32)), .val (.ref w_LESS), .val (.int (0 : Int32))] [(.int p2), (.ref w_LESS)])
  refine own_callV X1 hx hZ (y := (⟨"com/example/polyphony/polyphony/policy/Operator", "holds", "(I)Z"⟩ : MethodName)) (z := (⟨"com/example/polyphony/polyphony/policy/Operator", "holds", "(I)Z"⟩ : MethodName)) hown (hw _ (List.mem_of_getElem? (i := 4) rfl)) (hw _ (List.mem_of_getElem? (i := 5) rfl)) (notFace_of_selects (args := #[]) (mvT hZ (hw _ (List.mem_of_getElem? (i := 7) rfl)))) (hw _ (List.mem_of_getElem? (i := 7) rfl)) (hw _ (List.mem_of_getElem? (i := 6) rfl)) (hw _ (List.mem_of_getElem? (i := 8) rfl)) (hw _ (List.mem_of_getElem? (i := 2) rfl)) (by decide) 0 E_w_LESS [(.int p2)] [] (own_holds_p0 l Z a0 hw [] w_LESS p2 h0 n0 Z0 F_w_LESS_whenAfter q1 q2) e1 (by decide) (by decide) (by decide) (by decide) (g := (mkF m 139 #[.val (.int p1), .val (.int p2), .val (.int (2 : Int32)), .val (.ref w_LESS), .val (.int (0 : Int32))] [(.int p2), (.ref w_LESS)])) rfl (by rw [hml]; rfl) own_pd0 rfl rfl (by show 2 * 0 + _ ≤ _; exact Nat.le_of_eq rfl) (hb hby at_139) ?_
  intro T2 v2 L2 X2 hQ2
  obtain ⟨rfl, N2q, e2⟩ := hQ2
  have N2 := Fr.app N0 N2q
  show own_Goes _ _ _ _ T2 (mkF m 142 #[.val (.int p1), .val (.int p2), .val (.int (2 : Int32)), .val (.ref w_LESS), .val (.int (0 : Int32))] [(.int (0 : Int32))])
  refine own_step (fun t k => XS.iload X2.here hx rfl (hb hby at_142) rfl k) ?_
  show own_Goes _ _ _ _ T2 (mkF m 144 #[.val (.int p1), .val (.int p2), .val (.int (2 : Int32)), .val (.ref w_LESS), .val (.int (0 : Int32))] [(.int (0 : Int32)), (.int (0 : Int32))])
  refine own_step (fun t k => XS.icmpNo X2.here hx rfl (hb hby at_144) rfl (teq (show (0 : Int32) = (0 : Int32) from (by decide))).2 k) ?_
  show own_Goes _ _ _ _ T2 (mkF m 147 #[.val (.int p1), .val (.int p2), .val (.int (2 : Int32)), .val (.ref w_LESS), .val (.int (0 : Int32))] [])
  refine own_step (fun t k => XS.iconst X2.here hx rfl (hb hby at_147) k) ?_
  show own_Goes _ _ _ _ T2 (mkF m 148 #[.val (.int p1), .val (.int p2), .val (.int (2 : Int32)), .val (.ref w_LESS), .val (.int (0 : Int32))] [(.int (1 : Int32))])
  refine own_step (fun t k => XS.goto X2.here hx rfl (pc0 := 148) (pc' := 152) rfl (hb hby at_148) (by decide) (by decide) k) ?_
  show own_Goes _ _ _ _ T2 (mkF m 152 #[.val (.int p1), .val (.int p2), .val (.int (2 : Int32)), .val (.ref w_LESS), .val (.int (0 : Int32))] [(.int (1 : Int32))])
  exact own_retN X2 hx hlk (t := .boolean) hrt (by simp) (hb hby at_152) ⟨rfl, N2⟩ (by decide) (by decide)
set_option maxRecDepth 65536 in
set_option maxHeartbeats 40000000 in
theorem own_law3n (l : Launch) (Z : State) (a0 : Array Value) (hw : ∀ d ∈ tables_1, d.before a0 Z = true) (ws : List Jvm.Cond) (p1 : Int32) (p2 : Int32) (w_LESS_OR_EQUAL : Addr) (h0 : Heap) (n0 : Nat) (Z0 : n0 ≤ h0.size) (S_LESS_OR_EQUAL : Sta Z h0 "com/example/polyphony/polyphony/policy/Operator" "LESS_OR_EQUAL" "Lcom/example/polyphony/polyphony/policy/Operator;" (.ref w_LESS_OR_EQUAL)) (E_w_LESS_OR_EQUAL : Exa Z h0 w_LESS_OR_EQUAL "com/example/polyphony/polyphony/policy/Operator") (F_w_LESS_OR_EQUAL_whenBefore : Fld Z h0 w_LESS_OR_EQUAL "com/example/polyphony/polyphony/policy/Operator" "whenBefore" "Z" (.int (1 : Int32))) (F_w_LESS_OR_EQUAL_whenEqual : Fld Z h0 w_LESS_OR_EQUAL "com/example/polyphony/polyphony/policy/Operator" "whenEqual" "Z" (.int (1 : Int32))) (F_w_LESS_OR_EQUAL_whenAfter : Fld Z h0 w_LESS_OR_EQUAL "com/example/polyphony/polyphony/policy/Operator" "whenAfter" "Z" (.int (0 : Int32))) (hi : ((p1 &&& (2147483647 : Int32)) - ((p1 &&& (2147483647 : Int32)) / (6 : Int32)) * (6 : Int32)) = (3 : Int32)) (q1 : p2 < (0 : Int32)) (q2 : ¬ (p2 = (0 : Int32))) (q3 : ¬ ((0 : Int32) < p2)) :
    own_Met l Z x code maxLocals ret ws room_1 #[(.int p1), (.int p2)] h0 (fun v h L => v = some (.int 1) ∧ Fr n0 L) := by
  refine own_body (plainFor_of_name own_pn_com_example_polyphony_polyphony_policy_OperatorHoldsPinLaw) (fun p e s m below meth c s₁ hx hby hml0 hrt hlk hown0 hnm hZ X0 e0 => ?_)
  have N0 := Fr.nil n0
  have hown : s.vm.findClass "com/example/polyphony/polyphony/policy/OperatorHoldsPinLaw" = some m.cls := hown0
  have hml : c.maxLocals = 5 := hml0
  refine own_castG (own_ef1 m p1 p2) ?_
  show own_Goes _ _ _ _ s₁ (mkF m 0 #[.val (.int p1), .val (.int p2), .unset, .unset, .unset] [])
  refine own_step (fun t k => XS.iloadN X0.here hx rfl (hb hby at_0) rfl k) ?_
  show own_Goes _ _ _ _ s₁ (mkF m 1 #[.val (.int p1), .val (.int p2), .unset, .unset, .unset] [(.int p1)])
  refine own_step (X0.ldcInt hx hown (mvT hZ (hw _ (List.mem_of_getElem? (i := 0) rfl))) (g := (mkF m 1 #[.val (.int p1), .val (.int p2), .unset, .unset, .unset] [(.int p1)])) rfl (hb hby at_1)) ?_
  show own_Goes _ _ _ _ s₁ (mkF m 3 #[.val (.int p1), .val (.int p2), .unset, .unset, .unset] [(.int (2147483647 : Int32)), (.int p1)])
  refine own_step (fun t k => XS.iand X0.here hx rfl (hb hby at_3) rfl k) ?_
  show own_Goes _ _ _ _ s₁ (mkF m 4 #[.val (.int p1), .val (.int p2), .unset, .unset, .unset] [(.int (p1 &&& (2147483647 : Int32)))])
  refine own_step (fun t k => XS.bipush X0.here hx rfl (hb hby at_4) k) ?_
  show own_Goes _ _ _ _ s₁ (mkF m 6 #[.val (.int p1), .val (.int p2), .unset, .unset, .unset] [(.int (6 : Int32)), (.int (p1 &&& (2147483647 : Int32)))])
  refine own_step (fun t k => XS.irem X0.here hx rfl (hb hby at_6) rfl (by decide) k) ?_
  show own_Goes _ _ _ _ s₁ (mkF m 7 #[.val (.int p1), .val (.int p2), .unset, .unset, .unset] [(.int ((p1 &&& (2147483647 : Int32)) - ((p1 &&& (2147483647 : Int32)) / (6 : Int32)) * (6 : Int32)))])
  rw [hi]
  show own_Goes _ _ _ _ s₁ (mkF m 7 #[.val (.int p1), .val (.int p2), .unset, .unset, .unset] [(.int (3 : Int32))])
  refine own_step (fun t k => XS.istoreN X0.here hx rfl (hb hby at_7) rfl (l' := #[.val (.int p1), .val (.int p2), .val (.int (3 : Int32)), .unset, .unset]) rfl k) ?_
  show own_Goes _ _ _ _ s₁ (mkF m 8 #[.val (.int p1), .val (.int p2), .val (.int (3 : Int32)), .unset, .unset] [])
  refine own_step (fun t k => XS.iloadN X0.here hx rfl (hb hby at_8) rfl k) ?_
  show own_Goes _ _ _ _ s₁ (mkF m 9 #[.val (.int p1), .val (.int p2), .val (.int (3 : Int32)), .unset, .unset] [(.int (3 : Int32))])
  refine own_step (fun t k => XS.ifYes X0.here hx rfl (pc0 := 9) (pc' := 30) rfl (hb hby at_9) rfl ((if0 _ _).trans (feq (show ¬ ((3 : Int32) = (0 : Int32)) from (by decide))).2) (by decide) (by decide) k) ?_
  show own_Goes _ _ _ _ s₁ (mkF m 30 #[.val (.int p1), .val (.int p2), .val (.int (3 : Int32)), .unset, .unset] [])
  refine own_step (fun t k => XS.iloadN X0.here hx rfl (hb hby at_30) rfl k) ?_
  show own_Goes _ _ _ _ s₁ (mkF m 31 #[.val (.int p1), .val (.int p2), .val (.int (3 : Int32)), .unset, .unset] [(.int (3 : Int32))])
  refine own_step (fun t k => XS.iconst X0.here hx rfl (hb hby at_31) k) ?_
  show own_Goes _ _ _ _ s₁ (mkF m 32 #[.val (.int p1), .val (.int p2), .val (.int (3 : Int32)), .unset, .unset] [(.int (1 : Int32)), (.int (3 : Int32))])
  refine own_step (fun t k => XS.icmpYes X0.here hx rfl (pc0 := 32) (pc' := 53) rfl (hb hby at_32) rfl (feq (show ¬ ((3 : Int32) = (1 : Int32)) from (by decide))).2 (by decide) (by decide) k) ?_
  show own_Goes _ _ _ _ s₁ (mkF m 53 #[.val (.int p1), .val (.int p2), .val (.int (3 : Int32)), .unset, .unset] [])
  refine own_step (fun t k => XS.iloadN X0.here hx rfl (hb hby at_53) rfl k) ?_
  show own_Goes _ _ _ _ s₁ (mkF m 54 #[.val (.int p1), .val (.int p2), .val (.int (3 : Int32)), .unset, .unset] [(.int (3 : Int32))])
  refine own_step (fun t k => XS.iconst X0.here hx rfl (hb hby at_54) k) ?_
  show own_Goes _ _ _ _ s₁ (mkF m 55 #[.val (.int p1), .val (.int p2), .val (.int (3 : Int32)), .unset, .unset] [(.int (2 : Int32)), (.int (3 : Int32))])
  refine own_step (fun t k => XS.icmpYes X0.here hx rfl (pc0 := 55) (pc' := 76) rfl (hb hby at_55) rfl (feq (show ¬ ((3 : Int32) = (2 : Int32)) from (by decide))).2 (by decide) (by decide) k) ?_
  show own_Goes _ _ _ _ s₁ (mkF m 76 #[.val (.int p1), .val (.int p2), .val (.int (3 : Int32)), .unset, .unset] [])
  refine own_step (fun t k => XS.iloadN X0.here hx rfl (hb hby at_76) rfl k) ?_
  show own_Goes _ _ _ _ s₁ (mkF m 77 #[.val (.int p1), .val (.int p2), .val (.int (3 : Int32)), .unset, .unset] [(.int (3 : Int32))])
  refine own_step (fun t k => XS.iconst X0.here hx rfl (hb hby at_77) k) ?_
  show own_Goes _ _ _ _ s₁ (mkF m 78 #[.val (.int p1), .val (.int p2), .val (.int (3 : Int32)), .unset, .unset] [(.int (3 : Int32)), (.int (3 : Int32))])
  refine own_step (fun t k => XS.icmpNo X0.here hx rfl (hb hby at_78) rfl (teq (show (3 : Int32) = (3 : Int32) from (by decide))).2 k) ?_
  show own_Goes _ _ _ _ s₁ (mkF m 81 #[.val (.int p1), .val (.int p2), .val (.int (3 : Int32)), .unset, .unset] [])
  obtain ⟨T1, X1, e1, st1⟩ := getS2 X0 hx hZ hown (host := "") (Or.inl (hw _ (List.mem_of_getElem? (i := 21) rfl))) Via.refl e0 S_LESS_OR_EQUAL (g := (mkF m 81 #[.val (.int p1), .val (.int p2), .val (.int (3 : Int32)), .unset, .unset] [])) rfl (hb hby at_81)
  refine own_step st1 ?_
  show own_Goes _ _ _ _ T1 (mkF m 84 #[.val (.int p1), .val (.int p2), .val (.int (3 : Int32)), .unset, .unset] [(.ref w_LESS_OR_EQUAL)])
  refine own_step (fun t k => XS.astoreN X1.here hx rfl (hb hby at_84) rfl rfl (l' := #[.val (.int p1), .val (.int p2), .val (.int (3 : Int32)), .val (.ref w_LESS_OR_EQUAL), .unset]) rfl k) ?_
  show own_Goes _ _ _ _ T1 (mkF m 85 #[.val (.int p1), .val (.int p2), .val (.int (3 : Int32)), .val (.ref w_LESS_OR_EQUAL), .unset] [])
  refine own_step (fun t k => XS.iloadN X1.here hx rfl (hb hby at_85) rfl k) ?_
  show own_Goes _ _ _ _ T1 (mkF m 86 #[.val (.int p1), .val (.int p2), .val (.int (3 : Int32)), .val (.ref w_LESS_OR_EQUAL), .unset] [(.int p2)])
  refine own_step (fun t k => XS.ifNo X1.here hx rfl (hb hby at_86) rfl ((if0 _ _).trans (flt (show ¬ ((0 : Int32) < p2) from q3)).2.2.1) k) ?_
  show own_Goes _ _ _ _ T1 (mkF m 89 #[.val (.int p1), .val (.int p2), .val (.int (3 : Int32)), .val (.ref w_LESS_OR_EQUAL), .unset] [])
  refine own_step (fun t k => XS.iconst X1.here hx rfl (hb hby at_89) k) ?_
  show own_Goes _ _ _ _ T1 (mkF m 90 #[.val (.int p1), .val (.int p2), .val (.int (3 : Int32)), .val (.ref w_LESS_OR_EQUAL), .unset] [(.int (1 : Int32))])
  refine own_step (fun t k => XS.goto X1.here hx rfl (pc0 := 90) (pc' := 94) rfl (hb hby at_90) (by decide) (by decide) k) ?_
  show own_Goes _ _ _ _ T1 (mkF m 94 #[.val (.int p1), .val (.int p2), .val (.int (3 : Int32)), .val (.ref w_LESS_OR_EQUAL), .unset] [(.int (1 : Int32))])
  refine own_step (fun t k => XS.istore X1.here hx rfl (hb hby at_94) rfl (l' := #[.val (.int p1), .val (.int p2), .val (.int (3 : Int32)), .val (.ref w_LESS_OR_EQUAL), .val (.int (1 : Int32))]) rfl k) ?_
  show own_Goes _ _ _ _ T1 (mkF m 96 #[.val (.int p1), .val (.int p2), .val (.int (3 : Int32)), .val (.ref w_LESS_OR_EQUAL), .val (.int (1 : Int32))] [])
  refine own_step (fun t k => XS.goto X1.here hx rfl (pc0 := 96) (pc' := 137) rfl (hb hby at_96) (by decide) (by decide) k) ?_
  show own_Goes _ _ _ _ T1 (mkF m 137 #[.val (.int p1), .val (.int p2), .val (.int (3 : Int32)), .val (.ref w_LESS_OR_EQUAL), .val (.int (1 : Int32))] [])
  refine own_step (fun t k => XS.aloadN X1.here hx rfl (hb hby at_137) rfl rfl k) ?_
  show own_Goes _ _ _ _ T1 (mkF m 138 #[.val (.int p1), .val (.int p2), .val (.int (3 : Int32)), .val (.ref w_LESS_OR_EQUAL), .val (.int (1 : Int32))] [(.ref w_LESS_OR_EQUAL)])
  refine own_step (fun t k => XS.iloadN X1.here hx rfl (hb hby at_138) rfl k) ?_
  show own_Goes _ _ _ _ T1 (mkF m 139 #[.val (.int p1), .val (.int p2), .val (.int (3 : Int32)), .val (.ref w_LESS_OR_EQUAL), .val (.int (1 : Int32))] [(.int p2), (.ref w_LESS_OR_EQUAL)])
  refine own_callV X1 hx hZ (y := (⟨"com/example/polyphony/polyphony/policy/Operator", "holds", "(I)Z"⟩ : MethodName)) (z := (⟨"com/example/polyphony/polyphony/policy/Operator", "holds", "(I)Z"⟩ : MethodName)) hown (hw _ (List.mem_of_getElem? (i := 4) rfl)) (hw _ (List.mem_of_getElem? (i := 5) rfl)) (notFace_of_selects (args := #[]) (mvT hZ (hw _ (List.mem_of_getElem? (i := 7) rfl)))) (hw _ (List.mem_of_getElem? (i := 7) rfl)) (hw _ (List.mem_of_getElem? (i := 6) rfl)) (hw _ (List.mem_of_getElem? (i := 8) rfl)) (hw _ (List.mem_of_getElem? (i := 2) rfl)) (by decide) 0 E_w_LESS_OR_EQUAL [(.int p2)] [] (own_holds_n1 l Z a0 hw [] w_LESS_OR_EQUAL p2 h0 n0 Z0 F_w_LESS_OR_EQUAL_whenBefore q1) e1 (by decide) (by decide) (by decide) (by decide) (g := (mkF m 139 #[.val (.int p1), .val (.int p2), .val (.int (3 : Int32)), .val (.ref w_LESS_OR_EQUAL), .val (.int (1 : Int32))] [(.int p2), (.ref w_LESS_OR_EQUAL)])) rfl (by rw [hml]; rfl) own_pd0 rfl rfl (by show 2 * 0 + _ ≤ _; exact Nat.le_of_eq rfl) (hb hby at_139) ?_
  intro T2 v2 L2 X2 hQ2
  obtain ⟨rfl, N2q, e2⟩ := hQ2
  have N2 := Fr.app N0 N2q
  show own_Goes _ _ _ _ T2 (mkF m 142 #[.val (.int p1), .val (.int p2), .val (.int (3 : Int32)), .val (.ref w_LESS_OR_EQUAL), .val (.int (1 : Int32))] [(.int (1 : Int32))])
  refine own_step (fun t k => XS.iload X2.here hx rfl (hb hby at_142) rfl k) ?_
  show own_Goes _ _ _ _ T2 (mkF m 144 #[.val (.int p1), .val (.int p2), .val (.int (3 : Int32)), .val (.ref w_LESS_OR_EQUAL), .val (.int (1 : Int32))] [(.int (1 : Int32)), (.int (1 : Int32))])
  refine own_step (fun t k => XS.icmpNo X2.here hx rfl (hb hby at_144) rfl (teq (show (1 : Int32) = (1 : Int32) from (by decide))).2 k) ?_
  show own_Goes _ _ _ _ T2 (mkF m 147 #[.val (.int p1), .val (.int p2), .val (.int (3 : Int32)), .val (.ref w_LESS_OR_EQUAL), .val (.int (1 : Int32))] [])
  refine own_step (fun t k => XS.iconst X2.here hx rfl (hb hby at_147) k) ?_
  show own_Goes _ _ _ _ T2 (mkF m 148 #[.val (.int p1), .val (.int p2), .val (.int (3 : Int32)), .val (.ref w_LESS_OR_EQUAL), .val (.int (1 : Int32))] [(.int (1 : Int32))])
  refine own_step (fun t k => XS.goto X2.here hx rfl (pc0 := 148) (pc' := 152) rfl (hb hby at_148) (by decide) (by decide) k) ?_
  show own_Goes _ _ _ _ T2 (mkF m 152 #[.val (.int p1), .val (.int p2), .val (.int (3 : Int32)), .val (.ref w_LESS_OR_EQUAL), .val (.int (1 : Int32))] [(.int (1 : Int32))])
  exact own_retN X2 hx hlk (t := .boolean) hrt (by simp) (hb hby at_152) ⟨rfl, N2⟩ (by decide) (by decide)
set_option maxRecDepth 65536 in
set_option maxHeartbeats 40000000 in
theorem own_law3z (l : Launch) (Z : State) (a0 : Array Value) (hw : ∀ d ∈ tables_1, d.before a0 Z = true) (ws : List Jvm.Cond) (p1 : Int32) (p2 : Int32) (w_LESS_OR_EQUAL : Addr) (h0 : Heap) (n0 : Nat) (Z0 : n0 ≤ h0.size) (S_LESS_OR_EQUAL : Sta Z h0 "com/example/polyphony/polyphony/policy/Operator" "LESS_OR_EQUAL" "Lcom/example/polyphony/polyphony/policy/Operator;" (.ref w_LESS_OR_EQUAL)) (E_w_LESS_OR_EQUAL : Exa Z h0 w_LESS_OR_EQUAL "com/example/polyphony/polyphony/policy/Operator") (F_w_LESS_OR_EQUAL_whenBefore : Fld Z h0 w_LESS_OR_EQUAL "com/example/polyphony/polyphony/policy/Operator" "whenBefore" "Z" (.int (1 : Int32))) (F_w_LESS_OR_EQUAL_whenEqual : Fld Z h0 w_LESS_OR_EQUAL "com/example/polyphony/polyphony/policy/Operator" "whenEqual" "Z" (.int (1 : Int32))) (F_w_LESS_OR_EQUAL_whenAfter : Fld Z h0 w_LESS_OR_EQUAL "com/example/polyphony/polyphony/policy/Operator" "whenAfter" "Z" (.int (0 : Int32))) (hi : ((p1 &&& (2147483647 : Int32)) - ((p1 &&& (2147483647 : Int32)) / (6 : Int32)) * (6 : Int32)) = (3 : Int32)) (q1 : ¬ (p2 < (0 : Int32))) (q2 : p2 = (0 : Int32)) (q3 : ¬ ((0 : Int32) < p2)) :
    own_Met l Z x code maxLocals ret ws room_1 #[(.int p1), (.int p2)] h0 (fun v h L => v = some (.int 1) ∧ Fr n0 L) := by
  refine own_body (plainFor_of_name own_pn_com_example_polyphony_polyphony_policy_OperatorHoldsPinLaw) (fun p e s m below meth c s₁ hx hby hml0 hrt hlk hown0 hnm hZ X0 e0 => ?_)
  have N0 := Fr.nil n0
  have hown : s.vm.findClass "com/example/polyphony/polyphony/policy/OperatorHoldsPinLaw" = some m.cls := hown0
  have hml : c.maxLocals = 5 := hml0
  refine own_castG (own_ef1 m p1 p2) ?_
  show own_Goes _ _ _ _ s₁ (mkF m 0 #[.val (.int p1), .val (.int p2), .unset, .unset, .unset] [])
  refine own_step (fun t k => XS.iloadN X0.here hx rfl (hb hby at_0) rfl k) ?_
  show own_Goes _ _ _ _ s₁ (mkF m 1 #[.val (.int p1), .val (.int p2), .unset, .unset, .unset] [(.int p1)])
  refine own_step (X0.ldcInt hx hown (mvT hZ (hw _ (List.mem_of_getElem? (i := 0) rfl))) (g := (mkF m 1 #[.val (.int p1), .val (.int p2), .unset, .unset, .unset] [(.int p1)])) rfl (hb hby at_1)) ?_
  show own_Goes _ _ _ _ s₁ (mkF m 3 #[.val (.int p1), .val (.int p2), .unset, .unset, .unset] [(.int (2147483647 : Int32)), (.int p1)])
  refine own_step (fun t k => XS.iand X0.here hx rfl (hb hby at_3) rfl k) ?_
  show own_Goes _ _ _ _ s₁ (mkF m 4 #[.val (.int p1), .val (.int p2), .unset, .unset, .unset] [(.int (p1 &&& (2147483647 : Int32)))])
  refine own_step (fun t k => XS.bipush X0.here hx rfl (hb hby at_4) k) ?_
  show own_Goes _ _ _ _ s₁ (mkF m 6 #[.val (.int p1), .val (.int p2), .unset, .unset, .unset] [(.int (6 : Int32)), (.int (p1 &&& (2147483647 : Int32)))])
  refine own_step (fun t k => XS.irem X0.here hx rfl (hb hby at_6) rfl (by decide) k) ?_
  show own_Goes _ _ _ _ s₁ (mkF m 7 #[.val (.int p1), .val (.int p2), .unset, .unset, .unset] [(.int ((p1 &&& (2147483647 : Int32)) - ((p1 &&& (2147483647 : Int32)) / (6 : Int32)) * (6 : Int32)))])
  rw [hi]
  show own_Goes _ _ _ _ s₁ (mkF m 7 #[.val (.int p1), .val (.int p2), .unset, .unset, .unset] [(.int (3 : Int32))])
  refine own_step (fun t k => XS.istoreN X0.here hx rfl (hb hby at_7) rfl (l' := #[.val (.int p1), .val (.int p2), .val (.int (3 : Int32)), .unset, .unset]) rfl k) ?_
  show own_Goes _ _ _ _ s₁ (mkF m 8 #[.val (.int p1), .val (.int p2), .val (.int (3 : Int32)), .unset, .unset] [])
  refine own_step (fun t k => XS.iloadN X0.here hx rfl (hb hby at_8) rfl k) ?_
  show own_Goes _ _ _ _ s₁ (mkF m 9 #[.val (.int p1), .val (.int p2), .val (.int (3 : Int32)), .unset, .unset] [(.int (3 : Int32))])
  refine own_step (fun t k => XS.ifYes X0.here hx rfl (pc0 := 9) (pc' := 30) rfl (hb hby at_9) rfl ((if0 _ _).trans (feq (show ¬ ((3 : Int32) = (0 : Int32)) from (by decide))).2) (by decide) (by decide) k) ?_
  show own_Goes _ _ _ _ s₁ (mkF m 30 #[.val (.int p1), .val (.int p2), .val (.int (3 : Int32)), .unset, .unset] [])
  refine own_step (fun t k => XS.iloadN X0.here hx rfl (hb hby at_30) rfl k) ?_
  show own_Goes _ _ _ _ s₁ (mkF m 31 #[.val (.int p1), .val (.int p2), .val (.int (3 : Int32)), .unset, .unset] [(.int (3 : Int32))])
  refine own_step (fun t k => XS.iconst X0.here hx rfl (hb hby at_31) k) ?_
  show own_Goes _ _ _ _ s₁ (mkF m 32 #[.val (.int p1), .val (.int p2), .val (.int (3 : Int32)), .unset, .unset] [(.int (1 : Int32)), (.int (3 : Int32))])
  refine own_step (fun t k => XS.icmpYes X0.here hx rfl (pc0 := 32) (pc' := 53) rfl (hb hby at_32) rfl (feq (show ¬ ((3 : Int32) = (1 : Int32)) from (by decide))).2 (by decide) (by decide) k) ?_
  show own_Goes _ _ _ _ s₁ (mkF m 53 #[.val (.int p1), .val (.int p2), .val (.int (3 : Int32)), .unset, .unset] [])
  refine own_step (fun t k => XS.iloadN X0.here hx rfl (hb hby at_53) rfl k) ?_
  show own_Goes _ _ _ _ s₁ (mkF m 54 #[.val (.int p1), .val (.int p2), .val (.int (3 : Int32)), .unset, .unset] [(.int (3 : Int32))])
  refine own_step (fun t k => XS.iconst X0.here hx rfl (hb hby at_54) k) ?_
  show own_Goes _ _ _ _ s₁ (mkF m 55 #[.val (.int p1), .val (.int p2), .val (.int (3 : Int32)), .unset, .unset] [(.int (2 : Int32)), (.int (3 : Int32))])
  refine own_step (fun t k => XS.icmpYes X0.here hx rfl (pc0 := 55) (pc' := 76) rfl (hb hby at_55) rfl (feq (show ¬ ((3 : Int32) = (2 : Int32)) from (by decide))).2 (by decide) (by decide) k) ?_
  show own_Goes _ _ _ _ s₁ (mkF m 76 #[.val (.int p1), .val (.int p2), .val (.int (3 : Int32)), .unset, .unset] [])
  refine own_step (fun t k => XS.iloadN X0.here hx rfl (hb hby at_76) rfl k) ?_
  show own_Goes _ _ _ _ s₁ (mkF m 77 #[.val (.int p1), .val (.int p2), .val (.int (3 : Int32)), .unset, .unset] [(.int (3 : Int32))])
  refine own_step (fun t k => XS.iconst X0.here hx rfl (hb hby at_77) k) ?_
  show own_Goes _ _ _ _ s₁ (mkF m 78 #[.val (.int p1), .val (.int p2), .val (.int (3 : Int32)), .unset, .unset] [(.int (3 : Int32)), (.int (3 : Int32))])
  refine own_step (fun t k => XS.icmpNo X0.here hx rfl (hb hby at_78) rfl (teq (show (3 : Int32) = (3 : Int32) from (by decide))).2 k) ?_
  show own_Goes _ _ _ _ s₁ (mkF m 81 #[.val (.int p1), .val (.int p2), .val (.int (3 : Int32)), .unset, .unset] [])
  obtain ⟨T1, X1, e1, st1⟩ := getS2 X0 hx hZ hown (host := "") (Or.inl (hw _ (List.mem_of_getElem? (i := 21) rfl))) Via.refl e0 S_LESS_OR_EQUAL (g := (mkF m 81 #[.val (.int p1), .val (.int p2), .val (.int (3 : Int32)), .unset, .unset] [])) rfl (hb hby at_81)
  refine own_step st1 ?_
  show own_Goes _ _ _ _ T1 (mkF m 84 #[.val (.int p1), .val (.int p2), .val (.int (3 : Int32)), .unset, .unset] [(.ref w_LESS_OR_EQUAL)])
  refine own_step (fun t k => XS.astoreN X1.here hx rfl (hb hby at_84) rfl rfl (l' := #[.val (.int p1), .val (.int p2), .val (.int (3 : Int32)), .val (.ref w_LESS_OR_EQUAL), .unset]) rfl k) ?_
  show own_Goes _ _ _ _ T1 (mkF m 85 #[.val (.int p1), .val (.int p2), .val (.int (3 : Int32)), .val (.ref w_LESS_OR_EQUAL), .unset] [])
  refine own_step (fun t k => XS.iloadN X1.here hx rfl (hb hby at_85) rfl k) ?_
  show own_Goes _ _ _ _ T1 (mkF m 86 #[.val (.int p1), .val (.int p2), .val (.int (3 : Int32)), .val (.ref w_LESS_OR_EQUAL), .unset] [(.int p2)])
  refine own_step (fun t k => XS.ifNo X1.here hx rfl (hb hby at_86) rfl ((if0 _ _).trans (flt (show ¬ ((0 : Int32) < p2) from q3)).2.2.1) k) ?_
  show own_Goes _ _ _ _ T1 (mkF m 89 #[.val (.int p1), .val (.int p2), .val (.int (3 : Int32)), .val (.ref w_LESS_OR_EQUAL), .unset] [])
  refine own_step (fun t k => XS.iconst X1.here hx rfl (hb hby at_89) k) ?_
  show own_Goes _ _ _ _ T1 (mkF m 90 #[.val (.int p1), .val (.int p2), .val (.int (3 : Int32)), .val (.ref w_LESS_OR_EQUAL), .unset] [(.int (1 : Int32))])
  refine own_step (fun t k => XS.goto X1.here hx rfl (pc0 := 90) (pc' := 94) rfl (hb hby at_90) (by decide) (by decide) k) ?_
  show own_Goes _ _ _ _ T1 (mkF m 94 #[.val (.int p1), .val (.int p2), .val (.int (3 : Int32)), .val (.ref w_LESS_OR_EQUAL), .unset] [(.int (1 : Int32))])
  refine own_step (fun t k => XS.istore X1.here hx rfl (hb hby at_94) rfl (l' := #[.val (.int p1), .val (.int p2), .val (.int (3 : Int32)), .val (.ref w_LESS_OR_EQUAL), .val (.int (1 : Int32))]) rfl k) ?_
  show own_Goes _ _ _ _ T1 (mkF m 96 #[.val (.int p1), .val (.int p2), .val (.int (3 : Int32)), .val (.ref w_LESS_OR_EQUAL), .val (.int (1 : Int32))] [])
  refine own_step (fun t k => XS.goto X1.here hx rfl (pc0 := 96) (pc' := 137) rfl (hb hby at_96) (by decide) (by decide) k) ?_
  show own_Goes _ _ _ _ T1 (mkF m 137 #[.val (.int p1), .val (.int p2), .val (.int (3 : Int32)), .val (.ref w_LESS_OR_EQUAL), .val (.int (1 : Int32))] [])
  refine own_step (fun t k => XS.aloadN X1.here hx rfl (hb hby at_137) rfl rfl k) ?_
  show own_Goes _ _ _ _ T1 (mkF m 138 #[.val (.int p1), .val (.int p2), .val (.int (3 : Int32)), .val (.ref w_LESS_OR_EQUAL), .val (.int (1 : Int32))] [(.ref w_LESS_OR_EQUAL)])
  refine own_step (fun t k => XS.iloadN X1.here hx rfl (hb hby at_138) rfl k) ?_
  show own_Goes _ _ _ _ T1 (mkF m 139 #[.val (.int p1), .val (.int p2), .val (.int (3 : Int32)), .val (.ref w_LESS_OR_EQUAL), .val (.int (1 : Int32))] [(.int p2), (.ref w_LESS_OR_EQUAL)])
  refine own_callV X1 hx hZ (y := (⟨"com/example/polyphony/polyphony/policy/Operator", "holds", "(I)Z"⟩ : MethodName)) (z := (⟨"com/example/polyphony/polyphony/policy/Operator", "holds", "(I)Z"⟩ : MethodName)) hown (hw _ (List.mem_of_getElem? (i := 4) rfl)) (hw _ (List.mem_of_getElem? (i := 5) rfl)) (notFace_of_selects (args := #[]) (mvT hZ (hw _ (List.mem_of_getElem? (i := 7) rfl)))) (hw _ (List.mem_of_getElem? (i := 7) rfl)) (hw _ (List.mem_of_getElem? (i := 6) rfl)) (hw _ (List.mem_of_getElem? (i := 8) rfl)) (hw _ (List.mem_of_getElem? (i := 2) rfl)) (by decide) 0 E_w_LESS_OR_EQUAL [(.int p2)] [] (own_holds_z1 l Z a0 hw [] w_LESS_OR_EQUAL p2 h0 n0 Z0 F_w_LESS_OR_EQUAL_whenEqual q1 q2) e1 (by decide) (by decide) (by decide) (by decide) (g := (mkF m 139 #[.val (.int p1), .val (.int p2), .val (.int (3 : Int32)), .val (.ref w_LESS_OR_EQUAL), .val (.int (1 : Int32))] [(.int p2), (.ref w_LESS_OR_EQUAL)])) rfl (by rw [hml]; rfl) own_pd0 rfl rfl (by show 2 * 0 + _ ≤ _; exact Nat.le_of_eq rfl) (hb hby at_139) ?_
  intro T2 v2 L2 X2 hQ2
  obtain ⟨rfl, N2q, e2⟩ := hQ2
  have N2 := Fr.app N0 N2q
  show own_Goes _ _ _ _ T2 (mkF m 142 #[.val (.int p1), .val (.int p2), .val (.int (3 : Int32)), .val (.ref w_LESS_OR_EQUAL), .val (.int (1 : Int32))] [(.int (1 : Int32))])
  refine own_step (fun t k => XS.iload X2.here hx rfl (hb hby at_142) rfl k) ?_
  show own_Goes _ _ _ _ T2 (mkF m 144 #[.val (.int p1), .val (.int p2), .val (.int (3 : Int32)), .val (.ref w_LESS_OR_EQUAL), .val (.int (1 : Int32))] [(.int (1 : Int32)), (.int (1 : Int32))])
  refine own_step (fun t k => XS.icmpNo X2.here hx rfl (hb hby at_144) rfl (teq (show (1 : Int32) = (1 : Int32) from (by decide))).2 k) ?_
  show own_Goes _ _ _ _ T2 (mkF m 147 #[.val (.int p1), .val (.int p2), .val (.int (3 : Int32)), .val (.ref w_LESS_OR_EQUAL), .val (.int (1 : Int32))] [])
  refine own_step (fun t k => XS.iconst X2.here hx rfl (hb hby at_147) k) ?_
  show own_Goes _ _ _ _ T2 (mkF m 148 #[.val (.int p1), .val (.int p2), .val (.int (3 : Int32)), .val (.ref w_LESS_OR_EQUAL), .val (.int (1 : Int32))] [(.int (1 : Int32))])
  refine own_step (fun t k => XS.goto X2.here hx rfl (pc0 := 148) (pc' := 152) rfl (hb hby at_148) (by decide) (by decide) k) ?_
  show own_Goes _ _ _ _ T2 (mkF m 152 #[.val (.int p1), .val (.int p2), .val (.int (3 : Int32)), .val (.ref w_LESS_OR_EQUAL), .val (.int (1 : Int32))] [(.int (1 : Int32))])
  exact own_retN X2 hx hlk (t := .boolean) hrt (by simp) (hb hby at_152) ⟨rfl, N2⟩ (by decide) (by decide)
set_option maxRecDepth 65536 in
set_option maxHeartbeats 40000000 in
theorem own_law3p (l : Launch) (Z : State) (a0 : Array Value) (hw : ∀ d ∈ tables_1, d.before a0 Z = true) (ws : List Jvm.Cond) (p1 : Int32) (p2 : Int32) (w_LESS_OR_EQUAL : Addr) (h0 : Heap) (n0 : Nat) (Z0 : n0 ≤ h0.size) (S_LESS_OR_EQUAL : Sta Z h0 "com/example/polyphony/polyphony/policy/Operator" "LESS_OR_EQUAL" "Lcom/example/polyphony/polyphony/policy/Operator;" (.ref w_LESS_OR_EQUAL)) (E_w_LESS_OR_EQUAL : Exa Z h0 w_LESS_OR_EQUAL "com/example/polyphony/polyphony/policy/Operator") (F_w_LESS_OR_EQUAL_whenBefore : Fld Z h0 w_LESS_OR_EQUAL "com/example/polyphony/polyphony/policy/Operator" "whenBefore" "Z" (.int (1 : Int32))) (F_w_LESS_OR_EQUAL_whenEqual : Fld Z h0 w_LESS_OR_EQUAL "com/example/polyphony/polyphony/policy/Operator" "whenEqual" "Z" (.int (1 : Int32))) (F_w_LESS_OR_EQUAL_whenAfter : Fld Z h0 w_LESS_OR_EQUAL "com/example/polyphony/polyphony/policy/Operator" "whenAfter" "Z" (.int (0 : Int32))) (hi : ((p1 &&& (2147483647 : Int32)) - ((p1 &&& (2147483647 : Int32)) / (6 : Int32)) * (6 : Int32)) = (3 : Int32)) (q1 : ¬ (p2 < (0 : Int32))) (q2 : ¬ (p2 = (0 : Int32))) (q3 : (0 : Int32) < p2) :
    own_Met l Z x code maxLocals ret ws room_1 #[(.int p1), (.int p2)] h0 (fun v h L => v = some (.int 1) ∧ Fr n0 L) := by
  refine own_body (plainFor_of_name own_pn_com_example_polyphony_polyphony_policy_OperatorHoldsPinLaw) (fun p e s m below meth c s₁ hx hby hml0 hrt hlk hown0 hnm hZ X0 e0 => ?_)
  have N0 := Fr.nil n0
  have hown : s.vm.findClass "com/example/polyphony/polyphony/policy/OperatorHoldsPinLaw" = some m.cls := hown0
  have hml : c.maxLocals = 5 := hml0
  refine own_castG (own_ef1 m p1 p2) ?_
  show own_Goes _ _ _ _ s₁ (mkF m 0 #[.val (.int p1), .val (.int p2), .unset, .unset, .unset] [])
  refine own_step (fun t k => XS.iloadN X0.here hx rfl (hb hby at_0) rfl k) ?_
  show own_Goes _ _ _ _ s₁ (mkF m 1 #[.val (.int p1), .val (.int p2), .unset, .unset, .unset] [(.int p1)])
  refine own_step (X0.ldcInt hx hown (mvT hZ (hw _ (List.mem_of_getElem? (i := 0) rfl))) (g := (mkF m 1 #[.val (.int p1), .val (.int p2), .unset, .unset, .unset] [(.int p1)])) rfl (hb hby at_1)) ?_
  show own_Goes _ _ _ _ s₁ (mkF m 3 #[.val (.int p1), .val (.int p2), .unset, .unset, .unset] [(.int (2147483647 : Int32)), (.int p1)])
  refine own_step (fun t k => XS.iand X0.here hx rfl (hb hby at_3) rfl k) ?_
  show own_Goes _ _ _ _ s₁ (mkF m 4 #[.val (.int p1), .val (.int p2), .unset, .unset, .unset] [(.int (p1 &&& (2147483647 : Int32)))])
  refine own_step (fun t k => XS.bipush X0.here hx rfl (hb hby at_4) k) ?_
  show own_Goes _ _ _ _ s₁ (mkF m 6 #[.val (.int p1), .val (.int p2), .unset, .unset, .unset] [(.int (6 : Int32)), (.int (p1 &&& (2147483647 : Int32)))])
  refine own_step (fun t k => XS.irem X0.here hx rfl (hb hby at_6) rfl (by decide) k) ?_
  show own_Goes _ _ _ _ s₁ (mkF m 7 #[.val (.int p1), .val (.int p2), .unset, .unset, .unset] [(.int ((p1 &&& (2147483647 : Int32)) - ((p1 &&& (2147483647 : Int32)) / (6 : Int32)) * (6 : Int32)))])
  rw [hi]
  show own_Goes _ _ _ _ s₁ (mkF m 7 #[.val (.int p1), .val (.int p2), .unset, .unset, .unset] [(.int (3 : Int32))])
  refine own_step (fun t k => XS.istoreN X0.here hx rfl (hb hby at_7) rfl (l' := #[.val (.int p1), .val (.int p2), .val (.int (3 : Int32)), .unset, .unset]) rfl k) ?_
  show own_Goes _ _ _ _ s₁ (mkF m 8 #[.val (.int p1), .val (.int p2), .val (.int (3 : Int32)), .unset, .unset] [])
  refine own_step (fun t k => XS.iloadN X0.here hx rfl (hb hby at_8) rfl k) ?_
  show own_Goes _ _ _ _ s₁ (mkF m 9 #[.val (.int p1), .val (.int p2), .val (.int (3 : Int32)), .unset, .unset] [(.int (3 : Int32))])
  refine own_step (fun t k => XS.ifYes X0.here hx rfl (pc0 := 9) (pc' := 30) rfl (hb hby at_9) rfl ((if0 _ _).trans (feq (show ¬ ((3 : Int32) = (0 : Int32)) from (by decide))).2) (by decide) (by decide) k) ?_
  show own_Goes _ _ _ _ s₁ (mkF m 30 #[.val (.int p1), .val (.int p2), .val (.int (3 : Int32)), .unset, .unset] [])
  refine own_step (fun t k => XS.iloadN X0.here hx rfl (hb hby at_30) rfl k) ?_
  show own_Goes _ _ _ _ s₁ (mkF m 31 #[.val (.int p1), .val (.int p2), .val (.int (3 : Int32)), .unset, .unset] [(.int (3 : Int32))])
  refine own_step (fun t k => XS.iconst X0.here hx rfl (hb hby at_31) k) ?_
  show own_Goes _ _ _ _ s₁ (mkF m 32 #[.val (.int p1), .val (.int p2), .val (.int (3 : Int32)), .unset, .unset] [(.int (1 : Int32)), (.int (3 : Int32))])
  refine own_step (fun t k => XS.icmpYes X0.here hx rfl (pc0 := 32) (pc' := 53) rfl (hb hby at_32) rfl (feq (show ¬ ((3 : Int32) = (1 : Int32)) from (by decide))).2 (by decide) (by decide) k) ?_
  show own_Goes _ _ _ _ s₁ (mkF m 53 #[.val (.int p1), .val (.int p2), .val (.int (3 : Int32)), .unset, .unset] [])
  refine own_step (fun t k => XS.iloadN X0.here hx rfl (hb hby at_53) rfl k) ?_
  show own_Goes _ _ _ _ s₁ (mkF m 54 #[.val (.int p1), .val (.int p2), .val (.int (3 : Int32)), .unset, .unset] [(.int (3 : Int32))])
  refine own_step (fun t k => XS.iconst X0.here hx rfl (hb hby at_54) k) ?_
  show own_Goes _ _ _ _ s₁ (mkF m 55 #[.val (.int p1), .val (.int p2), .val (.int (3 : Int32)), .unset, .unset] [(.int (2 : Int32)), (.int (3 : Int32))])
  refine own_step (fun t k => XS.icmpYes X0.here hx rfl (pc0 := 55) (pc' := 76) rfl (hb hby at_55) rfl (feq (show ¬ ((3 : Int32) = (2 : Int32)) from (by decide))).2 (by decide) (by decide) k) ?_
  show own_Goes _ _ _ _ s₁ (mkF m 76 #[.val (.int p1), .val (.int p2), .val (.int (3 : Int32)), .unset, .unset] [])
  refine own_step (fun t k => XS.iloadN X0.here hx rfl (hb hby at_76) rfl k) ?_
  show own_Goes _ _ _ _ s₁ (mkF m 77 #[.val (.int p1), .val (.int p2), .val (.int (3 : Int32)), .unset, .unset] [(.int (3 : Int32))])
  refine own_step (fun t k => XS.iconst X0.here hx rfl (hb hby at_77) k) ?_
  show own_Goes _ _ _ _ s₁ (mkF m 78 #[.val (.int p1), .val (.int p2), .val (.int (3 : Int32)), .unset, .unset] [(.int (3 : Int32)), (.int (3 : Int32))])
  refine own_step (fun t k => XS.icmpNo X0.here hx rfl (hb hby at_78) rfl (teq (show (3 : Int32) = (3 : Int32) from (by decide))).2 k) ?_
  show own_Goes _ _ _ _ s₁ (mkF m 81 #[.val (.int p1), .val (.int p2), .val (.int (3 : Int32)), .unset, .unset] [])
  obtain ⟨T1, X1, e1, st1⟩ := getS2 X0 hx hZ hown (host := "") (Or.inl (hw _ (List.mem_of_getElem? (i := 21) rfl))) Via.refl e0 S_LESS_OR_EQUAL (g := (mkF m 81 #[.val (.int p1), .val (.int p2), .val (.int (3 : Int32)), .unset, .unset] [])) rfl (hb hby at_81)
  refine own_step st1 ?_
  show own_Goes _ _ _ _ T1 (mkF m 84 #[.val (.int p1), .val (.int p2), .val (.int (3 : Int32)), .unset, .unset] [(.ref w_LESS_OR_EQUAL)])
  refine own_step (fun t k => XS.astoreN X1.here hx rfl (hb hby at_84) rfl rfl (l' := #[.val (.int p1), .val (.int p2), .val (.int (3 : Int32)), .val (.ref w_LESS_OR_EQUAL), .unset]) rfl k) ?_
  show own_Goes _ _ _ _ T1 (mkF m 85 #[.val (.int p1), .val (.int p2), .val (.int (3 : Int32)), .val (.ref w_LESS_OR_EQUAL), .unset] [])
  refine own_step (fun t k => XS.iloadN X1.here hx rfl (hb hby at_85) rfl k) ?_
  show own_Goes _ _ _ _ T1 (mkF m 86 #[.val (.int p1), .val (.int p2), .val (.int (3 : Int32)), .val (.ref w_LESS_OR_EQUAL), .unset] [(.int p2)])
  refine own_step (fun t k => XS.ifYes X1.here hx rfl (pc0 := 86) (pc' := 93) rfl (hb hby at_86) rfl ((if0 _ _).trans (tlt (show (0 : Int32) < p2 from q3)).2.2.1) (by decide) (by decide) k) ?_
  show own_Goes _ _ _ _ T1 (mkF m 93 #[.val (.int p1), .val (.int p2), .val (.int (3 : Int32)), .val (.ref w_LESS_OR_EQUAL), .unset] [])
  refine own_step (fun t k => XS.iconst X1.here hx rfl (hb hby at_93) k) ?_
  show own_Goes _ _ _ _ T1 (mkF m 94 #[.val (.int p1), .val (.int p2), .val (.int (3 : Int32)), .val (.ref w_LESS_OR_EQUAL), .unset] [(.int (0 : Int32))])
  refine own_step (fun t k => XS.istore X1.here hx rfl (hb hby at_94) rfl (l' := #[.val (.int p1), .val (.int p2), .val (.int (3 : Int32)), .val (.ref w_LESS_OR_EQUAL), .val (.int (0 : Int32))]) rfl k) ?_
  show own_Goes _ _ _ _ T1 (mkF m 96 #[.val (.int p1), .val (.int p2), .val (.int (3 : Int32)), .val (.ref w_LESS_OR_EQUAL), .val (.int (0 : Int32))] [])
  refine own_step (fun t k => XS.goto X1.here hx rfl (pc0 := 96) (pc' := 137) rfl (hb hby at_96) (by decide) (by decide) k) ?_
  show own_Goes _ _ _ _ T1 (mkF m 137 #[.val (.int p1), .val (.int p2), .val (.int (3 : Int32)), .val (.ref w_LESS_OR_EQUAL), .val (.int (0 : Int32))] [])
  refine own_step (fun t k => XS.aloadN X1.here hx rfl (hb hby at_137) rfl rfl k) ?_
  show own_Goes _ _ _ _ T1 (mkF m 138 #[.val (.int p1), .val (.int p2), .val (.int (3 : Int32)), .val (.ref w_LESS_OR_EQUAL), .val (.int (0 : Int32))] [(.ref w_LESS_OR_EQUAL)])
  refine own_step (fun t k => XS.iloadN X1.here hx rfl (hb hby at_138) rfl k) ?_
  show own_Goes _ _ _ _ T1 (mkF m 139 #[.val (.int p1), .val (.int p2), .val (.int (3 : Int32)), .val (.ref w_LESS_OR_EQUAL), .val (.int (0 : Int32))] [(.int p2), (.ref w_LESS_OR_EQUAL)])
  refine own_callV X1 hx hZ (y := (⟨"com/example/polyphony/polyphony/policy/Operator", "holds", "(I)Z"⟩ : MethodName)) (z := (⟨"com/example/polyphony/polyphony/policy/Operator", "holds", "(I)Z"⟩ : MethodName)) hown (hw _ (List.mem_of_getElem? (i := 4) rfl)) (hw _ (List.mem_of_getElem? (i := 5) rfl)) (notFace_of_selects (args := #[]) (mvT hZ (hw _ (List.mem_of_getElem? (i := 7) rfl)))) (hw _ (List.mem_of_getElem? (i := 7) rfl)) (hw _ (List.mem_of_getElem? (i := 6) rfl)) (hw _ (List.mem_of_getElem? (i := 8) rfl)) (hw _ (List.mem_of_getElem? (i := 2) rfl)) (by decide) 0 E_w_LESS_OR_EQUAL [(.int p2)] [] (own_holds_p0 l Z a0 hw [] w_LESS_OR_EQUAL p2 h0 n0 Z0 F_w_LESS_OR_EQUAL_whenAfter q1 q2) e1 (by decide) (by decide) (by decide) (by decide) (g := (mkF m 139 #[.val (.int p1), .val (.int p2), .val (.int (3 : Int32)), .val (.ref w_LESS_OR_EQUAL), .val (.int (0 : Int32))] [(.int p2), (.ref w_LESS_OR_EQUAL)])) rfl (by rw [hml]; rfl) own_pd0 rfl rfl (by show 2 * 0 + _ ≤ _; exact Nat.le_of_eq rfl) (hb hby at_139) ?_
  intro T2 v2 L2 X2 hQ2
  obtain ⟨rfl, N2q, e2⟩ := hQ2
  have N2 := Fr.app N0 N2q
  show own_Goes _ _ _ _ T2 (mkF m 142 #[.val (.int p1), .val (.int p2), .val (.int (3 : Int32)), .val (.ref w_LESS_OR_EQUAL), .val (.int (0 : Int32))] [(.int (0 : Int32))])
  refine own_step (fun t k => XS.iload X2.here hx rfl (hb hby at_142) rfl k) ?_
  show own_Goes _ _ _ _ T2 (mkF m 144 #[.val (.int p1), .val (.int p2), .val (.int (3 : Int32)), .val (.ref w_LESS_OR_EQUAL), .val (.int (0 : Int32))] [(.int (0 : Int32)), (.int (0 : Int32))])
  refine own_step (fun t k => XS.icmpNo X2.here hx rfl (hb hby at_144) rfl (teq (show (0 : Int32) = (0 : Int32) from (by decide))).2 k) ?_
  show own_Goes _ _ _ _ T2 (mkF m 147 #[.val (.int p1), .val (.int p2), .val (.int (3 : Int32)), .val (.ref w_LESS_OR_EQUAL), .val (.int (0 : Int32))] [])
  refine own_step (fun t k => XS.iconst X2.here hx rfl (hb hby at_147) k) ?_
  show own_Goes _ _ _ _ T2 (mkF m 148 #[.val (.int p1), .val (.int p2), .val (.int (3 : Int32)), .val (.ref w_LESS_OR_EQUAL), .val (.int (0 : Int32))] [(.int (1 : Int32))])
  refine own_step (fun t k => XS.goto X2.here hx rfl (pc0 := 148) (pc' := 152) rfl (hb hby at_148) (by decide) (by decide) k) ?_
  show own_Goes _ _ _ _ T2 (mkF m 152 #[.val (.int p1), .val (.int p2), .val (.int (3 : Int32)), .val (.ref w_LESS_OR_EQUAL), .val (.int (0 : Int32))] [(.int (1 : Int32))])
  exact own_retN X2 hx hlk (t := .boolean) hrt (by simp) (hb hby at_152) ⟨rfl, N2⟩ (by decide) (by decide)
set_option maxRecDepth 65536 in
set_option maxHeartbeats 40000000 in
theorem own_law4n (l : Launch) (Z : State) (a0 : Array Value) (hw : ∀ d ∈ tables_1, d.before a0 Z = true) (ws : List Jvm.Cond) (p1 : Int32) (p2 : Int32) (w_GREATER : Addr) (h0 : Heap) (n0 : Nat) (Z0 : n0 ≤ h0.size) (S_GREATER : Sta Z h0 "com/example/polyphony/polyphony/policy/Operator" "GREATER" "Lcom/example/polyphony/polyphony/policy/Operator;" (.ref w_GREATER)) (E_w_GREATER : Exa Z h0 w_GREATER "com/example/polyphony/polyphony/policy/Operator") (F_w_GREATER_whenBefore : Fld Z h0 w_GREATER "com/example/polyphony/polyphony/policy/Operator" "whenBefore" "Z" (.int (0 : Int32))) (F_w_GREATER_whenEqual : Fld Z h0 w_GREATER "com/example/polyphony/polyphony/policy/Operator" "whenEqual" "Z" (.int (0 : Int32))) (F_w_GREATER_whenAfter : Fld Z h0 w_GREATER "com/example/polyphony/polyphony/policy/Operator" "whenAfter" "Z" (.int (1 : Int32))) (hi : ((p1 &&& (2147483647 : Int32)) - ((p1 &&& (2147483647 : Int32)) / (6 : Int32)) * (6 : Int32)) = (4 : Int32)) (q1 : p2 < (0 : Int32)) (q2 : ¬ (p2 = (0 : Int32))) (q3 : ¬ ((0 : Int32) < p2)) :
    own_Met l Z x code maxLocals ret ws room_1 #[(.int p1), (.int p2)] h0 (fun v h L => v = some (.int 1) ∧ Fr n0 L) := by
  refine own_body (plainFor_of_name own_pn_com_example_polyphony_polyphony_policy_OperatorHoldsPinLaw) (fun p e s m below meth c s₁ hx hby hml0 hrt hlk hown0 hnm hZ X0 e0 => ?_)
  have N0 := Fr.nil n0
  have hown : s.vm.findClass "com/example/polyphony/polyphony/policy/OperatorHoldsPinLaw" = some m.cls := hown0
  have hml : c.maxLocals = 5 := hml0
  refine own_castG (own_ef1 m p1 p2) ?_
  show own_Goes _ _ _ _ s₁ (mkF m 0 #[.val (.int p1), .val (.int p2), .unset, .unset, .unset] [])
  refine own_step (fun t k => XS.iloadN X0.here hx rfl (hb hby at_0) rfl k) ?_
  show own_Goes _ _ _ _ s₁ (mkF m 1 #[.val (.int p1), .val (.int p2), .unset, .unset, .unset] [(.int p1)])
  refine own_step (X0.ldcInt hx hown (mvT hZ (hw _ (List.mem_of_getElem? (i := 0) rfl))) (g := (mkF m 1 #[.val (.int p1), .val (.int p2), .unset, .unset, .unset] [(.int p1)])) rfl (hb hby at_1)) ?_
  show own_Goes _ _ _ _ s₁ (mkF m 3 #[.val (.int p1), .val (.int p2), .unset, .unset, .unset] [(.int (2147483647 : Int32)), (.int p1)])
  refine own_step (fun t k => XS.iand X0.here hx rfl (hb hby at_3) rfl k) ?_
  show own_Goes _ _ _ _ s₁ (mkF m 4 #[.val (.int p1), .val (.int p2), .unset, .unset, .unset] [(.int (p1 &&& (2147483647 : Int32)))])
  refine own_step (fun t k => XS.bipush X0.here hx rfl (hb hby at_4) k) ?_
  show own_Goes _ _ _ _ s₁ (mkF m 6 #[.val (.int p1), .val (.int p2), .unset, .unset, .unset] [(.int (6 : Int32)), (.int (p1 &&& (2147483647 : Int32)))])
  refine own_step (fun t k => XS.irem X0.here hx rfl (hb hby at_6) rfl (by decide) k) ?_
  show own_Goes _ _ _ _ s₁ (mkF m 7 #[.val (.int p1), .val (.int p2), .unset, .unset, .unset] [(.int ((p1 &&& (2147483647 : Int32)) - ((p1 &&& (2147483647 : Int32)) / (6 : Int32)) * (6 : Int32)))])
  rw [hi]
  show own_Goes _ _ _ _ s₁ (mkF m 7 #[.val (.int p1), .val (.int p2), .unset, .unset, .unset] [(.int (4 : Int32))])
  refine own_step (fun t k => XS.istoreN X0.here hx rfl (hb hby at_7) rfl (l' := #[.val (.int p1), .val (.int p2), .val (.int (4 : Int32)), .unset, .unset]) rfl k) ?_
  show own_Goes _ _ _ _ s₁ (mkF m 8 #[.val (.int p1), .val (.int p2), .val (.int (4 : Int32)), .unset, .unset] [])
  refine own_step (fun t k => XS.iloadN X0.here hx rfl (hb hby at_8) rfl k) ?_
  show own_Goes _ _ _ _ s₁ (mkF m 9 #[.val (.int p1), .val (.int p2), .val (.int (4 : Int32)), .unset, .unset] [(.int (4 : Int32))])
  refine own_step (fun t k => XS.ifYes X0.here hx rfl (pc0 := 9) (pc' := 30) rfl (hb hby at_9) rfl ((if0 _ _).trans (feq (show ¬ ((4 : Int32) = (0 : Int32)) from (by decide))).2) (by decide) (by decide) k) ?_
  show own_Goes _ _ _ _ s₁ (mkF m 30 #[.val (.int p1), .val (.int p2), .val (.int (4 : Int32)), .unset, .unset] [])
  refine own_step (fun t k => XS.iloadN X0.here hx rfl (hb hby at_30) rfl k) ?_
  show own_Goes _ _ _ _ s₁ (mkF m 31 #[.val (.int p1), .val (.int p2), .val (.int (4 : Int32)), .unset, .unset] [(.int (4 : Int32))])
  refine own_step (fun t k => XS.iconst X0.here hx rfl (hb hby at_31) k) ?_
  show own_Goes _ _ _ _ s₁ (mkF m 32 #[.val (.int p1), .val (.int p2), .val (.int (4 : Int32)), .unset, .unset] [(.int (1 : Int32)), (.int (4 : Int32))])
  refine own_step (fun t k => XS.icmpYes X0.here hx rfl (pc0 := 32) (pc' := 53) rfl (hb hby at_32) rfl (feq (show ¬ ((4 : Int32) = (1 : Int32)) from (by decide))).2 (by decide) (by decide) k) ?_
  show own_Goes _ _ _ _ s₁ (mkF m 53 #[.val (.int p1), .val (.int p2), .val (.int (4 : Int32)), .unset, .unset] [])
  refine own_step (fun t k => XS.iloadN X0.here hx rfl (hb hby at_53) rfl k) ?_
  show own_Goes _ _ _ _ s₁ (mkF m 54 #[.val (.int p1), .val (.int p2), .val (.int (4 : Int32)), .unset, .unset] [(.int (4 : Int32))])
  refine own_step (fun t k => XS.iconst X0.here hx rfl (hb hby at_54) k) ?_
  show own_Goes _ _ _ _ s₁ (mkF m 55 #[.val (.int p1), .val (.int p2), .val (.int (4 : Int32)), .unset, .unset] [(.int (2 : Int32)), (.int (4 : Int32))])
  refine own_step (fun t k => XS.icmpYes X0.here hx rfl (pc0 := 55) (pc' := 76) rfl (hb hby at_55) rfl (feq (show ¬ ((4 : Int32) = (2 : Int32)) from (by decide))).2 (by decide) (by decide) k) ?_
  show own_Goes _ _ _ _ s₁ (mkF m 76 #[.val (.int p1), .val (.int p2), .val (.int (4 : Int32)), .unset, .unset] [])
  refine own_step (fun t k => XS.iloadN X0.here hx rfl (hb hby at_76) rfl k) ?_
  show own_Goes _ _ _ _ s₁ (mkF m 77 #[.val (.int p1), .val (.int p2), .val (.int (4 : Int32)), .unset, .unset] [(.int (4 : Int32))])
  refine own_step (fun t k => XS.iconst X0.here hx rfl (hb hby at_77) k) ?_
  show own_Goes _ _ _ _ s₁ (mkF m 78 #[.val (.int p1), .val (.int p2), .val (.int (4 : Int32)), .unset, .unset] [(.int (3 : Int32)), (.int (4 : Int32))])
  refine own_step (fun t k => XS.icmpYes X0.here hx rfl (pc0 := 78) (pc' := 99) rfl (hb hby at_78) rfl (feq (show ¬ ((4 : Int32) = (3 : Int32)) from (by decide))).2 (by decide) (by decide) k) ?_
  show own_Goes _ _ _ _ s₁ (mkF m 99 #[.val (.int p1), .val (.int p2), .val (.int (4 : Int32)), .unset, .unset] [])
  refine own_step (fun t k => XS.iloadN X0.here hx rfl (hb hby at_99) rfl k) ?_
  show own_Goes _ _ _ _ s₁ (mkF m 100 #[.val (.int p1), .val (.int p2), .val (.int (4 : Int32)), .unset, .unset] [(.int (4 : Int32))])
  refine own_step (fun t k => XS.iconst X0.here hx rfl (hb hby at_100) k) ?_
  show own_Goes _ _ _ _ s₁ (mkF m 101 #[.val (.int p1), .val (.int p2), .val (.int (4 : Int32)), .unset, .unset] [(.int (4 : Int32)), (.int (4 : Int32))])
  refine own_step (fun t k => XS.icmpNo X0.here hx rfl (hb hby at_101) rfl (teq (show (4 : Int32) = (4 : Int32) from (by decide))).2 k) ?_
  show own_Goes _ _ _ _ s₁ (mkF m 104 #[.val (.int p1), .val (.int p2), .val (.int (4 : Int32)), .unset, .unset] [])
  obtain ⟨T1, X1, e1, st1⟩ := getS2 X0 hx hZ hown (host := "") (Or.inl (hw _ (List.mem_of_getElem? (i := 15) rfl))) Via.refl e0 S_GREATER (g := (mkF m 104 #[.val (.int p1), .val (.int p2), .val (.int (4 : Int32)), .unset, .unset] [])) rfl (hb hby at_104)
  refine own_step st1 ?_
  show own_Goes _ _ _ _ T1 (mkF m 107 #[.val (.int p1), .val (.int p2), .val (.int (4 : Int32)), .unset, .unset] [(.ref w_GREATER)])
  refine own_step (fun t k => XS.astoreN X1.here hx rfl (hb hby at_107) rfl rfl (l' := #[.val (.int p1), .val (.int p2), .val (.int (4 : Int32)), .val (.ref w_GREATER), .unset]) rfl k) ?_
  show own_Goes _ _ _ _ T1 (mkF m 108 #[.val (.int p1), .val (.int p2), .val (.int (4 : Int32)), .val (.ref w_GREATER), .unset] [])
  refine own_step (fun t k => XS.iloadN X1.here hx rfl (hb hby at_108) rfl k) ?_
  show own_Goes _ _ _ _ T1 (mkF m 109 #[.val (.int p1), .val (.int p2), .val (.int (4 : Int32)), .val (.ref w_GREATER), .unset] [(.int p2)])
  refine own_step (fun t k => XS.ifYes X1.here hx rfl (pc0 := 109) (pc' := 116) rfl (hb hby at_109) rfl ((if0 _ _).trans (flt (show ¬ ((0 : Int32) < p2) from q3)).2.2.2) (by decide) (by decide) k) ?_
  show own_Goes _ _ _ _ T1 (mkF m 116 #[.val (.int p1), .val (.int p2), .val (.int (4 : Int32)), .val (.ref w_GREATER), .unset] [])
  refine own_step (fun t k => XS.iconst X1.here hx rfl (hb hby at_116) k) ?_
  show own_Goes _ _ _ _ T1 (mkF m 117 #[.val (.int p1), .val (.int p2), .val (.int (4 : Int32)), .val (.ref w_GREATER), .unset] [(.int (0 : Int32))])
  refine own_step (fun t k => XS.istore X1.here hx rfl (hb hby at_117) rfl (l' := #[.val (.int p1), .val (.int p2), .val (.int (4 : Int32)), .val (.ref w_GREATER), .val (.int (0 : Int32))]) rfl k) ?_
  show own_Goes _ _ _ _ T1 (mkF m 119 #[.val (.int p1), .val (.int p2), .val (.int (4 : Int32)), .val (.ref w_GREATER), .val (.int (0 : Int32))] [])
  refine own_step (fun t k => XS.goto X1.here hx rfl (pc0 := 119) (pc' := 137) rfl (hb hby at_119) (by decide) (by decide) k) ?_
  show own_Goes _ _ _ _ T1 (mkF m 137 #[.val (.int p1), .val (.int p2), .val (.int (4 : Int32)), .val (.ref w_GREATER), .val (.int (0 : Int32))] [])
  refine own_step (fun t k => XS.aloadN X1.here hx rfl (hb hby at_137) rfl rfl k) ?_
  show own_Goes _ _ _ _ T1 (mkF m 138 #[.val (.int p1), .val (.int p2), .val (.int (4 : Int32)), .val (.ref w_GREATER), .val (.int (0 : Int32))] [(.ref w_GREATER)])
  refine own_step (fun t k => XS.iloadN X1.here hx rfl (hb hby at_138) rfl k) ?_
  show own_Goes _ _ _ _ T1 (mkF m 139 #[.val (.int p1), .val (.int p2), .val (.int (4 : Int32)), .val (.ref w_GREATER), .val (.int (0 : Int32))] [(.int p2), (.ref w_GREATER)])
  refine own_callV X1 hx hZ (y := (⟨"com/example/polyphony/polyphony/policy/Operator", "holds", "(I)Z"⟩ : MethodName)) (z := (⟨"com/example/polyphony/polyphony/policy/Operator", "holds", "(I)Z"⟩ : MethodName)) hown (hw _ (List.mem_of_getElem? (i := 4) rfl)) (hw _ (List.mem_of_getElem? (i := 5) rfl)) (notFace_of_selects (args := #[]) (mvT hZ (hw _ (List.mem_of_getElem? (i := 7) rfl)))) (hw _ (List.mem_of_getElem? (i := 7) rfl)) (hw _ (List.mem_of_getElem? (i := 6) rfl)) (hw _ (List.mem_of_getElem? (i := 8) rfl)) (hw _ (List.mem_of_getElem? (i := 2) rfl)) (by decide) 0 E_w_GREATER [(.int p2)] [] (own_holds_n0 l Z a0 hw [] w_GREATER p2 h0 n0 Z0 F_w_GREATER_whenBefore q1) e1 (by decide) (by decide) (by decide) (by decide) (g := (mkF m 139 #[.val (.int p1), .val (.int p2), .val (.int (4 : Int32)), .val (.ref w_GREATER), .val (.int (0 : Int32))] [(.int p2), (.ref w_GREATER)])) rfl (by rw [hml]; rfl) own_pd0 rfl rfl (by show 2 * 0 + _ ≤ _; exact Nat.le_of_eq rfl) (hb hby at_139) ?_
  intro T2 v2 L2 X2 hQ2
  obtain ⟨rfl, N2q, e2⟩ := hQ2
  have N2 := Fr.app N0 N2q
  show own_Goes _ _ _ _ T2 (mkF m 142 #[.val (.int p1), .val (.int p2), .val (.int (4 : Int32)), .val (.ref w_GREATER), .val (.int (0 : Int32))] [(.int (0 : Int32))])
  refine own_step (fun t k => XS.iload X2.here hx rfl (hb hby at_142) rfl k) ?_
  show own_Goes _ _ _ _ T2 (mkF m 144 #[.val (.int p1), .val (.int p2), .val (.int (4 : Int32)), .val (.ref w_GREATER), .val (.int (0 : Int32))] [(.int (0 : Int32)), (.int (0 : Int32))])
  refine own_step (fun t k => XS.icmpNo X2.here hx rfl (hb hby at_144) rfl (teq (show (0 : Int32) = (0 : Int32) from (by decide))).2 k) ?_
  show own_Goes _ _ _ _ T2 (mkF m 147 #[.val (.int p1), .val (.int p2), .val (.int (4 : Int32)), .val (.ref w_GREATER), .val (.int (0 : Int32))] [])
  refine own_step (fun t k => XS.iconst X2.here hx rfl (hb hby at_147) k) ?_
  show own_Goes _ _ _ _ T2 (mkF m 148 #[.val (.int p1), .val (.int p2), .val (.int (4 : Int32)), .val (.ref w_GREATER), .val (.int (0 : Int32))] [(.int (1 : Int32))])
  refine own_step (fun t k => XS.goto X2.here hx rfl (pc0 := 148) (pc' := 152) rfl (hb hby at_148) (by decide) (by decide) k) ?_
  show own_Goes _ _ _ _ T2 (mkF m 152 #[.val (.int p1), .val (.int p2), .val (.int (4 : Int32)), .val (.ref w_GREATER), .val (.int (0 : Int32))] [(.int (1 : Int32))])
  exact own_retN X2 hx hlk (t := .boolean) hrt (by simp) (hb hby at_152) ⟨rfl, N2⟩ (by decide) (by decide)
set_option maxRecDepth 65536 in
set_option maxHeartbeats 40000000 in
theorem own_law4z (l : Launch) (Z : State) (a0 : Array Value) (hw : ∀ d ∈ tables_1, d.before a0 Z = true) (ws : List Jvm.Cond) (p1 : Int32) (p2 : Int32) (w_GREATER : Addr) (h0 : Heap) (n0 : Nat) (Z0 : n0 ≤ h0.size) (S_GREATER : Sta Z h0 "com/example/polyphony/polyphony/policy/Operator" "GREATER" "Lcom/example/polyphony/polyphony/policy/Operator;" (.ref w_GREATER)) (E_w_GREATER : Exa Z h0 w_GREATER "com/example/polyphony/polyphony/policy/Operator") (F_w_GREATER_whenBefore : Fld Z h0 w_GREATER "com/example/polyphony/polyphony/policy/Operator" "whenBefore" "Z" (.int (0 : Int32))) (F_w_GREATER_whenEqual : Fld Z h0 w_GREATER "com/example/polyphony/polyphony/policy/Operator" "whenEqual" "Z" (.int (0 : Int32))) (F_w_GREATER_whenAfter : Fld Z h0 w_GREATER "com/example/polyphony/polyphony/policy/Operator" "whenAfter" "Z" (.int (1 : Int32))) (hi : ((p1 &&& (2147483647 : Int32)) - ((p1 &&& (2147483647 : Int32)) / (6 : Int32)) * (6 : Int32)) = (4 : Int32)) (q1 : ¬ (p2 < (0 : Int32))) (q2 : p2 = (0 : Int32)) (q3 : ¬ ((0 : Int32) < p2)) :
    own_Met l Z x code maxLocals ret ws room_1 #[(.int p1), (.int p2)] h0 (fun v h L => v = some (.int 1) ∧ Fr n0 L) := by
  refine own_body (plainFor_of_name own_pn_com_example_polyphony_polyphony_policy_OperatorHoldsPinLaw) (fun p e s m below meth c s₁ hx hby hml0 hrt hlk hown0 hnm hZ X0 e0 => ?_)
  have N0 := Fr.nil n0
  have hown : s.vm.findClass "com/example/polyphony/polyphony/policy/OperatorHoldsPinLaw" = some m.cls := hown0
  have hml : c.maxLocals = 5 := hml0
  refine own_castG (own_ef1 m p1 p2) ?_
  show own_Goes _ _ _ _ s₁ (mkF m 0 #[.val (.int p1), .val (.int p2), .unset, .unset, .unset] [])
  refine own_step (fun t k => XS.iloadN X0.here hx rfl (hb hby at_0) rfl k) ?_
  show own_Goes _ _ _ _ s₁ (mkF m 1 #[.val (.int p1), .val (.int p2), .unset, .unset, .unset] [(.int p1)])
  refine own_step (X0.ldcInt hx hown (mvT hZ (hw _ (List.mem_of_getElem? (i := 0) rfl))) (g := (mkF m 1 #[.val (.int p1), .val (.int p2), .unset, .unset, .unset] [(.int p1)])) rfl (hb hby at_1)) ?_
  show own_Goes _ _ _ _ s₁ (mkF m 3 #[.val (.int p1), .val (.int p2), .unset, .unset, .unset] [(.int (2147483647 : Int32)), (.int p1)])
  refine own_step (fun t k => XS.iand X0.here hx rfl (hb hby at_3) rfl k) ?_
  show own_Goes _ _ _ _ s₁ (mkF m 4 #[.val (.int p1), .val (.int p2), .unset, .unset, .unset] [(.int (p1 &&& (2147483647 : Int32)))])
  refine own_step (fun t k => XS.bipush X0.here hx rfl (hb hby at_4) k) ?_
  show own_Goes _ _ _ _ s₁ (mkF m 6 #[.val (.int p1), .val (.int p2), .unset, .unset, .unset] [(.int (6 : Int32)), (.int (p1 &&& (2147483647 : Int32)))])
  refine own_step (fun t k => XS.irem X0.here hx rfl (hb hby at_6) rfl (by decide) k) ?_
  show own_Goes _ _ _ _ s₁ (mkF m 7 #[.val (.int p1), .val (.int p2), .unset, .unset, .unset] [(.int ((p1 &&& (2147483647 : Int32)) - ((p1 &&& (2147483647 : Int32)) / (6 : Int32)) * (6 : Int32)))])
  rw [hi]
  show own_Goes _ _ _ _ s₁ (mkF m 7 #[.val (.int p1), .val (.int p2), .unset, .unset, .unset] [(.int (4 : Int32))])
  refine own_step (fun t k => XS.istoreN X0.here hx rfl (hb hby at_7) rfl (l' := #[.val (.int p1), .val (.int p2), .val (.int (4 : Int32)), .unset, .unset]) rfl k) ?_
  show own_Goes _ _ _ _ s₁ (mkF m 8 #[.val (.int p1), .val (.int p2), .val (.int (4 : Int32)), .unset, .unset] [])
  refine own_step (fun t k => XS.iloadN X0.here hx rfl (hb hby at_8) rfl k) ?_
  show own_Goes _ _ _ _ s₁ (mkF m 9 #[.val (.int p1), .val (.int p2), .val (.int (4 : Int32)), .unset, .unset] [(.int (4 : Int32))])
  refine own_step (fun t k => XS.ifYes X0.here hx rfl (pc0 := 9) (pc' := 30) rfl (hb hby at_9) rfl ((if0 _ _).trans (feq (show ¬ ((4 : Int32) = (0 : Int32)) from (by decide))).2) (by decide) (by decide) k) ?_
  show own_Goes _ _ _ _ s₁ (mkF m 30 #[.val (.int p1), .val (.int p2), .val (.int (4 : Int32)), .unset, .unset] [])
  refine own_step (fun t k => XS.iloadN X0.here hx rfl (hb hby at_30) rfl k) ?_
  show own_Goes _ _ _ _ s₁ (mkF m 31 #[.val (.int p1), .val (.int p2), .val (.int (4 : Int32)), .unset, .unset] [(.int (4 : Int32))])
  refine own_step (fun t k => XS.iconst X0.here hx rfl (hb hby at_31) k) ?_
  show own_Goes _ _ _ _ s₁ (mkF m 32 #[.val (.int p1), .val (.int p2), .val (.int (4 : Int32)), .unset, .unset] [(.int (1 : Int32)), (.int (4 : Int32))])
  refine own_step (fun t k => XS.icmpYes X0.here hx rfl (pc0 := 32) (pc' := 53) rfl (hb hby at_32) rfl (feq (show ¬ ((4 : Int32) = (1 : Int32)) from (by decide))).2 (by decide) (by decide) k) ?_
  show own_Goes _ _ _ _ s₁ (mkF m 53 #[.val (.int p1), .val (.int p2), .val (.int (4 : Int32)), .unset, .unset] [])
  refine own_step (fun t k => XS.iloadN X0.here hx rfl (hb hby at_53) rfl k) ?_
  show own_Goes _ _ _ _ s₁ (mkF m 54 #[.val (.int p1), .val (.int p2), .val (.int (4 : Int32)), .unset, .unset] [(.int (4 : Int32))])
  refine own_step (fun t k => XS.iconst X0.here hx rfl (hb hby at_54) k) ?_
  show own_Goes _ _ _ _ s₁ (mkF m 55 #[.val (.int p1), .val (.int p2), .val (.int (4 : Int32)), .unset, .unset] [(.int (2 : Int32)), (.int (4 : Int32))])
  refine own_step (fun t k => XS.icmpYes X0.here hx rfl (pc0 := 55) (pc' := 76) rfl (hb hby at_55) rfl (feq (show ¬ ((4 : Int32) = (2 : Int32)) from (by decide))).2 (by decide) (by decide) k) ?_
  show own_Goes _ _ _ _ s₁ (mkF m 76 #[.val (.int p1), .val (.int p2), .val (.int (4 : Int32)), .unset, .unset] [])
  refine own_step (fun t k => XS.iloadN X0.here hx rfl (hb hby at_76) rfl k) ?_
  show own_Goes _ _ _ _ s₁ (mkF m 77 #[.val (.int p1), .val (.int p2), .val (.int (4 : Int32)), .unset, .unset] [(.int (4 : Int32))])
  refine own_step (fun t k => XS.iconst X0.here hx rfl (hb hby at_77) k) ?_
  show own_Goes _ _ _ _ s₁ (mkF m 78 #[.val (.int p1), .val (.int p2), .val (.int (4 : Int32)), .unset, .unset] [(.int (3 : Int32)), (.int (4 : Int32))])
  refine own_step (fun t k => XS.icmpYes X0.here hx rfl (pc0 := 78) (pc' := 99) rfl (hb hby at_78) rfl (feq (show ¬ ((4 : Int32) = (3 : Int32)) from (by decide))).2 (by decide) (by decide) k) ?_
  show own_Goes _ _ _ _ s₁ (mkF m 99 #[.val (.int p1), .val (.int p2), .val (.int (4 : Int32)), .unset, .unset] [])
  refine own_step (fun t k => XS.iloadN X0.here hx rfl (hb hby at_99) rfl k) ?_
  show own_Goes _ _ _ _ s₁ (mkF m 100 #[.val (.int p1), .val (.int p2), .val (.int (4 : Int32)), .unset, .unset] [(.int (4 : Int32))])
  refine own_step (fun t k => XS.iconst X0.here hx rfl (hb hby at_100) k) ?_
  show own_Goes _ _ _ _ s₁ (mkF m 101 #[.val (.int p1), .val (.int p2), .val (.int (4 : Int32)), .unset, .unset] [(.int (4 : Int32)), (.int (4 : Int32))])
  refine own_step (fun t k => XS.icmpNo X0.here hx rfl (hb hby at_101) rfl (teq (show (4 : Int32) = (4 : Int32) from (by decide))).2 k) ?_
  show own_Goes _ _ _ _ s₁ (mkF m 104 #[.val (.int p1), .val (.int p2), .val (.int (4 : Int32)), .unset, .unset] [])
  obtain ⟨T1, X1, e1, st1⟩ := getS2 X0 hx hZ hown (host := "") (Or.inl (hw _ (List.mem_of_getElem? (i := 15) rfl))) Via.refl e0 S_GREATER (g := (mkF m 104 #[.val (.int p1), .val (.int p2), .val (.int (4 : Int32)), .unset, .unset] [])) rfl (hb hby at_104)
  refine own_step st1 ?_
  show own_Goes _ _ _ _ T1 (mkF m 107 #[.val (.int p1), .val (.int p2), .val (.int (4 : Int32)), .unset, .unset] [(.ref w_GREATER)])
  refine own_step (fun t k => XS.astoreN X1.here hx rfl (hb hby at_107) rfl rfl (l' := #[.val (.int p1), .val (.int p2), .val (.int (4 : Int32)), .val (.ref w_GREATER), .unset]) rfl k) ?_
  show own_Goes _ _ _ _ T1 (mkF m 108 #[.val (.int p1), .val (.int p2), .val (.int (4 : Int32)), .val (.ref w_GREATER), .unset] [])
  refine own_step (fun t k => XS.iloadN X1.here hx rfl (hb hby at_108) rfl k) ?_
  show own_Goes _ _ _ _ T1 (mkF m 109 #[.val (.int p1), .val (.int p2), .val (.int (4 : Int32)), .val (.ref w_GREATER), .unset] [(.int p2)])
  refine own_step (fun t k => XS.ifYes X1.here hx rfl (pc0 := 109) (pc' := 116) rfl (hb hby at_109) rfl ((if0 _ _).trans (flt (show ¬ ((0 : Int32) < p2) from q3)).2.2.2) (by decide) (by decide) k) ?_
  show own_Goes _ _ _ _ T1 (mkF m 116 #[.val (.int p1), .val (.int p2), .val (.int (4 : Int32)), .val (.ref w_GREATER), .unset] [])
  refine own_step (fun t k => XS.iconst X1.here hx rfl (hb hby at_116) k) ?_
  show own_Goes _ _ _ _ T1 (mkF m 117 #[.val (.int p1), .val (.int p2), .val (.int (4 : Int32)), .val (.ref w_GREATER), .unset] [(.int (0 : Int32))])
  refine own_step (fun t k => XS.istore X1.here hx rfl (hb hby at_117) rfl (l' := #[.val (.int p1), .val (.int p2), .val (.int (4 : Int32)), .val (.ref w_GREATER), .val (.int (0 : Int32))]) rfl k) ?_
  show own_Goes _ _ _ _ T1 (mkF m 119 #[.val (.int p1), .val (.int p2), .val (.int (4 : Int32)), .val (.ref w_GREATER), .val (.int (0 : Int32))] [])
  refine own_step (fun t k => XS.goto X1.here hx rfl (pc0 := 119) (pc' := 137) rfl (hb hby at_119) (by decide) (by decide) k) ?_
  show own_Goes _ _ _ _ T1 (mkF m 137 #[.val (.int p1), .val (.int p2), .val (.int (4 : Int32)), .val (.ref w_GREATER), .val (.int (0 : Int32))] [])
  refine own_step (fun t k => XS.aloadN X1.here hx rfl (hb hby at_137) rfl rfl k) ?_
  show own_Goes _ _ _ _ T1 (mkF m 138 #[.val (.int p1), .val (.int p2), .val (.int (4 : Int32)), .val (.ref w_GREATER), .val (.int (0 : Int32))] [(.ref w_GREATER)])
  refine own_step (fun t k => XS.iloadN X1.here hx rfl (hb hby at_138) rfl k) ?_
  show own_Goes _ _ _ _ T1 (mkF m 139 #[.val (.int p1), .val (.int p2), .val (.int (4 : Int32)), .val (.ref w_GREATER), .val (.int (0 : Int32))] [(.int p2), (.ref w_GREATER)])
  refine own_callV X1 hx hZ (y := (⟨"com/example/polyphony/polyphony/policy/Operator", "holds", "(I)Z"⟩ : MethodName)) (z := (⟨"com/example/polyphony/polyphony/policy/Operator", "holds", "(I)Z"⟩ : MethodName)) hown (hw _ (List.mem_of_getElem? (i := 4) rfl)) (hw _ (List.mem_of_getElem? (i := 5) rfl)) (notFace_of_selects (args := #[]) (mvT hZ (hw _ (List.mem_of_getElem? (i := 7) rfl)))) (hw _ (List.mem_of_getElem? (i := 7) rfl)) (hw _ (List.mem_of_getElem? (i := 6) rfl)) (hw _ (List.mem_of_getElem? (i := 8) rfl)) (hw _ (List.mem_of_getElem? (i := 2) rfl)) (by decide) 0 E_w_GREATER [(.int p2)] [] (own_holds_z0 l Z a0 hw [] w_GREATER p2 h0 n0 Z0 F_w_GREATER_whenEqual q1 q2) e1 (by decide) (by decide) (by decide) (by decide) (g := (mkF m 139 #[.val (.int p1), .val (.int p2), .val (.int (4 : Int32)), .val (.ref w_GREATER), .val (.int (0 : Int32))] [(.int p2), (.ref w_GREATER)])) rfl (by rw [hml]; rfl) own_pd0 rfl rfl (by show 2 * 0 + _ ≤ _; exact Nat.le_of_eq rfl) (hb hby at_139) ?_
  intro T2 v2 L2 X2 hQ2
  obtain ⟨rfl, N2q, e2⟩ := hQ2
  have N2 := Fr.app N0 N2q
  show own_Goes _ _ _ _ T2 (mkF m 142 #[.val (.int p1), .val (.int p2), .val (.int (4 : Int32)), .val (.ref w_GREATER), .val (.int (0 : Int32))] [(.int (0 : Int32))])
  refine own_step (fun t k => XS.iload X2.here hx rfl (hb hby at_142) rfl k) ?_
  show own_Goes _ _ _ _ T2 (mkF m 144 #[.val (.int p1), .val (.int p2), .val (.int (4 : Int32)), .val (.ref w_GREATER), .val (.int (0 : Int32))] [(.int (0 : Int32)), (.int (0 : Int32))])
  refine own_step (fun t k => XS.icmpNo X2.here hx rfl (hb hby at_144) rfl (teq (show (0 : Int32) = (0 : Int32) from (by decide))).2 k) ?_
  show own_Goes _ _ _ _ T2 (mkF m 147 #[.val (.int p1), .val (.int p2), .val (.int (4 : Int32)), .val (.ref w_GREATER), .val (.int (0 : Int32))] [])
  refine own_step (fun t k => XS.iconst X2.here hx rfl (hb hby at_147) k) ?_
  show own_Goes _ _ _ _ T2 (mkF m 148 #[.val (.int p1), .val (.int p2), .val (.int (4 : Int32)), .val (.ref w_GREATER), .val (.int (0 : Int32))] [(.int (1 : Int32))])
  refine own_step (fun t k => XS.goto X2.here hx rfl (pc0 := 148) (pc' := 152) rfl (hb hby at_148) (by decide) (by decide) k) ?_
  show own_Goes _ _ _ _ T2 (mkF m 152 #[.val (.int p1), .val (.int p2), .val (.int (4 : Int32)), .val (.ref w_GREATER), .val (.int (0 : Int32))] [(.int (1 : Int32))])
  exact own_retN X2 hx hlk (t := .boolean) hrt (by simp) (hb hby at_152) ⟨rfl, N2⟩ (by decide) (by decide)
set_option maxRecDepth 65536 in
set_option maxHeartbeats 40000000 in
theorem own_law4p (l : Launch) (Z : State) (a0 : Array Value) (hw : ∀ d ∈ tables_1, d.before a0 Z = true) (ws : List Jvm.Cond) (p1 : Int32) (p2 : Int32) (w_GREATER : Addr) (h0 : Heap) (n0 : Nat) (Z0 : n0 ≤ h0.size) (S_GREATER : Sta Z h0 "com/example/polyphony/polyphony/policy/Operator" "GREATER" "Lcom/example/polyphony/polyphony/policy/Operator;" (.ref w_GREATER)) (E_w_GREATER : Exa Z h0 w_GREATER "com/example/polyphony/polyphony/policy/Operator") (F_w_GREATER_whenBefore : Fld Z h0 w_GREATER "com/example/polyphony/polyphony/policy/Operator" "whenBefore" "Z" (.int (0 : Int32))) (F_w_GREATER_whenEqual : Fld Z h0 w_GREATER "com/example/polyphony/polyphony/policy/Operator" "whenEqual" "Z" (.int (0 : Int32))) (F_w_GREATER_whenAfter : Fld Z h0 w_GREATER "com/example/polyphony/polyphony/policy/Operator" "whenAfter" "Z" (.int (1 : Int32))) (hi : ((p1 &&& (2147483647 : Int32)) - ((p1 &&& (2147483647 : Int32)) / (6 : Int32)) * (6 : Int32)) = (4 : Int32)) (q1 : ¬ (p2 < (0 : Int32))) (q2 : ¬ (p2 = (0 : Int32))) (q3 : (0 : Int32) < p2) :
    own_Met l Z x code maxLocals ret ws room_1 #[(.int p1), (.int p2)] h0 (fun v h L => v = some (.int 1) ∧ Fr n0 L) := by
  refine own_body (plainFor_of_name own_pn_com_example_polyphony_polyphony_policy_OperatorHoldsPinLaw) (fun p e s m below meth c s₁ hx hby hml0 hrt hlk hown0 hnm hZ X0 e0 => ?_)
  have N0 := Fr.nil n0
  have hown : s.vm.findClass "com/example/polyphony/polyphony/policy/OperatorHoldsPinLaw" = some m.cls := hown0
  have hml : c.maxLocals = 5 := hml0
  refine own_castG (own_ef1 m p1 p2) ?_
  show own_Goes _ _ _ _ s₁ (mkF m 0 #[.val (.int p1), .val (.int p2), .unset, .unset, .unset] [])
  refine own_step (fun t k => XS.iloadN X0.here hx rfl (hb hby at_0) rfl k) ?_
  show own_Goes _ _ _ _ s₁ (mkF m 1 #[.val (.int p1), .val (.int p2), .unset, .unset, .unset] [(.int p1)])
  refine own_step (X0.ldcInt hx hown (mvT hZ (hw _ (List.mem_of_getElem? (i := 0) rfl))) (g := (mkF m 1 #[.val (.int p1), .val (.int p2), .unset, .unset, .unset] [(.int p1)])) rfl (hb hby at_1)) ?_
  show own_Goes _ _ _ _ s₁ (mkF m 3 #[.val (.int p1), .val (.int p2), .unset, .unset, .unset] [(.int (2147483647 : Int32)), (.int p1)])
  refine own_step (fun t k => XS.iand X0.here hx rfl (hb hby at_3) rfl k) ?_
  show own_Goes _ _ _ _ s₁ (mkF m 4 #[.val (.int p1), .val (.int p2), .unset, .unset, .unset] [(.int (p1 &&& (2147483647 : Int32)))])
  refine own_step (fun t k => XS.bipush X0.here hx rfl (hb hby at_4) k) ?_
  show own_Goes _ _ _ _ s₁ (mkF m 6 #[.val (.int p1), .val (.int p2), .unset, .unset, .unset] [(.int (6 : Int32)), (.int (p1 &&& (2147483647 : Int32)))])
  refine own_step (fun t k => XS.irem X0.here hx rfl (hb hby at_6) rfl (by decide) k) ?_
  show own_Goes _ _ _ _ s₁ (mkF m 7 #[.val (.int p1), .val (.int p2), .unset, .unset, .unset] [(.int ((p1 &&& (2147483647 : Int32)) - ((p1 &&& (2147483647 : Int32)) / (6 : Int32)) * (6 : Int32)))])
  rw [hi]
  show own_Goes _ _ _ _ s₁ (mkF m 7 #[.val (.int p1), .val (.int p2), .unset, .unset, .unset] [(.int (4 : Int32))])
  refine own_step (fun t k => XS.istoreN X0.here hx rfl (hb hby at_7) rfl (l' := #[.val (.int p1), .val (.int p2), .val (.int (4 : Int32)), .unset, .unset]) rfl k) ?_
  show own_Goes _ _ _ _ s₁ (mkF m 8 #[.val (.int p1), .val (.int p2), .val (.int (4 : Int32)), .unset, .unset] [])
  refine own_step (fun t k => XS.iloadN X0.here hx rfl (hb hby at_8) rfl k) ?_
  show own_Goes _ _ _ _ s₁ (mkF m 9 #[.val (.int p1), .val (.int p2), .val (.int (4 : Int32)), .unset, .unset] [(.int (4 : Int32))])
  refine own_step (fun t k => XS.ifYes X0.here hx rfl (pc0 := 9) (pc' := 30) rfl (hb hby at_9) rfl ((if0 _ _).trans (feq (show ¬ ((4 : Int32) = (0 : Int32)) from (by decide))).2) (by decide) (by decide) k) ?_
  show own_Goes _ _ _ _ s₁ (mkF m 30 #[.val (.int p1), .val (.int p2), .val (.int (4 : Int32)), .unset, .unset] [])
  refine own_step (fun t k => XS.iloadN X0.here hx rfl (hb hby at_30) rfl k) ?_
  show own_Goes _ _ _ _ s₁ (mkF m 31 #[.val (.int p1), .val (.int p2), .val (.int (4 : Int32)), .unset, .unset] [(.int (4 : Int32))])
  refine own_step (fun t k => XS.iconst X0.here hx rfl (hb hby at_31) k) ?_
  show own_Goes _ _ _ _ s₁ (mkF m 32 #[.val (.int p1), .val (.int p2), .val (.int (4 : Int32)), .unset, .unset] [(.int (1 : Int32)), (.int (4 : Int32))])
  refine own_step (fun t k => XS.icmpYes X0.here hx rfl (pc0 := 32) (pc' := 53) rfl (hb hby at_32) rfl (feq (show ¬ ((4 : Int32) = (1 : Int32)) from (by decide))).2 (by decide) (by decide) k) ?_
  show own_Goes _ _ _ _ s₁ (mkF m 53 #[.val (.int p1), .val (.int p2), .val (.int (4 : Int32)), .unset, .unset] [])
  refine own_step (fun t k => XS.iloadN X0.here hx rfl (hb hby at_53) rfl k) ?_
  show own_Goes _ _ _ _ s₁ (mkF m 54 #[.val (.int p1), .val (.int p2), .val (.int (4 : Int32)), .unset, .unset] [(.int (4 : Int32))])
  refine own_step (fun t k => XS.iconst X0.here hx rfl (hb hby at_54) k) ?_
  show own_Goes _ _ _ _ s₁ (mkF m 55 #[.val (.int p1), .val (.int p2), .val (.int (4 : Int32)), .unset, .unset] [(.int (2 : Int32)), (.int (4 : Int32))])
  refine own_step (fun t k => XS.icmpYes X0.here hx rfl (pc0 := 55) (pc' := 76) rfl (hb hby at_55) rfl (feq (show ¬ ((4 : Int32) = (2 : Int32)) from (by decide))).2 (by decide) (by decide) k) ?_
  show own_Goes _ _ _ _ s₁ (mkF m 76 #[.val (.int p1), .val (.int p2), .val (.int (4 : Int32)), .unset, .unset] [])
  refine own_step (fun t k => XS.iloadN X0.here hx rfl (hb hby at_76) rfl k) ?_
  show own_Goes _ _ _ _ s₁ (mkF m 77 #[.val (.int p1), .val (.int p2), .val (.int (4 : Int32)), .unset, .unset] [(.int (4 : Int32))])
  refine own_step (fun t k => XS.iconst X0.here hx rfl (hb hby at_77) k) ?_
  show own_Goes _ _ _ _ s₁ (mkF m 78 #[.val (.int p1), .val (.int p2), .val (.int (4 : Int32)), .unset, .unset] [(.int (3 : Int32)), (.int (4 : Int32))])
  refine own_step (fun t k => XS.icmpYes X0.here hx rfl (pc0 := 78) (pc' := 99) rfl (hb hby at_78) rfl (feq (show ¬ ((4 : Int32) = (3 : Int32)) from (by decide))).2 (by decide) (by decide) k) ?_
  show own_Goes _ _ _ _ s₁ (mkF m 99 #[.val (.int p1), .val (.int p2), .val (.int (4 : Int32)), .unset, .unset] [])
  refine own_step (fun t k => XS.iloadN X0.here hx rfl (hb hby at_99) rfl k) ?_
  show own_Goes _ _ _ _ s₁ (mkF m 100 #[.val (.int p1), .val (.int p2), .val (.int (4 : Int32)), .unset, .unset] [(.int (4 : Int32))])
  refine own_step (fun t k => XS.iconst X0.here hx rfl (hb hby at_100) k) ?_
  show own_Goes _ _ _ _ s₁ (mkF m 101 #[.val (.int p1), .val (.int p2), .val (.int (4 : Int32)), .unset, .unset] [(.int (4 : Int32)), (.int (4 : Int32))])
  refine own_step (fun t k => XS.icmpNo X0.here hx rfl (hb hby at_101) rfl (teq (show (4 : Int32) = (4 : Int32) from (by decide))).2 k) ?_
  show own_Goes _ _ _ _ s₁ (mkF m 104 #[.val (.int p1), .val (.int p2), .val (.int (4 : Int32)), .unset, .unset] [])
  obtain ⟨T1, X1, e1, st1⟩ := getS2 X0 hx hZ hown (host := "") (Or.inl (hw _ (List.mem_of_getElem? (i := 15) rfl))) Via.refl e0 S_GREATER (g := (mkF m 104 #[.val (.int p1), .val (.int p2), .val (.int (4 : Int32)), .unset, .unset] [])) rfl (hb hby at_104)
  refine own_step st1 ?_
  show own_Goes _ _ _ _ T1 (mkF m 107 #[.val (.int p1), .val (.int p2), .val (.int (4 : Int32)), .unset, .unset] [(.ref w_GREATER)])
  refine own_step (fun t k => XS.astoreN X1.here hx rfl (hb hby at_107) rfl rfl (l' := #[.val (.int p1), .val (.int p2), .val (.int (4 : Int32)), .val (.ref w_GREATER), .unset]) rfl k) ?_
  show own_Goes _ _ _ _ T1 (mkF m 108 #[.val (.int p1), .val (.int p2), .val (.int (4 : Int32)), .val (.ref w_GREATER), .unset] [])
  refine own_step (fun t k => XS.iloadN X1.here hx rfl (hb hby at_108) rfl k) ?_
  show own_Goes _ _ _ _ T1 (mkF m 109 #[.val (.int p1), .val (.int p2), .val (.int (4 : Int32)), .val (.ref w_GREATER), .unset] [(.int p2)])
  refine own_step (fun t k => XS.ifNo X1.here hx rfl (hb hby at_109) rfl ((if0 _ _).trans (tlt (show (0 : Int32) < p2 from q3)).2.2.2) k) ?_
  show own_Goes _ _ _ _ T1 (mkF m 112 #[.val (.int p1), .val (.int p2), .val (.int (4 : Int32)), .val (.ref w_GREATER), .unset] [])
  refine own_step (fun t k => XS.iconst X1.here hx rfl (hb hby at_112) k) ?_
  show own_Goes _ _ _ _ T1 (mkF m 113 #[.val (.int p1), .val (.int p2), .val (.int (4 : Int32)), .val (.ref w_GREATER), .unset] [(.int (1 : Int32))])
  refine own_step (fun t k => XS.goto X1.here hx rfl (pc0 := 113) (pc' := 117) rfl (hb hby at_113) (by decide) (by decide) k) ?_
  show own_Goes _ _ _ _ T1 (mkF m 117 #[.val (.int p1), .val (.int p2), .val (.int (4 : Int32)), .val (.ref w_GREATER), .unset] [(.int (1 : Int32))])
  refine own_step (fun t k => XS.istore X1.here hx rfl (hb hby at_117) rfl (l' := #[.val (.int p1), .val (.int p2), .val (.int (4 : Int32)), .val (.ref w_GREATER), .val (.int (1 : Int32))]) rfl k) ?_
  show own_Goes _ _ _ _ T1 (mkF m 119 #[.val (.int p1), .val (.int p2), .val (.int (4 : Int32)), .val (.ref w_GREATER), .val (.int (1 : Int32))] [])
  refine own_step (fun t k => XS.goto X1.here hx rfl (pc0 := 119) (pc' := 137) rfl (hb hby at_119) (by decide) (by decide) k) ?_
  show own_Goes _ _ _ _ T1 (mkF m 137 #[.val (.int p1), .val (.int p2), .val (.int (4 : Int32)), .val (.ref w_GREATER), .val (.int (1 : Int32))] [])
  refine own_step (fun t k => XS.aloadN X1.here hx rfl (hb hby at_137) rfl rfl k) ?_
  show own_Goes _ _ _ _ T1 (mkF m 138 #[.val (.int p1), .val (.int p2), .val (.int (4 : Int32)), .val (.ref w_GREATER), .val (.int (1 : Int32))] [(.ref w_GREATER)])
  refine own_step (fun t k => XS.iloadN X1.here hx rfl (hb hby at_138) rfl k) ?_
  show own_Goes _ _ _ _ T1 (mkF m 139 #[.val (.int p1), .val (.int p2), .val (.int (4 : Int32)), .val (.ref w_GREATER), .val (.int (1 : Int32))] [(.int p2), (.ref w_GREATER)])
  refine own_callV X1 hx hZ (y := (⟨"com/example/polyphony/polyphony/policy/Operator", "holds", "(I)Z"⟩ : MethodName)) (z := (⟨"com/example/polyphony/polyphony/policy/Operator", "holds", "(I)Z"⟩ : MethodName)) hown (hw _ (List.mem_of_getElem? (i := 4) rfl)) (hw _ (List.mem_of_getElem? (i := 5) rfl)) (notFace_of_selects (args := #[]) (mvT hZ (hw _ (List.mem_of_getElem? (i := 7) rfl)))) (hw _ (List.mem_of_getElem? (i := 7) rfl)) (hw _ (List.mem_of_getElem? (i := 6) rfl)) (hw _ (List.mem_of_getElem? (i := 8) rfl)) (hw _ (List.mem_of_getElem? (i := 2) rfl)) (by decide) 0 E_w_GREATER [(.int p2)] [] (own_holds_p1 l Z a0 hw [] w_GREATER p2 h0 n0 Z0 F_w_GREATER_whenAfter q1 q2) e1 (by decide) (by decide) (by decide) (by decide) (g := (mkF m 139 #[.val (.int p1), .val (.int p2), .val (.int (4 : Int32)), .val (.ref w_GREATER), .val (.int (1 : Int32))] [(.int p2), (.ref w_GREATER)])) rfl (by rw [hml]; rfl) own_pd0 rfl rfl (by show 2 * 0 + _ ≤ _; exact Nat.le_of_eq rfl) (hb hby at_139) ?_
  intro T2 v2 L2 X2 hQ2
  obtain ⟨rfl, N2q, e2⟩ := hQ2
  have N2 := Fr.app N0 N2q
  show own_Goes _ _ _ _ T2 (mkF m 142 #[.val (.int p1), .val (.int p2), .val (.int (4 : Int32)), .val (.ref w_GREATER), .val (.int (1 : Int32))] [(.int (1 : Int32))])
  refine own_step (fun t k => XS.iload X2.here hx rfl (hb hby at_142) rfl k) ?_
  show own_Goes _ _ _ _ T2 (mkF m 144 #[.val (.int p1), .val (.int p2), .val (.int (4 : Int32)), .val (.ref w_GREATER), .val (.int (1 : Int32))] [(.int (1 : Int32)), (.int (1 : Int32))])
  refine own_step (fun t k => XS.icmpNo X2.here hx rfl (hb hby at_144) rfl (teq (show (1 : Int32) = (1 : Int32) from (by decide))).2 k) ?_
  show own_Goes _ _ _ _ T2 (mkF m 147 #[.val (.int p1), .val (.int p2), .val (.int (4 : Int32)), .val (.ref w_GREATER), .val (.int (1 : Int32))] [])
  refine own_step (fun t k => XS.iconst X2.here hx rfl (hb hby at_147) k) ?_
  show own_Goes _ _ _ _ T2 (mkF m 148 #[.val (.int p1), .val (.int p2), .val (.int (4 : Int32)), .val (.ref w_GREATER), .val (.int (1 : Int32))] [(.int (1 : Int32))])
  refine own_step (fun t k => XS.goto X2.here hx rfl (pc0 := 148) (pc' := 152) rfl (hb hby at_148) (by decide) (by decide) k) ?_
  show own_Goes _ _ _ _ T2 (mkF m 152 #[.val (.int p1), .val (.int p2), .val (.int (4 : Int32)), .val (.ref w_GREATER), .val (.int (1 : Int32))] [(.int (1 : Int32))])
  exact own_retN X2 hx hlk (t := .boolean) hrt (by simp) (hb hby at_152) ⟨rfl, N2⟩ (by decide) (by decide)
set_option maxRecDepth 65536 in
set_option maxHeartbeats 40000000 in
theorem own_law5n (l : Launch) (Z : State) (a0 : Array Value) (hw : ∀ d ∈ tables_1, d.before a0 Z = true) (ws : List Jvm.Cond) (p1 : Int32) (p2 : Int32) (w_GREATER_OR_EQUAL : Addr) (h0 : Heap) (n0 : Nat) (Z0 : n0 ≤ h0.size) (S_GREATER_OR_EQUAL : Sta Z h0 "com/example/polyphony/polyphony/policy/Operator" "GREATER_OR_EQUAL" "Lcom/example/polyphony/polyphony/policy/Operator;" (.ref w_GREATER_OR_EQUAL)) (E_w_GREATER_OR_EQUAL : Exa Z h0 w_GREATER_OR_EQUAL "com/example/polyphony/polyphony/policy/Operator") (F_w_GREATER_OR_EQUAL_whenBefore : Fld Z h0 w_GREATER_OR_EQUAL "com/example/polyphony/polyphony/policy/Operator" "whenBefore" "Z" (.int (0 : Int32))) (F_w_GREATER_OR_EQUAL_whenEqual : Fld Z h0 w_GREATER_OR_EQUAL "com/example/polyphony/polyphony/policy/Operator" "whenEqual" "Z" (.int (1 : Int32))) (F_w_GREATER_OR_EQUAL_whenAfter : Fld Z h0 w_GREATER_OR_EQUAL "com/example/polyphony/polyphony/policy/Operator" "whenAfter" "Z" (.int (1 : Int32))) (hi : ((p1 &&& (2147483647 : Int32)) - ((p1 &&& (2147483647 : Int32)) / (6 : Int32)) * (6 : Int32)) = (5 : Int32)) (q1 : p2 < (0 : Int32)) (q2 : ¬ (p2 = (0 : Int32))) (q3 : ¬ ((0 : Int32) < p2)) :
    own_Met l Z x code maxLocals ret ws room_1 #[(.int p1), (.int p2)] h0 (fun v h L => v = some (.int 1) ∧ Fr n0 L) := by
  refine own_body (plainFor_of_name own_pn_com_example_polyphony_polyphony_policy_OperatorHoldsPinLaw) (fun p e s m below meth c s₁ hx hby hml0 hrt hlk hown0 hnm hZ X0 e0 => ?_)
  have N0 := Fr.nil n0
  have hown : s.vm.findClass "com/example/polyphony/polyphony/policy/OperatorHoldsPinLaw" = some m.cls := hown0
  have hml : c.maxLocals = 5 := hml0
  refine own_castG (own_ef1 m p1 p2) ?_
  show own_Goes _ _ _ _ s₁ (mkF m 0 #[.val (.int p1), .val (.int p2), .unset, .unset, .unset] [])
  refine own_step (fun t k => XS.iloadN X0.here hx rfl (hb hby at_0) rfl k) ?_
  show own_Goes _ _ _ _ s₁ (mkF m 1 #[.val (.int p1), .val (.int p2), .unset, .unset, .unset] [(.int p1)])
  refine own_step (X0.ldcInt hx hown (mvT hZ (hw _ (List.mem_of_getElem? (i := 0) rfl))) (g := (mkF m 1 #[.val (.int p1), .val (.int p2), .unset, .unset, .unset] [(.int p1)])) rfl (hb hby at_1)) ?_
  show own_Goes _ _ _ _ s₁ (mkF m 3 #[.val (.int p1), .val (.int p2), .unset, .unset, .unset] [(.int (2147483647 : Int32)), (.int p1)])
  refine own_step (fun t k => XS.iand X0.here hx rfl (hb hby at_3) rfl k) ?_
  show own_Goes _ _ _ _ s₁ (mkF m 4 #[.val (.int p1), .val (.int p2), .unset, .unset, .unset] [(.int (p1 &&& (2147483647 : Int32)))])
  refine own_step (fun t k => XS.bipush X0.here hx rfl (hb hby at_4) k) ?_
  show own_Goes _ _ _ _ s₁ (mkF m 6 #[.val (.int p1), .val (.int p2), .unset, .unset, .unset] [(.int (6 : Int32)), (.int (p1 &&& (2147483647 : Int32)))])
  refine own_step (fun t k => XS.irem X0.here hx rfl (hb hby at_6) rfl (by decide) k) ?_
  show own_Goes _ _ _ _ s₁ (mkF m 7 #[.val (.int p1), .val (.int p2), .unset, .unset, .unset] [(.int ((p1 &&& (2147483647 : Int32)) - ((p1 &&& (2147483647 : Int32)) / (6 : Int32)) * (6 : Int32)))])
  rw [hi]
  show own_Goes _ _ _ _ s₁ (mkF m 7 #[.val (.int p1), .val (.int p2), .unset, .unset, .unset] [(.int (5 : Int32))])
  refine own_step (fun t k => XS.istoreN X0.here hx rfl (hb hby at_7) rfl (l' := #[.val (.int p1), .val (.int p2), .val (.int (5 : Int32)), .unset, .unset]) rfl k) ?_
  show own_Goes _ _ _ _ s₁ (mkF m 8 #[.val (.int p1), .val (.int p2), .val (.int (5 : Int32)), .unset, .unset] [])
  refine own_step (fun t k => XS.iloadN X0.here hx rfl (hb hby at_8) rfl k) ?_
  show own_Goes _ _ _ _ s₁ (mkF m 9 #[.val (.int p1), .val (.int p2), .val (.int (5 : Int32)), .unset, .unset] [(.int (5 : Int32))])
  refine own_step (fun t k => XS.ifYes X0.here hx rfl (pc0 := 9) (pc' := 30) rfl (hb hby at_9) rfl ((if0 _ _).trans (feq (show ¬ ((5 : Int32) = (0 : Int32)) from (by decide))).2) (by decide) (by decide) k) ?_
  show own_Goes _ _ _ _ s₁ (mkF m 30 #[.val (.int p1), .val (.int p2), .val (.int (5 : Int32)), .unset, .unset] [])
  refine own_step (fun t k => XS.iloadN X0.here hx rfl (hb hby at_30) rfl k) ?_
  show own_Goes _ _ _ _ s₁ (mkF m 31 #[.val (.int p1), .val (.int p2), .val (.int (5 : Int32)), .unset, .unset] [(.int (5 : Int32))])
  refine own_step (fun t k => XS.iconst X0.here hx rfl (hb hby at_31) k) ?_
  show own_Goes _ _ _ _ s₁ (mkF m 32 #[.val (.int p1), .val (.int p2), .val (.int (5 : Int32)), .unset, .unset] [(.int (1 : Int32)), (.int (5 : Int32))])
  refine own_step (fun t k => XS.icmpYes X0.here hx rfl (pc0 := 32) (pc' := 53) rfl (hb hby at_32) rfl (feq (show ¬ ((5 : Int32) = (1 : Int32)) from (by decide))).2 (by decide) (by decide) k) ?_
  show own_Goes _ _ _ _ s₁ (mkF m 53 #[.val (.int p1), .val (.int p2), .val (.int (5 : Int32)), .unset, .unset] [])
  refine own_step (fun t k => XS.iloadN X0.here hx rfl (hb hby at_53) rfl k) ?_
  show own_Goes _ _ _ _ s₁ (mkF m 54 #[.val (.int p1), .val (.int p2), .val (.int (5 : Int32)), .unset, .unset] [(.int (5 : Int32))])
  refine own_step (fun t k => XS.iconst X0.here hx rfl (hb hby at_54) k) ?_
  show own_Goes _ _ _ _ s₁ (mkF m 55 #[.val (.int p1), .val (.int p2), .val (.int (5 : Int32)), .unset, .unset] [(.int (2 : Int32)), (.int (5 : Int32))])
  refine own_step (fun t k => XS.icmpYes X0.here hx rfl (pc0 := 55) (pc' := 76) rfl (hb hby at_55) rfl (feq (show ¬ ((5 : Int32) = (2 : Int32)) from (by decide))).2 (by decide) (by decide) k) ?_
  show own_Goes _ _ _ _ s₁ (mkF m 76 #[.val (.int p1), .val (.int p2), .val (.int (5 : Int32)), .unset, .unset] [])
  refine own_step (fun t k => XS.iloadN X0.here hx rfl (hb hby at_76) rfl k) ?_
  show own_Goes _ _ _ _ s₁ (mkF m 77 #[.val (.int p1), .val (.int p2), .val (.int (5 : Int32)), .unset, .unset] [(.int (5 : Int32))])
  refine own_step (fun t k => XS.iconst X0.here hx rfl (hb hby at_77) k) ?_
  show own_Goes _ _ _ _ s₁ (mkF m 78 #[.val (.int p1), .val (.int p2), .val (.int (5 : Int32)), .unset, .unset] [(.int (3 : Int32)), (.int (5 : Int32))])
  refine own_step (fun t k => XS.icmpYes X0.here hx rfl (pc0 := 78) (pc' := 99) rfl (hb hby at_78) rfl (feq (show ¬ ((5 : Int32) = (3 : Int32)) from (by decide))).2 (by decide) (by decide) k) ?_
  show own_Goes _ _ _ _ s₁ (mkF m 99 #[.val (.int p1), .val (.int p2), .val (.int (5 : Int32)), .unset, .unset] [])
  refine own_step (fun t k => XS.iloadN X0.here hx rfl (hb hby at_99) rfl k) ?_
  show own_Goes _ _ _ _ s₁ (mkF m 100 #[.val (.int p1), .val (.int p2), .val (.int (5 : Int32)), .unset, .unset] [(.int (5 : Int32))])
  refine own_step (fun t k => XS.iconst X0.here hx rfl (hb hby at_100) k) ?_
  show own_Goes _ _ _ _ s₁ (mkF m 101 #[.val (.int p1), .val (.int p2), .val (.int (5 : Int32)), .unset, .unset] [(.int (4 : Int32)), (.int (5 : Int32))])
  refine own_step (fun t k => XS.icmpYes X0.here hx rfl (pc0 := 101) (pc' := 122) rfl (hb hby at_101) rfl (feq (show ¬ ((5 : Int32) = (4 : Int32)) from (by decide))).2 (by decide) (by decide) k) ?_
  show own_Goes _ _ _ _ s₁ (mkF m 122 #[.val (.int p1), .val (.int p2), .val (.int (5 : Int32)), .unset, .unset] [])
  obtain ⟨T1, X1, e1, st1⟩ := getS2 X0 hx hZ hown (host := "") (Or.inl (hw _ (List.mem_of_getElem? (i := 19) rfl))) Via.refl e0 S_GREATER_OR_EQUAL (g := (mkF m 122 #[.val (.int p1), .val (.int p2), .val (.int (5 : Int32)), .unset, .unset] [])) rfl (hb hby at_122)
  refine own_step st1 ?_
  show own_Goes _ _ _ _ T1 (mkF m 125 #[.val (.int p1), .val (.int p2), .val (.int (5 : Int32)), .unset, .unset] [(.ref w_GREATER_OR_EQUAL)])
  refine own_step (fun t k => XS.astoreN X1.here hx rfl (hb hby at_125) rfl rfl (l' := #[.val (.int p1), .val (.int p2), .val (.int (5 : Int32)), .val (.ref w_GREATER_OR_EQUAL), .unset]) rfl k) ?_
  show own_Goes _ _ _ _ T1 (mkF m 126 #[.val (.int p1), .val (.int p2), .val (.int (5 : Int32)), .val (.ref w_GREATER_OR_EQUAL), .unset] [])
  refine own_step (fun t k => XS.iloadN X1.here hx rfl (hb hby at_126) rfl k) ?_
  show own_Goes _ _ _ _ T1 (mkF m 127 #[.val (.int p1), .val (.int p2), .val (.int (5 : Int32)), .val (.ref w_GREATER_OR_EQUAL), .unset] [(.int p2)])
  refine own_step (fun t k => XS.ifYes X1.here hx rfl (pc0 := 127) (pc' := 134) rfl (hb hby at_127) rfl ((if0 _ _).trans (tlt (show p2 < (0 : Int32) from q1)).1) (by decide) (by decide) k) ?_
  show own_Goes _ _ _ _ T1 (mkF m 134 #[.val (.int p1), .val (.int p2), .val (.int (5 : Int32)), .val (.ref w_GREATER_OR_EQUAL), .unset] [])
  refine own_step (fun t k => XS.iconst X1.here hx rfl (hb hby at_134) k) ?_
  show own_Goes _ _ _ _ T1 (mkF m 135 #[.val (.int p1), .val (.int p2), .val (.int (5 : Int32)), .val (.ref w_GREATER_OR_EQUAL), .unset] [(.int (0 : Int32))])
  refine own_step (fun t k => XS.istore X1.here hx rfl (hb hby at_135) rfl (l' := #[.val (.int p1), .val (.int p2), .val (.int (5 : Int32)), .val (.ref w_GREATER_OR_EQUAL), .val (.int (0 : Int32))]) rfl k) ?_
  show own_Goes _ _ _ _ T1 (mkF m 137 #[.val (.int p1), .val (.int p2), .val (.int (5 : Int32)), .val (.ref w_GREATER_OR_EQUAL), .val (.int (0 : Int32))] [])
  refine own_step (fun t k => XS.aloadN X1.here hx rfl (hb hby at_137) rfl rfl k) ?_
  show own_Goes _ _ _ _ T1 (mkF m 138 #[.val (.int p1), .val (.int p2), .val (.int (5 : Int32)), .val (.ref w_GREATER_OR_EQUAL), .val (.int (0 : Int32))] [(.ref w_GREATER_OR_EQUAL)])
  refine own_step (fun t k => XS.iloadN X1.here hx rfl (hb hby at_138) rfl k) ?_
  show own_Goes _ _ _ _ T1 (mkF m 139 #[.val (.int p1), .val (.int p2), .val (.int (5 : Int32)), .val (.ref w_GREATER_OR_EQUAL), .val (.int (0 : Int32))] [(.int p2), (.ref w_GREATER_OR_EQUAL)])
  refine own_callV X1 hx hZ (y := (⟨"com/example/polyphony/polyphony/policy/Operator", "holds", "(I)Z"⟩ : MethodName)) (z := (⟨"com/example/polyphony/polyphony/policy/Operator", "holds", "(I)Z"⟩ : MethodName)) hown (hw _ (List.mem_of_getElem? (i := 4) rfl)) (hw _ (List.mem_of_getElem? (i := 5) rfl)) (notFace_of_selects (args := #[]) (mvT hZ (hw _ (List.mem_of_getElem? (i := 7) rfl)))) (hw _ (List.mem_of_getElem? (i := 7) rfl)) (hw _ (List.mem_of_getElem? (i := 6) rfl)) (hw _ (List.mem_of_getElem? (i := 8) rfl)) (hw _ (List.mem_of_getElem? (i := 2) rfl)) (by decide) 0 E_w_GREATER_OR_EQUAL [(.int p2)] [] (own_holds_n0 l Z a0 hw [] w_GREATER_OR_EQUAL p2 h0 n0 Z0 F_w_GREATER_OR_EQUAL_whenBefore q1) e1 (by decide) (by decide) (by decide) (by decide) (g := (mkF m 139 #[.val (.int p1), .val (.int p2), .val (.int (5 : Int32)), .val (.ref w_GREATER_OR_EQUAL), .val (.int (0 : Int32))] [(.int p2), (.ref w_GREATER_OR_EQUAL)])) rfl (by rw [hml]; rfl) own_pd0 rfl rfl (by show 2 * 0 + _ ≤ _; exact Nat.le_of_eq rfl) (hb hby at_139) ?_
  intro T2 v2 L2 X2 hQ2
  obtain ⟨rfl, N2q, e2⟩ := hQ2
  have N2 := Fr.app N0 N2q
  show own_Goes _ _ _ _ T2 (mkF m 142 #[.val (.int p1), .val (.int p2), .val (.int (5 : Int32)), .val (.ref w_GREATER_OR_EQUAL), .val (.int (0 : Int32))] [(.int (0 : Int32))])
  refine own_step (fun t k => XS.iload X2.here hx rfl (hb hby at_142) rfl k) ?_
  show own_Goes _ _ _ _ T2 (mkF m 144 #[.val (.int p1), .val (.int p2), .val (.int (5 : Int32)), .val (.ref w_GREATER_OR_EQUAL), .val (.int (0 : Int32))] [(.int (0 : Int32)), (.int (0 : Int32))])
  refine own_step (fun t k => XS.icmpNo X2.here hx rfl (hb hby at_144) rfl (teq (show (0 : Int32) = (0 : Int32) from (by decide))).2 k) ?_
  show own_Goes _ _ _ _ T2 (mkF m 147 #[.val (.int p1), .val (.int p2), .val (.int (5 : Int32)), .val (.ref w_GREATER_OR_EQUAL), .val (.int (0 : Int32))] [])
  refine own_step (fun t k => XS.iconst X2.here hx rfl (hb hby at_147) k) ?_
  show own_Goes _ _ _ _ T2 (mkF m 148 #[.val (.int p1), .val (.int p2), .val (.int (5 : Int32)), .val (.ref w_GREATER_OR_EQUAL), .val (.int (0 : Int32))] [(.int (1 : Int32))])
  refine own_step (fun t k => XS.goto X2.here hx rfl (pc0 := 148) (pc' := 152) rfl (hb hby at_148) (by decide) (by decide) k) ?_
  show own_Goes _ _ _ _ T2 (mkF m 152 #[.val (.int p1), .val (.int p2), .val (.int (5 : Int32)), .val (.ref w_GREATER_OR_EQUAL), .val (.int (0 : Int32))] [(.int (1 : Int32))])
  exact own_retN X2 hx hlk (t := .boolean) hrt (by simp) (hb hby at_152) ⟨rfl, N2⟩ (by decide) (by decide)
set_option maxRecDepth 65536 in
set_option maxHeartbeats 40000000 in
theorem own_law5z (l : Launch) (Z : State) (a0 : Array Value) (hw : ∀ d ∈ tables_1, d.before a0 Z = true) (ws : List Jvm.Cond) (p1 : Int32) (p2 : Int32) (w_GREATER_OR_EQUAL : Addr) (h0 : Heap) (n0 : Nat) (Z0 : n0 ≤ h0.size) (S_GREATER_OR_EQUAL : Sta Z h0 "com/example/polyphony/polyphony/policy/Operator" "GREATER_OR_EQUAL" "Lcom/example/polyphony/polyphony/policy/Operator;" (.ref w_GREATER_OR_EQUAL)) (E_w_GREATER_OR_EQUAL : Exa Z h0 w_GREATER_OR_EQUAL "com/example/polyphony/polyphony/policy/Operator") (F_w_GREATER_OR_EQUAL_whenBefore : Fld Z h0 w_GREATER_OR_EQUAL "com/example/polyphony/polyphony/policy/Operator" "whenBefore" "Z" (.int (0 : Int32))) (F_w_GREATER_OR_EQUAL_whenEqual : Fld Z h0 w_GREATER_OR_EQUAL "com/example/polyphony/polyphony/policy/Operator" "whenEqual" "Z" (.int (1 : Int32))) (F_w_GREATER_OR_EQUAL_whenAfter : Fld Z h0 w_GREATER_OR_EQUAL "com/example/polyphony/polyphony/policy/Operator" "whenAfter" "Z" (.int (1 : Int32))) (hi : ((p1 &&& (2147483647 : Int32)) - ((p1 &&& (2147483647 : Int32)) / (6 : Int32)) * (6 : Int32)) = (5 : Int32)) (q1 : ¬ (p2 < (0 : Int32))) (q2 : p2 = (0 : Int32)) (q3 : ¬ ((0 : Int32) < p2)) :
    own_Met l Z x code maxLocals ret ws room_1 #[(.int p1), (.int p2)] h0 (fun v h L => v = some (.int 1) ∧ Fr n0 L) := by
  refine own_body (plainFor_of_name own_pn_com_example_polyphony_polyphony_policy_OperatorHoldsPinLaw) (fun p e s m below meth c s₁ hx hby hml0 hrt hlk hown0 hnm hZ X0 e0 => ?_)
  have N0 := Fr.nil n0
  have hown : s.vm.findClass "com/example/polyphony/polyphony/policy/OperatorHoldsPinLaw" = some m.cls := hown0
  have hml : c.maxLocals = 5 := hml0
  refine own_castG (own_ef1 m p1 p2) ?_
  show own_Goes _ _ _ _ s₁ (mkF m 0 #[.val (.int p1), .val (.int p2), .unset, .unset, .unset] [])
  refine own_step (fun t k => XS.iloadN X0.here hx rfl (hb hby at_0) rfl k) ?_
  show own_Goes _ _ _ _ s₁ (mkF m 1 #[.val (.int p1), .val (.int p2), .unset, .unset, .unset] [(.int p1)])
  refine own_step (X0.ldcInt hx hown (mvT hZ (hw _ (List.mem_of_getElem? (i := 0) rfl))) (g := (mkF m 1 #[.val (.int p1), .val (.int p2), .unset, .unset, .unset] [(.int p1)])) rfl (hb hby at_1)) ?_
  show own_Goes _ _ _ _ s₁ (mkF m 3 #[.val (.int p1), .val (.int p2), .unset, .unset, .unset] [(.int (2147483647 : Int32)), (.int p1)])
  refine own_step (fun t k => XS.iand X0.here hx rfl (hb hby at_3) rfl k) ?_
  show own_Goes _ _ _ _ s₁ (mkF m 4 #[.val (.int p1), .val (.int p2), .unset, .unset, .unset] [(.int (p1 &&& (2147483647 : Int32)))])
  refine own_step (fun t k => XS.bipush X0.here hx rfl (hb hby at_4) k) ?_
  show own_Goes _ _ _ _ s₁ (mkF m 6 #[.val (.int p1), .val (.int p2), .unset, .unset, .unset] [(.int (6 : Int32)), (.int (p1 &&& (2147483647 : Int32)))])
  refine own_step (fun t k => XS.irem X0.here hx rfl (hb hby at_6) rfl (by decide) k) ?_
  show own_Goes _ _ _ _ s₁ (mkF m 7 #[.val (.int p1), .val (.int p2), .unset, .unset, .unset] [(.int ((p1 &&& (2147483647 : Int32)) - ((p1 &&& (2147483647 : Int32)) / (6 : Int32)) * (6 : Int32)))])
  rw [hi]
  show own_Goes _ _ _ _ s₁ (mkF m 7 #[.val (.int p1), .val (.int p2), .unset, .unset, .unset] [(.int (5 : Int32))])
  refine own_step (fun t k => XS.istoreN X0.here hx rfl (hb hby at_7) rfl (l' := #[.val (.int p1), .val (.int p2), .val (.int (5 : Int32)), .unset, .unset]) rfl k) ?_
  show own_Goes _ _ _ _ s₁ (mkF m 8 #[.val (.int p1), .val (.int p2), .val (.int (5 : Int32)), .unset, .unset] [])
  refine own_step (fun t k => XS.iloadN X0.here hx rfl (hb hby at_8) rfl k) ?_
  show own_Goes _ _ _ _ s₁ (mkF m 9 #[.val (.int p1), .val (.int p2), .val (.int (5 : Int32)), .unset, .unset] [(.int (5 : Int32))])
  refine own_step (fun t k => XS.ifYes X0.here hx rfl (pc0 := 9) (pc' := 30) rfl (hb hby at_9) rfl ((if0 _ _).trans (feq (show ¬ ((5 : Int32) = (0 : Int32)) from (by decide))).2) (by decide) (by decide) k) ?_
  show own_Goes _ _ _ _ s₁ (mkF m 30 #[.val (.int p1), .val (.int p2), .val (.int (5 : Int32)), .unset, .unset] [])
  refine own_step (fun t k => XS.iloadN X0.here hx rfl (hb hby at_30) rfl k) ?_
  show own_Goes _ _ _ _ s₁ (mkF m 31 #[.val (.int p1), .val (.int p2), .val (.int (5 : Int32)), .unset, .unset] [(.int (5 : Int32))])
  refine own_step (fun t k => XS.iconst X0.here hx rfl (hb hby at_31) k) ?_
  show own_Goes _ _ _ _ s₁ (mkF m 32 #[.val (.int p1), .val (.int p2), .val (.int (5 : Int32)), .unset, .unset] [(.int (1 : Int32)), (.int (5 : Int32))])
  refine own_step (fun t k => XS.icmpYes X0.here hx rfl (pc0 := 32) (pc' := 53) rfl (hb hby at_32) rfl (feq (show ¬ ((5 : Int32) = (1 : Int32)) from (by decide))).2 (by decide) (by decide) k) ?_
  show own_Goes _ _ _ _ s₁ (mkF m 53 #[.val (.int p1), .val (.int p2), .val (.int (5 : Int32)), .unset, .unset] [])
  refine own_step (fun t k => XS.iloadN X0.here hx rfl (hb hby at_53) rfl k) ?_
  show own_Goes _ _ _ _ s₁ (mkF m 54 #[.val (.int p1), .val (.int p2), .val (.int (5 : Int32)), .unset, .unset] [(.int (5 : Int32))])
  refine own_step (fun t k => XS.iconst X0.here hx rfl (hb hby at_54) k) ?_
  show own_Goes _ _ _ _ s₁ (mkF m 55 #[.val (.int p1), .val (.int p2), .val (.int (5 : Int32)), .unset, .unset] [(.int (2 : Int32)), (.int (5 : Int32))])
  refine own_step (fun t k => XS.icmpYes X0.here hx rfl (pc0 := 55) (pc' := 76) rfl (hb hby at_55) rfl (feq (show ¬ ((5 : Int32) = (2 : Int32)) from (by decide))).2 (by decide) (by decide) k) ?_
  show own_Goes _ _ _ _ s₁ (mkF m 76 #[.val (.int p1), .val (.int p2), .val (.int (5 : Int32)), .unset, .unset] [])
  refine own_step (fun t k => XS.iloadN X0.here hx rfl (hb hby at_76) rfl k) ?_
  show own_Goes _ _ _ _ s₁ (mkF m 77 #[.val (.int p1), .val (.int p2), .val (.int (5 : Int32)), .unset, .unset] [(.int (5 : Int32))])
  refine own_step (fun t k => XS.iconst X0.here hx rfl (hb hby at_77) k) ?_
  show own_Goes _ _ _ _ s₁ (mkF m 78 #[.val (.int p1), .val (.int p2), .val (.int (5 : Int32)), .unset, .unset] [(.int (3 : Int32)), (.int (5 : Int32))])
  refine own_step (fun t k => XS.icmpYes X0.here hx rfl (pc0 := 78) (pc' := 99) rfl (hb hby at_78) rfl (feq (show ¬ ((5 : Int32) = (3 : Int32)) from (by decide))).2 (by decide) (by decide) k) ?_
  show own_Goes _ _ _ _ s₁ (mkF m 99 #[.val (.int p1), .val (.int p2), .val (.int (5 : Int32)), .unset, .unset] [])
  refine own_step (fun t k => XS.iloadN X0.here hx rfl (hb hby at_99) rfl k) ?_
  show own_Goes _ _ _ _ s₁ (mkF m 100 #[.val (.int p1), .val (.int p2), .val (.int (5 : Int32)), .unset, .unset] [(.int (5 : Int32))])
  refine own_step (fun t k => XS.iconst X0.here hx rfl (hb hby at_100) k) ?_
  show own_Goes _ _ _ _ s₁ (mkF m 101 #[.val (.int p1), .val (.int p2), .val (.int (5 : Int32)), .unset, .unset] [(.int (4 : Int32)), (.int (5 : Int32))])
  refine own_step (fun t k => XS.icmpYes X0.here hx rfl (pc0 := 101) (pc' := 122) rfl (hb hby at_101) rfl (feq (show ¬ ((5 : Int32) = (4 : Int32)) from (by decide))).2 (by decide) (by decide) k) ?_
  show own_Goes _ _ _ _ s₁ (mkF m 122 #[.val (.int p1), .val (.int p2), .val (.int (5 : Int32)), .unset, .unset] [])
  obtain ⟨T1, X1, e1, st1⟩ := getS2 X0 hx hZ hown (host := "") (Or.inl (hw _ (List.mem_of_getElem? (i := 19) rfl))) Via.refl e0 S_GREATER_OR_EQUAL (g := (mkF m 122 #[.val (.int p1), .val (.int p2), .val (.int (5 : Int32)), .unset, .unset] [])) rfl (hb hby at_122)
  refine own_step st1 ?_
  show own_Goes _ _ _ _ T1 (mkF m 125 #[.val (.int p1), .val (.int p2), .val (.int (5 : Int32)), .unset, .unset] [(.ref w_GREATER_OR_EQUAL)])
  refine own_step (fun t k => XS.astoreN X1.here hx rfl (hb hby at_125) rfl rfl (l' := #[.val (.int p1), .val (.int p2), .val (.int (5 : Int32)), .val (.ref w_GREATER_OR_EQUAL), .unset]) rfl k) ?_
  show own_Goes _ _ _ _ T1 (mkF m 126 #[.val (.int p1), .val (.int p2), .val (.int (5 : Int32)), .val (.ref w_GREATER_OR_EQUAL), .unset] [])
  refine own_step (fun t k => XS.iloadN X1.here hx rfl (hb hby at_126) rfl k) ?_
  show own_Goes _ _ _ _ T1 (mkF m 127 #[.val (.int p1), .val (.int p2), .val (.int (5 : Int32)), .val (.ref w_GREATER_OR_EQUAL), .unset] [(.int p2)])
  refine own_step (fun t k => XS.ifNo X1.here hx rfl (hb hby at_127) rfl ((if0 _ _).trans (flt (show ¬ (p2 < (0 : Int32)) from q1)).1) k) ?_
  show own_Goes _ _ _ _ T1 (mkF m 130 #[.val (.int p1), .val (.int p2), .val (.int (5 : Int32)), .val (.ref w_GREATER_OR_EQUAL), .unset] [])
  refine own_step (fun t k => XS.iconst X1.here hx rfl (hb hby at_130) k) ?_
  show own_Goes _ _ _ _ T1 (mkF m 131 #[.val (.int p1), .val (.int p2), .val (.int (5 : Int32)), .val (.ref w_GREATER_OR_EQUAL), .unset] [(.int (1 : Int32))])
  refine own_step (fun t k => XS.goto X1.here hx rfl (pc0 := 131) (pc' := 135) rfl (hb hby at_131) (by decide) (by decide) k) ?_
  show own_Goes _ _ _ _ T1 (mkF m 135 #[.val (.int p1), .val (.int p2), .val (.int (5 : Int32)), .val (.ref w_GREATER_OR_EQUAL), .unset] [(.int (1 : Int32))])
  refine own_step (fun t k => XS.istore X1.here hx rfl (hb hby at_135) rfl (l' := #[.val (.int p1), .val (.int p2), .val (.int (5 : Int32)), .val (.ref w_GREATER_OR_EQUAL), .val (.int (1 : Int32))]) rfl k) ?_
  show own_Goes _ _ _ _ T1 (mkF m 137 #[.val (.int p1), .val (.int p2), .val (.int (5 : Int32)), .val (.ref w_GREATER_OR_EQUAL), .val (.int (1 : Int32))] [])
  refine own_step (fun t k => XS.aloadN X1.here hx rfl (hb hby at_137) rfl rfl k) ?_
  show own_Goes _ _ _ _ T1 (mkF m 138 #[.val (.int p1), .val (.int p2), .val (.int (5 : Int32)), .val (.ref w_GREATER_OR_EQUAL), .val (.int (1 : Int32))] [(.ref w_GREATER_OR_EQUAL)])
  refine own_step (fun t k => XS.iloadN X1.here hx rfl (hb hby at_138) rfl k) ?_
  show own_Goes _ _ _ _ T1 (mkF m 139 #[.val (.int p1), .val (.int p2), .val (.int (5 : Int32)), .val (.ref w_GREATER_OR_EQUAL), .val (.int (1 : Int32))] [(.int p2), (.ref w_GREATER_OR_EQUAL)])
  refine own_callV X1 hx hZ (y := (⟨"com/example/polyphony/polyphony/policy/Operator", "holds", "(I)Z"⟩ : MethodName)) (z := (⟨"com/example/polyphony/polyphony/policy/Operator", "holds", "(I)Z"⟩ : MethodName)) hown (hw _ (List.mem_of_getElem? (i := 4) rfl)) (hw _ (List.mem_of_getElem? (i := 5) rfl)) (notFace_of_selects (args := #[]) (mvT hZ (hw _ (List.mem_of_getElem? (i := 7) rfl)))) (hw _ (List.mem_of_getElem? (i := 7) rfl)) (hw _ (List.mem_of_getElem? (i := 6) rfl)) (hw _ (List.mem_of_getElem? (i := 8) rfl)) (hw _ (List.mem_of_getElem? (i := 2) rfl)) (by decide) 0 E_w_GREATER_OR_EQUAL [(.int p2)] [] (own_holds_z1 l Z a0 hw [] w_GREATER_OR_EQUAL p2 h0 n0 Z0 F_w_GREATER_OR_EQUAL_whenEqual q1 q2) e1 (by decide) (by decide) (by decide) (by decide) (g := (mkF m 139 #[.val (.int p1), .val (.int p2), .val (.int (5 : Int32)), .val (.ref w_GREATER_OR_EQUAL), .val (.int (1 : Int32))] [(.int p2), (.ref w_GREATER_OR_EQUAL)])) rfl (by rw [hml]; rfl) own_pd0 rfl rfl (by show 2 * 0 + _ ≤ _; exact Nat.le_of_eq rfl) (hb hby at_139) ?_
  intro T2 v2 L2 X2 hQ2
  obtain ⟨rfl, N2q, e2⟩ := hQ2
  have N2 := Fr.app N0 N2q
  show own_Goes _ _ _ _ T2 (mkF m 142 #[.val (.int p1), .val (.int p2), .val (.int (5 : Int32)), .val (.ref w_GREATER_OR_EQUAL), .val (.int (1 : Int32))] [(.int (1 : Int32))])
  refine own_step (fun t k => XS.iload X2.here hx rfl (hb hby at_142) rfl k) ?_
  show own_Goes _ _ _ _ T2 (mkF m 144 #[.val (.int p1), .val (.int p2), .val (.int (5 : Int32)), .val (.ref w_GREATER_OR_EQUAL), .val (.int (1 : Int32))] [(.int (1 : Int32)), (.int (1 : Int32))])
  refine own_step (fun t k => XS.icmpNo X2.here hx rfl (hb hby at_144) rfl (teq (show (1 : Int32) = (1 : Int32) from (by decide))).2 k) ?_
  show own_Goes _ _ _ _ T2 (mkF m 147 #[.val (.int p1), .val (.int p2), .val (.int (5 : Int32)), .val (.ref w_GREATER_OR_EQUAL), .val (.int (1 : Int32))] [])
  refine own_step (fun t k => XS.iconst X2.here hx rfl (hb hby at_147) k) ?_
  show own_Goes _ _ _ _ T2 (mkF m 148 #[.val (.int p1), .val (.int p2), .val (.int (5 : Int32)), .val (.ref w_GREATER_OR_EQUAL), .val (.int (1 : Int32))] [(.int (1 : Int32))])
  refine own_step (fun t k => XS.goto X2.here hx rfl (pc0 := 148) (pc' := 152) rfl (hb hby at_148) (by decide) (by decide) k) ?_
  show own_Goes _ _ _ _ T2 (mkF m 152 #[.val (.int p1), .val (.int p2), .val (.int (5 : Int32)), .val (.ref w_GREATER_OR_EQUAL), .val (.int (1 : Int32))] [(.int (1 : Int32))])
  exact own_retN X2 hx hlk (t := .boolean) hrt (by simp) (hb hby at_152) ⟨rfl, N2⟩ (by decide) (by decide)
set_option maxRecDepth 65536 in
set_option maxHeartbeats 40000000 in
theorem own_law5p (l : Launch) (Z : State) (a0 : Array Value) (hw : ∀ d ∈ tables_1, d.before a0 Z = true) (ws : List Jvm.Cond) (p1 : Int32) (p2 : Int32) (w_GREATER_OR_EQUAL : Addr) (h0 : Heap) (n0 : Nat) (Z0 : n0 ≤ h0.size) (S_GREATER_OR_EQUAL : Sta Z h0 "com/example/polyphony/polyphony/policy/Operator" "GREATER_OR_EQUAL" "Lcom/example/polyphony/polyphony/policy/Operator;" (.ref w_GREATER_OR_EQUAL)) (E_w_GREATER_OR_EQUAL : Exa Z h0 w_GREATER_OR_EQUAL "com/example/polyphony/polyphony/policy/Operator") (F_w_GREATER_OR_EQUAL_whenBefore : Fld Z h0 w_GREATER_OR_EQUAL "com/example/polyphony/polyphony/policy/Operator" "whenBefore" "Z" (.int (0 : Int32))) (F_w_GREATER_OR_EQUAL_whenEqual : Fld Z h0 w_GREATER_OR_EQUAL "com/example/polyphony/polyphony/policy/Operator" "whenEqual" "Z" (.int (1 : Int32))) (F_w_GREATER_OR_EQUAL_whenAfter : Fld Z h0 w_GREATER_OR_EQUAL "com/example/polyphony/polyphony/policy/Operator" "whenAfter" "Z" (.int (1 : Int32))) (hi : ((p1 &&& (2147483647 : Int32)) - ((p1 &&& (2147483647 : Int32)) / (6 : Int32)) * (6 : Int32)) = (5 : Int32)) (q1 : ¬ (p2 < (0 : Int32))) (q2 : ¬ (p2 = (0 : Int32))) (q3 : (0 : Int32) < p2) :
    own_Met l Z x code maxLocals ret ws room_1 #[(.int p1), (.int p2)] h0 (fun v h L => v = some (.int 1) ∧ Fr n0 L) := by
  refine own_body (plainFor_of_name own_pn_com_example_polyphony_polyphony_policy_OperatorHoldsPinLaw) (fun p e s m below meth c s₁ hx hby hml0 hrt hlk hown0 hnm hZ X0 e0 => ?_)
  have N0 := Fr.nil n0
  have hown : s.vm.findClass "com/example/polyphony/polyphony/policy/OperatorHoldsPinLaw" = some m.cls := hown0
  have hml : c.maxLocals = 5 := hml0
  refine own_castG (own_ef1 m p1 p2) ?_
  show own_Goes _ _ _ _ s₁ (mkF m 0 #[.val (.int p1), .val (.int p2), .unset, .unset, .unset] [])
  refine own_step (fun t k => XS.iloadN X0.here hx rfl (hb hby at_0) rfl k) ?_
  show own_Goes _ _ _ _ s₁ (mkF m 1 #[.val (.int p1), .val (.int p2), .unset, .unset, .unset] [(.int p1)])
  refine own_step (X0.ldcInt hx hown (mvT hZ (hw _ (List.mem_of_getElem? (i := 0) rfl))) (g := (mkF m 1 #[.val (.int p1), .val (.int p2), .unset, .unset, .unset] [(.int p1)])) rfl (hb hby at_1)) ?_
  show own_Goes _ _ _ _ s₁ (mkF m 3 #[.val (.int p1), .val (.int p2), .unset, .unset, .unset] [(.int (2147483647 : Int32)), (.int p1)])
  refine own_step (fun t k => XS.iand X0.here hx rfl (hb hby at_3) rfl k) ?_
  show own_Goes _ _ _ _ s₁ (mkF m 4 #[.val (.int p1), .val (.int p2), .unset, .unset, .unset] [(.int (p1 &&& (2147483647 : Int32)))])
  refine own_step (fun t k => XS.bipush X0.here hx rfl (hb hby at_4) k) ?_
  show own_Goes _ _ _ _ s₁ (mkF m 6 #[.val (.int p1), .val (.int p2), .unset, .unset, .unset] [(.int (6 : Int32)), (.int (p1 &&& (2147483647 : Int32)))])
  refine own_step (fun t k => XS.irem X0.here hx rfl (hb hby at_6) rfl (by decide) k) ?_
  show own_Goes _ _ _ _ s₁ (mkF m 7 #[.val (.int p1), .val (.int p2), .unset, .unset, .unset] [(.int ((p1 &&& (2147483647 : Int32)) - ((p1 &&& (2147483647 : Int32)) / (6 : Int32)) * (6 : Int32)))])
  rw [hi]
  show own_Goes _ _ _ _ s₁ (mkF m 7 #[.val (.int p1), .val (.int p2), .unset, .unset, .unset] [(.int (5 : Int32))])
  refine own_step (fun t k => XS.istoreN X0.here hx rfl (hb hby at_7) rfl (l' := #[.val (.int p1), .val (.int p2), .val (.int (5 : Int32)), .unset, .unset]) rfl k) ?_
  show own_Goes _ _ _ _ s₁ (mkF m 8 #[.val (.int p1), .val (.int p2), .val (.int (5 : Int32)), .unset, .unset] [])
  refine own_step (fun t k => XS.iloadN X0.here hx rfl (hb hby at_8) rfl k) ?_
  show own_Goes _ _ _ _ s₁ (mkF m 9 #[.val (.int p1), .val (.int p2), .val (.int (5 : Int32)), .unset, .unset] [(.int (5 : Int32))])
  refine own_step (fun t k => XS.ifYes X0.here hx rfl (pc0 := 9) (pc' := 30) rfl (hb hby at_9) rfl ((if0 _ _).trans (feq (show ¬ ((5 : Int32) = (0 : Int32)) from (by decide))).2) (by decide) (by decide) k) ?_
  show own_Goes _ _ _ _ s₁ (mkF m 30 #[.val (.int p1), .val (.int p2), .val (.int (5 : Int32)), .unset, .unset] [])
  refine own_step (fun t k => XS.iloadN X0.here hx rfl (hb hby at_30) rfl k) ?_
  show own_Goes _ _ _ _ s₁ (mkF m 31 #[.val (.int p1), .val (.int p2), .val (.int (5 : Int32)), .unset, .unset] [(.int (5 : Int32))])
  refine own_step (fun t k => XS.iconst X0.here hx rfl (hb hby at_31) k) ?_
  show own_Goes _ _ _ _ s₁ (mkF m 32 #[.val (.int p1), .val (.int p2), .val (.int (5 : Int32)), .unset, .unset] [(.int (1 : Int32)), (.int (5 : Int32))])
  refine own_step (fun t k => XS.icmpYes X0.here hx rfl (pc0 := 32) (pc' := 53) rfl (hb hby at_32) rfl (feq (show ¬ ((5 : Int32) = (1 : Int32)) from (by decide))).2 (by decide) (by decide) k) ?_
  show own_Goes _ _ _ _ s₁ (mkF m 53 #[.val (.int p1), .val (.int p2), .val (.int (5 : Int32)), .unset, .unset] [])
  refine own_step (fun t k => XS.iloadN X0.here hx rfl (hb hby at_53) rfl k) ?_
  show own_Goes _ _ _ _ s₁ (mkF m 54 #[.val (.int p1), .val (.int p2), .val (.int (5 : Int32)), .unset, .unset] [(.int (5 : Int32))])
  refine own_step (fun t k => XS.iconst X0.here hx rfl (hb hby at_54) k) ?_
  show own_Goes _ _ _ _ s₁ (mkF m 55 #[.val (.int p1), .val (.int p2), .val (.int (5 : Int32)), .unset, .unset] [(.int (2 : Int32)), (.int (5 : Int32))])
  refine own_step (fun t k => XS.icmpYes X0.here hx rfl (pc0 := 55) (pc' := 76) rfl (hb hby at_55) rfl (feq (show ¬ ((5 : Int32) = (2 : Int32)) from (by decide))).2 (by decide) (by decide) k) ?_
  show own_Goes _ _ _ _ s₁ (mkF m 76 #[.val (.int p1), .val (.int p2), .val (.int (5 : Int32)), .unset, .unset] [])
  refine own_step (fun t k => XS.iloadN X0.here hx rfl (hb hby at_76) rfl k) ?_
  show own_Goes _ _ _ _ s₁ (mkF m 77 #[.val (.int p1), .val (.int p2), .val (.int (5 : Int32)), .unset, .unset] [(.int (5 : Int32))])
  refine own_step (fun t k => XS.iconst X0.here hx rfl (hb hby at_77) k) ?_
  show own_Goes _ _ _ _ s₁ (mkF m 78 #[.val (.int p1), .val (.int p2), .val (.int (5 : Int32)), .unset, .unset] [(.int (3 : Int32)), (.int (5 : Int32))])
  refine own_step (fun t k => XS.icmpYes X0.here hx rfl (pc0 := 78) (pc' := 99) rfl (hb hby at_78) rfl (feq (show ¬ ((5 : Int32) = (3 : Int32)) from (by decide))).2 (by decide) (by decide) k) ?_
  show own_Goes _ _ _ _ s₁ (mkF m 99 #[.val (.int p1), .val (.int p2), .val (.int (5 : Int32)), .unset, .unset] [])
  refine own_step (fun t k => XS.iloadN X0.here hx rfl (hb hby at_99) rfl k) ?_
  show own_Goes _ _ _ _ s₁ (mkF m 100 #[.val (.int p1), .val (.int p2), .val (.int (5 : Int32)), .unset, .unset] [(.int (5 : Int32))])
  refine own_step (fun t k => XS.iconst X0.here hx rfl (hb hby at_100) k) ?_
  show own_Goes _ _ _ _ s₁ (mkF m 101 #[.val (.int p1), .val (.int p2), .val (.int (5 : Int32)), .unset, .unset] [(.int (4 : Int32)), (.int (5 : Int32))])
  refine own_step (fun t k => XS.icmpYes X0.here hx rfl (pc0 := 101) (pc' := 122) rfl (hb hby at_101) rfl (feq (show ¬ ((5 : Int32) = (4 : Int32)) from (by decide))).2 (by decide) (by decide) k) ?_
  show own_Goes _ _ _ _ s₁ (mkF m 122 #[.val (.int p1), .val (.int p2), .val (.int (5 : Int32)), .unset, .unset] [])
  obtain ⟨T1, X1, e1, st1⟩ := getS2 X0 hx hZ hown (host := "") (Or.inl (hw _ (List.mem_of_getElem? (i := 19) rfl))) Via.refl e0 S_GREATER_OR_EQUAL (g := (mkF m 122 #[.val (.int p1), .val (.int p2), .val (.int (5 : Int32)), .unset, .unset] [])) rfl (hb hby at_122)
  refine own_step st1 ?_
  show own_Goes _ _ _ _ T1 (mkF m 125 #[.val (.int p1), .val (.int p2), .val (.int (5 : Int32)), .unset, .unset] [(.ref w_GREATER_OR_EQUAL)])
  refine own_step (fun t k => XS.astoreN X1.here hx rfl (hb hby at_125) rfl rfl (l' := #[.val (.int p1), .val (.int p2), .val (.int (5 : Int32)), .val (.ref w_GREATER_OR_EQUAL), .unset]) rfl k) ?_
  show own_Goes _ _ _ _ T1 (mkF m 126 #[.val (.int p1), .val (.int p2), .val (.int (5 : Int32)), .val (.ref w_GREATER_OR_EQUAL), .unset] [])
  refine own_step (fun t k => XS.iloadN X1.here hx rfl (hb hby at_126) rfl k) ?_
  show own_Goes _ _ _ _ T1 (mkF m 127 #[.val (.int p1), .val (.int p2), .val (.int (5 : Int32)), .val (.ref w_GREATER_OR_EQUAL), .unset] [(.int p2)])
  refine own_step (fun t k => XS.ifNo X1.here hx rfl (hb hby at_127) rfl ((if0 _ _).trans (flt (show ¬ (p2 < (0 : Int32)) from q1)).1) k) ?_
  show own_Goes _ _ _ _ T1 (mkF m 130 #[.val (.int p1), .val (.int p2), .val (.int (5 : Int32)), .val (.ref w_GREATER_OR_EQUAL), .unset] [])
  refine own_step (fun t k => XS.iconst X1.here hx rfl (hb hby at_130) k) ?_
  show own_Goes _ _ _ _ T1 (mkF m 131 #[.val (.int p1), .val (.int p2), .val (.int (5 : Int32)), .val (.ref w_GREATER_OR_EQUAL), .unset] [(.int (1 : Int32))])
  refine own_step (fun t k => XS.goto X1.here hx rfl (pc0 := 131) (pc' := 135) rfl (hb hby at_131) (by decide) (by decide) k) ?_
  show own_Goes _ _ _ _ T1 (mkF m 135 #[.val (.int p1), .val (.int p2), .val (.int (5 : Int32)), .val (.ref w_GREATER_OR_EQUAL), .unset] [(.int (1 : Int32))])
  refine own_step (fun t k => XS.istore X1.here hx rfl (hb hby at_135) rfl (l' := #[.val (.int p1), .val (.int p2), .val (.int (5 : Int32)), .val (.ref w_GREATER_OR_EQUAL), .val (.int (1 : Int32))]) rfl k) ?_
  show own_Goes _ _ _ _ T1 (mkF m 137 #[.val (.int p1), .val (.int p2), .val (.int (5 : Int32)), .val (.ref w_GREATER_OR_EQUAL), .val (.int (1 : Int32))] [])
  refine own_step (fun t k => XS.aloadN X1.here hx rfl (hb hby at_137) rfl rfl k) ?_
  show own_Goes _ _ _ _ T1 (mkF m 138 #[.val (.int p1), .val (.int p2), .val (.int (5 : Int32)), .val (.ref w_GREATER_OR_EQUAL), .val (.int (1 : Int32))] [(.ref w_GREATER_OR_EQUAL)])
  refine own_step (fun t k => XS.iloadN X1.here hx rfl (hb hby at_138) rfl k) ?_
  show own_Goes _ _ _ _ T1 (mkF m 139 #[.val (.int p1), .val (.int p2), .val (.int (5 : Int32)), .val (.ref w_GREATER_OR_EQUAL), .val (.int (1 : Int32))] [(.int p2), (.ref w_GREATER_OR_EQUAL)])
  refine own_callV X1 hx hZ (y := (⟨"com/example/polyphony/polyphony/policy/Operator", "holds", "(I)Z"⟩ : MethodName)) (z := (⟨"com/example/polyphony/polyphony/policy/Operator", "holds", "(I)Z"⟩ : MethodName)) hown (hw _ (List.mem_of_getElem? (i := 4) rfl)) (hw _ (List.mem_of_getElem? (i := 5) rfl)) (notFace_of_selects (args := #[]) (mvT hZ (hw _ (List.mem_of_getElem? (i := 7) rfl)))) (hw _ (List.mem_of_getElem? (i := 7) rfl)) (hw _ (List.mem_of_getElem? (i := 6) rfl)) (hw _ (List.mem_of_getElem? (i := 8) rfl)) (hw _ (List.mem_of_getElem? (i := 2) rfl)) (by decide) 0 E_w_GREATER_OR_EQUAL [(.int p2)] [] (own_holds_p1 l Z a0 hw [] w_GREATER_OR_EQUAL p2 h0 n0 Z0 F_w_GREATER_OR_EQUAL_whenAfter q1 q2) e1 (by decide) (by decide) (by decide) (by decide) (g := (mkF m 139 #[.val (.int p1), .val (.int p2), .val (.int (5 : Int32)), .val (.ref w_GREATER_OR_EQUAL), .val (.int (1 : Int32))] [(.int p2), (.ref w_GREATER_OR_EQUAL)])) rfl (by rw [hml]; rfl) own_pd0 rfl rfl (by show 2 * 0 + _ ≤ _; exact Nat.le_of_eq rfl) (hb hby at_139) ?_
  intro T2 v2 L2 X2 hQ2
  obtain ⟨rfl, N2q, e2⟩ := hQ2
  have N2 := Fr.app N0 N2q
  show own_Goes _ _ _ _ T2 (mkF m 142 #[.val (.int p1), .val (.int p2), .val (.int (5 : Int32)), .val (.ref w_GREATER_OR_EQUAL), .val (.int (1 : Int32))] [(.int (1 : Int32))])
  refine own_step (fun t k => XS.iload X2.here hx rfl (hb hby at_142) rfl k) ?_
  show own_Goes _ _ _ _ T2 (mkF m 144 #[.val (.int p1), .val (.int p2), .val (.int (5 : Int32)), .val (.ref w_GREATER_OR_EQUAL), .val (.int (1 : Int32))] [(.int (1 : Int32)), (.int (1 : Int32))])
  refine own_step (fun t k => XS.icmpNo X2.here hx rfl (hb hby at_144) rfl (teq (show (1 : Int32) = (1 : Int32) from (by decide))).2 k) ?_
  show own_Goes _ _ _ _ T2 (mkF m 147 #[.val (.int p1), .val (.int p2), .val (.int (5 : Int32)), .val (.ref w_GREATER_OR_EQUAL), .val (.int (1 : Int32))] [])
  refine own_step (fun t k => XS.iconst X2.here hx rfl (hb hby at_147) k) ?_
  show own_Goes _ _ _ _ T2 (mkF m 148 #[.val (.int p1), .val (.int p2), .val (.int (5 : Int32)), .val (.ref w_GREATER_OR_EQUAL), .val (.int (1 : Int32))] [(.int (1 : Int32))])
  refine own_step (fun t k => XS.goto X2.here hx rfl (pc0 := 148) (pc' := 152) rfl (hb hby at_148) (by decide) (by decide) k) ?_
  show own_Goes _ _ _ _ T2 (mkF m 152 #[.val (.int p1), .val (.int p2), .val (.int (5 : Int32)), .val (.ref w_GREATER_OR_EQUAL), .val (.int (1 : Int32))] [(.int (1 : Int32))])
  exact own_retN X2 hx hlk (t := .boolean) hrt (by simp) (hb hby at_152) ⟨rfl, N2⟩ (by decide) (by decide)
theorem own_tri (x : Int32) : (x < (0 : Int32) ∧ ¬ (x = (0 : Int32)) ∧ ¬ ((0 : Int32) < x)) ∨ (¬ (x < (0 : Int32)) ∧ x = (0 : Int32) ∧ ¬ ((0 : Int32) < x)) ∨ (¬ (x < (0 : Int32)) ∧ ¬ (x = (0 : Int32)) ∧ (0 : Int32) < x) := by
  simp only [Int32.lt_iff_toInt_lt, ← Int32.toInt_inj]
  have e0 : (0 : Int32).toInt = 0 := by decide
  omega
theorem own_law (l : Launch) (Z : State) (a0 : Array Value) (hw : ∀ d ∈ tables_1, d.before a0 Z = true) (ws : List Jvm.Cond) (p1 : Int32) (p2 : Int32) (w_EQUAL : Addr) (w_NOT_EQUAL : Addr) (w_LESS : Addr) (w_LESS_OR_EQUAL : Addr) (w_GREATER : Addr) (w_GREATER_OR_EQUAL : Addr) (h0 : Heap) (n0 : Nat) (Z0 : n0 ≤ h0.size) (S_EQUAL : Sta Z h0 "com/example/polyphony/polyphony/policy/Operator" "EQUAL" "Lcom/example/polyphony/polyphony/policy/Operator;" (.ref w_EQUAL)) (E_w_EQUAL : Exa Z h0 w_EQUAL "com/example/polyphony/polyphony/policy/Operator") (F_w_EQUAL_whenBefore : Fld Z h0 w_EQUAL "com/example/polyphony/polyphony/policy/Operator" "whenBefore" "Z" (.int (0 : Int32))) (F_w_EQUAL_whenEqual : Fld Z h0 w_EQUAL "com/example/polyphony/polyphony/policy/Operator" "whenEqual" "Z" (.int (1 : Int32))) (F_w_EQUAL_whenAfter : Fld Z h0 w_EQUAL "com/example/polyphony/polyphony/policy/Operator" "whenAfter" "Z" (.int (0 : Int32))) (S_NOT_EQUAL : Sta Z h0 "com/example/polyphony/polyphony/policy/Operator" "NOT_EQUAL" "Lcom/example/polyphony/polyphony/policy/Operator;" (.ref w_NOT_EQUAL)) (E_w_NOT_EQUAL : Exa Z h0 w_NOT_EQUAL "com/example/polyphony/polyphony/policy/Operator") (F_w_NOT_EQUAL_whenBefore : Fld Z h0 w_NOT_EQUAL "com/example/polyphony/polyphony/policy/Operator" "whenBefore" "Z" (.int (1 : Int32))) (F_w_NOT_EQUAL_whenEqual : Fld Z h0 w_NOT_EQUAL "com/example/polyphony/polyphony/policy/Operator" "whenEqual" "Z" (.int (0 : Int32))) (F_w_NOT_EQUAL_whenAfter : Fld Z h0 w_NOT_EQUAL "com/example/polyphony/polyphony/policy/Operator" "whenAfter" "Z" (.int (1 : Int32))) (S_LESS : Sta Z h0 "com/example/polyphony/polyphony/policy/Operator" "LESS" "Lcom/example/polyphony/polyphony/policy/Operator;" (.ref w_LESS)) (E_w_LESS : Exa Z h0 w_LESS "com/example/polyphony/polyphony/policy/Operator") (F_w_LESS_whenBefore : Fld Z h0 w_LESS "com/example/polyphony/polyphony/policy/Operator" "whenBefore" "Z" (.int (1 : Int32))) (F_w_LESS_whenEqual : Fld Z h0 w_LESS "com/example/polyphony/polyphony/policy/Operator" "whenEqual" "Z" (.int (0 : Int32))) (F_w_LESS_whenAfter : Fld Z h0 w_LESS "com/example/polyphony/polyphony/policy/Operator" "whenAfter" "Z" (.int (0 : Int32))) (S_LESS_OR_EQUAL : Sta Z h0 "com/example/polyphony/polyphony/policy/Operator" "LESS_OR_EQUAL" "Lcom/example/polyphony/polyphony/policy/Operator;" (.ref w_LESS_OR_EQUAL)) (E_w_LESS_OR_EQUAL : Exa Z h0 w_LESS_OR_EQUAL "com/example/polyphony/polyphony/policy/Operator") (F_w_LESS_OR_EQUAL_whenBefore : Fld Z h0 w_LESS_OR_EQUAL "com/example/polyphony/polyphony/policy/Operator" "whenBefore" "Z" (.int (1 : Int32))) (F_w_LESS_OR_EQUAL_whenEqual : Fld Z h0 w_LESS_OR_EQUAL "com/example/polyphony/polyphony/policy/Operator" "whenEqual" "Z" (.int (1 : Int32))) (F_w_LESS_OR_EQUAL_whenAfter : Fld Z h0 w_LESS_OR_EQUAL "com/example/polyphony/polyphony/policy/Operator" "whenAfter" "Z" (.int (0 : Int32))) (S_GREATER : Sta Z h0 "com/example/polyphony/polyphony/policy/Operator" "GREATER" "Lcom/example/polyphony/polyphony/policy/Operator;" (.ref w_GREATER)) (E_w_GREATER : Exa Z h0 w_GREATER "com/example/polyphony/polyphony/policy/Operator") (F_w_GREATER_whenBefore : Fld Z h0 w_GREATER "com/example/polyphony/polyphony/policy/Operator" "whenBefore" "Z" (.int (0 : Int32))) (F_w_GREATER_whenEqual : Fld Z h0 w_GREATER "com/example/polyphony/polyphony/policy/Operator" "whenEqual" "Z" (.int (0 : Int32))) (F_w_GREATER_whenAfter : Fld Z h0 w_GREATER "com/example/polyphony/polyphony/policy/Operator" "whenAfter" "Z" (.int (1 : Int32))) (S_GREATER_OR_EQUAL : Sta Z h0 "com/example/polyphony/polyphony/policy/Operator" "GREATER_OR_EQUAL" "Lcom/example/polyphony/polyphony/policy/Operator;" (.ref w_GREATER_OR_EQUAL)) (E_w_GREATER_OR_EQUAL : Exa Z h0 w_GREATER_OR_EQUAL "com/example/polyphony/polyphony/policy/Operator") (F_w_GREATER_OR_EQUAL_whenBefore : Fld Z h0 w_GREATER_OR_EQUAL "com/example/polyphony/polyphony/policy/Operator" "whenBefore" "Z" (.int (0 : Int32))) (F_w_GREATER_OR_EQUAL_whenEqual : Fld Z h0 w_GREATER_OR_EQUAL "com/example/polyphony/polyphony/policy/Operator" "whenEqual" "Z" (.int (1 : Int32))) (F_w_GREATER_OR_EQUAL_whenAfter : Fld Z h0 w_GREATER_OR_EQUAL "com/example/polyphony/polyphony/policy/Operator" "whenAfter" "Z" (.int (1 : Int32))) : own_Met l Z x code maxLocals ret ws room_1 #[(.int p1), (.int p2)] h0 (fun v h L => v = some (.int 1) ∧ Fr n0 L) := by
  rcases own_tri p2 with ⟨q1, q2, q3⟩ | ⟨q1, q2, q3⟩ | ⟨q1, q2, q3⟩
  · rcases own_mod p1 with hi | hi | hi | hi | hi | hi
    · exact own_law0n l Z a0 hw ws p1 p2 w_EQUAL h0 n0 Z0 S_EQUAL E_w_EQUAL F_w_EQUAL_whenBefore F_w_EQUAL_whenEqual F_w_EQUAL_whenAfter hi q1 q2 q3
    · exact own_law1n l Z a0 hw ws p1 p2 w_NOT_EQUAL h0 n0 Z0 S_NOT_EQUAL E_w_NOT_EQUAL F_w_NOT_EQUAL_whenBefore F_w_NOT_EQUAL_whenEqual F_w_NOT_EQUAL_whenAfter hi q1 q2 q3
    · exact own_law2n l Z a0 hw ws p1 p2 w_LESS h0 n0 Z0 S_LESS E_w_LESS F_w_LESS_whenBefore F_w_LESS_whenEqual F_w_LESS_whenAfter hi q1 q2 q3
    · exact own_law3n l Z a0 hw ws p1 p2 w_LESS_OR_EQUAL h0 n0 Z0 S_LESS_OR_EQUAL E_w_LESS_OR_EQUAL F_w_LESS_OR_EQUAL_whenBefore F_w_LESS_OR_EQUAL_whenEqual F_w_LESS_OR_EQUAL_whenAfter hi q1 q2 q3
    · exact own_law4n l Z a0 hw ws p1 p2 w_GREATER h0 n0 Z0 S_GREATER E_w_GREATER F_w_GREATER_whenBefore F_w_GREATER_whenEqual F_w_GREATER_whenAfter hi q1 q2 q3
    · exact own_law5n l Z a0 hw ws p1 p2 w_GREATER_OR_EQUAL h0 n0 Z0 S_GREATER_OR_EQUAL E_w_GREATER_OR_EQUAL F_w_GREATER_OR_EQUAL_whenBefore F_w_GREATER_OR_EQUAL_whenEqual F_w_GREATER_OR_EQUAL_whenAfter hi q1 q2 q3
  · rcases own_mod p1 with hi | hi | hi | hi | hi | hi
    · exact own_law0z l Z a0 hw ws p1 p2 w_EQUAL h0 n0 Z0 S_EQUAL E_w_EQUAL F_w_EQUAL_whenBefore F_w_EQUAL_whenEqual F_w_EQUAL_whenAfter hi q1 q2 q3
    · exact own_law1z l Z a0 hw ws p1 p2 w_NOT_EQUAL h0 n0 Z0 S_NOT_EQUAL E_w_NOT_EQUAL F_w_NOT_EQUAL_whenBefore F_w_NOT_EQUAL_whenEqual F_w_NOT_EQUAL_whenAfter hi q1 q2 q3
    · exact own_law2z l Z a0 hw ws p1 p2 w_LESS h0 n0 Z0 S_LESS E_w_LESS F_w_LESS_whenBefore F_w_LESS_whenEqual F_w_LESS_whenAfter hi q1 q2 q3
    · exact own_law3z l Z a0 hw ws p1 p2 w_LESS_OR_EQUAL h0 n0 Z0 S_LESS_OR_EQUAL E_w_LESS_OR_EQUAL F_w_LESS_OR_EQUAL_whenBefore F_w_LESS_OR_EQUAL_whenEqual F_w_LESS_OR_EQUAL_whenAfter hi q1 q2 q3
    · exact own_law4z l Z a0 hw ws p1 p2 w_GREATER h0 n0 Z0 S_GREATER E_w_GREATER F_w_GREATER_whenBefore F_w_GREATER_whenEqual F_w_GREATER_whenAfter hi q1 q2 q3
    · exact own_law5z l Z a0 hw ws p1 p2 w_GREATER_OR_EQUAL h0 n0 Z0 S_GREATER_OR_EQUAL E_w_GREATER_OR_EQUAL F_w_GREATER_OR_EQUAL_whenBefore F_w_GREATER_OR_EQUAL_whenEqual F_w_GREATER_OR_EQUAL_whenAfter hi q1 q2 q3
  · rcases own_mod p1 with hi | hi | hi | hi | hi | hi
    · exact own_law0p l Z a0 hw ws p1 p2 w_EQUAL h0 n0 Z0 S_EQUAL E_w_EQUAL F_w_EQUAL_whenBefore F_w_EQUAL_whenEqual F_w_EQUAL_whenAfter hi q1 q2 q3
    · exact own_law1p l Z a0 hw ws p1 p2 w_NOT_EQUAL h0 n0 Z0 S_NOT_EQUAL E_w_NOT_EQUAL F_w_NOT_EQUAL_whenBefore F_w_NOT_EQUAL_whenEqual F_w_NOT_EQUAL_whenAfter hi q1 q2 q3
    · exact own_law2p l Z a0 hw ws p1 p2 w_LESS h0 n0 Z0 S_LESS E_w_LESS F_w_LESS_whenBefore F_w_LESS_whenEqual F_w_LESS_whenAfter hi q1 q2 q3
    · exact own_law3p l Z a0 hw ws p1 p2 w_LESS_OR_EQUAL h0 n0 Z0 S_LESS_OR_EQUAL E_w_LESS_OR_EQUAL F_w_LESS_OR_EQUAL_whenBefore F_w_LESS_OR_EQUAL_whenEqual F_w_LESS_OR_EQUAL_whenAfter hi q1 q2 q3
    · exact own_law4p l Z a0 hw ws p1 p2 w_GREATER h0 n0 Z0 S_GREATER E_w_GREATER F_w_GREATER_whenBefore F_w_GREATER_whenEqual F_w_GREATER_whenAfter hi q1 q2 q3
    · exact own_law5p l Z a0 hw ws p1 p2 w_GREATER_OR_EQUAL h0 n0 Z0 S_GREATER_OR_EQUAL E_w_GREATER_OR_EQUAL F_w_GREATER_OR_EQUAL_whenBefore F_w_GREATER_OR_EQUAL_whenEqual F_w_GREATER_OR_EQUAL_whenAfter hi q1 q2 q3
set_option maxRecDepth 65536 in
set_option maxHeartbeats 40000000 in
theorem comes_1 {Post : Tables → Env → Array Value → State → Outcome → State → Prop} (hpost : ∀ tb e args s v u, (limb_1_1.after args s (.returned v) u = true ∧ limb_1_2.after args s (.returned v) u = true ∧ True) → FrameEnd s (.returned v) u (Jvm.fieldLocs frame_1_writes args s ++ Jvm.arrayLocs frame_1_arrays args s ++ Jvm.staticLocs frame_1_statics s) 0 0 → Post tb e args s (.returned v) u) :
    ArmFor flags0 classFile x code maxLocals ret World_1 tables_1 room_1 Calls_1 rest_1 Pre_1 Post := by
  intro l hfl _ _ p e ha hc hk s m args below hf hA hF happ hP
  obtain ⟨hcalls, hrest, hpre⟩ := hP
  obtain ⟨-, -, -, hnamed, -, -, -, hat⟩ := (Spec.applies_iff hf).mp happ
  obtain ⟨hg, hn⟩ := and_e (Cond.before_iff.mp (show (Jvm.Cond.and given_1 narrow_1).before args s = true from hpre))
  obtain ⟨q1, q2⟩ := and_e hg
  obtain ⟨q3, q4⟩ := and_e q2
  obtain ⟨q5, q6⟩ := and_e hn
  obtain ⟨q7, q8⟩ := and_e q6
  obtain ⟨q9, q10⟩ := and_e q8
  obtain ⟨q11, q12⟩ := and_e q10
  obtain ⟨q13, q14⟩ := and_e q12
  obtain ⟨q15, q16⟩ := and_e q14
  obtain ⟨q17, q18⟩ := and_e q16
  obtain ⟨q19, q20⟩ := and_e q18
  obtain ⟨q21, q22⟩ := and_e q20
  obtain ⟨q23, q24⟩ := and_e q22
  obtain ⟨q25, q26⟩ := and_e q24
  obtain ⟨q27, q28⟩ := and_e q26
  obtain ⟨q29, q30⟩ := and_e q28
  obtain ⟨q31, q32⟩ := and_e q30
  obtain ⟨q33, q34⟩ := and_e q32
  obtain ⟨q35, q36⟩ := and_e q34
  obtain ⟨q37, q38⟩ := and_e q36
  obtain ⟨q39, q40⟩ := and_e q38
  obtain ⟨q41, q42⟩ := and_e q40
  obtain ⟨q43, q44⟩ := and_e q42
  obtain ⟨q45, q46⟩ := and_e q44
  obtain ⟨q47, q48⟩ := and_e q46
  obtain ⟨q49, q50⟩ := and_e q48
  obtain ⟨w0, w1, rfl⟩ : ∃ w0 w1 : Value, args = #[w0, w1] := by
    have hs : args.size = 2 := by simpa [Cond.value, given_1] using q1
    obtain ⟨L⟩ := args
    match L, hs with
    | [w0, w1], _ => exact ⟨w0, w1, rfl⟩
  have hw := fun d (hd : d ∈ tables_1) => atoms_spec (ws := Jvm.Cond.code x code maxLocals ret :: tables_1) hat d (List.mem_cons_of_mem _ hd)
  have hfit : Fit s := fun {y c} hc i hi => by
    obtain ⟨ha, rfl⟩ := Array.getElem?_eq_some_iff.mp hc
    have q := List.all_eq_true.mp ((Array.all_eq_true_iff_forall_mem.mp hF) _ (Array.getElem_mem ha)) i (List.mem_range.mpr hi)
    simpa [Array.getElem?_eq_getElem hi] using q
  obtain ⟨i0, ei0⟩ := is_v q3
  obtain rfl : w0 = (.int i0) := Option.some.inj ei0
  obtain ⟨i1, ei1⟩ := is_v q4
  obtain rfl : w1 = (.int i1) := Option.some.inj ei1
  obtain ⟨w_EQUAL, ev_EQUAL⟩ := exa_v q5
  have S_EQUAL : Sta s s.heap "com/example/polyphony/polyphony/policy/Operator" "EQUAL" "Lcom/example/polyphony/polyphony/policy/Operator;" (.ref w_EQUAL) := Sta.start ev_EQUAL (Or.inr ⟨(hw _ (List.mem_of_getElem? (i := 2) rfl)), (hw _ (List.mem_of_getElem? (i := 3) rfl))⟩)
  have E_w_EQUAL : Exa s s.heap w_EQUAL "com/example/polyphony/polyphony/policy/Operator" := Exa.start ev_EQUAL q5
  obtain ⟨w_LESS, ev_LESS⟩ := exa_v q9
  have S_LESS : Sta s s.heap "com/example/polyphony/polyphony/policy/Operator" "LESS" "Lcom/example/polyphony/polyphony/policy/Operator;" (.ref w_LESS) := Sta.start ev_LESS (Or.inr ⟨(hw _ (List.mem_of_getElem? (i := 2) rfl)), (hw _ (List.mem_of_getElem? (i := 12) rfl))⟩)
  have E_w_LESS : Exa s s.heap w_LESS "com/example/polyphony/polyphony/policy/Operator" := Exa.start ev_LESS q9
  obtain ⟨w_GREATER, ev_GREATER⟩ := exa_v q15
  have S_GREATER : Sta s s.heap "com/example/polyphony/polyphony/policy/Operator" "GREATER" "Lcom/example/polyphony/polyphony/policy/Operator;" (.ref w_GREATER) := Sta.start ev_GREATER (Or.inr ⟨(hw _ (List.mem_of_getElem? (i := 2) rfl)), (hw _ (List.mem_of_getElem? (i := 16) rfl))⟩)
  have E_w_GREATER : Exa s s.heap w_GREATER "com/example/polyphony/polyphony/policy/Operator" := Exa.start ev_GREATER q15
  obtain ⟨w_NOT_EQUAL, ev_NOT_EQUAL⟩ := exa_v q19
  have S_NOT_EQUAL : Sta s s.heap "com/example/polyphony/polyphony/policy/Operator" "NOT_EQUAL" "Lcom/example/polyphony/polyphony/policy/Operator;" (.ref w_NOT_EQUAL) := Sta.start ev_NOT_EQUAL (Or.inr ⟨(hw _ (List.mem_of_getElem? (i := 2) rfl)), (hw _ (List.mem_of_getElem? (i := 18) rfl))⟩)
  have E_w_NOT_EQUAL : Exa s s.heap w_NOT_EQUAL "com/example/polyphony/polyphony/policy/Operator" := Exa.start ev_NOT_EQUAL q19
  obtain ⟨w_GREATER_OR_EQUAL, ev_GREATER_OR_EQUAL⟩ := exa_v q25
  have S_GREATER_OR_EQUAL : Sta s s.heap "com/example/polyphony/polyphony/policy/Operator" "GREATER_OR_EQUAL" "Lcom/example/polyphony/polyphony/policy/Operator;" (.ref w_GREATER_OR_EQUAL) := Sta.start ev_GREATER_OR_EQUAL (Or.inr ⟨(hw _ (List.mem_of_getElem? (i := 2) rfl)), (hw _ (List.mem_of_getElem? (i := 20) rfl))⟩)
  have E_w_GREATER_OR_EQUAL : Exa s s.heap w_GREATER_OR_EQUAL "com/example/polyphony/polyphony/policy/Operator" := Exa.start ev_GREATER_OR_EQUAL q25
  obtain ⟨w_LESS_OR_EQUAL, ev_LESS_OR_EQUAL⟩ := exa_v q29
  have S_LESS_OR_EQUAL : Sta s s.heap "com/example/polyphony/polyphony/policy/Operator" "LESS_OR_EQUAL" "Lcom/example/polyphony/polyphony/policy/Operator;" (.ref w_LESS_OR_EQUAL) := Sta.start ev_LESS_OR_EQUAL (Or.inr ⟨(hw _ (List.mem_of_getElem? (i := 2) rfl)), (hw _ (List.mem_of_getElem? (i := 22) rfl))⟩)
  have E_w_LESS_OR_EQUAL : Exa s s.heap w_LESS_OR_EQUAL "com/example/polyphony/polyphony/policy/Operator" := Exa.start ev_LESS_OR_EQUAL q29
  have F_w_EQUAL_whenAfter : Fld s s.heap w_EQUAL "com/example/polyphony/polyphony/policy/Operator" "whenAfter" "Z" (.int (0 : Int32)) := own_fldI ev_EQUAL q7
  have F_w_LESS_whenAfter : Fld s s.heap w_LESS "com/example/polyphony/polyphony/policy/Operator" "whenAfter" "Z" (.int (0 : Int32)) := own_fldI ev_LESS q11
  have F_w_LESS_whenBefore : Fld s s.heap w_LESS "com/example/polyphony/polyphony/policy/Operator" "whenBefore" "Z" (.int (1 : Int32)) := own_fldI ev_LESS q13
  have F_w_GREATER_whenBefore : Fld s s.heap w_GREATER "com/example/polyphony/polyphony/policy/Operator" "whenBefore" "Z" (.int (0 : Int32)) := own_fldI ev_GREATER q17
  have F_w_NOT_EQUAL_whenAfter : Fld s s.heap w_NOT_EQUAL "com/example/polyphony/polyphony/policy/Operator" "whenAfter" "Z" (.int (1 : Int32)) := own_fldI ev_NOT_EQUAL q21
  have F_w_EQUAL_whenBefore : Fld s s.heap w_EQUAL "com/example/polyphony/polyphony/policy/Operator" "whenBefore" "Z" (.int (0 : Int32)) := own_fldI ev_EQUAL q23
  have F_w_GREATER_OR_EQUAL_whenAfter : Fld s s.heap w_GREATER_OR_EQUAL "com/example/polyphony/polyphony/policy/Operator" "whenAfter" "Z" (.int (1 : Int32)) := own_fldI ev_GREATER_OR_EQUAL q27
  have F_w_LESS_OR_EQUAL_whenAfter : Fld s s.heap w_LESS_OR_EQUAL "com/example/polyphony/polyphony/policy/Operator" "whenAfter" "Z" (.int (0 : Int32)) := own_fldI ev_LESS_OR_EQUAL q31
  have F_w_LESS_OR_EQUAL_whenBefore : Fld s s.heap w_LESS_OR_EQUAL "com/example/polyphony/polyphony/policy/Operator" "whenBefore" "Z" (.int (1 : Int32)) := own_fldI ev_LESS_OR_EQUAL q33
  have F_w_GREATER_whenAfter : Fld s s.heap w_GREATER "com/example/polyphony/polyphony/policy/Operator" "whenAfter" "Z" (.int (1 : Int32)) := own_fldI ev_GREATER q35
  have F_w_NOT_EQUAL_whenBefore : Fld s s.heap w_NOT_EQUAL "com/example/polyphony/polyphony/policy/Operator" "whenBefore" "Z" (.int (1 : Int32)) := own_fldI ev_NOT_EQUAL q37
  have F_w_GREATER_OR_EQUAL_whenBefore : Fld s s.heap w_GREATER_OR_EQUAL "com/example/polyphony/polyphony/policy/Operator" "whenBefore" "Z" (.int (0 : Int32)) := own_fldI ev_GREATER_OR_EQUAL q39
  have F_w_LESS_OR_EQUAL_whenEqual : Fld s s.heap w_LESS_OR_EQUAL "com/example/polyphony/polyphony/policy/Operator" "whenEqual" "Z" (.int (1 : Int32)) := own_fldI ev_LESS_OR_EQUAL q41
  have F_w_EQUAL_whenEqual : Fld s s.heap w_EQUAL "com/example/polyphony/polyphony/policy/Operator" "whenEqual" "Z" (.int (1 : Int32)) := own_fldI ev_EQUAL q43
  have F_w_LESS_whenEqual : Fld s s.heap w_LESS "com/example/polyphony/polyphony/policy/Operator" "whenEqual" "Z" (.int (0 : Int32)) := own_fldI ev_LESS q45
  have F_w_NOT_EQUAL_whenEqual : Fld s s.heap w_NOT_EQUAL "com/example/polyphony/polyphony/policy/Operator" "whenEqual" "Z" (.int (0 : Int32)) := own_fldI ev_NOT_EQUAL q47
  have F_w_GREATER_whenEqual : Fld s s.heap w_GREATER "com/example/polyphony/polyphony/policy/Operator" "whenEqual" "Z" (.int (0 : Int32)) := own_fldI ev_GREATER q49
  have F_w_GREATER_OR_EQUAL_whenEqual : Fld s s.heap w_GREATER_OR_EQUAL "com/example/polyphony/polyphony/policy/Operator" "whenEqual" "Z" (.int (1 : Int32)) := own_fldI ev_GREATER_OR_EQUAL q50
  obtain ⟨n, o, h1, h2, h3, _, L, rfl, ⟨rfl, N⟩, hq⟩ := own_law l s _ hw tables_1 i0 i1 w_EQUAL w_NOT_EQUAL w_LESS w_LESS_OR_EQUAL w_GREATER w_GREATER_OR_EQUAL s.heap s.heap.size (Nat.le_refl _) S_EQUAL E_w_EQUAL F_w_EQUAL_whenBefore F_w_EQUAL_whenEqual F_w_EQUAL_whenAfter S_NOT_EQUAL E_w_NOT_EQUAL F_w_NOT_EQUAL_whenBefore F_w_NOT_EQUAL_whenEqual F_w_NOT_EQUAL_whenAfter S_LESS E_w_LESS F_w_LESS_whenBefore F_w_LESS_whenEqual F_w_LESS_whenAfter S_LESS_OR_EQUAL E_w_LESS_OR_EQUAL F_w_LESS_OR_EQUAL_whenBefore F_w_LESS_OR_EQUAL_whenEqual F_w_LESS_OR_EQUAL_whenAfter S_GREATER E_w_GREATER F_w_GREATER_whenBefore F_w_GREATER_whenEqual F_w_GREATER_whenAfter S_GREATER_OR_EQUAL E_w_GREATER_OR_EQUAL F_w_GREATER_OR_EQUAL_whenBefore F_w_GREATER_OR_EQUAL_whenEqual F_w_GREATER_OR_EQUAL_whenAfter p e ha hc hk s m _ below hf ((Spec.applies_iff_loose hf).mp happ).1 ⟨rfl, State.Warmed39.refl s, rfl⟩ trivial
  refine ⟨n, _, h1, h2, h3, hpost _ _ _ _ _ _ ⟨Cond.after_iff.mpr rfl, Cond.after_iff.mpr (eq_i res_at (Term.int_eval (1)) rfl), trivial⟩ ⟨hq.1, hq.2.1, (hq.2.2.sift fun y hy => Or.inr (N y hy)).mono (by decide) (by decide)⟩⟩
theorem main_1_1 : Claimed_1_1 := comes_1 fun _ _ _ _ _ _ h hF => ⟨h.1, hF⟩
theorem main_1_2 : Claimed_1_2 := comes_1 fun _ _ _ _ _ _ h hF => ⟨h.2.1, hF⟩
end Jvm.Pilot.@@N@@
namespace Jvm.Pilot.@@N@@
open Jvm Jvm.ClassFile Sem Op Lib Jvm.Free Jvm.Stand Jvm.Pilot.@@N@@.Jvm.D
/-! MADE BY PROGRAM (witnessworld.py) out of the Statement's table words and the real class files: 12 classes; the members and pool entries that the words name. The judged class is class 1, her method 1. -/
namespace start1
open Jvm.ClassFile
def u (s : String) : CpInfo := .utf8 (stringToUtf16 s)
/-- a pool by its gaps: so many unusable entries, then the entry; so many at the end -/
def gap : Nat → List CpInfo → List CpInfo
  | 0, r => r
  | n + 1, r => .unusable :: gap n r
def poolList (es : List (Nat × CpInfo)) (last : Nat) : List CpInfo := es.foldr (fun e r => gap e.1 (e.2 :: r)) (gap last [])
def pool (es : List (Nat × CpInfo)) (last : Nat) : Array CpInfo := ⟨poolList es last⟩
def fileOf (pool : Array CpInfo) (this : Nat) (attrs : Array Attribute := #[]) (ms : Array MethodInfo := #[]) (fl : Nat := 33) (sup : Nat := 0) (ifs : Array Nat := #[]) (fds : Array FieldInfo := #[]) : ClassFile where
  minorVersion := 0
  majorVersion := 65
  constantPool := pool
  accessFlags := fl
  thisClass := this
  superClass := sup
  interfaces := ifs
  fields := fds
  methods := ms
  attributes := attrs
def plain (name : String) (sup : Option ClassId) : Class where
  name := name
  kind := .ordinary
  loader := none
  accessFlags := 33
  super := sup
  interfaces := #[]
  cf := none
  fields := #[]
  methods := #[]
  instanceTypes := #[]
  staticTypes := #[]
  resolved := #[]
  callSites := []
  init := .initialized
  statics := none
  mirror := none

def pool0 : Array CpInfo := pool [(5, u "<init>"), (0, u "()V"), (1, .class_ 10), (1, u "java/lang/Object")] 113

def k0m0 : Method := { name := "<init>", desc := "()V", sig := { parameters := [], returnType := none }, accessFlags := 1, code := none }
/-- java/lang/Object -/
def k0 : Class := { plain "java/lang/Object" none with
  accessFlags := 33
  interfaces := #[]
  cf := some (fileOf pool0 8 #[] #[{ accessFlags := 1, nameIndex := 5, descriptorIndex := 6, attributes := #[] }] 33 0 #[] #[])
  fields := #[]
  methods := #[k0m0]
  instanceTypes := #[]
  staticTypes := #[]
  resolved := Array.replicate 124 none
  statics := none }

def pool1 : Array CpInfo := pool [(2, .class_ 4), (1, u "java/lang/Object"), (0, u "<init>"), (0, u "()V"), (0, .integer 2147483647), (0, .fieldref 9 10), (0, .class_ 11), (0, .nameAndType 12 13), (0, u "com/example/polyphony/polyphony/policy/Operator"), (0, u "EQUAL"), (0, u "Lcom/example/polyphony/polyphony/policy/Operator;"), (0, .fieldref 9 15), (0, .nameAndType 16 13), (0, u "NOT_EQUAL"), (0, .fieldref 9 18), (0, .nameAndType 19 13), (0, u "LESS"), (0, .fieldref 9 21), (0, .nameAndType 22 13), (0, u "LESS_OR_EQUAL"), (0, .fieldref 9 24), (0, .nameAndType 25 13), (0, u "GREATER"), (0, .fieldref 9 27), (0, .nameAndType 28 13), (0, u "GREATER_OR_EQUAL"), (0, .methodref 9 30), (0, .nameAndType 31 32), (0, u "holds"), (0, u "(I)Z"), (0, .class_ 34), (0, u "com/example/polyphony/polyphony/policy/OperatorHoldsPinLaw"), (2, u "law"), (0, u "(II)Z")] 3

def k1m0 : Method := { name := "<init>", desc := "()V", sig := { parameters := [], returnType := none }, accessFlags := 1, code := none }
def k1c1 : Code := { maxStack := 2, maxLocals := 5, code := code, exceptionTable := #[], attributes := #[] }
def k1m1 : Method := { name := "law", desc := "(II)Z", sig := { parameters := [.int, .int], returnType := some .boolean }, accessFlags := 9, code := some k1c1 }
/-- com/example/polyphony/polyphony/policy/OperatorHoldsPinLaw -/
def k1 : Class := { plain "com/example/polyphony/polyphony/policy/OperatorHoldsPinLaw" (some 0) with
  accessFlags := 49
  interfaces := #[]
  cf := some (fileOf pool1 33 #[] #[{ accessFlags := 1, nameIndex := 5, descriptorIndex := 6, attributes := #[] }, { accessFlags := 9, nameIndex := 37, descriptorIndex := 38, attributes := #[] }] 49 2 #[] #[])
  fields := #[]
  methods := #[k1m0, k1m1]
  instanceTypes := #[]
  staticTypes := #[]
  resolved := Array.replicate 42 none
  statics := none }

def pool2 : Array CpInfo := pool [(1, .class_ 2), (0, u "java/lang/constant/Constable"), (0, .class_ 4), (0, u "java/lang/Object")] 6

/-- java/lang/constant/Constable -/
def k2 : Class := { plain "java/lang/constant/Constable" (some 0) with
  accessFlags := 1537
  interfaces := #[]
  cf := some (fileOf pool2 1 #[] #[] 1537 3 #[] #[])
  fields := #[]
  methods := #[]
  instanceTypes := #[]
  staticTypes := #[]
  resolved := Array.replicate 11 none
  statics := none }

def pool3 : Array CpInfo := pool [(1, .class_ 2), (0, u "java/lang/Comparable"), (0, .class_ 4), (0, u "java/lang/Object")] 7

/-- java/lang/Comparable -/
def k3 : Class := { plain "java/lang/Comparable" (some 0) with
  accessFlags := 1537
  interfaces := #[]
  cf := some (fileOf pool3 1 #[] #[] 1537 3 #[] #[])
  fields := #[]
  methods := #[]
  instanceTypes := #[]
  staticTypes := #[]
  resolved := Array.replicate 12 none
  statics := none }

def pool4 : Array CpInfo := pool [(1, .class_ 2), (0, u "java/io/Serializable"), (0, .class_ 4), (0, u "java/lang/Object")] 2

/-- java/io/Serializable -/
def k4 : Class := { plain "java/io/Serializable" (some 0) with
  accessFlags := 1537
  interfaces := #[]
  cf := some (fileOf pool4 1 #[] #[] 1537 3 #[] #[])
  fields := #[]
  methods := #[]
  instanceTypes := #[]
  staticTypes := #[]
  resolved := Array.replicate 7 none
  statics := none }

def pool5 : Array CpInfo := pool [(2, .class_ 4), (1, u "java/lang/Enum"), (0, u "name"), (0, u "Ljava/lang/String;"), (2, u "ordinal"), (0, u "I"), (1, .class_ 14), (1, u "java/lang/Object"), (4, u "hash"), (86, .class_ 108), (1, u "java/lang/Enum$EnumDesc"), (2, .class_ 112), (0, u "java/lang/constant/Constable"), (0, .class_ 114), (0, u "java/lang/Comparable"), (0, .class_ 116), (0, u "java/io/Serializable")] 87

/-- java/lang/Enum -/
def k5 : Class := { plain "java/lang/Enum" (some 0) with
  accessFlags := 1057
  interfaces := #[2, 3, 4]
  cf := some (fileOf pool5 2 #[.nestMembers #[106]] #[] 1057 12 #[111, 113, 115] #[{ accessFlags := 18, nameIndex := 5, descriptorIndex := 6, attributes := #[] }, { accessFlags := 18, nameIndex := 9, descriptorIndex := 10, attributes := #[] }, { accessFlags := 2, nameIndex := 19, descriptorIndex := 10, attributes := #[] }])
  fields := #[{ name := "name", type := (.object "java/lang/String"), accessFlags := 18, slot := 0, constantValue := 0 }, { name := "ordinal", type := .int, accessFlags := 18, slot := 1, constantValue := 0 }, { name := "hash", type := .int, accessFlags := 2, slot := 2, constantValue := 0 }]
  methods := #[]
  instanceTypes := #[(.object "java/lang/String"), .int, .int]
  staticTypes := #[]
  resolved := Array.replicate 204 none
  statics := none }

def pool6 : Array CpInfo := pool [(1, .class_ 2), (0, u "com/example/polyphony/polyphony/policy/Operator"), (2, u "EQUAL"), (0, u "Lcom/example/polyphony/polyphony/policy/Operator;"), (2, u "NOT_EQUAL"), (2, u "LESS"), (2, u "LESS_OR_EQUAL"), (2, u "GREATER"), (2, u "GREATER_OR_EQUAL"), (2, u "$VALUES"), (0, u "[Lcom/example/polyphony/polyphony/policy/Operator;"), (6, .class_ 34), (1, u "java/lang/Enum"), (8, u "symbol"), (0, u "Ljava/lang/String;"), (0, .fieldref 1 46), (0, .nameAndType 47 48), (0, u "whenBefore"), (0, u "Z"), (0, .fieldref 1 50), (0, .nameAndType 51 48), (0, u "whenEqual"), (0, .fieldref 1 53), (0, .nameAndType 54 48), (0, u "whenAfter"), (53, u "holds"), (0, u "(I)Z")] 21

def k6c0 : Code := { maxStack := 1, maxLocals := 3, code := prog_48_method_6_code, exceptionTable := #[], attributes := #[] }
def k6m0 : Method := { name := "holds", desc := "(I)Z", sig := { parameters := [.int], returnType := some .boolean }, accessFlags := 1, code := some k6c0 }
/-- com/example/polyphony/polyphony/policy/Operator -/
def k6 : Class := { plain "com/example/polyphony/polyphony/policy/Operator" (some 5) with
  accessFlags := 16433
  interfaces := #[]
  cf := some (fileOf pool6 1 #[] #[{ accessFlags := 1, nameIndex := 108, descriptorIndex := 109, attributes := #[] }] 16433 32 #[] #[{ accessFlags := 16409, nameIndex := 5, descriptorIndex := 6, attributes := #[] }, { accessFlags := 16409, nameIndex := 9, descriptorIndex := 6, attributes := #[] }, { accessFlags := 16409, nameIndex := 12, descriptorIndex := 6, attributes := #[] }, { accessFlags := 16409, nameIndex := 15, descriptorIndex := 6, attributes := #[] }, { accessFlags := 16409, nameIndex := 18, descriptorIndex := 6, attributes := #[] }, { accessFlags := 16409, nameIndex := 21, descriptorIndex := 6, attributes := #[] }, { accessFlags := 18, nameIndex := 43, descriptorIndex := 44, attributes := #[] }, { accessFlags := 18, nameIndex := 47, descriptorIndex := 48, attributes := #[] }, { accessFlags := 18, nameIndex := 51, descriptorIndex := 48, attributes := #[] }, { accessFlags := 18, nameIndex := 54, descriptorIndex := 48, attributes := #[] }, { accessFlags := 4122, nameIndex := 24, descriptorIndex := 25, attributes := #[] }])
  fields := #[{ name := "EQUAL", type := (.object "com/example/polyphony/polyphony/policy/Operator"), accessFlags := 16409, slot := 0, constantValue := 0 }, { name := "NOT_EQUAL", type := (.object "com/example/polyphony/polyphony/policy/Operator"), accessFlags := 16409, slot := 1, constantValue := 0 }, { name := "LESS", type := (.object "com/example/polyphony/polyphony/policy/Operator"), accessFlags := 16409, slot := 2, constantValue := 0 }, { name := "LESS_OR_EQUAL", type := (.object "com/example/polyphony/polyphony/policy/Operator"), accessFlags := 16409, slot := 3, constantValue := 0 }, { name := "GREATER", type := (.object "com/example/polyphony/polyphony/policy/Operator"), accessFlags := 16409, slot := 4, constantValue := 0 }, { name := "GREATER_OR_EQUAL", type := (.object "com/example/polyphony/polyphony/policy/Operator"), accessFlags := 16409, slot := 5, constantValue := 0 }, { name := "symbol", type := (.object "java/lang/String"), accessFlags := 18, slot := 3, constantValue := 0 }, { name := "whenBefore", type := .boolean, accessFlags := 18, slot := 4, constantValue := 0 }, { name := "whenEqual", type := .boolean, accessFlags := 18, slot := 5, constantValue := 0 }, { name := "whenAfter", type := .boolean, accessFlags := 18, slot := 6, constantValue := 0 }, { name := "$VALUES", type := (.array (.object "com/example/polyphony/polyphony/policy/Operator")), accessFlags := 4122, slot := 6, constantValue := 0 }]
  methods := #[k6m0]
  instanceTypes := #[(.object "java/lang/String"), .int, .int, (.object "java/lang/String"), .boolean, .boolean, .boolean]
  staticTypes := #[(.object "com/example/polyphony/polyphony/policy/Operator"), (.object "com/example/polyphony/polyphony/policy/Operator"), (.object "com/example/polyphony/polyphony/policy/Operator"), (.object "com/example/polyphony/polyphony/policy/Operator"), (.object "com/example/polyphony/polyphony/policy/Operator"), (.object "com/example/polyphony/polyphony/policy/Operator"), (.array (.object "com/example/polyphony/polyphony/policy/Operator"))]
  resolved := Array.replicate 131 none
  statics := some 0 }

def pool7 : Array CpInfo := pool [(1, u "java/lang/Cloneable"), (0, .class_ 1), (0, u "java/lang/Object"), (0, .class_ 3)] 3

/-- java/lang/Cloneable -/
def k7 : Class := { plain "java/lang/Cloneable" (some 0) with
  accessFlags := 1537
  interfaces := #[]
  cf := some (fileOf pool7 2 #[] #[] 1537 4 #[] #[])
  fields := #[]
  methods := #[]
  instanceTypes := #[]
  staticTypes := #[]
  resolved := Array.replicate 8 none
  statics := none }

/-- the primitive byte -/
def k8 : Class := { plain "byte" none with kind := .primitive 'B', accessFlags := 0x411 }
/-- [B -/
def k9 : Class := { plain "[B" (some 0) with kind := .array 8 .byte, interfaces := #[7, 4], accessFlags := 1041 }

/-- the primitive int -/
def k10 : Class := { plain "int" none with kind := .primitive 'I', accessFlags := 0x411 }
/-- [I -/
def k11 : Class := { plain "[I" (some 0) with kind := .array 10 .int, interfaces := #[7, 4], accessFlags := 1041 }

def heap : Heap := #[{ cls := 6, slots := #[.ref 1, .ref 2, .ref 3, .ref 4, .ref 5, .ref 6, .null], vm := .statics 6 },
  { cls := 6, slots := #[.null, .int 0, .int 0, .null, .int 0, .int 1, .int 0], vm := .none },
  { cls := 6, slots := #[.null, .int 1, .int 0, .null, .int 1, .int 0, .int 1], vm := .none },
  { cls := 6, slots := #[.null, .int 2, .int 0, .null, .int 1, .int 0, .int 0], vm := .none },
  { cls := 6, slots := #[.null, .int 3, .int 0, .null, .int 1, .int 1, .int 0], vm := .none },
  { cls := 6, slots := #[.null, .int 4, .int 0, .null, .int 0, .int 0, .int 1], vm := .none },
  { cls := 6, slots := #[.null, .int 5, .int 0, .null, .int 0, .int 1, .int 1], vm := .none }]
def classes : Array Class := #[k0, k1, k2, k3, k4, k5, k6, k7, k8, k9, k10, k11]
def interned : List (Array UInt16 × Addr) := []
def slotsUsed : Nat := 49
def theMethod : MethodId := ⟨1, 1⟩
def args0 : Array Value := #[.int 5, .int 5]
def aboutOver (below : List Frame) : State where
  vm := { classes := classes, interned := interned.toArray }
  heap := heap
  slotsUsed := slotsUsed
  threads := #[{ frames := .invoking theMethod args0 :: below }]
def below0 : List Frame := [.native { method := ⟨0, 0⟩, args := #[] }]
def about1 : State := aboutOver below0
def p0 : Program := .bare "" "" ""
def e0 : Env := launch0.env 0 0 0
theorem w_frames : about1.frames = Frame.invoking theMethod args0 :: below0 := rfl
set_option maxRecDepth 65536 in
theorem w_args : argsFit about1.vm theMethod args0 = true := by decide +kernel
set_option maxRecDepth 65536 in
theorem w_heap : heapFits about1 = true := by decide +kernel
set_option maxRecDepth 65536 in
theorem w_runnable : about1.curStatus? = some .runnable := by decide +kernel
set_option maxRecDepth 65536 in
theorem w_alone : about1.alone = true := by decide +kernel
set_option maxRecDepth 65536 in
theorem w_named : about1.methodNamed? x = some theMethod := by decide +kernel
set_option maxRecDepth 65536 in
theorem w_hears : about1.hears theMethod below0 = true := by decide +kernel
set_option maxRecDepth 65536 in
theorem w_ripe : about1.ripe theMethod args0 below0 = true := by decide +kernel
theorem w_running : about1.status = .running := rfl
set_option maxRecDepth 65536 in
theorem w_room : about1.hasRoom e0.platform room_1 = true :=
  launch0.hasRoom_least _ room_1 (by decide +kernel) (by decide +kernel) (by decide +kernel) (by decide +kernel) (by decide +kernel) (by decide +kernel)
theorem allAtoms_all (ts : List Jvm.Cond) (a : Array Jvm.Value) (st : Jvm.State) : (allAtoms ts).before a st = ts.all (fun c => c.before a st) := by
  induction ts with
  | nil => rfl
  | cons c t ih =>
    show (Jvm.Cond.and c (allAtoms t)).before a st = _
    rw [Jvm.Cond.before_and, ih, List.all_cons]
def words1 : List Jvm.Cond := Jvm.Cond.code x code maxLocals ret :: tables_1
/-- a 'code' word, met by the world's own term for the bytes: nothing is compared byte by byte -/
theorem code_word {y : MethodName} {bytes : ByteArray} {mx : Nat} {rt : Option FieldType} {a : Array Value} {s : State} {m : MethodId} {meth : Method} {c : Code} (h1 : s.methodNamed? y = some m) (h2 : s.vm.method? m = some meth) (h3 : meth.code = some c) (h4 : c.code = bytes)
    (h5 : (c.maxLocals == mx && c.exceptionTable.isEmpty && decide (c.maxStack ≤ mostOperands) && decide (meth.sig.returnType = rt) && !meth.locks && decide (parseMethodDescriptor y.desc = some meth.sig)) = true) : (Jvm.Cond.code y bytes mx rt).before a s = true := by
  simp only [Bool.and_eq_true, beq_iff_eq, Bool.not_eq_true', decide_eq_true_eq] at h5
  obtain ⟨⟨⟨⟨⟨g1, g2⟩, g3⟩, g4⟩, g5⟩, g6⟩ := h5
  simp [Cond.before, Cond.holds, Cond.value, h1, h2, h3, h4, g1, g2, g3, g4, g5, g6]
def isCode : Jvm.Cond → Bool
  | .code _ _ _ _ => true
  | _ => false
theorem all_split {L : List Jvm.Cond} {P : Jvm.Cond → Bool} (h1 : L.all (fun c => isCode c || P c) = true) (h2 : ∀ c ∈ L.filter isCode, P c = true) : L.all P = true := by
  refine List.all_eq_true.mpr fun c hc => ?_
  have h := List.all_eq_true.mp h1 c hc
  rcases Bool.eq_false_or_eq_true (isCode c) with hi | hi
  · exact h2 c (List.mem_filter.mpr ⟨hc, hi⟩)
  · simpa [hi] using h
set_option maxRecDepth 65536 in
theorem w_c0 : (Jvm.Cond.code x code maxLocals ret).before args0 about1 = true := code_word (m := ⟨1, 1⟩) (meth := k1m1) (c := k1c1) (by decide +kernel) rfl rfl rfl (by decide +kernel)
set_option maxRecDepth 65536 in
theorem w_c1 : (Jvm.Cond.code ({ cls := "com/example/polyphony/polyphony/policy/Operator", name := "holds", desc := "(I)Z" } : Jvm.MethodName) prog_48_method_6_code (3 : Nat) (Option.some Jvm.ClassFile.FieldType.boolean)).before args0 about1 = true := code_word (m := ⟨6, 0⟩) (meth := k6m0) (c := k6c0) (by decide +kernel) rfl rfl rfl (by decide +kernel)
def codes1 : List Jvm.Cond := [Jvm.Cond.code x code maxLocals ret, Jvm.Cond.code ({ cls := "com/example/polyphony/polyphony/policy/Operator", name := "holds", desc := "(I)Z" } : Jvm.MethodName) prog_48_method_6_code (3 : Nat) (Option.some Jvm.ClassFile.FieldType.boolean)]
set_option maxRecDepth 65536 in
theorem codes_eq : words1.filter isCode = codes1 := rfl
theorem w_codes : ∀ c ∈ words1.filter isCode, c.before args0 about1 = true := by
  rw [codes_eq]
  intro c hc
  simp only [codes1, List.mem_cons, List.not_mem_nil, or_false] at hc
  rcases hc with rfl | rfl
  · exact w_c0
  · exact w_c1
set_option maxRecDepth 65536 in
theorem w_t1 : (words1.take 24).all (fun c => isCode c || c.before args0 about1) = true := by decide +kernel
set_option maxRecDepth 65536 in
theorem w_t2 : (words1.drop 24).all (fun c => isCode c || c.before args0 about1) = true := by decide +kernel
theorem w_tables : (allAtoms (Jvm.Cond.code x code maxLocals ret :: tables_1)).before args0 about1 = true := by
  rw [allAtoms_all]
  show words1.all (fun c => c.before args0 about1) = true
  refine all_split ?_ w_codes
  rw [← List.take_append_drop 24 words1, List.all_append, w_t1, w_t2]
  rfl
set_option maxRecDepth 65536 in
theorem w_case : (Jvm.Cond.and given_1 narrow_1).before args0 about1 = true := by decide +kernel
theorem w_applies : (headSpec (Jvm.Cond.code x code maxLocals ret :: tables_1) room_1).applies x e0.platform about1 = true :=
  (Spec.applies_iff w_frames).mpr ⟨w_running, w_runnable, w_alone, w_named, w_hears, w_ripe, w_room, w_tables⟩
theorem atStart : AtStart classFile x code maxLocals ret World_1 tables_1 room_1 Calls_1 rest_1 Pre_1 launch0 p0 e0 about1 theMethod args0 below0 :=
  ⟨lists_1, trivial, launch0.admits_env _ _ _, launch0.least_env, fairChoices_fair.cas, fairChoices_fair.clock, w_frames, w_args, w_heap, w_applies, trivial, trivial, w_case⟩
end start1
theorem witness_1 : WitnessClaimed_1 := ⟨start1.p0, start1.e0, start1.about1, start1.theMethod, start1.args0, start1.below0, start1.atStart⟩
end Jvm.Pilot.@@N@@
