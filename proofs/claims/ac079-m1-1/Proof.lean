import JvmDerived
import JvmDerived.Pilot.@@N@@Statement
import JvmDerived.Pilot.@@N@@Code
set_option linter.unusedVariables false
set_option linter.unusedSimpArgs false
namespace Jvm.Pilot.@@N@@
open Jvm Jvm.ClassFile Sem Op Lib Jvm.Free Jvm.Stand Jvm.LawKit Jvm.RoadKit Bundle Jvm.Pilot.@@N@@.Jvm.D
/-! own kit: a walk told forwards -/
section OwnKit
variable {p : Program} {l : Launch} {e : Env} {R : Room} {s : State} {m : MethodId} {args : Array Value} {below : List Frame} {meth : Method} {c : Code} {T : State} {locs : List Loc} {cells slots : Nat} {Z : State} {a0 : Array Value} {h : Heap}
/-- from here the run comes to an end of which K speaks -/
def own_Goes (p : Program) (e : Env) (below : List Frame) (K : Outcome → State → Prop) (T : State) (g : JFrame) : Prop :=
  ∃ s₂ o, Steps p.tables e below (T.setTop g) s₂ ∧ s₂.status = .running ∧ Ended s₂ below o ∧ K o s₂
theorem own_step {K : Outcome → State → Prop} {T' : State} {g g' : JFrame} (st : ∀ t, Steps p.tables e below (T'.setTop g') t → Steps p.tables e below (T.setTop g) t) (hg : own_Goes p e below K T' g') : own_Goes p e below K T g := by
  obtain ⟨s2, o, a, b⟩ := hg
  exact ⟨s2, o, st _ a, b⟩
theorem own_castG {K : Outcome → State → Prop} {g g' : JFrame} (q : g = g') (hg : own_Goes p e below K T g') : own_Goes p e below K T g := q ▸ hg
def own_K (s : State) (Q : Option Value → Heap → List Loc → Prop) (rc rs : Nat) : Outcome → State → Prop := fun o u => ∃ v L, o = .returned v ∧ Q v u.heap L ∧ FrameEnd s o u L rc rs
def own_Met (l : Launch) (Z : State) (y : MethodName) (bytes : ByteArray) (maxL : Nat) (ret : Option FieldType) (ws : List Jvm.Cond) (rm : Room) (as' : Array Value) (h0 : Heap) (Q : Option Value → Heap → List Loc → Prop) : Prop :=
  MetFree l y (head1 (Jvm.Cond.code y bytes maxL ret :: ws) rm) (fun a U => a = as' ∧ Z.Warmed39 U.vm ∧ U.heap = h0) (fun _ _ _ _ _ => True) (fun _ U o U' => ∃ v L, o = .returned v ∧ Q v U'.heap L ∧ FrameEnd U o U' L rm.cells rm.slots)
theorem own_body {y : MethodName} {bytes : ByteArray} {maxL : Nat} {ret : Option FieldType} {ws : List Jvm.Cond} {rm : Room} {as' : Array Value} {h0 : Heap} {Q : Option Value → Heap → List Loc → Prop} (hp : plainFor y = true)
    (body : ∀ (p : Program) (e : Env) (s : State) (m : MethodId) (below : List Frame) (meth : Method) (c : Code) (s₁ : State), p.tables.exec = Jvm.exec → c.code = bytes → c.maxLocals = maxL → meth.sig.returnType = ret → meth.locks = false → s.vm.findClass y.cls = some m.cls → meth.name = y.name → Z.Warmed39 s.vm →
      Stand p l e rm s m as' below meth c s₁ [] 0 0 → s₁.heap = h0 → own_Goes p e below (own_K s Q rm.cells rm.slots) s₁ (entryFrame m as' maxL)) : own_Met l Z y bytes maxL ret ws rm as' h0 Q := by
  refine MetFree.of_bodySF hp hisR ?_
  intro p e s m args below meth c s₁ Bd hml0 hP hK
  obtain ⟨rfl, hZ, hh⟩ := hP
  exact body p e s m below meth c s₁ Bd.exec Bd.bytes hml0 Bd.returns (BodyLoose.notSynchronized Bd) (findClass_of_methodNamed Bd.named) (name_of_methodNamed Bd.named Bd.method).1 hZ (Stand.of_body Bd) (by rw [← hh, Bd.state]; rfl)
theorem own_out (X : Stand p l e R s m args below meth c T locs cells slots) (hlk : meth.locks = false) {v : Option Value} (hv : meth.sig.returnType = none → v = none) {Q : Option Value → Heap → List Loc → Prop} {rc rs : Nat} {g : JFrame}
    (st : ∀ fs, (∀ (f : JFrame) (acts : List Action), f.method = m → f.locked = none → f.entered = [] → (doReturn e (T.setTop f) acts v).1 = T.setFrames fs) → Steps p.tables e below (T.setTop g) (T.setFrames fs))
    (hQ : Q v T.heap locs) (hc : cells ≤ rc) (hs : slots ≤ rs) : own_Goes p e below (own_K s Q rc rs) T g := by
  obtain ⟨fs, hr, hrun, hended, hW, hsame⟩ := X.leave (v := v) hv hlk
  exact ⟨_, _, st fs hr, hrun, hended, v, locs, rfl, hQ, ⟨_, rfl⟩, hW, hsame.mono hc hs⟩
theorem own_retN (X : Stand p l e R s m args below meth c T locs cells slots) (hx : p.tables.exec = Jvm.exec) (hlk : meth.locks = false) {pc : Nat} {Ls : Array Slot} {z : Int32} {t : FieldType} {rest : List Value} (hret : meth.sig.returnType = some t) (ht : t = .boolean ∨ t = .byte ∨ t = .char ∨ t = .short)
    (hd : decode c.code pc = .ok (.ireturn, 1)) {Q : Option Value → Heap → List Loc → Prop} {rc rs : Nat} (hQ : Q (some (.int (nar t z))) T.heap locs) (hc : cells ≤ rc) (hs : slots ≤ rs) : own_Goes p e below (own_K s Q rc rs) T (mkF m pc Ls (.int z :: rest)) :=
  own_out X hlk (fun q => by rw [hret] at q; cases q) (fun fs hr => retN X hx hret ht hd hr) hQ hc hs
theorem own_retI (X : Stand p l e R s m args below meth c T locs cells slots) (hx : p.tables.exec = Jvm.exec) (hlk : meth.locks = false) {pc : Nat} {Ls : Array Slot} {z : Int32} {rest : List Value} (hret : meth.sig.returnType = some .int)
    (hd : decode c.code pc = .ok (.ireturn, 1)) {Q : Option Value → Heap → List Loc → Prop} {rc rs : Nat} (hQ : Q (some (.int z)) T.heap locs) (hc : cells ≤ rc) (hs : slots ≤ rs) : own_Goes p e below (own_K s Q rc rs) T (mkF m pc Ls (.int z :: rest)) :=
  own_out X hlk (fun q => by rw [hret] at q; cases q) (fun fs hr => retOut X hx hret rfl (Or.inl ⟨rfl, Or.inl rfl, z, rfl⟩) hd hr) hQ hc hs
theorem own_retL (X : Stand p l e R s m args below meth c T locs cells slots) (hx : p.tables.exec = Jvm.exec) (hlk : meth.locks = false) {pc : Nat} {Ls : Array Slot} {z : Int64} {rest : List Value} (hret : meth.sig.returnType = some .long)
    (hd : decode c.code pc = .ok (.lreturn, 1)) {Q : Option Value → Heap → List Loc → Prop} {rc rs : Nat} (hQ : Q (some (.long z)) T.heap locs) (hc : cells ≤ rc) (hs : slots ≤ rs) : own_Goes p e below (own_K s Q rc rs) T (mkF m pc Ls (.long z :: rest)) :=
  own_out X hlk (fun q => by rw [hret] at q; cases q) (fun fs hr => retOut X hx hret rfl (Or.inr (Or.inl ⟨rfl, rfl, z, rfl⟩)) hd hr) hQ hc hs
theorem own_retA (X : Stand p l e R s m args below meth c T locs cells slots) (hx : p.tables.exec = Jvm.exec) (hlk : meth.locks = false) {pc : Nat} {Ls : Array Slot} {w : Value} {t : FieldType} {rest : List Value} (hret : meth.sig.returnType = some t) (hn : narrow t w = w) (ht : t.isReference = true) (hw : w.isRef = true)
    (hd : decode c.code pc = .ok (.areturn, 1)) {Q : Option Value → Heap → List Loc → Prop} {rc rs : Nat} (hQ : Q (some w) T.heap locs) (hc : cells ≤ rc) (hs : slots ≤ rs) : own_Goes p e below (own_K s Q rc rs) T (mkF m pc Ls (w :: rest)) :=
  own_out X hlk (fun q => by rw [hret] at q; cases q) (fun fs hr => retOut X hx hret hn (Or.inr (Or.inr (Or.inr (Or.inr ⟨rfl, ht, hw⟩)))) hd hr) hQ hc hs
theorem own_retV (X : Stand p l e R s m args below meth c T locs cells slots) (hx : p.tables.exec = Jvm.exec) (hlk : meth.locks = false) {pc : Nat} {Ls : Array Slot} (hret : meth.sig.returnType = none)
    (hd : decode c.code pc = .ok (.return_, 1)) {Q : Option Value → Heap → List Loc → Prop} {rc rs : Nat} (hQ : Q none T.heap locs) (hc : cells ≤ rc) (hs : slots ≤ rs) : own_Goes p e below (own_K s Q rc rs) T (mkF m pc Ls []) :=
  own_out X hlk (fun _ => rfl) (fun fs hr => X.returnOut hx hret hd hr) hQ hc hs
theorem own_callS (X : Stand p l e R s m args below meth c T locs cells slots) (hx : p.tables.exec = Jvm.exec) (hZ : Z.Warmed39 s.vm) {own : String} {index : Nat} {y : MethodName} {bytes : ByteArray} {maxL : Nat} {ret : Option FieldType} (hown : s.vm.findClass own = some m.cls)
    (w1 : (Jvm.Cond.methodLink own index y).before a0 Z = true) (w2 : (Jvm.Cond.static y).before a0 Z = true) (w3 : (Jvm.Cond.initialized y.cls).before a0 Z = true) (w4 : (Jvm.Cond.code y bytes maxL ret).before a0 Z = true) (hy : y.cls ≠ "java/lang/invoke/MethodHandle" ∧ y.cls ≠ "java/lang/invoke/VarHandle")
    {rm : Room} (W : Nat) (argsL rest : List Value) {Q : Option Value → Heap → List Loc → Prop} (hM : own_Met l Z y bytes maxL ret [] rm argsL.toArray h Q) (eT : T.heap = h)
    (hf : rm.frames + 1 ≤ R.frames) (hl : W + (maxL + 11) + rm.locals ≤ R.locals) (hc : cells + rm.cells ≤ R.cells) (hs : slots + rm.slots ≤ R.slots)
    {g : JFrame} (hg : g.method = m) (hsize : g.locals.size = c.maxLocals) {ps : List FieldType} {r : Option FieldType} (hpd : parseMethodDescriptor y.desc = some ⟨ps, r⟩) (hlen : argsL.length = ps.length)
    (hstack : g.stack = argsL.reverse ++ rest) (hW : 2 * g.monitorRoom + (rest.map fun v => v.category).sum ≤ W) (hd : decode c.code g.pc = .ok (.invokestatic index, 3))
    {K : Outcome → State → Prop} (go : ∀ T' v L, Stand p l e R s m args below meth c T' (locs ++ L) (cells + rm.cells) (slots + rm.slots) → Q v T'.heap L → own_Goes p e below K T' { g with pc := g.pc + 3, stack := v.toList ++ rest }) : own_Goes p e below K T g := by
  obtain ⟨v, _, ⟨T', L', k', n'⟩, -, X', ⟨Lc, hQ, l1, y1, z1⟩, st⟩ := Jvm.LawKit.callS X hx (y := y) hown (mvT hZ w1) (mvT hZ w2) (mvT hZ w3) (mvT hZ w4) hy (backOf (W := W) hM hZ w4 w3 hf hl) hg hsize (lenOf hpd hlen) hstack hW hd (fun _ _ => ⟨rfl, eT, hc, hs⟩)
  dsimp only [Pt.U, Pt.locs, Pt.cells, Pt.slots] at X' l1 y1 z1 st hQ
  subst l1 y1 z1
  exact own_step st (go _ _ _ X' hQ)
theorem own_callV (X : Stand p l e R s m args below meth c T locs cells slots) (hx : p.tables.exec = Jvm.exec) (hZ : Z.Warmed39 s.vm) {own C : String} {index : Nat} {y z : MethodName} {bytes : ByteArray} {maxL : Nat} {ret : Option FieldType} (hown : s.vm.findClass own = some m.cls)
    (w1 : (Jvm.Cond.methodLink own index y).before a0 Z = true) (w2 : (Jvm.Cond.declares y).before a0 Z = true) (nf : NotFace s y) (w3 : (Jvm.Cond.selects C y z).before a0 Z = true) (w4 : (Jvm.Cond.instanceMethod z).before a0 Z = true) (w5 : (Jvm.Cond.code z bytes maxL ret).before a0 Z = true) (w6 : (Jvm.Cond.initialized z.cls).before a0 Z = true)
    (hy : y.cls ≠ "java/lang/invoke/MethodHandle" ∧ y.cls ≠ "java/lang/invoke/VarHandle")
    {rm : Room} (W : Nat) {a : Addr} (E : Exa Z h a C) (argsL rest : List Value) {Q : Option Value → Heap → List Loc → Prop} (hM : own_Met l Z z bytes maxL ret [] rm (.ref a :: argsL).toArray h Q) (eT : T.heap = h)
    (hf : rm.frames + 1 ≤ R.frames) (hl : W + (maxL + 11) + rm.locals ≤ R.locals) (hc : cells + rm.cells ≤ R.cells) (hs : slots + rm.slots ≤ R.slots)
    {g : JFrame} (hg : g.method = m) (hsize : g.locals.size = c.maxLocals) {ps : List FieldType} {r : Option FieldType} (hpd : parseMethodDescriptor y.desc = some ⟨ps, r⟩) (hlen : argsL.length = ps.length)
    (hstack : g.stack = argsL.reverse ++ .ref a :: rest) (hW : 2 * g.monitorRoom + (rest.map fun v => v.category).sum ≤ W) (hd : decode c.code g.pc = .ok (.invokevirtual index, 3))
    {K : Outcome → State → Prop} (go : ∀ T' v L, Stand p l e R s m args below meth c T' (locs ++ L) (cells + rm.cells) (slots + rm.slots) → Q v T'.heap L → own_Goes p e below K T' { g with pc := g.pc + 3, stack := v.toList ++ rest }) : own_Goes p e below K T g := by
  obtain ⟨cq, kq, qa, qb, qc⟩ := isOf hZ eT E
  obtain ⟨v, _, ⟨T', L', k', n'⟩, -, X', ⟨Lc, hQ, l1, y1, z1⟩, st⟩ := X.virtualBack hx (y := y) (z := z) hown (mvT hZ w1) (mvT hZ w2) nf (mvT hZ w3) (mvT hZ w4) hy (backOf (W := W) hM hZ w5 w6 hf hl) qa qc hg hsize (Steps.refl _) (lenOf hpd hlen) hstack hW hd (fun _ _ => ⟨rfl, eT, hc, hs⟩)
  dsimp only [Pt.U, Pt.locs, Pt.cells, Pt.slots] at X' l1 y1 z1 st hQ
  subst l1 y1 z1
  exact own_step (fun t k => st.trans k) (go _ _ _ X' hQ)
theorem own_callC (X : Stand p l e R s m args below meth c T locs cells slots) (hx : p.tables.exec = Jvm.exec) (hZ : Z.Warmed39 s.vm) {own : String} {index : Nat} {y : MethodName} {bytes : ByteArray} {maxL : Nat} (hy1 : y.name = "<init>") (hown : s.vm.findClass own = some m.cls)
    (w1 : (Jvm.Cond.methodLink own index y).before a0 Z = true) (w2 : (Jvm.Cond.instanceMethod y).before a0 Z = true) (w3 : (Jvm.Cond.code y bytes maxL none).before a0 Z = true) (w4 : (Jvm.Cond.initialized y.cls).before a0 Z = true)
    (hy : y.cls ≠ "java/lang/invoke/MethodHandle" ∧ y.cls ≠ "java/lang/invoke/VarHandle")
    {rm : Room} (W : Nat) {a : Addr} (argsL rest : List Value) {Q : Option Value → Heap → List Loc → Prop} (hM : own_Met l Z y bytes maxL none [] rm (.ref a :: argsL).toArray h Q) (eT : T.heap = h)
    (hf : rm.frames + 1 ≤ R.frames) (hl : W + (maxL + 11) + rm.locals ≤ R.locals) (hc : cells + rm.cells ≤ R.cells) (hs : slots + rm.slots ≤ R.slots)
    {g : JFrame} (hg : g.method = m) (hsize : g.locals.size = c.maxLocals) {ps : List FieldType} {r : Option FieldType} (hpd : parseMethodDescriptor y.desc = some ⟨ps, r⟩) (hlen : argsL.length = ps.length)
    (hstack : g.stack = argsL.reverse ++ .ref a :: rest) (hW : 2 * g.monitorRoom + (rest.map fun v => v.category).sum ≤ W) (hd : decode c.code g.pc = .ok (.invokespecial index, 3))
    {K : Outcome → State → Prop} (go : ∀ T' v L, Stand p l e R s m args below meth c T' (locs ++ L) (cells + rm.cells) (slots + rm.slots) → Q v T'.heap L → own_Goes p e below K T' { g with pc := g.pc + 3, stack := v.toList ++ rest }) : own_Goes p e below K T g := by
  obtain ⟨v, _, ⟨T', L', k', n'⟩, -, X', ⟨Lc, hQ, l1, y1, z1⟩, st⟩ := X.specialBack hx (y := y) hy1 hown (mvT hZ w1) (mvT hZ w2) (mvT hZ w3) hy (backOf (W := W) hM hZ w3 w4 hf hl) hg hsize (Steps.refl _) (a := a) (lenOf hpd hlen) hstack hW hd (fun _ _ => ⟨rfl, eT, hc, hs⟩)
  dsimp only [Pt.U, Pt.locs, Pt.cells, Pt.slots] at X' l1 y1 z1 st hQ
  subst l1 y1 z1
  exact own_step (fun t k => st.trans k) (go _ _ _ X' hQ)
theorem own_fldI {t : Term} {C n d : String} {k : Int32} {a : Addr} (ev : t.eval args s none [] s = some (.ref a)) (hq : (Jvm.Cond.eq (.field t C n d) (.int k)).value args s none s [] = some true) : Fld s s.heap a C n d (.int k) := by
  have e1 := fld_at (C := C) (n := n) (dd := d) ev
  refine Fld.start ?_
  simp only [Jvm.Cond.value, e1, Term.int_eval] at hq
  cases hf : s.fieldOf? a C n d with
  | none => simp [hf] at hq
  | some v => cases v <;> simp [hf] at hq; rw [hq]
theorem own_callU (X : Stand p l e R s m args below meth c T locs cells slots) (hx : p.tables.exec = Jvm.exec) (hZ : Z.Warmed39 s.vm) {own C owner : String} {index : Nat} {y z : MethodName} {bytes : ByteArray} {maxL : Nat} {ret : Option FieldType} (hown : s.vm.findClass own = some m.cls)
    (w1 : (Jvm.Cond.methodLink own index y).before a0 Z = true) (w2 : (Jvm.Cond.sameMethod y.cls owner y.name y.desc).before a0 Z = true) (w2' : (Jvm.Cond.declares ⟨owner, y.name, y.desc⟩).before a0 Z = true) (w3 : (Jvm.Cond.selects C y z).before a0 Z = true) (w4 : (Jvm.Cond.instanceMethod z).before a0 Z = true) (w5 : (Jvm.Cond.code z bytes maxL ret).before a0 Z = true) (w6 : (Jvm.Cond.initialized z.cls).before a0 Z = true)
    (hy : owner ≠ "java/lang/invoke/MethodHandle" ∧ owner ≠ "java/lang/invoke/VarHandle")
    {rm : Room} (W : Nat) {a : Addr} (E : Exa Z h a C) (argsL rest : List Value) {Q : Option Value → Heap → List Loc → Prop} (hM : own_Met l Z z bytes maxL ret [] rm (.ref a :: argsL).toArray h Q) (eT : T.heap = h)
    (hf : rm.frames + 1 ≤ R.frames) (hl : W + (maxL + 11) + rm.locals ≤ R.locals) (hc : cells + rm.cells ≤ R.cells) (hs : slots + rm.slots ≤ R.slots)
    {g : JFrame} (hg : g.method = m) (hsize : g.locals.size = c.maxLocals) {ps : List FieldType} {r : Option FieldType} (hpd : parseMethodDescriptor y.desc = some ⟨ps, r⟩) (hlen : argsL.length = ps.length)
    (hstack : g.stack = argsL.reverse ++ .ref a :: rest) (hW : 2 * g.monitorRoom + (rest.map fun v => v.category).sum ≤ W) (hd : decode c.code g.pc = .ok (.invokevirtual index, 3))
    {K : Outcome → State → Prop} (go : ∀ T' v L, Stand p l e R s m args below meth c T' (locs ++ L) (cells + rm.cells) (slots + rm.slots) → Q v T'.heap L → own_Goes p e below K T' { g with pc := g.pc + 3, stack := v.toList ++ rest }) : own_Goes p e below K T g := by
  obtain ⟨cq, kq, qa, qb, qc⟩ := isOf hZ eT E
  obtain ⟨v, _, ⟨T', L', k', n'⟩, -, X', ⟨Lc, hQ, l1, y1, z1⟩, st⟩ := X.virtualBackUp hx (x := y) (y := z) hown (mvT hZ w1) (mvT hZ w2) (mvT hZ w2') hy (mvT hZ w3) (mvT hZ w4) (backOf (W := W) hM hZ w5 w6 hf hl) qa qc hg hsize (Steps.refl _) (lenOf hpd hlen) hstack hW hd (fun _ _ => ⟨rfl, eT, hc, hs⟩)
  dsimp only [Pt.U, Pt.locs, Pt.cells, Pt.slots] at X' l1 y1 z1 st hQ
  subst l1 y1 z1
  exact own_step (fun t k => st.trans k) (go _ _ _ X' hQ)
theorem own_aaload (X : Stand p l e R s m args below meth c T locs cells slots) (hx : p.tables.exec = Jvm.exec) (hZ : Z.Warmed39 s.vm) (eT : T.heap = h) {a : Addr} {k : ClassId} {ty : FieldType} {n : Int32} {vs : List Value} {dv : Value} (F : Arv Z h a k ty n vs dv) (hty : ty.isReference = true) {j : Int32} (v : Value) (hj : ¬ j < 0 ∧ j < n) (hv : vs.getD j.toNatClampNeg dv = v)
    {g : JFrame} (hg : g.method = m) {rest : List Value} (hs : g.stack = .int j :: .ref a :: rest) (hd : decode c.code g.pc = .ok (.aaload, 1)) : ∀ t, Steps p.tables e below (T.setTop { g with pc := g.pc + 1, stack := v :: rest }) t → Steps p.tables e below (T.setTop g) t := by
  obtain ⟨cl, A, q1, S, q3, H, G⟩ := F
  have hin := inb_of S hj
  exact fun t kk => X.aaload hx (by rw [eT]; exact A.1) (State.isArrayOf_alike hZ.alike A.2.1) hty A.2.2 hin (H.at hin hv) hg hs hd t kk
theorem own_aastore (X : Stand p l e R s m args below meth c T locs cells slots) (hx : p.tables.exec = Jvm.exec) (hZ : Z.Warmed39 s.vm) (eT : T.heap = h) {a : Addr} {k : ClassId} {C : String} {n : Int32} {vs : List Value} {dv : Value} (F : Arv Z h a k (.object C) n vs dv) (O : Ovr Z k C) {y : Addr} (I : Ins Z h y C true) {j : Int32} (hj : ¬ j < 0 ∧ j < n) (i : Nat) (hi : j.toNatClampNeg = i) (hl : i < vs.length)
    {g : JFrame} (hg : g.method = m) {rest : List Value} (hs : g.stack = .ref y :: .int j :: .ref a :: rest) (hd : decode c.code g.pc = .ok (.aastore, 1)) :
    ∃ T' h', Stand p l e R s m args below meth c T' (locs ++ [⟨a, j.toNatClampNeg⟩]) cells slots ∧ T'.heap = h' ∧ Wr h h' a j.toNatClampNeg (.ref y) ∧ Arv Z h' a k (.object C) n (vs.set i (.ref y)) dv ∧ ∀ target, Steps p.tables e below (T'.setTop { g with pc := g.pc + 1, stack := rest }) target → Steps p.tables e below (T.setTop g) target := by
  obtain ⟨cl, A, q1, S, q3, H, G⟩ := F
  obtain ⟨T', h', X', e', W', st⟩ := stR X hx hZ eT A (inb_of S hj) rfl (Sto.ofV A q1 O I) hg hs hd
  exact ⟨T', h', X', e', W', Arv.set A q1 S q3 H G rfl W' i hi hl, st⟩
theorem own_staKeep {C n d : String} {v : Value} {h' : Heap} {ws : List Addr} (F : Sta Z h C n d v) (K : Keep h h' ws) (q : ∀ x ∈ ws, ∀ cell : Cell, h[x]? = some cell → cell.vm.isStatics = false) : Sta Z h' C n d v := by
  obtain ⟨cf, i, k, f, st, cell, h1, h2, h3, h4, h5, h6, h7⟩ := F
  refine ⟨cf, i, k, f, st, cell, h1, h2, h3, h4, K.2.1 _ _ h5 (fun z => ?_), h6, h7⟩
  have := q _ z _ h5
  rw [h6] at this; cases this
end OwnKit
theorem own_pn_com_example_ringshift_ringshift_net_KeyChangeStep : plainName "com/example/ringshift/ringshift/net/KeyChangeStep" = true := by first | (simp [plainName, overriddenIn]; done) | decide +kernel
theorem own_ef0 (m : MethodId) (x0 : Addr) : entryFrame m #[(.ref x0)] 1 = mkF m 0 #[.val (.ref x0)] [] := by first | (simp [entryFrame, mkF, argsToLocals, Value.category]; done) | rfl
theorem own_prog_91_method_5_0 : decode prog_91_method_5_code 0 = .ok (.aload_n 0, 1) := by decide +kernel
theorem own_prog_91_method_5_1 : decode prog_91_method_5_code 1 = .ok (.getstatic 3, 3) := by decide +kernel
theorem own_prog_91_method_5_4 : decode prog_91_method_5_code 4 = .ok (.if_acmp .eq 24, 3) := by decide +kernel
theorem own_prog_91_method_5_28 : decode prog_91_method_5_code 28 = .ok (.iconst 1, 1) := by decide +kernel
theorem own_prog_91_method_5_29 : decode prog_91_method_5_code 29 = .ok (.goto 4, 3) := by decide +kernel
theorem own_prog_91_method_5_33 : decode prog_91_method_5_code 33 = .ok (.ireturn, 1) := by decide +kernel
set_option maxRecDepth 65536 in
set_option maxHeartbeats 40000000 in
theorem own_ends_ISOLATE (l : Launch) (Z : State) (a0 : Array Value) (hw : ∀ d ∈ tables_1, d.before a0 Z = true) (ws : List Jvm.Cond) (w_ISOLATE : Addr) (h0 : Heap) (n0 : Nat) (Z0 : n0 ≤ h0.size) (S_ISOLATE : Sta Z h0 "com/example/ringshift/ringshift/net/KeyChangeStep" "ISOLATE" "Lcom/example/ringshift/ringshift/net/KeyChangeStep;" (.ref w_ISOLATE)) :
    own_Met l Z (⟨"com/example/ringshift/ringshift/net/KeyChangeStep", "endsPhase", "()Z"⟩ : MethodName) prog_91_method_5_code 1 (some .boolean) ws ({ frames := 0, cells := 0, slots := 0, locals := 0 } : Room) #[(.ref w_ISOLATE)] h0 (fun v h L => v = some (.int 1) ∧ Fr n0 L ∧ h = h0) := by
  refine own_body (plainFor_of_name own_pn_com_example_ringshift_ringshift_net_KeyChangeStep) (fun p e s m below meth c s₁ hx hby hml0 hrt hlk hown0 hnm hZ X0 e0 => ?_)
  have N0 := Fr.nil n0
  have hown : s.vm.findClass "com/example/ringshift/ringshift/net/KeyChangeStep" = some m.cls := hown0
  have hml : c.maxLocals = 1 := hml0
  refine own_castG (own_ef0 m w_ISOLATE) ?_
  show own_Goes _ _ _ _ s₁ (mkF m 0 #[.val (.ref w_ISOLATE)] [])
  refine own_step (fun t k => XS.aloadN X0.here hx rfl (hb hby own_prog_91_method_5_0) rfl rfl k) ?_
  show own_Goes _ _ _ _ s₁ (mkF m 1 #[.val (.ref w_ISOLATE)] [(.ref w_ISOLATE)])
  obtain ⟨T1, X1, e1, st1⟩ := getS2 X0 hx hZ hown (host := "") (Or.inl (hw _ (List.mem_of_getElem? (i := 25) rfl))) Via.refl e0 S_ISOLATE (g := (mkF m 1 #[.val (.ref w_ISOLATE)] [(.ref w_ISOLATE)])) rfl (hb hby own_prog_91_method_5_1)
  refine own_step st1 ?_
  show own_Goes _ _ _ _ T1 (mkF m 4 #[.val (.ref w_ISOLATE)] [(.ref w_ISOLATE), (.ref w_ISOLATE)])
  refine own_step (fun t k => Jvm.RoadKit.acmp (g := (mkF m 4 #[.val (.ref w_ISOLATE)] [(.ref w_ISOLATE), (.ref w_ISOLATE)])) X1 hx rfl rfl rfl (pc0 := 4) (pc' := 28) (same := true) rfl (hb hby own_prog_91_method_5_4) rfl (decide_eq_true rfl) (by decide) (by decide) k) ?_
  show own_Goes _ _ _ _ T1 (mkF m 28 #[.val (.ref w_ISOLATE)] [])
  refine own_step (fun t k => XS.iconst X1.here hx rfl (hb hby own_prog_91_method_5_28) k) ?_
  show own_Goes _ _ _ _ T1 (mkF m 29 #[.val (.ref w_ISOLATE)] [(.int (1 : Int32))])
  refine own_step (fun t k => XS.goto X1.here hx rfl (pc0 := 29) (pc' := 33) rfl (hb hby own_prog_91_method_5_29) (by decide) (by decide) k) ?_
  show own_Goes _ _ _ _ T1 (mkF m 33 #[.val (.ref w_ISOLATE)] [(.int (1 : Int32))])
  exact own_retN X1 hx hlk (t := .boolean) hrt (by simp) (hb hby own_prog_91_method_5_33) ⟨rfl, N0, e1⟩ (by decide) (by decide)
theorem own_prog_91_method_5_7 : decode prog_91_method_5_code 7 = .ok (.aload_n 0, 1) := by decide +kernel
theorem own_prog_91_method_5_8 : decode prog_91_method_5_code 8 = .ok (.getstatic 10, 3) := by decide +kernel
theorem own_prog_91_method_5_11 : decode prog_91_method_5_code 11 = .ok (.if_acmp .eq 17, 3) := by decide +kernel
theorem own_prog_91_method_5_14 : decode prog_91_method_5_code 14 = .ok (.aload_n 0, 1) := by decide +kernel
theorem own_prog_91_method_5_15 : decode prog_91_method_5_code 15 = .ok (.getstatic 16, 3) := by decide +kernel
theorem own_prog_91_method_5_18 : decode prog_91_method_5_code 18 = .ok (.if_acmp .eq 10, 3) := by decide +kernel
theorem own_prog_91_method_5_21 : decode prog_91_method_5_code 21 = .ok (.aload_n 0, 1) := by decide +kernel
theorem own_prog_91_method_5_22 : decode prog_91_method_5_code 22 = .ok (.getstatic 19, 3) := by decide +kernel
theorem own_prog_91_method_5_25 : decode prog_91_method_5_code 25 = .ok (.if_acmp .ne 7, 3) := by decide +kernel
theorem own_prog_91_method_5_32 : decode prog_91_method_5_code 32 = .ok (.iconst 0, 1) := by decide +kernel
set_option maxRecDepth 65536 in
set_option maxHeartbeats 40000000 in
theorem own_ends_COPY (l : Launch) (Z : State) (a0 : Array Value) (hw : ∀ d ∈ tables_1, d.before a0 Z = true) (ws : List Jvm.Cond) (w_COPY : Addr) (w_ISOLATE : Addr) (w_COUNT : Addr) (w_SWITCH : Addr) (w_CARRY : Addr) (h0 : Heap) (n0 : Nat) (Z0 : n0 ≤ h0.size) (S_ISOLATE : Sta Z h0 "com/example/ringshift/ringshift/net/KeyChangeStep" "ISOLATE" "Lcom/example/ringshift/ringshift/net/KeyChangeStep;" (.ref w_ISOLATE)) (S_COUNT : Sta Z h0 "com/example/ringshift/ringshift/net/KeyChangeStep" "COUNT" "Lcom/example/ringshift/ringshift/net/KeyChangeStep;" (.ref w_COUNT)) (S_SWITCH : Sta Z h0 "com/example/ringshift/ringshift/net/KeyChangeStep" "SWITCH" "Lcom/example/ringshift/ringshift/net/KeyChangeStep;" (.ref w_SWITCH)) (S_CARRY : Sta Z h0 "com/example/ringshift/ringshift/net/KeyChangeStep" "CARRY" "Lcom/example/ringshift/ringshift/net/KeyChangeStep;" (.ref w_CARRY)) (ne_ISOLATE : ¬ (w_COPY = w_ISOLATE)) (ne_COUNT : ¬ (w_COPY = w_COUNT)) (ne_SWITCH : ¬ (w_COPY = w_SWITCH)) (ne_CARRY : ¬ (w_COPY = w_CARRY)) :
    own_Met l Z (⟨"com/example/ringshift/ringshift/net/KeyChangeStep", "endsPhase", "()Z"⟩ : MethodName) prog_91_method_5_code 1 (some .boolean) ws ({ frames := 0, cells := 0, slots := 0, locals := 0 } : Room) #[(.ref w_COPY)] h0 (fun v h L => v = some (.int 0) ∧ Fr n0 L ∧ h = h0) := by
  refine own_body (plainFor_of_name own_pn_com_example_ringshift_ringshift_net_KeyChangeStep) (fun p e s m below meth c s₁ hx hby hml0 hrt hlk hown0 hnm hZ X0 e0 => ?_)
  have N0 := Fr.nil n0
  have hown : s.vm.findClass "com/example/ringshift/ringshift/net/KeyChangeStep" = some m.cls := hown0
  have hml : c.maxLocals = 1 := hml0
  refine own_castG (own_ef0 m w_COPY) ?_
  show own_Goes _ _ _ _ s₁ (mkF m 0 #[.val (.ref w_COPY)] [])
  refine own_step (fun t k => XS.aloadN X0.here hx rfl (hb hby own_prog_91_method_5_0) rfl rfl k) ?_
  show own_Goes _ _ _ _ s₁ (mkF m 1 #[.val (.ref w_COPY)] [(.ref w_COPY)])
  obtain ⟨T1, X1, e1, st1⟩ := getS2 X0 hx hZ hown (host := "") (Or.inl (hw _ (List.mem_of_getElem? (i := 25) rfl))) Via.refl e0 S_ISOLATE (g := (mkF m 1 #[.val (.ref w_COPY)] [(.ref w_COPY)])) rfl (hb hby own_prog_91_method_5_1)
  refine own_step st1 ?_
  show own_Goes _ _ _ _ T1 (mkF m 4 #[.val (.ref w_COPY)] [(.ref w_ISOLATE), (.ref w_COPY)])
  refine own_step (fun t k => Jvm.RoadKit.acmp (g := (mkF m 4 #[.val (.ref w_COPY)] [(.ref w_ISOLATE), (.ref w_COPY)])) X1 hx rfl rfl rfl (pc0 := 4) (pc' := 7) (same := false) rfl (hb hby own_prog_91_method_5_4) rfl (decide_eq_false fun q => ne_ISOLATE (Value.ref.inj q)) (by decide) (by decide) k) ?_
  show own_Goes _ _ _ _ T1 (mkF m 7 #[.val (.ref w_COPY)] [])
  refine own_step (fun t k => XS.aloadN X1.here hx rfl (hb hby own_prog_91_method_5_7) rfl rfl k) ?_
  show own_Goes _ _ _ _ T1 (mkF m 8 #[.val (.ref w_COPY)] [(.ref w_COPY)])
  obtain ⟨T2, X2, e2, st2⟩ := getS2 X1 hx hZ hown (host := "") (Or.inl (hw _ (List.mem_of_getElem? (i := 26) rfl))) Via.refl e1 S_COUNT (g := (mkF m 8 #[.val (.ref w_COPY)] [(.ref w_COPY)])) rfl (hb hby own_prog_91_method_5_8)
  refine own_step st2 ?_
  show own_Goes _ _ _ _ T2 (mkF m 11 #[.val (.ref w_COPY)] [(.ref w_COUNT), (.ref w_COPY)])
  refine own_step (fun t k => Jvm.RoadKit.acmp (g := (mkF m 11 #[.val (.ref w_COPY)] [(.ref w_COUNT), (.ref w_COPY)])) X2 hx rfl rfl rfl (pc0 := 11) (pc' := 14) (same := false) rfl (hb hby own_prog_91_method_5_11) rfl (decide_eq_false fun q => ne_COUNT (Value.ref.inj q)) (by decide) (by decide) k) ?_
  show own_Goes _ _ _ _ T2 (mkF m 14 #[.val (.ref w_COPY)] [])
  refine own_step (fun t k => XS.aloadN X2.here hx rfl (hb hby own_prog_91_method_5_14) rfl rfl k) ?_
  show own_Goes _ _ _ _ T2 (mkF m 15 #[.val (.ref w_COPY)] [(.ref w_COPY)])
  obtain ⟨T3, X3, e3, st3⟩ := getS2 X2 hx hZ hown (host := "") (Or.inl (hw _ (List.mem_of_getElem? (i := 27) rfl))) Via.refl e2 S_SWITCH (g := (mkF m 15 #[.val (.ref w_COPY)] [(.ref w_COPY)])) rfl (hb hby own_prog_91_method_5_15)
  refine own_step st3 ?_
  show own_Goes _ _ _ _ T3 (mkF m 18 #[.val (.ref w_COPY)] [(.ref w_SWITCH), (.ref w_COPY)])
  refine own_step (fun t k => Jvm.RoadKit.acmp (g := (mkF m 18 #[.val (.ref w_COPY)] [(.ref w_SWITCH), (.ref w_COPY)])) X3 hx rfl rfl rfl (pc0 := 18) (pc' := 21) (same := false) rfl (hb hby own_prog_91_method_5_18) rfl (decide_eq_false fun q => ne_SWITCH (Value.ref.inj q)) (by decide) (by decide) k) ?_
  show own_Goes _ _ _ _ T3 (mkF m 21 #[.val (.ref w_COPY)] [])
  refine own_step (fun t k => XS.aloadN X3.here hx rfl (hb hby own_prog_91_method_5_21) rfl rfl k) ?_
  show own_Goes _ _ _ _ T3 (mkF m 22 #[.val (.ref w_COPY)] [(.ref w_COPY)])
  obtain ⟨T4, X4, e4, st4⟩ := getS2 X3 hx hZ hown (host := "") (Or.inl (hw _ (List.mem_of_getElem? (i := 28) rfl))) Via.refl e3 S_CARRY (g := (mkF m 22 #[.val (.ref w_COPY)] [(.ref w_COPY)])) rfl (hb hby own_prog_91_method_5_22)
  refine own_step st4 ?_
  show own_Goes _ _ _ _ T4 (mkF m 25 #[.val (.ref w_COPY)] [(.ref w_CARRY), (.ref w_COPY)])
  refine own_step (fun t k => Jvm.RoadKit.acmp (g := (mkF m 25 #[.val (.ref w_COPY)] [(.ref w_CARRY), (.ref w_COPY)])) X4 hx rfl rfl rfl (pc0 := 25) (pc' := 32) (same := false) rfl (hb hby own_prog_91_method_5_25) rfl (decide_eq_false fun q => ne_CARRY (Value.ref.inj q)) (by decide) (by decide) k) ?_
  show own_Goes _ _ _ _ T4 (mkF m 32 #[.val (.ref w_COPY)] [])
  refine own_step (fun t k => XS.iconst X4.here hx rfl (hb hby own_prog_91_method_5_32) k) ?_
  show own_Goes _ _ _ _ T4 (mkF m 33 #[.val (.ref w_COPY)] [(.int (0 : Int32))])
  exact own_retN X4 hx hlk (t := .boolean) hrt (by simp) (hb hby own_prog_91_method_5_33) ⟨rfl, N0, e4⟩ (by decide) (by decide)
set_option maxRecDepth 65536 in
set_option maxHeartbeats 40000000 in
theorem own_ends_COUNT (l : Launch) (Z : State) (a0 : Array Value) (hw : ∀ d ∈ tables_1, d.before a0 Z = true) (ws : List Jvm.Cond) (w_COUNT : Addr) (w_ISOLATE : Addr) (h0 : Heap) (n0 : Nat) (Z0 : n0 ≤ h0.size) (S_ISOLATE : Sta Z h0 "com/example/ringshift/ringshift/net/KeyChangeStep" "ISOLATE" "Lcom/example/ringshift/ringshift/net/KeyChangeStep;" (.ref w_ISOLATE)) (S_COUNT : Sta Z h0 "com/example/ringshift/ringshift/net/KeyChangeStep" "COUNT" "Lcom/example/ringshift/ringshift/net/KeyChangeStep;" (.ref w_COUNT)) (ne_ISOLATE : ¬ (w_COUNT = w_ISOLATE)) :
    own_Met l Z (⟨"com/example/ringshift/ringshift/net/KeyChangeStep", "endsPhase", "()Z"⟩ : MethodName) prog_91_method_5_code 1 (some .boolean) ws ({ frames := 0, cells := 0, slots := 0, locals := 0 } : Room) #[(.ref w_COUNT)] h0 (fun v h L => v = some (.int 1) ∧ Fr n0 L ∧ h = h0) := by
  refine own_body (plainFor_of_name own_pn_com_example_ringshift_ringshift_net_KeyChangeStep) (fun p e s m below meth c s₁ hx hby hml0 hrt hlk hown0 hnm hZ X0 e0 => ?_)
  have N0 := Fr.nil n0
  have hown : s.vm.findClass "com/example/ringshift/ringshift/net/KeyChangeStep" = some m.cls := hown0
  have hml : c.maxLocals = 1 := hml0
  refine own_castG (own_ef0 m w_COUNT) ?_
  show own_Goes _ _ _ _ s₁ (mkF m 0 #[.val (.ref w_COUNT)] [])
  refine own_step (fun t k => XS.aloadN X0.here hx rfl (hb hby own_prog_91_method_5_0) rfl rfl k) ?_
  show own_Goes _ _ _ _ s₁ (mkF m 1 #[.val (.ref w_COUNT)] [(.ref w_COUNT)])
  obtain ⟨T1, X1, e1, st1⟩ := getS2 X0 hx hZ hown (host := "") (Or.inl (hw _ (List.mem_of_getElem? (i := 25) rfl))) Via.refl e0 S_ISOLATE (g := (mkF m 1 #[.val (.ref w_COUNT)] [(.ref w_COUNT)])) rfl (hb hby own_prog_91_method_5_1)
  refine own_step st1 ?_
  show own_Goes _ _ _ _ T1 (mkF m 4 #[.val (.ref w_COUNT)] [(.ref w_ISOLATE), (.ref w_COUNT)])
  refine own_step (fun t k => Jvm.RoadKit.acmp (g := (mkF m 4 #[.val (.ref w_COUNT)] [(.ref w_ISOLATE), (.ref w_COUNT)])) X1 hx rfl rfl rfl (pc0 := 4) (pc' := 7) (same := false) rfl (hb hby own_prog_91_method_5_4) rfl (decide_eq_false fun q => ne_ISOLATE (Value.ref.inj q)) (by decide) (by decide) k) ?_
  show own_Goes _ _ _ _ T1 (mkF m 7 #[.val (.ref w_COUNT)] [])
  refine own_step (fun t k => XS.aloadN X1.here hx rfl (hb hby own_prog_91_method_5_7) rfl rfl k) ?_
  show own_Goes _ _ _ _ T1 (mkF m 8 #[.val (.ref w_COUNT)] [(.ref w_COUNT)])
  obtain ⟨T2, X2, e2, st2⟩ := getS2 X1 hx hZ hown (host := "") (Or.inl (hw _ (List.mem_of_getElem? (i := 26) rfl))) Via.refl e1 S_COUNT (g := (mkF m 8 #[.val (.ref w_COUNT)] [(.ref w_COUNT)])) rfl (hb hby own_prog_91_method_5_8)
  refine own_step st2 ?_
  show own_Goes _ _ _ _ T2 (mkF m 11 #[.val (.ref w_COUNT)] [(.ref w_COUNT), (.ref w_COUNT)])
  refine own_step (fun t k => Jvm.RoadKit.acmp (g := (mkF m 11 #[.val (.ref w_COUNT)] [(.ref w_COUNT), (.ref w_COUNT)])) X2 hx rfl rfl rfl (pc0 := 11) (pc' := 28) (same := true) rfl (hb hby own_prog_91_method_5_11) rfl (decide_eq_true rfl) (by decide) (by decide) k) ?_
  show own_Goes _ _ _ _ T2 (mkF m 28 #[.val (.ref w_COUNT)] [])
  refine own_step (fun t k => XS.iconst X2.here hx rfl (hb hby own_prog_91_method_5_28) k) ?_
  show own_Goes _ _ _ _ T2 (mkF m 29 #[.val (.ref w_COUNT)] [(.int (1 : Int32))])
  refine own_step (fun t k => XS.goto X2.here hx rfl (pc0 := 29) (pc' := 33) rfl (hb hby own_prog_91_method_5_29) (by decide) (by decide) k) ?_
  show own_Goes _ _ _ _ T2 (mkF m 33 #[.val (.ref w_COUNT)] [(.int (1 : Int32))])
  exact own_retN X2 hx hlk (t := .boolean) hrt (by simp) (hb hby own_prog_91_method_5_33) ⟨rfl, N0, e2⟩ (by decide) (by decide)
set_option maxRecDepth 65536 in
set_option maxHeartbeats 40000000 in
theorem own_ends_PREPARE (l : Launch) (Z : State) (a0 : Array Value) (hw : ∀ d ∈ tables_1, d.before a0 Z = true) (ws : List Jvm.Cond) (w_PREPARE : Addr) (w_ISOLATE : Addr) (w_COUNT : Addr) (w_SWITCH : Addr) (w_CARRY : Addr) (h0 : Heap) (n0 : Nat) (Z0 : n0 ≤ h0.size) (S_ISOLATE : Sta Z h0 "com/example/ringshift/ringshift/net/KeyChangeStep" "ISOLATE" "Lcom/example/ringshift/ringshift/net/KeyChangeStep;" (.ref w_ISOLATE)) (S_COUNT : Sta Z h0 "com/example/ringshift/ringshift/net/KeyChangeStep" "COUNT" "Lcom/example/ringshift/ringshift/net/KeyChangeStep;" (.ref w_COUNT)) (S_SWITCH : Sta Z h0 "com/example/ringshift/ringshift/net/KeyChangeStep" "SWITCH" "Lcom/example/ringshift/ringshift/net/KeyChangeStep;" (.ref w_SWITCH)) (S_CARRY : Sta Z h0 "com/example/ringshift/ringshift/net/KeyChangeStep" "CARRY" "Lcom/example/ringshift/ringshift/net/KeyChangeStep;" (.ref w_CARRY)) (ne_ISOLATE : ¬ (w_PREPARE = w_ISOLATE)) (ne_COUNT : ¬ (w_PREPARE = w_COUNT)) (ne_SWITCH : ¬ (w_PREPARE = w_SWITCH)) (ne_CARRY : ¬ (w_PREPARE = w_CARRY)) :
    own_Met l Z (⟨"com/example/ringshift/ringshift/net/KeyChangeStep", "endsPhase", "()Z"⟩ : MethodName) prog_91_method_5_code 1 (some .boolean) ws ({ frames := 0, cells := 0, slots := 0, locals := 0 } : Room) #[(.ref w_PREPARE)] h0 (fun v h L => v = some (.int 0) ∧ Fr n0 L ∧ h = h0) := by
  refine own_body (plainFor_of_name own_pn_com_example_ringshift_ringshift_net_KeyChangeStep) (fun p e s m below meth c s₁ hx hby hml0 hrt hlk hown0 hnm hZ X0 e0 => ?_)
  have N0 := Fr.nil n0
  have hown : s.vm.findClass "com/example/ringshift/ringshift/net/KeyChangeStep" = some m.cls := hown0
  have hml : c.maxLocals = 1 := hml0
  refine own_castG (own_ef0 m w_PREPARE) ?_
  show own_Goes _ _ _ _ s₁ (mkF m 0 #[.val (.ref w_PREPARE)] [])
  refine own_step (fun t k => XS.aloadN X0.here hx rfl (hb hby own_prog_91_method_5_0) rfl rfl k) ?_
  show own_Goes _ _ _ _ s₁ (mkF m 1 #[.val (.ref w_PREPARE)] [(.ref w_PREPARE)])
  obtain ⟨T1, X1, e1, st1⟩ := getS2 X0 hx hZ hown (host := "") (Or.inl (hw _ (List.mem_of_getElem? (i := 25) rfl))) Via.refl e0 S_ISOLATE (g := (mkF m 1 #[.val (.ref w_PREPARE)] [(.ref w_PREPARE)])) rfl (hb hby own_prog_91_method_5_1)
  refine own_step st1 ?_
  show own_Goes _ _ _ _ T1 (mkF m 4 #[.val (.ref w_PREPARE)] [(.ref w_ISOLATE), (.ref w_PREPARE)])
  refine own_step (fun t k => Jvm.RoadKit.acmp (g := (mkF m 4 #[.val (.ref w_PREPARE)] [(.ref w_ISOLATE), (.ref w_PREPARE)])) X1 hx rfl rfl rfl (pc0 := 4) (pc' := 7) (same := false) rfl (hb hby own_prog_91_method_5_4) rfl (decide_eq_false fun q => ne_ISOLATE (Value.ref.inj q)) (by decide) (by decide) k) ?_
  show own_Goes _ _ _ _ T1 (mkF m 7 #[.val (.ref w_PREPARE)] [])
  refine own_step (fun t k => XS.aloadN X1.here hx rfl (hb hby own_prog_91_method_5_7) rfl rfl k) ?_
  show own_Goes _ _ _ _ T1 (mkF m 8 #[.val (.ref w_PREPARE)] [(.ref w_PREPARE)])
  obtain ⟨T2, X2, e2, st2⟩ := getS2 X1 hx hZ hown (host := "") (Or.inl (hw _ (List.mem_of_getElem? (i := 26) rfl))) Via.refl e1 S_COUNT (g := (mkF m 8 #[.val (.ref w_PREPARE)] [(.ref w_PREPARE)])) rfl (hb hby own_prog_91_method_5_8)
  refine own_step st2 ?_
  show own_Goes _ _ _ _ T2 (mkF m 11 #[.val (.ref w_PREPARE)] [(.ref w_COUNT), (.ref w_PREPARE)])
  refine own_step (fun t k => Jvm.RoadKit.acmp (g := (mkF m 11 #[.val (.ref w_PREPARE)] [(.ref w_COUNT), (.ref w_PREPARE)])) X2 hx rfl rfl rfl (pc0 := 11) (pc' := 14) (same := false) rfl (hb hby own_prog_91_method_5_11) rfl (decide_eq_false fun q => ne_COUNT (Value.ref.inj q)) (by decide) (by decide) k) ?_
  show own_Goes _ _ _ _ T2 (mkF m 14 #[.val (.ref w_PREPARE)] [])
  refine own_step (fun t k => XS.aloadN X2.here hx rfl (hb hby own_prog_91_method_5_14) rfl rfl k) ?_
  show own_Goes _ _ _ _ T2 (mkF m 15 #[.val (.ref w_PREPARE)] [(.ref w_PREPARE)])
  obtain ⟨T3, X3, e3, st3⟩ := getS2 X2 hx hZ hown (host := "") (Or.inl (hw _ (List.mem_of_getElem? (i := 27) rfl))) Via.refl e2 S_SWITCH (g := (mkF m 15 #[.val (.ref w_PREPARE)] [(.ref w_PREPARE)])) rfl (hb hby own_prog_91_method_5_15)
  refine own_step st3 ?_
  show own_Goes _ _ _ _ T3 (mkF m 18 #[.val (.ref w_PREPARE)] [(.ref w_SWITCH), (.ref w_PREPARE)])
  refine own_step (fun t k => Jvm.RoadKit.acmp (g := (mkF m 18 #[.val (.ref w_PREPARE)] [(.ref w_SWITCH), (.ref w_PREPARE)])) X3 hx rfl rfl rfl (pc0 := 18) (pc' := 21) (same := false) rfl (hb hby own_prog_91_method_5_18) rfl (decide_eq_false fun q => ne_SWITCH (Value.ref.inj q)) (by decide) (by decide) k) ?_
  show own_Goes _ _ _ _ T3 (mkF m 21 #[.val (.ref w_PREPARE)] [])
  refine own_step (fun t k => XS.aloadN X3.here hx rfl (hb hby own_prog_91_method_5_21) rfl rfl k) ?_
  show own_Goes _ _ _ _ T3 (mkF m 22 #[.val (.ref w_PREPARE)] [(.ref w_PREPARE)])
  obtain ⟨T4, X4, e4, st4⟩ := getS2 X3 hx hZ hown (host := "") (Or.inl (hw _ (List.mem_of_getElem? (i := 28) rfl))) Via.refl e3 S_CARRY (g := (mkF m 22 #[.val (.ref w_PREPARE)] [(.ref w_PREPARE)])) rfl (hb hby own_prog_91_method_5_22)
  refine own_step st4 ?_
  show own_Goes _ _ _ _ T4 (mkF m 25 #[.val (.ref w_PREPARE)] [(.ref w_CARRY), (.ref w_PREPARE)])
  refine own_step (fun t k => Jvm.RoadKit.acmp (g := (mkF m 25 #[.val (.ref w_PREPARE)] [(.ref w_CARRY), (.ref w_PREPARE)])) X4 hx rfl rfl rfl (pc0 := 25) (pc' := 32) (same := false) rfl (hb hby own_prog_91_method_5_25) rfl (decide_eq_false fun q => ne_CARRY (Value.ref.inj q)) (by decide) (by decide) k) ?_
  show own_Goes _ _ _ _ T4 (mkF m 32 #[.val (.ref w_PREPARE)] [])
  refine own_step (fun t k => XS.iconst X4.here hx rfl (hb hby own_prog_91_method_5_32) k) ?_
  show own_Goes _ _ _ _ T4 (mkF m 33 #[.val (.ref w_PREPARE)] [(.int (0 : Int32))])
  exact own_retN X4 hx hlk (t := .boolean) hrt (by simp) (hb hby own_prog_91_method_5_33) ⟨rfl, N0, e4⟩ (by decide) (by decide)
set_option maxRecDepth 65536 in
set_option maxHeartbeats 40000000 in
theorem own_ends_SWITCH (l : Launch) (Z : State) (a0 : Array Value) (hw : ∀ d ∈ tables_1, d.before a0 Z = true) (ws : List Jvm.Cond) (w_SWITCH : Addr) (w_ISOLATE : Addr) (w_COUNT : Addr) (h0 : Heap) (n0 : Nat) (Z0 : n0 ≤ h0.size) (S_ISOLATE : Sta Z h0 "com/example/ringshift/ringshift/net/KeyChangeStep" "ISOLATE" "Lcom/example/ringshift/ringshift/net/KeyChangeStep;" (.ref w_ISOLATE)) (S_COUNT : Sta Z h0 "com/example/ringshift/ringshift/net/KeyChangeStep" "COUNT" "Lcom/example/ringshift/ringshift/net/KeyChangeStep;" (.ref w_COUNT)) (S_SWITCH : Sta Z h0 "com/example/ringshift/ringshift/net/KeyChangeStep" "SWITCH" "Lcom/example/ringshift/ringshift/net/KeyChangeStep;" (.ref w_SWITCH)) (ne_ISOLATE : ¬ (w_SWITCH = w_ISOLATE)) (ne_COUNT : ¬ (w_SWITCH = w_COUNT)) :
    own_Met l Z (⟨"com/example/ringshift/ringshift/net/KeyChangeStep", "endsPhase", "()Z"⟩ : MethodName) prog_91_method_5_code 1 (some .boolean) ws ({ frames := 0, cells := 0, slots := 0, locals := 0 } : Room) #[(.ref w_SWITCH)] h0 (fun v h L => v = some (.int 1) ∧ Fr n0 L ∧ h = h0) := by
  refine own_body (plainFor_of_name own_pn_com_example_ringshift_ringshift_net_KeyChangeStep) (fun p e s m below meth c s₁ hx hby hml0 hrt hlk hown0 hnm hZ X0 e0 => ?_)
  have N0 := Fr.nil n0
  have hown : s.vm.findClass "com/example/ringshift/ringshift/net/KeyChangeStep" = some m.cls := hown0
  have hml : c.maxLocals = 1 := hml0
  refine own_castG (own_ef0 m w_SWITCH) ?_
  show own_Goes _ _ _ _ s₁ (mkF m 0 #[.val (.ref w_SWITCH)] [])
  refine own_step (fun t k => XS.aloadN X0.here hx rfl (hb hby own_prog_91_method_5_0) rfl rfl k) ?_
  show own_Goes _ _ _ _ s₁ (mkF m 1 #[.val (.ref w_SWITCH)] [(.ref w_SWITCH)])
  obtain ⟨T1, X1, e1, st1⟩ := getS2 X0 hx hZ hown (host := "") (Or.inl (hw _ (List.mem_of_getElem? (i := 25) rfl))) Via.refl e0 S_ISOLATE (g := (mkF m 1 #[.val (.ref w_SWITCH)] [(.ref w_SWITCH)])) rfl (hb hby own_prog_91_method_5_1)
  refine own_step st1 ?_
  show own_Goes _ _ _ _ T1 (mkF m 4 #[.val (.ref w_SWITCH)] [(.ref w_ISOLATE), (.ref w_SWITCH)])
  refine own_step (fun t k => Jvm.RoadKit.acmp (g := (mkF m 4 #[.val (.ref w_SWITCH)] [(.ref w_ISOLATE), (.ref w_SWITCH)])) X1 hx rfl rfl rfl (pc0 := 4) (pc' := 7) (same := false) rfl (hb hby own_prog_91_method_5_4) rfl (decide_eq_false fun q => ne_ISOLATE (Value.ref.inj q)) (by decide) (by decide) k) ?_
  show own_Goes _ _ _ _ T1 (mkF m 7 #[.val (.ref w_SWITCH)] [])
  refine own_step (fun t k => XS.aloadN X1.here hx rfl (hb hby own_prog_91_method_5_7) rfl rfl k) ?_
  show own_Goes _ _ _ _ T1 (mkF m 8 #[.val (.ref w_SWITCH)] [(.ref w_SWITCH)])
  obtain ⟨T2, X2, e2, st2⟩ := getS2 X1 hx hZ hown (host := "") (Or.inl (hw _ (List.mem_of_getElem? (i := 26) rfl))) Via.refl e1 S_COUNT (g := (mkF m 8 #[.val (.ref w_SWITCH)] [(.ref w_SWITCH)])) rfl (hb hby own_prog_91_method_5_8)
  refine own_step st2 ?_
  show own_Goes _ _ _ _ T2 (mkF m 11 #[.val (.ref w_SWITCH)] [(.ref w_COUNT), (.ref w_SWITCH)])
  refine own_step (fun t k => Jvm.RoadKit.acmp (g := (mkF m 11 #[.val (.ref w_SWITCH)] [(.ref w_COUNT), (.ref w_SWITCH)])) X2 hx rfl rfl rfl (pc0 := 11) (pc' := 14) (same := false) rfl (hb hby own_prog_91_method_5_11) rfl (decide_eq_false fun q => ne_COUNT (Value.ref.inj q)) (by decide) (by decide) k) ?_
  show own_Goes _ _ _ _ T2 (mkF m 14 #[.val (.ref w_SWITCH)] [])
  refine own_step (fun t k => XS.aloadN X2.here hx rfl (hb hby own_prog_91_method_5_14) rfl rfl k) ?_
  show own_Goes _ _ _ _ T2 (mkF m 15 #[.val (.ref w_SWITCH)] [(.ref w_SWITCH)])
  obtain ⟨T3, X3, e3, st3⟩ := getS2 X2 hx hZ hown (host := "") (Or.inl (hw _ (List.mem_of_getElem? (i := 27) rfl))) Via.refl e2 S_SWITCH (g := (mkF m 15 #[.val (.ref w_SWITCH)] [(.ref w_SWITCH)])) rfl (hb hby own_prog_91_method_5_15)
  refine own_step st3 ?_
  show own_Goes _ _ _ _ T3 (mkF m 18 #[.val (.ref w_SWITCH)] [(.ref w_SWITCH), (.ref w_SWITCH)])
  refine own_step (fun t k => Jvm.RoadKit.acmp (g := (mkF m 18 #[.val (.ref w_SWITCH)] [(.ref w_SWITCH), (.ref w_SWITCH)])) X3 hx rfl rfl rfl (pc0 := 18) (pc' := 28) (same := true) rfl (hb hby own_prog_91_method_5_18) rfl (decide_eq_true rfl) (by decide) (by decide) k) ?_
  show own_Goes _ _ _ _ T3 (mkF m 28 #[.val (.ref w_SWITCH)] [])
  refine own_step (fun t k => XS.iconst X3.here hx rfl (hb hby own_prog_91_method_5_28) k) ?_
  show own_Goes _ _ _ _ T3 (mkF m 29 #[.val (.ref w_SWITCH)] [(.int (1 : Int32))])
  refine own_step (fun t k => XS.goto X3.here hx rfl (pc0 := 29) (pc' := 33) rfl (hb hby own_prog_91_method_5_29) (by decide) (by decide) k) ?_
  show own_Goes _ _ _ _ T3 (mkF m 33 #[.val (.ref w_SWITCH)] [(.int (1 : Int32))])
  exact own_retN X3 hx hlk (t := .boolean) hrt (by simp) (hb hby own_prog_91_method_5_33) ⟨rfl, N0, e3⟩ (by decide) (by decide)
set_option maxRecDepth 65536 in
set_option maxHeartbeats 40000000 in
theorem own_ends_CARRY (l : Launch) (Z : State) (a0 : Array Value) (hw : ∀ d ∈ tables_1, d.before a0 Z = true) (ws : List Jvm.Cond) (w_CARRY : Addr) (w_ISOLATE : Addr) (w_COUNT : Addr) (w_SWITCH : Addr) (h0 : Heap) (n0 : Nat) (Z0 : n0 ≤ h0.size) (S_ISOLATE : Sta Z h0 "com/example/ringshift/ringshift/net/KeyChangeStep" "ISOLATE" "Lcom/example/ringshift/ringshift/net/KeyChangeStep;" (.ref w_ISOLATE)) (S_COUNT : Sta Z h0 "com/example/ringshift/ringshift/net/KeyChangeStep" "COUNT" "Lcom/example/ringshift/ringshift/net/KeyChangeStep;" (.ref w_COUNT)) (S_SWITCH : Sta Z h0 "com/example/ringshift/ringshift/net/KeyChangeStep" "SWITCH" "Lcom/example/ringshift/ringshift/net/KeyChangeStep;" (.ref w_SWITCH)) (S_CARRY : Sta Z h0 "com/example/ringshift/ringshift/net/KeyChangeStep" "CARRY" "Lcom/example/ringshift/ringshift/net/KeyChangeStep;" (.ref w_CARRY)) (ne_ISOLATE : ¬ (w_CARRY = w_ISOLATE)) (ne_COUNT : ¬ (w_CARRY = w_COUNT)) (ne_SWITCH : ¬ (w_CARRY = w_SWITCH)) :
    own_Met l Z (⟨"com/example/ringshift/ringshift/net/KeyChangeStep", "endsPhase", "()Z"⟩ : MethodName) prog_91_method_5_code 1 (some .boolean) ws ({ frames := 0, cells := 0, slots := 0, locals := 0 } : Room) #[(.ref w_CARRY)] h0 (fun v h L => v = some (.int 1) ∧ Fr n0 L ∧ h = h0) := by
  refine own_body (plainFor_of_name own_pn_com_example_ringshift_ringshift_net_KeyChangeStep) (fun p e s m below meth c s₁ hx hby hml0 hrt hlk hown0 hnm hZ X0 e0 => ?_)
  have N0 := Fr.nil n0
  have hown : s.vm.findClass "com/example/ringshift/ringshift/net/KeyChangeStep" = some m.cls := hown0
  have hml : c.maxLocals = 1 := hml0
  refine own_castG (own_ef0 m w_CARRY) ?_
  show own_Goes _ _ _ _ s₁ (mkF m 0 #[.val (.ref w_CARRY)] [])
  refine own_step (fun t k => XS.aloadN X0.here hx rfl (hb hby own_prog_91_method_5_0) rfl rfl k) ?_
  show own_Goes _ _ _ _ s₁ (mkF m 1 #[.val (.ref w_CARRY)] [(.ref w_CARRY)])
  obtain ⟨T1, X1, e1, st1⟩ := getS2 X0 hx hZ hown (host := "") (Or.inl (hw _ (List.mem_of_getElem? (i := 25) rfl))) Via.refl e0 S_ISOLATE (g := (mkF m 1 #[.val (.ref w_CARRY)] [(.ref w_CARRY)])) rfl (hb hby own_prog_91_method_5_1)
  refine own_step st1 ?_
  show own_Goes _ _ _ _ T1 (mkF m 4 #[.val (.ref w_CARRY)] [(.ref w_ISOLATE), (.ref w_CARRY)])
  refine own_step (fun t k => Jvm.RoadKit.acmp (g := (mkF m 4 #[.val (.ref w_CARRY)] [(.ref w_ISOLATE), (.ref w_CARRY)])) X1 hx rfl rfl rfl (pc0 := 4) (pc' := 7) (same := false) rfl (hb hby own_prog_91_method_5_4) rfl (decide_eq_false fun q => ne_ISOLATE (Value.ref.inj q)) (by decide) (by decide) k) ?_
  show own_Goes _ _ _ _ T1 (mkF m 7 #[.val (.ref w_CARRY)] [])
  refine own_step (fun t k => XS.aloadN X1.here hx rfl (hb hby own_prog_91_method_5_7) rfl rfl k) ?_
  show own_Goes _ _ _ _ T1 (mkF m 8 #[.val (.ref w_CARRY)] [(.ref w_CARRY)])
  obtain ⟨T2, X2, e2, st2⟩ := getS2 X1 hx hZ hown (host := "") (Or.inl (hw _ (List.mem_of_getElem? (i := 26) rfl))) Via.refl e1 S_COUNT (g := (mkF m 8 #[.val (.ref w_CARRY)] [(.ref w_CARRY)])) rfl (hb hby own_prog_91_method_5_8)
  refine own_step st2 ?_
  show own_Goes _ _ _ _ T2 (mkF m 11 #[.val (.ref w_CARRY)] [(.ref w_COUNT), (.ref w_CARRY)])
  refine own_step (fun t k => Jvm.RoadKit.acmp (g := (mkF m 11 #[.val (.ref w_CARRY)] [(.ref w_COUNT), (.ref w_CARRY)])) X2 hx rfl rfl rfl (pc0 := 11) (pc' := 14) (same := false) rfl (hb hby own_prog_91_method_5_11) rfl (decide_eq_false fun q => ne_COUNT (Value.ref.inj q)) (by decide) (by decide) k) ?_
  show own_Goes _ _ _ _ T2 (mkF m 14 #[.val (.ref w_CARRY)] [])
  refine own_step (fun t k => XS.aloadN X2.here hx rfl (hb hby own_prog_91_method_5_14) rfl rfl k) ?_
  show own_Goes _ _ _ _ T2 (mkF m 15 #[.val (.ref w_CARRY)] [(.ref w_CARRY)])
  obtain ⟨T3, X3, e3, st3⟩ := getS2 X2 hx hZ hown (host := "") (Or.inl (hw _ (List.mem_of_getElem? (i := 27) rfl))) Via.refl e2 S_SWITCH (g := (mkF m 15 #[.val (.ref w_CARRY)] [(.ref w_CARRY)])) rfl (hb hby own_prog_91_method_5_15)
  refine own_step st3 ?_
  show own_Goes _ _ _ _ T3 (mkF m 18 #[.val (.ref w_CARRY)] [(.ref w_SWITCH), (.ref w_CARRY)])
  refine own_step (fun t k => Jvm.RoadKit.acmp (g := (mkF m 18 #[.val (.ref w_CARRY)] [(.ref w_SWITCH), (.ref w_CARRY)])) X3 hx rfl rfl rfl (pc0 := 18) (pc' := 21) (same := false) rfl (hb hby own_prog_91_method_5_18) rfl (decide_eq_false fun q => ne_SWITCH (Value.ref.inj q)) (by decide) (by decide) k) ?_
  show own_Goes _ _ _ _ T3 (mkF m 21 #[.val (.ref w_CARRY)] [])
  refine own_step (fun t k => XS.aloadN X3.here hx rfl (hb hby own_prog_91_method_5_21) rfl rfl k) ?_
  show own_Goes _ _ _ _ T3 (mkF m 22 #[.val (.ref w_CARRY)] [(.ref w_CARRY)])
  obtain ⟨T4, X4, e4, st4⟩ := getS2 X3 hx hZ hown (host := "") (Or.inl (hw _ (List.mem_of_getElem? (i := 28) rfl))) Via.refl e3 S_CARRY (g := (mkF m 22 #[.val (.ref w_CARRY)] [(.ref w_CARRY)])) rfl (hb hby own_prog_91_method_5_22)
  refine own_step st4 ?_
  show own_Goes _ _ _ _ T4 (mkF m 25 #[.val (.ref w_CARRY)] [(.ref w_CARRY), (.ref w_CARRY)])
  refine own_step (fun t k => Jvm.RoadKit.acmp (g := (mkF m 25 #[.val (.ref w_CARRY)] [(.ref w_CARRY), (.ref w_CARRY)])) X4 hx rfl rfl rfl (pc0 := 25) (pc' := 28) (same := true) rfl (hb hby own_prog_91_method_5_25) rfl (decide_eq_true rfl) (by decide) (by decide) k) ?_
  show own_Goes _ _ _ _ T4 (mkF m 28 #[.val (.ref w_CARRY)] [])
  refine own_step (fun t k => XS.iconst X4.here hx rfl (hb hby own_prog_91_method_5_28) k) ?_
  show own_Goes _ _ _ _ T4 (mkF m 29 #[.val (.ref w_CARRY)] [(.int (1 : Int32))])
  refine own_step (fun t k => XS.goto X4.here hx rfl (pc0 := 29) (pc' := 33) rfl (hb hby own_prog_91_method_5_29) (by decide) (by decide) k) ?_
  show own_Goes _ _ _ _ T4 (mkF m 33 #[.val (.ref w_CARRY)] [(.int (1 : Int32))])
  exact own_retN X4 hx hlk (t := .boolean) hrt (by simp) (hb hby own_prog_91_method_5_33) ⟨rfl, N0, e4⟩ (by decide) (by decide)
set_option maxRecDepth 65536 in
set_option maxHeartbeats 40000000 in
theorem own_ends_ABANDON (l : Launch) (Z : State) (a0 : Array Value) (hw : ∀ d ∈ tables_1, d.before a0 Z = true) (ws : List Jvm.Cond) (w_ABANDON : Addr) (w_ISOLATE : Addr) (w_COUNT : Addr) (w_SWITCH : Addr) (w_CARRY : Addr) (h0 : Heap) (n0 : Nat) (Z0 : n0 ≤ h0.size) (S_ISOLATE : Sta Z h0 "com/example/ringshift/ringshift/net/KeyChangeStep" "ISOLATE" "Lcom/example/ringshift/ringshift/net/KeyChangeStep;" (.ref w_ISOLATE)) (S_COUNT : Sta Z h0 "com/example/ringshift/ringshift/net/KeyChangeStep" "COUNT" "Lcom/example/ringshift/ringshift/net/KeyChangeStep;" (.ref w_COUNT)) (S_SWITCH : Sta Z h0 "com/example/ringshift/ringshift/net/KeyChangeStep" "SWITCH" "Lcom/example/ringshift/ringshift/net/KeyChangeStep;" (.ref w_SWITCH)) (S_CARRY : Sta Z h0 "com/example/ringshift/ringshift/net/KeyChangeStep" "CARRY" "Lcom/example/ringshift/ringshift/net/KeyChangeStep;" (.ref w_CARRY)) (ne_ISOLATE : ¬ (w_ABANDON = w_ISOLATE)) (ne_COUNT : ¬ (w_ABANDON = w_COUNT)) (ne_SWITCH : ¬ (w_ABANDON = w_SWITCH)) (ne_CARRY : ¬ (w_ABANDON = w_CARRY)) :
    own_Met l Z (⟨"com/example/ringshift/ringshift/net/KeyChangeStep", "endsPhase", "()Z"⟩ : MethodName) prog_91_method_5_code 1 (some .boolean) ws ({ frames := 0, cells := 0, slots := 0, locals := 0 } : Room) #[(.ref w_ABANDON)] h0 (fun v h L => v = some (.int 0) ∧ Fr n0 L ∧ h = h0) := by
  refine own_body (plainFor_of_name own_pn_com_example_ringshift_ringshift_net_KeyChangeStep) (fun p e s m below meth c s₁ hx hby hml0 hrt hlk hown0 hnm hZ X0 e0 => ?_)
  have N0 := Fr.nil n0
  have hown : s.vm.findClass "com/example/ringshift/ringshift/net/KeyChangeStep" = some m.cls := hown0
  have hml : c.maxLocals = 1 := hml0
  refine own_castG (own_ef0 m w_ABANDON) ?_
  show own_Goes _ _ _ _ s₁ (mkF m 0 #[.val (.ref w_ABANDON)] [])
  refine own_step (fun t k => XS.aloadN X0.here hx rfl (hb hby own_prog_91_method_5_0) rfl rfl k) ?_
  show own_Goes _ _ _ _ s₁ (mkF m 1 #[.val (.ref w_ABANDON)] [(.ref w_ABANDON)])
  obtain ⟨T1, X1, e1, st1⟩ := getS2 X0 hx hZ hown (host := "") (Or.inl (hw _ (List.mem_of_getElem? (i := 25) rfl))) Via.refl e0 S_ISOLATE (g := (mkF m 1 #[.val (.ref w_ABANDON)] [(.ref w_ABANDON)])) rfl (hb hby own_prog_91_method_5_1)
  refine own_step st1 ?_
  show own_Goes _ _ _ _ T1 (mkF m 4 #[.val (.ref w_ABANDON)] [(.ref w_ISOLATE), (.ref w_ABANDON)])
  refine own_step (fun t k => Jvm.RoadKit.acmp (g := (mkF m 4 #[.val (.ref w_ABANDON)] [(.ref w_ISOLATE), (.ref w_ABANDON)])) X1 hx rfl rfl rfl (pc0 := 4) (pc' := 7) (same := false) rfl (hb hby own_prog_91_method_5_4) rfl (decide_eq_false fun q => ne_ISOLATE (Value.ref.inj q)) (by decide) (by decide) k) ?_
  show own_Goes _ _ _ _ T1 (mkF m 7 #[.val (.ref w_ABANDON)] [])
  refine own_step (fun t k => XS.aloadN X1.here hx rfl (hb hby own_prog_91_method_5_7) rfl rfl k) ?_
  show own_Goes _ _ _ _ T1 (mkF m 8 #[.val (.ref w_ABANDON)] [(.ref w_ABANDON)])
  obtain ⟨T2, X2, e2, st2⟩ := getS2 X1 hx hZ hown (host := "") (Or.inl (hw _ (List.mem_of_getElem? (i := 26) rfl))) Via.refl e1 S_COUNT (g := (mkF m 8 #[.val (.ref w_ABANDON)] [(.ref w_ABANDON)])) rfl (hb hby own_prog_91_method_5_8)
  refine own_step st2 ?_
  show own_Goes _ _ _ _ T2 (mkF m 11 #[.val (.ref w_ABANDON)] [(.ref w_COUNT), (.ref w_ABANDON)])
  refine own_step (fun t k => Jvm.RoadKit.acmp (g := (mkF m 11 #[.val (.ref w_ABANDON)] [(.ref w_COUNT), (.ref w_ABANDON)])) X2 hx rfl rfl rfl (pc0 := 11) (pc' := 14) (same := false) rfl (hb hby own_prog_91_method_5_11) rfl (decide_eq_false fun q => ne_COUNT (Value.ref.inj q)) (by decide) (by decide) k) ?_
  show own_Goes _ _ _ _ T2 (mkF m 14 #[.val (.ref w_ABANDON)] [])
  refine own_step (fun t k => XS.aloadN X2.here hx rfl (hb hby own_prog_91_method_5_14) rfl rfl k) ?_
  show own_Goes _ _ _ _ T2 (mkF m 15 #[.val (.ref w_ABANDON)] [(.ref w_ABANDON)])
  obtain ⟨T3, X3, e3, st3⟩ := getS2 X2 hx hZ hown (host := "") (Or.inl (hw _ (List.mem_of_getElem? (i := 27) rfl))) Via.refl e2 S_SWITCH (g := (mkF m 15 #[.val (.ref w_ABANDON)] [(.ref w_ABANDON)])) rfl (hb hby own_prog_91_method_5_15)
  refine own_step st3 ?_
  show own_Goes _ _ _ _ T3 (mkF m 18 #[.val (.ref w_ABANDON)] [(.ref w_SWITCH), (.ref w_ABANDON)])
  refine own_step (fun t k => Jvm.RoadKit.acmp (g := (mkF m 18 #[.val (.ref w_ABANDON)] [(.ref w_SWITCH), (.ref w_ABANDON)])) X3 hx rfl rfl rfl (pc0 := 18) (pc' := 21) (same := false) rfl (hb hby own_prog_91_method_5_18) rfl (decide_eq_false fun q => ne_SWITCH (Value.ref.inj q)) (by decide) (by decide) k) ?_
  show own_Goes _ _ _ _ T3 (mkF m 21 #[.val (.ref w_ABANDON)] [])
  refine own_step (fun t k => XS.aloadN X3.here hx rfl (hb hby own_prog_91_method_5_21) rfl rfl k) ?_
  show own_Goes _ _ _ _ T3 (mkF m 22 #[.val (.ref w_ABANDON)] [(.ref w_ABANDON)])
  obtain ⟨T4, X4, e4, st4⟩ := getS2 X3 hx hZ hown (host := "") (Or.inl (hw _ (List.mem_of_getElem? (i := 28) rfl))) Via.refl e3 S_CARRY (g := (mkF m 22 #[.val (.ref w_ABANDON)] [(.ref w_ABANDON)])) rfl (hb hby own_prog_91_method_5_22)
  refine own_step st4 ?_
  show own_Goes _ _ _ _ T4 (mkF m 25 #[.val (.ref w_ABANDON)] [(.ref w_CARRY), (.ref w_ABANDON)])
  refine own_step (fun t k => Jvm.RoadKit.acmp (g := (mkF m 25 #[.val (.ref w_ABANDON)] [(.ref w_CARRY), (.ref w_ABANDON)])) X4 hx rfl rfl rfl (pc0 := 25) (pc' := 32) (same := false) rfl (hb hby own_prog_91_method_5_25) rfl (decide_eq_false fun q => ne_CARRY (Value.ref.inj q)) (by decide) (by decide) k) ?_
  show own_Goes _ _ _ _ T4 (mkF m 32 #[.val (.ref w_ABANDON)] [])
  refine own_step (fun t k => XS.iconst X4.here hx rfl (hb hby own_prog_91_method_5_32) k) ?_
  show own_Goes _ _ _ _ T4 (mkF m 33 #[.val (.ref w_ABANDON)] [(.int (0 : Int32))])
  exact own_retN X4 hx hlk (t := .boolean) hrt (by simp) (hb hby own_prog_91_method_5_33) ⟨rfl, N0, e4⟩ (by decide) (by decide)
set_option maxRecDepth 65536 in
set_option maxHeartbeats 40000000 in
theorem own_ends_END (l : Launch) (Z : State) (a0 : Array Value) (hw : ∀ d ∈ tables_1, d.before a0 Z = true) (ws : List Jvm.Cond) (w_END : Addr) (w_ISOLATE : Addr) (w_COUNT : Addr) (w_SWITCH : Addr) (w_CARRY : Addr) (h0 : Heap) (n0 : Nat) (Z0 : n0 ≤ h0.size) (S_ISOLATE : Sta Z h0 "com/example/ringshift/ringshift/net/KeyChangeStep" "ISOLATE" "Lcom/example/ringshift/ringshift/net/KeyChangeStep;" (.ref w_ISOLATE)) (S_COUNT : Sta Z h0 "com/example/ringshift/ringshift/net/KeyChangeStep" "COUNT" "Lcom/example/ringshift/ringshift/net/KeyChangeStep;" (.ref w_COUNT)) (S_SWITCH : Sta Z h0 "com/example/ringshift/ringshift/net/KeyChangeStep" "SWITCH" "Lcom/example/ringshift/ringshift/net/KeyChangeStep;" (.ref w_SWITCH)) (S_CARRY : Sta Z h0 "com/example/ringshift/ringshift/net/KeyChangeStep" "CARRY" "Lcom/example/ringshift/ringshift/net/KeyChangeStep;" (.ref w_CARRY)) (ne_ISOLATE : ¬ (w_END = w_ISOLATE)) (ne_COUNT : ¬ (w_END = w_COUNT)) (ne_SWITCH : ¬ (w_END = w_SWITCH)) (ne_CARRY : ¬ (w_END = w_CARRY)) :
    own_Met l Z (⟨"com/example/ringshift/ringshift/net/KeyChangeStep", "endsPhase", "()Z"⟩ : MethodName) prog_91_method_5_code 1 (some .boolean) ws ({ frames := 0, cells := 0, slots := 0, locals := 0 } : Room) #[(.ref w_END)] h0 (fun v h L => v = some (.int 0) ∧ Fr n0 L ∧ h = h0) := by
  refine own_body (plainFor_of_name own_pn_com_example_ringshift_ringshift_net_KeyChangeStep) (fun p e s m below meth c s₁ hx hby hml0 hrt hlk hown0 hnm hZ X0 e0 => ?_)
  have N0 := Fr.nil n0
  have hown : s.vm.findClass "com/example/ringshift/ringshift/net/KeyChangeStep" = some m.cls := hown0
  have hml : c.maxLocals = 1 := hml0
  refine own_castG (own_ef0 m w_END) ?_
  show own_Goes _ _ _ _ s₁ (mkF m 0 #[.val (.ref w_END)] [])
  refine own_step (fun t k => XS.aloadN X0.here hx rfl (hb hby own_prog_91_method_5_0) rfl rfl k) ?_
  show own_Goes _ _ _ _ s₁ (mkF m 1 #[.val (.ref w_END)] [(.ref w_END)])
  obtain ⟨T1, X1, e1, st1⟩ := getS2 X0 hx hZ hown (host := "") (Or.inl (hw _ (List.mem_of_getElem? (i := 25) rfl))) Via.refl e0 S_ISOLATE (g := (mkF m 1 #[.val (.ref w_END)] [(.ref w_END)])) rfl (hb hby own_prog_91_method_5_1)
  refine own_step st1 ?_
  show own_Goes _ _ _ _ T1 (mkF m 4 #[.val (.ref w_END)] [(.ref w_ISOLATE), (.ref w_END)])
  refine own_step (fun t k => Jvm.RoadKit.acmp (g := (mkF m 4 #[.val (.ref w_END)] [(.ref w_ISOLATE), (.ref w_END)])) X1 hx rfl rfl rfl (pc0 := 4) (pc' := 7) (same := false) rfl (hb hby own_prog_91_method_5_4) rfl (decide_eq_false fun q => ne_ISOLATE (Value.ref.inj q)) (by decide) (by decide) k) ?_
  show own_Goes _ _ _ _ T1 (mkF m 7 #[.val (.ref w_END)] [])
  refine own_step (fun t k => XS.aloadN X1.here hx rfl (hb hby own_prog_91_method_5_7) rfl rfl k) ?_
  show own_Goes _ _ _ _ T1 (mkF m 8 #[.val (.ref w_END)] [(.ref w_END)])
  obtain ⟨T2, X2, e2, st2⟩ := getS2 X1 hx hZ hown (host := "") (Or.inl (hw _ (List.mem_of_getElem? (i := 26) rfl))) Via.refl e1 S_COUNT (g := (mkF m 8 #[.val (.ref w_END)] [(.ref w_END)])) rfl (hb hby own_prog_91_method_5_8)
  refine own_step st2 ?_
  show own_Goes _ _ _ _ T2 (mkF m 11 #[.val (.ref w_END)] [(.ref w_COUNT), (.ref w_END)])
  refine own_step (fun t k => Jvm.RoadKit.acmp (g := (mkF m 11 #[.val (.ref w_END)] [(.ref w_COUNT), (.ref w_END)])) X2 hx rfl rfl rfl (pc0 := 11) (pc' := 14) (same := false) rfl (hb hby own_prog_91_method_5_11) rfl (decide_eq_false fun q => ne_COUNT (Value.ref.inj q)) (by decide) (by decide) k) ?_
  show own_Goes _ _ _ _ T2 (mkF m 14 #[.val (.ref w_END)] [])
  refine own_step (fun t k => XS.aloadN X2.here hx rfl (hb hby own_prog_91_method_5_14) rfl rfl k) ?_
  show own_Goes _ _ _ _ T2 (mkF m 15 #[.val (.ref w_END)] [(.ref w_END)])
  obtain ⟨T3, X3, e3, st3⟩ := getS2 X2 hx hZ hown (host := "") (Or.inl (hw _ (List.mem_of_getElem? (i := 27) rfl))) Via.refl e2 S_SWITCH (g := (mkF m 15 #[.val (.ref w_END)] [(.ref w_END)])) rfl (hb hby own_prog_91_method_5_15)
  refine own_step st3 ?_
  show own_Goes _ _ _ _ T3 (mkF m 18 #[.val (.ref w_END)] [(.ref w_SWITCH), (.ref w_END)])
  refine own_step (fun t k => Jvm.RoadKit.acmp (g := (mkF m 18 #[.val (.ref w_END)] [(.ref w_SWITCH), (.ref w_END)])) X3 hx rfl rfl rfl (pc0 := 18) (pc' := 21) (same := false) rfl (hb hby own_prog_91_method_5_18) rfl (decide_eq_false fun q => ne_SWITCH (Value.ref.inj q)) (by decide) (by decide) k) ?_
  show own_Goes _ _ _ _ T3 (mkF m 21 #[.val (.ref w_END)] [])
  refine own_step (fun t k => XS.aloadN X3.here hx rfl (hb hby own_prog_91_method_5_21) rfl rfl k) ?_
  show own_Goes _ _ _ _ T3 (mkF m 22 #[.val (.ref w_END)] [(.ref w_END)])
  obtain ⟨T4, X4, e4, st4⟩ := getS2 X3 hx hZ hown (host := "") (Or.inl (hw _ (List.mem_of_getElem? (i := 28) rfl))) Via.refl e3 S_CARRY (g := (mkF m 22 #[.val (.ref w_END)] [(.ref w_END)])) rfl (hb hby own_prog_91_method_5_22)
  refine own_step st4 ?_
  show own_Goes _ _ _ _ T4 (mkF m 25 #[.val (.ref w_END)] [(.ref w_CARRY), (.ref w_END)])
  refine own_step (fun t k => Jvm.RoadKit.acmp (g := (mkF m 25 #[.val (.ref w_END)] [(.ref w_CARRY), (.ref w_END)])) X4 hx rfl rfl rfl (pc0 := 25) (pc' := 32) (same := false) rfl (hb hby own_prog_91_method_5_25) rfl (decide_eq_false fun q => ne_CARRY (Value.ref.inj q)) (by decide) (by decide) k) ?_
  show own_Goes _ _ _ _ T4 (mkF m 32 #[.val (.ref w_END)] [])
  refine own_step (fun t k => XS.iconst X4.here hx rfl (hb hby own_prog_91_method_5_32) k) ?_
  show own_Goes _ _ _ _ T4 (mkF m 33 #[.val (.ref w_END)] [(.int (0 : Int32))])
  exact own_retN X4 hx hlk (t := .boolean) hrt (by simp) (hb hby own_prog_91_method_5_33) ⟨rfl, N0, e4⟩ (by decide) (by decide)
theorem own_pn_com_example_ringshift_ringshift_net_KeyChangeStepEndsPhasePinLaw : plainName "com/example/ringshift/ringshift/net/KeyChangeStepEndsPhasePinLaw" = true := by first | (simp [plainName, overriddenIn]; done) | decide +kernel
theorem own_ef1 (m : MethodId) (x0 : Int32) : entryFrame m #[(.int x0)] maxLocals = mkF m 0 #[.val (.int x0), .unset, .unset, .unset, .unset, .unset, .unset] [] := by first | (simp [entryFrame, mkF, argsToLocals, Value.category, maxLocals]; done) | rfl
theorem own_pd0 : parseMethodDescriptor "()Z" = some ⟨[], some .boolean⟩ := by decide +kernel
set_option maxRecDepth 65536 in
set_option maxHeartbeats 40000000 in
theorem own_law0 (l : Launch) (Z : State) (a0 : Array Value) (hw : ∀ d ∈ tables_1, d.before a0 Z = true) (ws : List Jvm.Cond) (p1 : Int32) (w_ISOLATE : Addr) (w_COPY : Addr) (w_COUNT : Addr) (w_PREPARE : Addr) (w_SWITCH : Addr) (w_CARRY : Addr) (w_ABANDON : Addr) (w_END : Addr) (h0 : Heap) (n0 : Nat) (Z0 : n0 ≤ h0.size) (S_ISOLATE : Sta Z h0 "com/example/ringshift/ringshift/net/KeyChangeStep" "ISOLATE" "Lcom/example/ringshift/ringshift/net/KeyChangeStep;" (.ref w_ISOLATE)) (S_COPY : Sta Z h0 "com/example/ringshift/ringshift/net/KeyChangeStep" "COPY" "Lcom/example/ringshift/ringshift/net/KeyChangeStep;" (.ref w_COPY)) (S_COUNT : Sta Z h0 "com/example/ringshift/ringshift/net/KeyChangeStep" "COUNT" "Lcom/example/ringshift/ringshift/net/KeyChangeStep;" (.ref w_COUNT)) (S_PREPARE : Sta Z h0 "com/example/ringshift/ringshift/net/KeyChangeStep" "PREPARE" "Lcom/example/ringshift/ringshift/net/KeyChangeStep;" (.ref w_PREPARE)) (S_SWITCH : Sta Z h0 "com/example/ringshift/ringshift/net/KeyChangeStep" "SWITCH" "Lcom/example/ringshift/ringshift/net/KeyChangeStep;" (.ref w_SWITCH)) (S_CARRY : Sta Z h0 "com/example/ringshift/ringshift/net/KeyChangeStep" "CARRY" "Lcom/example/ringshift/ringshift/net/KeyChangeStep;" (.ref w_CARRY)) (S_ABANDON : Sta Z h0 "com/example/ringshift/ringshift/net/KeyChangeStep" "ABANDON" "Lcom/example/ringshift/ringshift/net/KeyChangeStep;" (.ref w_ABANDON)) (S_END : Sta Z h0 "com/example/ringshift/ringshift/net/KeyChangeStep" "END" "Lcom/example/ringshift/ringshift/net/KeyChangeStep;" (.ref w_END)) (E_w_ISOLATE : Exa Z h0 w_ISOLATE "com/example/ringshift/ringshift/net/KeyChangeStep") (E_w_COPY : Exa Z h0 w_COPY "com/example/ringshift/ringshift/net/KeyChangeStep") (E_w_COUNT : Exa Z h0 w_COUNT "com/example/ringshift/ringshift/net/KeyChangeStep") (E_w_PREPARE : Exa Z h0 w_PREPARE "com/example/ringshift/ringshift/net/KeyChangeStep") (E_w_SWITCH : Exa Z h0 w_SWITCH "com/example/ringshift/ringshift/net/KeyChangeStep") (E_w_CARRY : Exa Z h0 w_CARRY "com/example/ringshift/ringshift/net/KeyChangeStep") (E_w_ABANDON : Exa Z h0 w_ABANDON "com/example/ringshift/ringshift/net/KeyChangeStep") (E_w_END : Exa Z h0 w_END "com/example/ringshift/ringshift/net/KeyChangeStep") (hi : (p1 &&& (7 : Int32)) = (0 : Int32)) :
    own_Met l Z x code maxLocals ret ws room_1 #[(.int p1)] h0 (fun v h L => v = some (.int 1) ∧ Fr n0 L) := by
  refine own_body (plainFor_of_name own_pn_com_example_ringshift_ringshift_net_KeyChangeStepEndsPhasePinLaw) (fun p e s m below meth c s₁ hx hby hml0 hrt hlk hown0 hnm hZ X0 e0 => ?_)
  have N0 := Fr.nil n0
  have hown : s.vm.findClass "com/example/ringshift/ringshift/net/KeyChangeStepEndsPhasePinLaw" = some m.cls := hown0
  have hml : c.maxLocals = 7 := hml0
  refine own_castG (own_ef1 m p1) ?_
  show own_Goes _ _ _ _ s₁ (mkF m 0 #[.val (.int p1), .unset, .unset, .unset, .unset, .unset, .unset] [])
  refine own_step (fun t k => XS.bipush X0.here hx rfl (hb hby at_0) k) ?_
  show own_Goes _ _ _ _ s₁ (mkF m 2 #[.val (.int p1), .unset, .unset, .unset, .unset, .unset, .unset] [(.int (8 : Int32))])
  obtain ⟨T1, h1, k1, X1, e1, E1, A1, O1, st1⟩ := newR X0 hx hZ hown (hw _ (List.mem_of_getElem? (i := 0) rfl)) (hw _ (List.mem_of_getElem? (i := 1) rfl)) e0 (g := (mkF m 2 #[.val (.int p1), .unset, .unset, .unset, .unset, .unset, .unset] [(.int (8 : Int32))])) rfl (hb hby at_2) rfl (by decide) (cap := 8) (by decide) (by decide) (by decide) (by decide)
  obtain ⟨b1, g1⟩ : ∃ z, z = h0.size := ⟨_, rfl⟩
  rw [← g1] at A1 st1
  refine own_step st1 ?_
  have g_b1 : n0 ≤ b1 := Nat.le_trans Z0 (Nat.le_of_eq g1.symm)
  have sz_b1 : h0.size ≤ b1 := Nat.le_trans (Keep.refl h0 []).1 (Nat.le_of_eq g1.symm)
  have ne_w_ISOLATE_b1 : w_ISOLATE ≠ b1 := Nat.ne_of_lt (Nat.lt_of_lt_of_le E_w_ISOLATE.lt (Nat.le_of_eq g1.symm))
  have ne_w_COPY_b1 : w_COPY ≠ b1 := Nat.ne_of_lt (Nat.lt_of_lt_of_le E_w_COPY.lt (Nat.le_of_eq g1.symm))
  have ne_w_COUNT_b1 : w_COUNT ≠ b1 := Nat.ne_of_lt (Nat.lt_of_lt_of_le E_w_COUNT.lt (Nat.le_of_eq g1.symm))
  have ne_w_PREPARE_b1 : w_PREPARE ≠ b1 := Nat.ne_of_lt (Nat.lt_of_lt_of_le E_w_PREPARE.lt (Nat.le_of_eq g1.symm))
  have ne_w_SWITCH_b1 : w_SWITCH ≠ b1 := Nat.ne_of_lt (Nat.lt_of_lt_of_le E_w_SWITCH.lt (Nat.le_of_eq g1.symm))
  have ne_w_CARRY_b1 : w_CARRY ≠ b1 := Nat.ne_of_lt (Nat.lt_of_lt_of_le E_w_CARRY.lt (Nat.le_of_eq g1.symm))
  have ne_w_ABANDON_b1 : w_ABANDON ≠ b1 := Nat.ne_of_lt (Nat.lt_of_lt_of_le E_w_ABANDON.lt (Nat.le_of_eq g1.symm))
  have ne_w_END_b1 : w_END ≠ b1 := Nat.ne_of_lt (Nat.lt_of_lt_of_le E_w_END.lt (Nat.le_of_eq g1.symm))
  have K1 := (Keep.refl h0 []).ext E1
  have V_b1 : Arv Z h1 b1 k1 (.object "com/example/ringshift/ringshift/net/KeyChangeStep") (8 : Int32) [.null, .null, .null, .null, .null, .null, .null, .null] .null := (Arv.new A1 (by decide)).pad (pad_rep [] .null 8)
  show own_Goes _ _ _ _ T1 (mkF m 5 #[.val (.int p1), .unset, .unset, .unset, .unset, .unset, .unset] [(.ref b1)])
  refine own_step (fun t k => XS.dup X1.here hx rfl (hb hby at_5) rfl rfl k) ?_
  show own_Goes _ _ _ _ T1 (mkF m 6 #[.val (.int p1), .unset, .unset, .unset, .unset, .unset, .unset] [(.ref b1), (.ref b1)])
  refine own_step (fun t k => XS.iconst X1.here hx rfl (hb hby at_6) k) ?_
  show own_Goes _ _ _ _ T1 (mkF m 7 #[.val (.int p1), .unset, .unset, .unset, .unset, .unset, .unset] [(.int (0 : Int32)), (.ref b1), (.ref b1)])
  have S_ISOLATE_v3 := (S_ISOLATE.ext E1)
  obtain ⟨T2, X2, e2, st2⟩ := getS2 X1 hx hZ hown (host := "") (Or.inl (hw _ (List.mem_of_getElem? (i := 2) rfl))) Via.refl e1 S_ISOLATE_v3 (g := (mkF m 7 #[.val (.int p1), .unset, .unset, .unset, .unset, .unset, .unset] [(.int (0 : Int32)), (.ref b1), (.ref b1)])) rfl (hb hby at_7)
  refine own_step st2 ?_
  show own_Goes _ _ _ _ T2 (mkF m 10 #[.val (.int p1), .unset, .unset, .unset, .unset, .unset, .unset] [(.ref w_ISOLATE), (.int (0 : Int32)), (.ref b1), (.ref b1)])
  have E_w_ISOLATE_v5 := (E_w_ISOLATE.ext E1)
  obtain ⟨T4, h4, X4, e4, W4, V4, st4⟩ := own_aastore X2 hx hZ e2 V_b1 O1 (Ins.self E_w_ISOLATE_v5) (j := (0 : Int32)) ⟨by decide, by decide⟩ 0 rfl (Nat.le_of_ble_eq_true rfl) (g := (mkF m 10 #[.val (.int p1), .unset, .unset, .unset, .unset, .unset, .unset] [(.ref w_ISOLATE), (.int (0 : Int32)), (.ref b1), (.ref b1)])) rfl rfl (hb hby at_10)
  refine own_step st4 ?_
  have K4 := K1.wr W4 (Or.inr sz_b1)
  have N4 := Fr.snoc X4 N0 g_b1
  have V4' : Arv Z h4 b1 k1 (.object "com/example/ringshift/ringshift/net/KeyChangeStep") (8 : Int32) [(.ref w_ISOLATE), .null, .null, .null, .null, .null, .null, .null] .null := V4
  show own_Goes _ _ _ _ T4 (mkF m 11 #[.val (.int p1), .unset, .unset, .unset, .unset, .unset, .unset] [(.ref b1)])
  refine own_step (fun t k => XS.dup X4.here hx rfl (hb hby at_11) rfl rfl k) ?_
  show own_Goes _ _ _ _ T4 (mkF m 12 #[.val (.int p1), .unset, .unset, .unset, .unset, .unset, .unset] [(.ref b1), (.ref b1)])
  refine own_step (fun t k => XS.iconst X4.here hx rfl (hb hby at_12) k) ?_
  show own_Goes _ _ _ _ T4 (mkF m 13 #[.val (.int p1), .unset, .unset, .unset, .unset, .unset, .unset] [(.int (1 : Int32)), (.ref b1), (.ref b1)])
  have S_COPY_v7 := ((S_COPY.ext E1).wr W4)
  obtain ⟨T6, X6, e6, st6⟩ := getS2 X4 hx hZ hown (host := "") (Or.inl (hw _ (List.mem_of_getElem? (i := 6) rfl))) Via.refl e4 S_COPY_v7 (g := (mkF m 13 #[.val (.int p1), .unset, .unset, .unset, .unset, .unset, .unset] [(.int (1 : Int32)), (.ref b1), (.ref b1)])) rfl (hb hby at_13)
  refine own_step st6 ?_
  show own_Goes _ _ _ _ T6 (mkF m 16 #[.val (.int p1), .unset, .unset, .unset, .unset, .unset, .unset] [(.ref w_COPY), (.int (1 : Int32)), (.ref b1), (.ref b1)])
  have E_w_COPY_v9 := ((E_w_COPY.ext E1).wr W4)
  obtain ⟨T8, h8, X8, e8, W8, V8, st8⟩ := own_aastore X6 hx hZ e6 V4' O1 (Ins.self E_w_COPY_v9) (j := (1 : Int32)) ⟨by decide, by decide⟩ 1 rfl (Nat.le_of_ble_eq_true rfl) (g := (mkF m 16 #[.val (.int p1), .unset, .unset, .unset, .unset, .unset, .unset] [(.ref w_COPY), (.int (1 : Int32)), (.ref b1), (.ref b1)])) rfl rfl (hb hby at_16)
  refine own_step st8 ?_
  have K8 := K4.wr W8 (Or.inr sz_b1)
  have N8 := Fr.snoc X8 N4 g_b1
  have V8' : Arv Z h8 b1 k1 (.object "com/example/ringshift/ringshift/net/KeyChangeStep") (8 : Int32) [(.ref w_ISOLATE), (.ref w_COPY), .null, .null, .null, .null, .null, .null] .null := V8
  show own_Goes _ _ _ _ T8 (mkF m 17 #[.val (.int p1), .unset, .unset, .unset, .unset, .unset, .unset] [(.ref b1)])
  refine own_step (fun t k => XS.dup X8.here hx rfl (hb hby at_17) rfl rfl k) ?_
  show own_Goes _ _ _ _ T8 (mkF m 18 #[.val (.int p1), .unset, .unset, .unset, .unset, .unset, .unset] [(.ref b1), (.ref b1)])
  refine own_step (fun t k => XS.iconst X8.here hx rfl (hb hby at_18) k) ?_
  show own_Goes _ _ _ _ T8 (mkF m 19 #[.val (.int p1), .unset, .unset, .unset, .unset, .unset, .unset] [(.int (2 : Int32)), (.ref b1), (.ref b1)])
  have S_COUNT_v11 := (((S_COUNT.ext E1).wr W4).wr W8)
  obtain ⟨T10, X10, e10, st10⟩ := getS2 X8 hx hZ hown (host := "") (Or.inl (hw _ (List.mem_of_getElem? (i := 8) rfl))) Via.refl e8 S_COUNT_v11 (g := (mkF m 19 #[.val (.int p1), .unset, .unset, .unset, .unset, .unset, .unset] [(.int (2 : Int32)), (.ref b1), (.ref b1)])) rfl (hb hby at_19)
  refine own_step st10 ?_
  show own_Goes _ _ _ _ T10 (mkF m 22 #[.val (.int p1), .unset, .unset, .unset, .unset, .unset, .unset] [(.ref w_COUNT), (.int (2 : Int32)), (.ref b1), (.ref b1)])
  have E_w_COUNT_v13 := (((E_w_COUNT.ext E1).wr W4).wr W8)
  obtain ⟨T12, h12, X12, e12, W12, V12, st12⟩ := own_aastore X10 hx hZ e10 V8' O1 (Ins.self E_w_COUNT_v13) (j := (2 : Int32)) ⟨by decide, by decide⟩ 2 rfl (Nat.le_of_ble_eq_true rfl) (g := (mkF m 22 #[.val (.int p1), .unset, .unset, .unset, .unset, .unset, .unset] [(.ref w_COUNT), (.int (2 : Int32)), (.ref b1), (.ref b1)])) rfl rfl (hb hby at_22)
  refine own_step st12 ?_
  have K12 := K8.wr W12 (Or.inr sz_b1)
  have N12 := Fr.snoc X12 N8 g_b1
  have V12' : Arv Z h12 b1 k1 (.object "com/example/ringshift/ringshift/net/KeyChangeStep") (8 : Int32) [(.ref w_ISOLATE), (.ref w_COPY), (.ref w_COUNT), .null, .null, .null, .null, .null] .null := V12
  show own_Goes _ _ _ _ T12 (mkF m 23 #[.val (.int p1), .unset, .unset, .unset, .unset, .unset, .unset] [(.ref b1)])
  refine own_step (fun t k => XS.dup X12.here hx rfl (hb hby at_23) rfl rfl k) ?_
  show own_Goes _ _ _ _ T12 (mkF m 24 #[.val (.int p1), .unset, .unset, .unset, .unset, .unset, .unset] [(.ref b1), (.ref b1)])
  refine own_step (fun t k => XS.iconst X12.here hx rfl (hb hby at_24) k) ?_
  show own_Goes _ _ _ _ T12 (mkF m 25 #[.val (.int p1), .unset, .unset, .unset, .unset, .unset, .unset] [(.int (3 : Int32)), (.ref b1), (.ref b1)])
  have S_PREPARE_v15 := ((((S_PREPARE.ext E1).wr W4).wr W8).wr W12)
  obtain ⟨T14, X14, e14, st14⟩ := getS2 X12 hx hZ hown (host := "") (Or.inl (hw _ (List.mem_of_getElem? (i := 10) rfl))) Via.refl e12 S_PREPARE_v15 (g := (mkF m 25 #[.val (.int p1), .unset, .unset, .unset, .unset, .unset, .unset] [(.int (3 : Int32)), (.ref b1), (.ref b1)])) rfl (hb hby at_25)
  refine own_step st14 ?_
  show own_Goes _ _ _ _ T14 (mkF m 28 #[.val (.int p1), .unset, .unset, .unset, .unset, .unset, .unset] [(.ref w_PREPARE), (.int (3 : Int32)), (.ref b1), (.ref b1)])
  have E_w_PREPARE_v17 := ((((E_w_PREPARE.ext E1).wr W4).wr W8).wr W12)
  obtain ⟨T16, h16, X16, e16, W16, V16, st16⟩ := own_aastore X14 hx hZ e14 V12' O1 (Ins.self E_w_PREPARE_v17) (j := (3 : Int32)) ⟨by decide, by decide⟩ 3 rfl (Nat.le_of_ble_eq_true rfl) (g := (mkF m 28 #[.val (.int p1), .unset, .unset, .unset, .unset, .unset, .unset] [(.ref w_PREPARE), (.int (3 : Int32)), (.ref b1), (.ref b1)])) rfl rfl (hb hby at_28)
  refine own_step st16 ?_
  have K16 := K12.wr W16 (Or.inr sz_b1)
  have N16 := Fr.snoc X16 N12 g_b1
  have V16' : Arv Z h16 b1 k1 (.object "com/example/ringshift/ringshift/net/KeyChangeStep") (8 : Int32) [(.ref w_ISOLATE), (.ref w_COPY), (.ref w_COUNT), (.ref w_PREPARE), .null, .null, .null, .null] .null := V16
  show own_Goes _ _ _ _ T16 (mkF m 29 #[.val (.int p1), .unset, .unset, .unset, .unset, .unset, .unset] [(.ref b1)])
  refine own_step (fun t k => XS.dup X16.here hx rfl (hb hby at_29) rfl rfl k) ?_
  show own_Goes _ _ _ _ T16 (mkF m 30 #[.val (.int p1), .unset, .unset, .unset, .unset, .unset, .unset] [(.ref b1), (.ref b1)])
  refine own_step (fun t k => XS.iconst X16.here hx rfl (hb hby at_30) k) ?_
  show own_Goes _ _ _ _ T16 (mkF m 31 #[.val (.int p1), .unset, .unset, .unset, .unset, .unset, .unset] [(.int (4 : Int32)), (.ref b1), (.ref b1)])
  have S_SWITCH_v19 := (((((S_SWITCH.ext E1).wr W4).wr W8).wr W12).wr W16)
  obtain ⟨T18, X18, e18, st18⟩ := getS2 X16 hx hZ hown (host := "") (Or.inl (hw _ (List.mem_of_getElem? (i := 12) rfl))) Via.refl e16 S_SWITCH_v19 (g := (mkF m 31 #[.val (.int p1), .unset, .unset, .unset, .unset, .unset, .unset] [(.int (4 : Int32)), (.ref b1), (.ref b1)])) rfl (hb hby at_31)
  refine own_step st18 ?_
  show own_Goes _ _ _ _ T18 (mkF m 34 #[.val (.int p1), .unset, .unset, .unset, .unset, .unset, .unset] [(.ref w_SWITCH), (.int (4 : Int32)), (.ref b1), (.ref b1)])
  have E_w_SWITCH_v21 := (((((E_w_SWITCH.ext E1).wr W4).wr W8).wr W12).wr W16)
  obtain ⟨T20, h20, X20, e20, W20, V20, st20⟩ := own_aastore X18 hx hZ e18 V16' O1 (Ins.self E_w_SWITCH_v21) (j := (4 : Int32)) ⟨by decide, by decide⟩ 4 rfl (Nat.le_of_ble_eq_true rfl) (g := (mkF m 34 #[.val (.int p1), .unset, .unset, .unset, .unset, .unset, .unset] [(.ref w_SWITCH), (.int (4 : Int32)), (.ref b1), (.ref b1)])) rfl rfl (hb hby at_34)
  refine own_step st20 ?_
  have K20 := K16.wr W20 (Or.inr sz_b1)
  have N20 := Fr.snoc X20 N16 g_b1
  have V20' : Arv Z h20 b1 k1 (.object "com/example/ringshift/ringshift/net/KeyChangeStep") (8 : Int32) [(.ref w_ISOLATE), (.ref w_COPY), (.ref w_COUNT), (.ref w_PREPARE), (.ref w_SWITCH), .null, .null, .null] .null := V20
  show own_Goes _ _ _ _ T20 (mkF m 35 #[.val (.int p1), .unset, .unset, .unset, .unset, .unset, .unset] [(.ref b1)])
  refine own_step (fun t k => XS.dup X20.here hx rfl (hb hby at_35) rfl rfl k) ?_
  show own_Goes _ _ _ _ T20 (mkF m 36 #[.val (.int p1), .unset, .unset, .unset, .unset, .unset, .unset] [(.ref b1), (.ref b1)])
  refine own_step (fun t k => XS.iconst X20.here hx rfl (hb hby at_36) k) ?_
  show own_Goes _ _ _ _ T20 (mkF m 37 #[.val (.int p1), .unset, .unset, .unset, .unset, .unset, .unset] [(.int (5 : Int32)), (.ref b1), (.ref b1)])
  have S_CARRY_v23 := ((((((S_CARRY.ext E1).wr W4).wr W8).wr W12).wr W16).wr W20)
  obtain ⟨T22, X22, e22, st22⟩ := getS2 X20 hx hZ hown (host := "") (Or.inl (hw _ (List.mem_of_getElem? (i := 14) rfl))) Via.refl e20 S_CARRY_v23 (g := (mkF m 37 #[.val (.int p1), .unset, .unset, .unset, .unset, .unset, .unset] [(.int (5 : Int32)), (.ref b1), (.ref b1)])) rfl (hb hby at_37)
  refine own_step st22 ?_
  show own_Goes _ _ _ _ T22 (mkF m 40 #[.val (.int p1), .unset, .unset, .unset, .unset, .unset, .unset] [(.ref w_CARRY), (.int (5 : Int32)), (.ref b1), (.ref b1)])
  have E_w_CARRY_v25 := ((((((E_w_CARRY.ext E1).wr W4).wr W8).wr W12).wr W16).wr W20)
  obtain ⟨T24, h24, X24, e24, W24, V24, st24⟩ := own_aastore X22 hx hZ e22 V20' O1 (Ins.self E_w_CARRY_v25) (j := (5 : Int32)) ⟨by decide, by decide⟩ 5 rfl (Nat.le_of_ble_eq_true rfl) (g := (mkF m 40 #[.val (.int p1), .unset, .unset, .unset, .unset, .unset, .unset] [(.ref w_CARRY), (.int (5 : Int32)), (.ref b1), (.ref b1)])) rfl rfl (hb hby at_40)
  refine own_step st24 ?_
  have K24 := K20.wr W24 (Or.inr sz_b1)
  have N24 := Fr.snoc X24 N20 g_b1
  have V24' : Arv Z h24 b1 k1 (.object "com/example/ringshift/ringshift/net/KeyChangeStep") (8 : Int32) [(.ref w_ISOLATE), (.ref w_COPY), (.ref w_COUNT), (.ref w_PREPARE), (.ref w_SWITCH), (.ref w_CARRY), .null, .null] .null := V24
  show own_Goes _ _ _ _ T24 (mkF m 41 #[.val (.int p1), .unset, .unset, .unset, .unset, .unset, .unset] [(.ref b1)])
  refine own_step (fun t k => XS.dup X24.here hx rfl (hb hby at_41) rfl rfl k) ?_
  show own_Goes _ _ _ _ T24 (mkF m 42 #[.val (.int p1), .unset, .unset, .unset, .unset, .unset, .unset] [(.ref b1), (.ref b1)])
  refine own_step (fun t k => XS.bipush X24.here hx rfl (hb hby at_42) k) ?_
  show own_Goes _ _ _ _ T24 (mkF m 44 #[.val (.int p1), .unset, .unset, .unset, .unset, .unset, .unset] [(.int (6 : Int32)), (.ref b1), (.ref b1)])
  have S_ABANDON_v27 := (((((((S_ABANDON.ext E1).wr W4).wr W8).wr W12).wr W16).wr W20).wr W24)
  obtain ⟨T26, X26, e26, st26⟩ := getS2 X24 hx hZ hown (host := "") (Or.inl (hw _ (List.mem_of_getElem? (i := 16) rfl))) Via.refl e24 S_ABANDON_v27 (g := (mkF m 44 #[.val (.int p1), .unset, .unset, .unset, .unset, .unset, .unset] [(.int (6 : Int32)), (.ref b1), (.ref b1)])) rfl (hb hby at_44)
  refine own_step st26 ?_
  show own_Goes _ _ _ _ T26 (mkF m 47 #[.val (.int p1), .unset, .unset, .unset, .unset, .unset, .unset] [(.ref w_ABANDON), (.int (6 : Int32)), (.ref b1), (.ref b1)])
  have E_w_ABANDON_v29 := (((((((E_w_ABANDON.ext E1).wr W4).wr W8).wr W12).wr W16).wr W20).wr W24)
  obtain ⟨T28, h28, X28, e28, W28, V28, st28⟩ := own_aastore X26 hx hZ e26 V24' O1 (Ins.self E_w_ABANDON_v29) (j := (6 : Int32)) ⟨by decide, by decide⟩ 6 rfl (Nat.le_of_ble_eq_true rfl) (g := (mkF m 47 #[.val (.int p1), .unset, .unset, .unset, .unset, .unset, .unset] [(.ref w_ABANDON), (.int (6 : Int32)), (.ref b1), (.ref b1)])) rfl rfl (hb hby at_47)
  refine own_step st28 ?_
  have K28 := K24.wr W28 (Or.inr sz_b1)
  have N28 := Fr.snoc X28 N24 g_b1
  have V28' : Arv Z h28 b1 k1 (.object "com/example/ringshift/ringshift/net/KeyChangeStep") (8 : Int32) [(.ref w_ISOLATE), (.ref w_COPY), (.ref w_COUNT), (.ref w_PREPARE), (.ref w_SWITCH), (.ref w_CARRY), (.ref w_ABANDON), .null] .null := V28
  show own_Goes _ _ _ _ T28 (mkF m 48 #[.val (.int p1), .unset, .unset, .unset, .unset, .unset, .unset] [(.ref b1)])
  refine own_step (fun t k => XS.dup X28.here hx rfl (hb hby at_48) rfl rfl k) ?_
  show own_Goes _ _ _ _ T28 (mkF m 49 #[.val (.int p1), .unset, .unset, .unset, .unset, .unset, .unset] [(.ref b1), (.ref b1)])
  refine own_step (fun t k => XS.bipush X28.here hx rfl (hb hby at_49) k) ?_
  show own_Goes _ _ _ _ T28 (mkF m 51 #[.val (.int p1), .unset, .unset, .unset, .unset, .unset, .unset] [(.int (7 : Int32)), (.ref b1), (.ref b1)])
  have S_END_v31 := ((((((((S_END.ext E1).wr W4).wr W8).wr W12).wr W16).wr W20).wr W24).wr W28)
  obtain ⟨T30, X30, e30, st30⟩ := getS2 X28 hx hZ hown (host := "") (Or.inl (hw _ (List.mem_of_getElem? (i := 18) rfl))) Via.refl e28 S_END_v31 (g := (mkF m 51 #[.val (.int p1), .unset, .unset, .unset, .unset, .unset, .unset] [(.int (7 : Int32)), (.ref b1), (.ref b1)])) rfl (hb hby at_51)
  refine own_step st30 ?_
  show own_Goes _ _ _ _ T30 (mkF m 54 #[.val (.int p1), .unset, .unset, .unset, .unset, .unset, .unset] [(.ref w_END), (.int (7 : Int32)), (.ref b1), (.ref b1)])
  have E_w_END_v33 := ((((((((E_w_END.ext E1).wr W4).wr W8).wr W12).wr W16).wr W20).wr W24).wr W28)
  obtain ⟨T32, h32, X32, e32, W32, V32, st32⟩ := own_aastore X30 hx hZ e30 V28' O1 (Ins.self E_w_END_v33) (j := (7 : Int32)) ⟨by decide, by decide⟩ 7 rfl (Nat.le_of_ble_eq_true rfl) (g := (mkF m 54 #[.val (.int p1), .unset, .unset, .unset, .unset, .unset, .unset] [(.ref w_END), (.int (7 : Int32)), (.ref b1), (.ref b1)])) rfl rfl (hb hby at_54)
  refine own_step st32 ?_
  have K32 := K28.wr W32 (Or.inr sz_b1)
  have N32 := Fr.snoc X32 N28 g_b1
  have V32' : Arv Z h32 b1 k1 (.object "com/example/ringshift/ringshift/net/KeyChangeStep") (8 : Int32) [(.ref w_ISOLATE), (.ref w_COPY), (.ref w_COUNT), (.ref w_PREPARE), (.ref w_SWITCH), (.ref w_CARRY), (.ref w_ABANDON), (.ref w_END)] .null := V32
  show own_Goes _ _ _ _ T32 (mkF m 55 #[.val (.int p1), .unset, .unset, .unset, .unset, .unset, .unset] [(.ref b1)])
  refine own_step (fun t k => XS.astoreN X32.here hx rfl (hb hby at_55) rfl rfl (l' := #[.val (.int p1), .val (.ref b1), .unset, .unset, .unset, .unset, .unset]) rfl k) ?_
  show own_Goes _ _ _ _ T32 (mkF m 56 #[.val (.int p1), .val (.ref b1), .unset, .unset, .unset, .unset, .unset] [])
  refine own_step (fun t k => XS.iloadN X32.here hx rfl (hb hby at_56) rfl k) ?_
  show own_Goes _ _ _ _ T32 (mkF m 57 #[.val (.int p1), .val (.ref b1), .unset, .unset, .unset, .unset, .unset] [(.int p1)])
  refine own_step (fun t k => XS.bipush X32.here hx rfl (hb hby at_57) k) ?_
  show own_Goes _ _ _ _ T32 (mkF m 59 #[.val (.int p1), .val (.ref b1), .unset, .unset, .unset, .unset, .unset] [(.int (7 : Int32)), (.int p1)])
  refine own_step (fun t k => XS.iand X32.here hx rfl (hb hby at_59) rfl k) ?_
  show own_Goes _ _ _ _ T32 (mkF m 60 #[.val (.int p1), .val (.ref b1), .unset, .unset, .unset, .unset, .unset] [(.int (p1 &&& (7 : Int32)))])
  rw [hi]
  show own_Goes _ _ _ _ T32 (mkF m 60 #[.val (.int p1), .val (.ref b1), .unset, .unset, .unset, .unset, .unset] [(.int (0 : Int32))])
  refine own_step (fun t k => XS.istoreN X32.here hx rfl (hb hby at_60) rfl (l' := #[.val (.int p1), .val (.ref b1), .val (.int (0 : Int32)), .unset, .unset, .unset, .unset]) rfl k) ?_
  show own_Goes _ _ _ _ T32 (mkF m 61 #[.val (.int p1), .val (.ref b1), .val (.int (0 : Int32)), .unset, .unset, .unset, .unset] [])
  refine own_step (fun t k => XS.aloadN X32.here hx rfl (hb hby at_61) rfl rfl k) ?_
  show own_Goes _ _ _ _ T32 (mkF m 62 #[.val (.int p1), .val (.ref b1), .val (.int (0 : Int32)), .unset, .unset, .unset, .unset] [(.ref b1)])
  refine own_step (fun t k => XS.iloadN X32.here hx rfl (hb hby at_62) rfl k) ?_
  show own_Goes _ _ _ _ T32 (mkF m 63 #[.val (.int p1), .val (.ref b1), .val (.int (0 : Int32)), .unset, .unset, .unset, .unset] [(.int (0 : Int32)), (.ref b1)])
  refine own_step (own_aaload X32 hx hZ e32 V32' rfl (.ref w_ISOLATE) ⟨by decide, by decide⟩ rfl (g := (mkF m 63 #[.val (.int p1), .val (.ref b1), .val (.int (0 : Int32)), .unset, .unset, .unset, .unset] [(.int (0 : Int32)), (.ref b1)])) rfl rfl (hb hby at_63)) ?_
  show own_Goes _ _ _ _ T32 (mkF m 64 #[.val (.int p1), .val (.ref b1), .val (.int (0 : Int32)), .unset, .unset, .unset, .unset] [(.ref w_ISOLATE)])
  refine own_step (fun t k => XS.astoreN X32.here hx rfl (hb hby at_64) rfl rfl (l' := #[.val (.int p1), .val (.ref b1), .val (.int (0 : Int32)), .val (.ref w_ISOLATE), .unset, .unset, .unset]) rfl k) ?_
  show own_Goes _ _ _ _ T32 (mkF m 65 #[.val (.int p1), .val (.ref b1), .val (.int (0 : Int32)), .val (.ref w_ISOLATE), .unset, .unset, .unset] [])
  refine own_step (fun t k => XS.iloadN X32.here hx rfl (hb hby at_65) rfl k) ?_
  show own_Goes _ _ _ _ T32 (mkF m 66 #[.val (.int p1), .val (.ref b1), .val (.int (0 : Int32)), .val (.ref w_ISOLATE), .unset, .unset, .unset] [(.int (0 : Int32))])
  refine own_step (fun t k => XS.iconst X32.here hx rfl (hb hby at_66) k) ?_
  show own_Goes _ _ _ _ T32 (mkF m 67 #[.val (.int p1), .val (.ref b1), .val (.int (0 : Int32)), .val (.ref w_ISOLATE), .unset, .unset, .unset] [(.int (1 : Int32)), (.int (0 : Int32))])
  refine own_step (fun t k => XS.iadd X32.here hx rfl (hb hby at_67) rfl k) ?_
  show own_Goes _ _ _ _ T32 (mkF m 68 #[.val (.int p1), .val (.ref b1), .val (.int (0 : Int32)), .val (.ref w_ISOLATE), .unset, .unset, .unset] [(.int (1 : Int32))])
  refine own_step (fun t k => XS.istore X32.here hx rfl (hb hby at_68) rfl (l' := #[.val (.int p1), .val (.ref b1), .val (.int (0 : Int32)), .val (.ref w_ISOLATE), .val (.int (1 : Int32)), .unset, .unset]) rfl k) ?_
  show own_Goes _ _ _ _ T32 (mkF m 70 #[.val (.int p1), .val (.ref b1), .val (.int (0 : Int32)), .val (.ref w_ISOLATE), .val (.int (1 : Int32)), .unset, .unset] [])
  refine own_step (fun t k => XS.bipush X32.here hx rfl (hb hby at_70) k) ?_
  show own_Goes _ _ _ _ T32 (mkF m 72 #[.val (.int p1), .val (.ref b1), .val (.int (0 : Int32)), .val (.ref w_ISOLATE), .val (.int (1 : Int32)), .unset, .unset] [(.int (106 : Int32))])
  refine own_step (fun t k => XS.istore X32.here hx rfl (hb hby at_72) rfl (l' := #[.val (.int p1), .val (.ref b1), .val (.int (0 : Int32)), .val (.ref w_ISOLATE), .val (.int (1 : Int32)), .val (.int (106 : Int32)), .unset]) rfl k) ?_
  show own_Goes _ _ _ _ T32 (mkF m 74 #[.val (.int p1), .val (.ref b1), .val (.int (0 : Int32)), .val (.ref w_ISOLATE), .val (.int (1 : Int32)), .val (.int (106 : Int32)), .unset] [])
  refine own_step (fun t k => XS.iload X32.here hx rfl (hb hby at_74) rfl k) ?_
  show own_Goes _ _ _ _ T32 (mkF m 76 #[.val (.int p1), .val (.ref b1), .val (.int (0 : Int32)), .val (.ref w_ISOLATE), .val (.int (1 : Int32)), .val (.int (106 : Int32)), .unset] [(.int (106 : Int32))])
  refine own_step (fun t k => XS.iload X32.here hx rfl (hb hby at_76) rfl k) ?_
  show own_Goes _ _ _ _ T32 (mkF m 78 #[.val (.int p1), .val (.ref b1), .val (.int (0 : Int32)), .val (.ref w_ISOLATE), .val (.int (1 : Int32)), .val (.int (106 : Int32)), .unset] [(.int (1 : Int32)), (.int (106 : Int32))])
  refine own_step (fun t k => XS.ishr X32.here hx rfl (hb hby at_78) rfl k) ?_
  show own_Goes _ _ _ _ T32 (mkF m 79 #[.val (.int p1), .val (.ref b1), .val (.int (0 : Int32)), .val (.ref w_ISOLATE), .val (.int (1 : Int32)), .val (.int (106 : Int32)), .unset] [(.int (53 : Int32))])
  refine own_step (fun t k => XS.iconst X32.here hx rfl (hb hby at_79) k) ?_
  show own_Goes _ _ _ _ T32 (mkF m 80 #[.val (.int p1), .val (.ref b1), .val (.int (0 : Int32)), .val (.ref w_ISOLATE), .val (.int (1 : Int32)), .val (.int (106 : Int32)), .unset] [(.int (1 : Int32)), (.int (53 : Int32))])
  refine own_step (fun t k => XS.iand X32.here hx rfl (hb hby at_80) rfl k) ?_
  show own_Goes _ _ _ _ T32 (mkF m 81 #[.val (.int p1), .val (.ref b1), .val (.int (0 : Int32)), .val (.ref w_ISOLATE), .val (.int (1 : Int32)), .val (.int (106 : Int32)), .unset] [(.int (1 : Int32))])
  refine own_step (fun t k => XS.ifNo X32.here hx rfl (hb hby at_81) rfl ((if0 _ _).trans (feq (show ¬ ((1 : Int32) = (0 : Int32)) from (by decide))).1) k) ?_
  show own_Goes _ _ _ _ T32 (mkF m 84 #[.val (.int p1), .val (.ref b1), .val (.int (0 : Int32)), .val (.ref w_ISOLATE), .val (.int (1 : Int32)), .val (.int (106 : Int32)), .unset] [])
  refine own_step (fun t k => XS.iconst X32.here hx rfl (hb hby at_84) k) ?_
  show own_Goes _ _ _ _ T32 (mkF m 85 #[.val (.int p1), .val (.ref b1), .val (.int (0 : Int32)), .val (.ref w_ISOLATE), .val (.int (1 : Int32)), .val (.int (106 : Int32)), .unset] [(.int (1 : Int32))])
  refine own_step (fun t k => XS.goto X32.here hx rfl (pc0 := 85) (pc' := 89) rfl (hb hby at_85) (by decide) (by decide) k) ?_
  show own_Goes _ _ _ _ T32 (mkF m 89 #[.val (.int p1), .val (.ref b1), .val (.int (0 : Int32)), .val (.ref w_ISOLATE), .val (.int (1 : Int32)), .val (.int (106 : Int32)), .unset] [(.int (1 : Int32))])
  refine own_step (fun t k => XS.istore X32.here hx rfl (hb hby at_89) rfl (l' := #[.val (.int p1), .val (.ref b1), .val (.int (0 : Int32)), .val (.ref w_ISOLATE), .val (.int (1 : Int32)), .val (.int (106 : Int32)), .val (.int (1 : Int32))]) rfl k) ?_
  show own_Goes _ _ _ _ T32 (mkF m 91 #[.val (.int p1), .val (.ref b1), .val (.int (0 : Int32)), .val (.ref w_ISOLATE), .val (.int (1 : Int32)), .val (.int (106 : Int32)), .val (.int (1 : Int32))] [])
  refine own_step (fun t k => XS.aloadN X32.here hx rfl (hb hby at_91) rfl rfl k) ?_
  show own_Goes _ _ _ _ T32 (mkF m 92 #[.val (.int p1), .val (.ref b1), .val (.int (0 : Int32)), .val (.ref w_ISOLATE), .val (.int (1 : Int32)), .val (.int (106 : Int32)), .val (.int (1 : Int32))] [(.ref w_ISOLATE)])
  have S_ISOLATE_v34 := ((((((((S_ISOLATE_v3.wr W4).wr W8).wr W12).wr W16).wr W20).wr W24).wr W28).wr W32)
  have E_w_ISOLATE_v36 := ((((((((E_w_ISOLATE_v5.wr W4).wr W8).wr W12).wr W16).wr W20).wr W24).wr W28).wr W32)
  refine own_callV X32 hx hZ (y := (⟨"com/example/ringshift/ringshift/net/KeyChangeStep", "endsPhase", "()Z"⟩ : MethodName)) (z := (⟨"com/example/ringshift/ringshift/net/KeyChangeStep", "endsPhase", "()Z"⟩ : MethodName)) hown (hw _ (List.mem_of_getElem? (i := 20) rfl)) (hw _ (List.mem_of_getElem? (i := 21) rfl)) (notFace_of_selects (args := #[]) (mvT hZ (hw _ (List.mem_of_getElem? (i := 23) rfl)))) (hw _ (List.mem_of_getElem? (i := 23) rfl)) (hw _ (List.mem_of_getElem? (i := 22) rfl)) (hw _ (List.mem_of_getElem? (i := 24) rfl)) (hw _ (List.mem_of_getElem? (i := 3) rfl)) (by decide) 0 E_w_ISOLATE_v36 [] [] (own_ends_ISOLATE l Z a0 hw [] w_ISOLATE h32 n0 (Nat.le_trans Z0 K32.1) S_ISOLATE_v34) e32 (by decide) (by decide) (by decide) (by decide) (g := (mkF m 92 #[.val (.int p1), .val (.ref b1), .val (.int (0 : Int32)), .val (.ref w_ISOLATE), .val (.int (1 : Int32)), .val (.int (106 : Int32)), .val (.int (1 : Int32))] [(.ref w_ISOLATE)])) rfl (by rw [hml]; rfl) own_pd0 rfl rfl (by show 2 * 0 + _ ≤ _; exact Nat.le_of_eq rfl) (hb hby at_92) ?_
  intro T35 v35 L35 X35 hQ35
  obtain ⟨rfl, N35q, e35⟩ := hQ35
  have N35 := Fr.app N32 N35q
  show own_Goes _ _ _ _ T35 (mkF m 95 #[.val (.int p1), .val (.ref b1), .val (.int (0 : Int32)), .val (.ref w_ISOLATE), .val (.int (1 : Int32)), .val (.int (106 : Int32)), .val (.int (1 : Int32))] [(.int (1 : Int32))])
  refine own_step (fun t k => XS.iload X35.here hx rfl (hb hby at_95) rfl k) ?_
  show own_Goes _ _ _ _ T35 (mkF m 97 #[.val (.int p1), .val (.ref b1), .val (.int (0 : Int32)), .val (.ref w_ISOLATE), .val (.int (1 : Int32)), .val (.int (106 : Int32)), .val (.int (1 : Int32))] [(.int (1 : Int32)), (.int (1 : Int32))])
  refine own_step (fun t k => XS.icmpNo X35.here hx rfl (hb hby at_97) rfl (teq (show (1 : Int32) = (1 : Int32) from (by decide))).2 k) ?_
  show own_Goes _ _ _ _ T35 (mkF m 100 #[.val (.int p1), .val (.ref b1), .val (.int (0 : Int32)), .val (.ref w_ISOLATE), .val (.int (1 : Int32)), .val (.int (106 : Int32)), .val (.int (1 : Int32))] [])
  refine own_step (fun t k => XS.iconst X35.here hx rfl (hb hby at_100) k) ?_
  show own_Goes _ _ _ _ T35 (mkF m 101 #[.val (.int p1), .val (.ref b1), .val (.int (0 : Int32)), .val (.ref w_ISOLATE), .val (.int (1 : Int32)), .val (.int (106 : Int32)), .val (.int (1 : Int32))] [(.int (1 : Int32))])
  refine own_step (fun t k => XS.goto X35.here hx rfl (pc0 := 101) (pc' := 105) rfl (hb hby at_101) (by decide) (by decide) k) ?_
  show own_Goes _ _ _ _ T35 (mkF m 105 #[.val (.int p1), .val (.ref b1), .val (.int (0 : Int32)), .val (.ref w_ISOLATE), .val (.int (1 : Int32)), .val (.int (106 : Int32)), .val (.int (1 : Int32))] [(.int (1 : Int32))])
  exact own_retN X35 hx hlk (t := .boolean) hrt (by simp) (hb hby at_105) ⟨rfl, N35⟩ (by decide) (by decide)
set_option maxRecDepth 65536 in
set_option maxHeartbeats 40000000 in
theorem own_law1 (l : Launch) (Z : State) (a0 : Array Value) (hw : ∀ d ∈ tables_1, d.before a0 Z = true) (ws : List Jvm.Cond) (p1 : Int32) (w_ISOLATE : Addr) (w_COPY : Addr) (w_COUNT : Addr) (w_PREPARE : Addr) (w_SWITCH : Addr) (w_CARRY : Addr) (w_ABANDON : Addr) (w_END : Addr) (h0 : Heap) (n0 : Nat) (Z0 : n0 ≤ h0.size) (S_ISOLATE : Sta Z h0 "com/example/ringshift/ringshift/net/KeyChangeStep" "ISOLATE" "Lcom/example/ringshift/ringshift/net/KeyChangeStep;" (.ref w_ISOLATE)) (S_COPY : Sta Z h0 "com/example/ringshift/ringshift/net/KeyChangeStep" "COPY" "Lcom/example/ringshift/ringshift/net/KeyChangeStep;" (.ref w_COPY)) (S_COUNT : Sta Z h0 "com/example/ringshift/ringshift/net/KeyChangeStep" "COUNT" "Lcom/example/ringshift/ringshift/net/KeyChangeStep;" (.ref w_COUNT)) (S_PREPARE : Sta Z h0 "com/example/ringshift/ringshift/net/KeyChangeStep" "PREPARE" "Lcom/example/ringshift/ringshift/net/KeyChangeStep;" (.ref w_PREPARE)) (S_SWITCH : Sta Z h0 "com/example/ringshift/ringshift/net/KeyChangeStep" "SWITCH" "Lcom/example/ringshift/ringshift/net/KeyChangeStep;" (.ref w_SWITCH)) (S_CARRY : Sta Z h0 "com/example/ringshift/ringshift/net/KeyChangeStep" "CARRY" "Lcom/example/ringshift/ringshift/net/KeyChangeStep;" (.ref w_CARRY)) (S_ABANDON : Sta Z h0 "com/example/ringshift/ringshift/net/KeyChangeStep" "ABANDON" "Lcom/example/ringshift/ringshift/net/KeyChangeStep;" (.ref w_ABANDON)) (S_END : Sta Z h0 "com/example/ringshift/ringshift/net/KeyChangeStep" "END" "Lcom/example/ringshift/ringshift/net/KeyChangeStep;" (.ref w_END)) (E_w_ISOLATE : Exa Z h0 w_ISOLATE "com/example/ringshift/ringshift/net/KeyChangeStep") (E_w_COPY : Exa Z h0 w_COPY "com/example/ringshift/ringshift/net/KeyChangeStep") (E_w_COUNT : Exa Z h0 w_COUNT "com/example/ringshift/ringshift/net/KeyChangeStep") (E_w_PREPARE : Exa Z h0 w_PREPARE "com/example/ringshift/ringshift/net/KeyChangeStep") (E_w_SWITCH : Exa Z h0 w_SWITCH "com/example/ringshift/ringshift/net/KeyChangeStep") (E_w_CARRY : Exa Z h0 w_CARRY "com/example/ringshift/ringshift/net/KeyChangeStep") (E_w_ABANDON : Exa Z h0 w_ABANDON "com/example/ringshift/ringshift/net/KeyChangeStep") (E_w_END : Exa Z h0 w_END "com/example/ringshift/ringshift/net/KeyChangeStep") (ne_COPY_ISOLATE : ¬ (w_COPY = w_ISOLATE)) (ne_COPY_COUNT : ¬ (w_COPY = w_COUNT)) (ne_COPY_SWITCH : ¬ (w_COPY = w_SWITCH)) (ne_COPY_CARRY : ¬ (w_COPY = w_CARRY)) (hi : (p1 &&& (7 : Int32)) = (1 : Int32)) :
    own_Met l Z x code maxLocals ret ws room_1 #[(.int p1)] h0 (fun v h L => v = some (.int 1) ∧ Fr n0 L) := by
  refine own_body (plainFor_of_name own_pn_com_example_ringshift_ringshift_net_KeyChangeStepEndsPhasePinLaw) (fun p e s m below meth c s₁ hx hby hml0 hrt hlk hown0 hnm hZ X0 e0 => ?_)
  have N0 := Fr.nil n0
  have hown : s.vm.findClass "com/example/ringshift/ringshift/net/KeyChangeStepEndsPhasePinLaw" = some m.cls := hown0
  have hml : c.maxLocals = 7 := hml0
  refine own_castG (own_ef1 m p1) ?_
  show own_Goes _ _ _ _ s₁ (mkF m 0 #[.val (.int p1), .unset, .unset, .unset, .unset, .unset, .unset] [])
  refine own_step (fun t k => XS.bipush X0.here hx rfl (hb hby at_0) k) ?_
  show own_Goes _ _ _ _ s₁ (mkF m 2 #[.val (.int p1), .unset, .unset, .unset, .unset, .unset, .unset] [(.int (8 : Int32))])
  obtain ⟨T1, h1, k1, X1, e1, E1, A1, O1, st1⟩ := newR X0 hx hZ hown (hw _ (List.mem_of_getElem? (i := 0) rfl)) (hw _ (List.mem_of_getElem? (i := 1) rfl)) e0 (g := (mkF m 2 #[.val (.int p1), .unset, .unset, .unset, .unset, .unset, .unset] [(.int (8 : Int32))])) rfl (hb hby at_2) rfl (by decide) (cap := 8) (by decide) (by decide) (by decide) (by decide)
  obtain ⟨b1, g1⟩ : ∃ z, z = h0.size := ⟨_, rfl⟩
  rw [← g1] at A1 st1
  refine own_step st1 ?_
  have g_b1 : n0 ≤ b1 := Nat.le_trans Z0 (Nat.le_of_eq g1.symm)
  have sz_b1 : h0.size ≤ b1 := Nat.le_trans (Keep.refl h0 []).1 (Nat.le_of_eq g1.symm)
  have ne_w_ISOLATE_b1 : w_ISOLATE ≠ b1 := Nat.ne_of_lt (Nat.lt_of_lt_of_le E_w_ISOLATE.lt (Nat.le_of_eq g1.symm))
  have ne_w_COPY_b1 : w_COPY ≠ b1 := Nat.ne_of_lt (Nat.lt_of_lt_of_le E_w_COPY.lt (Nat.le_of_eq g1.symm))
  have ne_w_COUNT_b1 : w_COUNT ≠ b1 := Nat.ne_of_lt (Nat.lt_of_lt_of_le E_w_COUNT.lt (Nat.le_of_eq g1.symm))
  have ne_w_PREPARE_b1 : w_PREPARE ≠ b1 := Nat.ne_of_lt (Nat.lt_of_lt_of_le E_w_PREPARE.lt (Nat.le_of_eq g1.symm))
  have ne_w_SWITCH_b1 : w_SWITCH ≠ b1 := Nat.ne_of_lt (Nat.lt_of_lt_of_le E_w_SWITCH.lt (Nat.le_of_eq g1.symm))
  have ne_w_CARRY_b1 : w_CARRY ≠ b1 := Nat.ne_of_lt (Nat.lt_of_lt_of_le E_w_CARRY.lt (Nat.le_of_eq g1.symm))
  have ne_w_ABANDON_b1 : w_ABANDON ≠ b1 := Nat.ne_of_lt (Nat.lt_of_lt_of_le E_w_ABANDON.lt (Nat.le_of_eq g1.symm))
  have ne_w_END_b1 : w_END ≠ b1 := Nat.ne_of_lt (Nat.lt_of_lt_of_le E_w_END.lt (Nat.le_of_eq g1.symm))
  have K1 := (Keep.refl h0 []).ext E1
  have V_b1 : Arv Z h1 b1 k1 (.object "com/example/ringshift/ringshift/net/KeyChangeStep") (8 : Int32) [.null, .null, .null, .null, .null, .null, .null, .null] .null := (Arv.new A1 (by decide)).pad (pad_rep [] .null 8)
  show own_Goes _ _ _ _ T1 (mkF m 5 #[.val (.int p1), .unset, .unset, .unset, .unset, .unset, .unset] [(.ref b1)])
  refine own_step (fun t k => XS.dup X1.here hx rfl (hb hby at_5) rfl rfl k) ?_
  show own_Goes _ _ _ _ T1 (mkF m 6 #[.val (.int p1), .unset, .unset, .unset, .unset, .unset, .unset] [(.ref b1), (.ref b1)])
  refine own_step (fun t k => XS.iconst X1.here hx rfl (hb hby at_6) k) ?_
  show own_Goes _ _ _ _ T1 (mkF m 7 #[.val (.int p1), .unset, .unset, .unset, .unset, .unset, .unset] [(.int (0 : Int32)), (.ref b1), (.ref b1)])
  have S_ISOLATE_v3 := (S_ISOLATE.ext E1)
  obtain ⟨T2, X2, e2, st2⟩ := getS2 X1 hx hZ hown (host := "") (Or.inl (hw _ (List.mem_of_getElem? (i := 2) rfl))) Via.refl e1 S_ISOLATE_v3 (g := (mkF m 7 #[.val (.int p1), .unset, .unset, .unset, .unset, .unset, .unset] [(.int (0 : Int32)), (.ref b1), (.ref b1)])) rfl (hb hby at_7)
  refine own_step st2 ?_
  show own_Goes _ _ _ _ T2 (mkF m 10 #[.val (.int p1), .unset, .unset, .unset, .unset, .unset, .unset] [(.ref w_ISOLATE), (.int (0 : Int32)), (.ref b1), (.ref b1)])
  have E_w_ISOLATE_v5 := (E_w_ISOLATE.ext E1)
  obtain ⟨T4, h4, X4, e4, W4, V4, st4⟩ := own_aastore X2 hx hZ e2 V_b1 O1 (Ins.self E_w_ISOLATE_v5) (j := (0 : Int32)) ⟨by decide, by decide⟩ 0 rfl (Nat.le_of_ble_eq_true rfl) (g := (mkF m 10 #[.val (.int p1), .unset, .unset, .unset, .unset, .unset, .unset] [(.ref w_ISOLATE), (.int (0 : Int32)), (.ref b1), (.ref b1)])) rfl rfl (hb hby at_10)
  refine own_step st4 ?_
  have K4 := K1.wr W4 (Or.inr sz_b1)
  have N4 := Fr.snoc X4 N0 g_b1
  have V4' : Arv Z h4 b1 k1 (.object "com/example/ringshift/ringshift/net/KeyChangeStep") (8 : Int32) [(.ref w_ISOLATE), .null, .null, .null, .null, .null, .null, .null] .null := V4
  show own_Goes _ _ _ _ T4 (mkF m 11 #[.val (.int p1), .unset, .unset, .unset, .unset, .unset, .unset] [(.ref b1)])
  refine own_step (fun t k => XS.dup X4.here hx rfl (hb hby at_11) rfl rfl k) ?_
  show own_Goes _ _ _ _ T4 (mkF m 12 #[.val (.int p1), .unset, .unset, .unset, .unset, .unset, .unset] [(.ref b1), (.ref b1)])
  refine own_step (fun t k => XS.iconst X4.here hx rfl (hb hby at_12) k) ?_
  show own_Goes _ _ _ _ T4 (mkF m 13 #[.val (.int p1), .unset, .unset, .unset, .unset, .unset, .unset] [(.int (1 : Int32)), (.ref b1), (.ref b1)])
  have S_COPY_v7 := ((S_COPY.ext E1).wr W4)
  obtain ⟨T6, X6, e6, st6⟩ := getS2 X4 hx hZ hown (host := "") (Or.inl (hw _ (List.mem_of_getElem? (i := 6) rfl))) Via.refl e4 S_COPY_v7 (g := (mkF m 13 #[.val (.int p1), .unset, .unset, .unset, .unset, .unset, .unset] [(.int (1 : Int32)), (.ref b1), (.ref b1)])) rfl (hb hby at_13)
  refine own_step st6 ?_
  show own_Goes _ _ _ _ T6 (mkF m 16 #[.val (.int p1), .unset, .unset, .unset, .unset, .unset, .unset] [(.ref w_COPY), (.int (1 : Int32)), (.ref b1), (.ref b1)])
  have E_w_COPY_v9 := ((E_w_COPY.ext E1).wr W4)
  obtain ⟨T8, h8, X8, e8, W8, V8, st8⟩ := own_aastore X6 hx hZ e6 V4' O1 (Ins.self E_w_COPY_v9) (j := (1 : Int32)) ⟨by decide, by decide⟩ 1 rfl (Nat.le_of_ble_eq_true rfl) (g := (mkF m 16 #[.val (.int p1), .unset, .unset, .unset, .unset, .unset, .unset] [(.ref w_COPY), (.int (1 : Int32)), (.ref b1), (.ref b1)])) rfl rfl (hb hby at_16)
  refine own_step st8 ?_
  have K8 := K4.wr W8 (Or.inr sz_b1)
  have N8 := Fr.snoc X8 N4 g_b1
  have V8' : Arv Z h8 b1 k1 (.object "com/example/ringshift/ringshift/net/KeyChangeStep") (8 : Int32) [(.ref w_ISOLATE), (.ref w_COPY), .null, .null, .null, .null, .null, .null] .null := V8
  show own_Goes _ _ _ _ T8 (mkF m 17 #[.val (.int p1), .unset, .unset, .unset, .unset, .unset, .unset] [(.ref b1)])
  refine own_step (fun t k => XS.dup X8.here hx rfl (hb hby at_17) rfl rfl k) ?_
  show own_Goes _ _ _ _ T8 (mkF m 18 #[.val (.int p1), .unset, .unset, .unset, .unset, .unset, .unset] [(.ref b1), (.ref b1)])
  refine own_step (fun t k => XS.iconst X8.here hx rfl (hb hby at_18) k) ?_
  show own_Goes _ _ _ _ T8 (mkF m 19 #[.val (.int p1), .unset, .unset, .unset, .unset, .unset, .unset] [(.int (2 : Int32)), (.ref b1), (.ref b1)])
  have S_COUNT_v11 := (((S_COUNT.ext E1).wr W4).wr W8)
  obtain ⟨T10, X10, e10, st10⟩ := getS2 X8 hx hZ hown (host := "") (Or.inl (hw _ (List.mem_of_getElem? (i := 8) rfl))) Via.refl e8 S_COUNT_v11 (g := (mkF m 19 #[.val (.int p1), .unset, .unset, .unset, .unset, .unset, .unset] [(.int (2 : Int32)), (.ref b1), (.ref b1)])) rfl (hb hby at_19)
  refine own_step st10 ?_
  show own_Goes _ _ _ _ T10 (mkF m 22 #[.val (.int p1), .unset, .unset, .unset, .unset, .unset, .unset] [(.ref w_COUNT), (.int (2 : Int32)), (.ref b1), (.ref b1)])
  have E_w_COUNT_v13 := (((E_w_COUNT.ext E1).wr W4).wr W8)
  obtain ⟨T12, h12, X12, e12, W12, V12, st12⟩ := own_aastore X10 hx hZ e10 V8' O1 (Ins.self E_w_COUNT_v13) (j := (2 : Int32)) ⟨by decide, by decide⟩ 2 rfl (Nat.le_of_ble_eq_true rfl) (g := (mkF m 22 #[.val (.int p1), .unset, .unset, .unset, .unset, .unset, .unset] [(.ref w_COUNT), (.int (2 : Int32)), (.ref b1), (.ref b1)])) rfl rfl (hb hby at_22)
  refine own_step st12 ?_
  have K12 := K8.wr W12 (Or.inr sz_b1)
  have N12 := Fr.snoc X12 N8 g_b1
  have V12' : Arv Z h12 b1 k1 (.object "com/example/ringshift/ringshift/net/KeyChangeStep") (8 : Int32) [(.ref w_ISOLATE), (.ref w_COPY), (.ref w_COUNT), .null, .null, .null, .null, .null] .null := V12
  show own_Goes _ _ _ _ T12 (mkF m 23 #[.val (.int p1), .unset, .unset, .unset, .unset, .unset, .unset] [(.ref b1)])
  refine own_step (fun t k => XS.dup X12.here hx rfl (hb hby at_23) rfl rfl k) ?_
  show own_Goes _ _ _ _ T12 (mkF m 24 #[.val (.int p1), .unset, .unset, .unset, .unset, .unset, .unset] [(.ref b1), (.ref b1)])
  refine own_step (fun t k => XS.iconst X12.here hx rfl (hb hby at_24) k) ?_
  show own_Goes _ _ _ _ T12 (mkF m 25 #[.val (.int p1), .unset, .unset, .unset, .unset, .unset, .unset] [(.int (3 : Int32)), (.ref b1), (.ref b1)])
  have S_PREPARE_v15 := ((((S_PREPARE.ext E1).wr W4).wr W8).wr W12)
  obtain ⟨T14, X14, e14, st14⟩ := getS2 X12 hx hZ hown (host := "") (Or.inl (hw _ (List.mem_of_getElem? (i := 10) rfl))) Via.refl e12 S_PREPARE_v15 (g := (mkF m 25 #[.val (.int p1), .unset, .unset, .unset, .unset, .unset, .unset] [(.int (3 : Int32)), (.ref b1), (.ref b1)])) rfl (hb hby at_25)
  refine own_step st14 ?_
  show own_Goes _ _ _ _ T14 (mkF m 28 #[.val (.int p1), .unset, .unset, .unset, .unset, .unset, .unset] [(.ref w_PREPARE), (.int (3 : Int32)), (.ref b1), (.ref b1)])
  have E_w_PREPARE_v17 := ((((E_w_PREPARE.ext E1).wr W4).wr W8).wr W12)
  obtain ⟨T16, h16, X16, e16, W16, V16, st16⟩ := own_aastore X14 hx hZ e14 V12' O1 (Ins.self E_w_PREPARE_v17) (j := (3 : Int32)) ⟨by decide, by decide⟩ 3 rfl (Nat.le_of_ble_eq_true rfl) (g := (mkF m 28 #[.val (.int p1), .unset, .unset, .unset, .unset, .unset, .unset] [(.ref w_PREPARE), (.int (3 : Int32)), (.ref b1), (.ref b1)])) rfl rfl (hb hby at_28)
  refine own_step st16 ?_
  have K16 := K12.wr W16 (Or.inr sz_b1)
  have N16 := Fr.snoc X16 N12 g_b1
  have V16' : Arv Z h16 b1 k1 (.object "com/example/ringshift/ringshift/net/KeyChangeStep") (8 : Int32) [(.ref w_ISOLATE), (.ref w_COPY), (.ref w_COUNT), (.ref w_PREPARE), .null, .null, .null, .null] .null := V16
  show own_Goes _ _ _ _ T16 (mkF m 29 #[.val (.int p1), .unset, .unset, .unset, .unset, .unset, .unset] [(.ref b1)])
  refine own_step (fun t k => XS.dup X16.here hx rfl (hb hby at_29) rfl rfl k) ?_
  show own_Goes _ _ _ _ T16 (mkF m 30 #[.val (.int p1), .unset, .unset, .unset, .unset, .unset, .unset] [(.ref b1), (.ref b1)])
  refine own_step (fun t k => XS.iconst X16.here hx rfl (hb hby at_30) k) ?_
  show own_Goes _ _ _ _ T16 (mkF m 31 #[.val (.int p1), .unset, .unset, .unset, .unset, .unset, .unset] [(.int (4 : Int32)), (.ref b1), (.ref b1)])
  have S_SWITCH_v19 := (((((S_SWITCH.ext E1).wr W4).wr W8).wr W12).wr W16)
  obtain ⟨T18, X18, e18, st18⟩ := getS2 X16 hx hZ hown (host := "") (Or.inl (hw _ (List.mem_of_getElem? (i := 12) rfl))) Via.refl e16 S_SWITCH_v19 (g := (mkF m 31 #[.val (.int p1), .unset, .unset, .unset, .unset, .unset, .unset] [(.int (4 : Int32)), (.ref b1), (.ref b1)])) rfl (hb hby at_31)
  refine own_step st18 ?_
  show own_Goes _ _ _ _ T18 (mkF m 34 #[.val (.int p1), .unset, .unset, .unset, .unset, .unset, .unset] [(.ref w_SWITCH), (.int (4 : Int32)), (.ref b1), (.ref b1)])
  have E_w_SWITCH_v21 := (((((E_w_SWITCH.ext E1).wr W4).wr W8).wr W12).wr W16)
  obtain ⟨T20, h20, X20, e20, W20, V20, st20⟩ := own_aastore X18 hx hZ e18 V16' O1 (Ins.self E_w_SWITCH_v21) (j := (4 : Int32)) ⟨by decide, by decide⟩ 4 rfl (Nat.le_of_ble_eq_true rfl) (g := (mkF m 34 #[.val (.int p1), .unset, .unset, .unset, .unset, .unset, .unset] [(.ref w_SWITCH), (.int (4 : Int32)), (.ref b1), (.ref b1)])) rfl rfl (hb hby at_34)
  refine own_step st20 ?_
  have K20 := K16.wr W20 (Or.inr sz_b1)
  have N20 := Fr.snoc X20 N16 g_b1
  have V20' : Arv Z h20 b1 k1 (.object "com/example/ringshift/ringshift/net/KeyChangeStep") (8 : Int32) [(.ref w_ISOLATE), (.ref w_COPY), (.ref w_COUNT), (.ref w_PREPARE), (.ref w_SWITCH), .null, .null, .null] .null := V20
  show own_Goes _ _ _ _ T20 (mkF m 35 #[.val (.int p1), .unset, .unset, .unset, .unset, .unset, .unset] [(.ref b1)])
  refine own_step (fun t k => XS.dup X20.here hx rfl (hb hby at_35) rfl rfl k) ?_
  show own_Goes _ _ _ _ T20 (mkF m 36 #[.val (.int p1), .unset, .unset, .unset, .unset, .unset, .unset] [(.ref b1), (.ref b1)])
  refine own_step (fun t k => XS.iconst X20.here hx rfl (hb hby at_36) k) ?_
  show own_Goes _ _ _ _ T20 (mkF m 37 #[.val (.int p1), .unset, .unset, .unset, .unset, .unset, .unset] [(.int (5 : Int32)), (.ref b1), (.ref b1)])
  have S_CARRY_v23 := ((((((S_CARRY.ext E1).wr W4).wr W8).wr W12).wr W16).wr W20)
  obtain ⟨T22, X22, e22, st22⟩ := getS2 X20 hx hZ hown (host := "") (Or.inl (hw _ (List.mem_of_getElem? (i := 14) rfl))) Via.refl e20 S_CARRY_v23 (g := (mkF m 37 #[.val (.int p1), .unset, .unset, .unset, .unset, .unset, .unset] [(.int (5 : Int32)), (.ref b1), (.ref b1)])) rfl (hb hby at_37)
  refine own_step st22 ?_
  show own_Goes _ _ _ _ T22 (mkF m 40 #[.val (.int p1), .unset, .unset, .unset, .unset, .unset, .unset] [(.ref w_CARRY), (.int (5 : Int32)), (.ref b1), (.ref b1)])
  have E_w_CARRY_v25 := ((((((E_w_CARRY.ext E1).wr W4).wr W8).wr W12).wr W16).wr W20)
  obtain ⟨T24, h24, X24, e24, W24, V24, st24⟩ := own_aastore X22 hx hZ e22 V20' O1 (Ins.self E_w_CARRY_v25) (j := (5 : Int32)) ⟨by decide, by decide⟩ 5 rfl (Nat.le_of_ble_eq_true rfl) (g := (mkF m 40 #[.val (.int p1), .unset, .unset, .unset, .unset, .unset, .unset] [(.ref w_CARRY), (.int (5 : Int32)), (.ref b1), (.ref b1)])) rfl rfl (hb hby at_40)
  refine own_step st24 ?_
  have K24 := K20.wr W24 (Or.inr sz_b1)
  have N24 := Fr.snoc X24 N20 g_b1
  have V24' : Arv Z h24 b1 k1 (.object "com/example/ringshift/ringshift/net/KeyChangeStep") (8 : Int32) [(.ref w_ISOLATE), (.ref w_COPY), (.ref w_COUNT), (.ref w_PREPARE), (.ref w_SWITCH), (.ref w_CARRY), .null, .null] .null := V24
  show own_Goes _ _ _ _ T24 (mkF m 41 #[.val (.int p1), .unset, .unset, .unset, .unset, .unset, .unset] [(.ref b1)])
  refine own_step (fun t k => XS.dup X24.here hx rfl (hb hby at_41) rfl rfl k) ?_
  show own_Goes _ _ _ _ T24 (mkF m 42 #[.val (.int p1), .unset, .unset, .unset, .unset, .unset, .unset] [(.ref b1), (.ref b1)])
  refine own_step (fun t k => XS.bipush X24.here hx rfl (hb hby at_42) k) ?_
  show own_Goes _ _ _ _ T24 (mkF m 44 #[.val (.int p1), .unset, .unset, .unset, .unset, .unset, .unset] [(.int (6 : Int32)), (.ref b1), (.ref b1)])
  have S_ABANDON_v27 := (((((((S_ABANDON.ext E1).wr W4).wr W8).wr W12).wr W16).wr W20).wr W24)
  obtain ⟨T26, X26, e26, st26⟩ := getS2 X24 hx hZ hown (host := "") (Or.inl (hw _ (List.mem_of_getElem? (i := 16) rfl))) Via.refl e24 S_ABANDON_v27 (g := (mkF m 44 #[.val (.int p1), .unset, .unset, .unset, .unset, .unset, .unset] [(.int (6 : Int32)), (.ref b1), (.ref b1)])) rfl (hb hby at_44)
  refine own_step st26 ?_
  show own_Goes _ _ _ _ T26 (mkF m 47 #[.val (.int p1), .unset, .unset, .unset, .unset, .unset, .unset] [(.ref w_ABANDON), (.int (6 : Int32)), (.ref b1), (.ref b1)])
  have E_w_ABANDON_v29 := (((((((E_w_ABANDON.ext E1).wr W4).wr W8).wr W12).wr W16).wr W20).wr W24)
  obtain ⟨T28, h28, X28, e28, W28, V28, st28⟩ := own_aastore X26 hx hZ e26 V24' O1 (Ins.self E_w_ABANDON_v29) (j := (6 : Int32)) ⟨by decide, by decide⟩ 6 rfl (Nat.le_of_ble_eq_true rfl) (g := (mkF m 47 #[.val (.int p1), .unset, .unset, .unset, .unset, .unset, .unset] [(.ref w_ABANDON), (.int (6 : Int32)), (.ref b1), (.ref b1)])) rfl rfl (hb hby at_47)
  refine own_step st28 ?_
  have K28 := K24.wr W28 (Or.inr sz_b1)
  have N28 := Fr.snoc X28 N24 g_b1
  have V28' : Arv Z h28 b1 k1 (.object "com/example/ringshift/ringshift/net/KeyChangeStep") (8 : Int32) [(.ref w_ISOLATE), (.ref w_COPY), (.ref w_COUNT), (.ref w_PREPARE), (.ref w_SWITCH), (.ref w_CARRY), (.ref w_ABANDON), .null] .null := V28
  show own_Goes _ _ _ _ T28 (mkF m 48 #[.val (.int p1), .unset, .unset, .unset, .unset, .unset, .unset] [(.ref b1)])
  refine own_step (fun t k => XS.dup X28.here hx rfl (hb hby at_48) rfl rfl k) ?_
  show own_Goes _ _ _ _ T28 (mkF m 49 #[.val (.int p1), .unset, .unset, .unset, .unset, .unset, .unset] [(.ref b1), (.ref b1)])
  refine own_step (fun t k => XS.bipush X28.here hx rfl (hb hby at_49) k) ?_
  show own_Goes _ _ _ _ T28 (mkF m 51 #[.val (.int p1), .unset, .unset, .unset, .unset, .unset, .unset] [(.int (7 : Int32)), (.ref b1), (.ref b1)])
  have S_END_v31 := ((((((((S_END.ext E1).wr W4).wr W8).wr W12).wr W16).wr W20).wr W24).wr W28)
  obtain ⟨T30, X30, e30, st30⟩ := getS2 X28 hx hZ hown (host := "") (Or.inl (hw _ (List.mem_of_getElem? (i := 18) rfl))) Via.refl e28 S_END_v31 (g := (mkF m 51 #[.val (.int p1), .unset, .unset, .unset, .unset, .unset, .unset] [(.int (7 : Int32)), (.ref b1), (.ref b1)])) rfl (hb hby at_51)
  refine own_step st30 ?_
  show own_Goes _ _ _ _ T30 (mkF m 54 #[.val (.int p1), .unset, .unset, .unset, .unset, .unset, .unset] [(.ref w_END), (.int (7 : Int32)), (.ref b1), (.ref b1)])
  have E_w_END_v33 := ((((((((E_w_END.ext E1).wr W4).wr W8).wr W12).wr W16).wr W20).wr W24).wr W28)
  obtain ⟨T32, h32, X32, e32, W32, V32, st32⟩ := own_aastore X30 hx hZ e30 V28' O1 (Ins.self E_w_END_v33) (j := (7 : Int32)) ⟨by decide, by decide⟩ 7 rfl (Nat.le_of_ble_eq_true rfl) (g := (mkF m 54 #[.val (.int p1), .unset, .unset, .unset, .unset, .unset, .unset] [(.ref w_END), (.int (7 : Int32)), (.ref b1), (.ref b1)])) rfl rfl (hb hby at_54)
  refine own_step st32 ?_
  have K32 := K28.wr W32 (Or.inr sz_b1)
  have N32 := Fr.snoc X32 N28 g_b1
  have V32' : Arv Z h32 b1 k1 (.object "com/example/ringshift/ringshift/net/KeyChangeStep") (8 : Int32) [(.ref w_ISOLATE), (.ref w_COPY), (.ref w_COUNT), (.ref w_PREPARE), (.ref w_SWITCH), (.ref w_CARRY), (.ref w_ABANDON), (.ref w_END)] .null := V32
  show own_Goes _ _ _ _ T32 (mkF m 55 #[.val (.int p1), .unset, .unset, .unset, .unset, .unset, .unset] [(.ref b1)])
  refine own_step (fun t k => XS.astoreN X32.here hx rfl (hb hby at_55) rfl rfl (l' := #[.val (.int p1), .val (.ref b1), .unset, .unset, .unset, .unset, .unset]) rfl k) ?_
  show own_Goes _ _ _ _ T32 (mkF m 56 #[.val (.int p1), .val (.ref b1), .unset, .unset, .unset, .unset, .unset] [])
  refine own_step (fun t k => XS.iloadN X32.here hx rfl (hb hby at_56) rfl k) ?_
  show own_Goes _ _ _ _ T32 (mkF m 57 #[.val (.int p1), .val (.ref b1), .unset, .unset, .unset, .unset, .unset] [(.int p1)])
  refine own_step (fun t k => XS.bipush X32.here hx rfl (hb hby at_57) k) ?_
  show own_Goes _ _ _ _ T32 (mkF m 59 #[.val (.int p1), .val (.ref b1), .unset, .unset, .unset, .unset, .unset] [(.int (7 : Int32)), (.int p1)])
  refine own_step (fun t k => XS.iand X32.here hx rfl (hb hby at_59) rfl k) ?_
  show own_Goes _ _ _ _ T32 (mkF m 60 #[.val (.int p1), .val (.ref b1), .unset, .unset, .unset, .unset, .unset] [(.int (p1 &&& (7 : Int32)))])
  rw [hi]
  show own_Goes _ _ _ _ T32 (mkF m 60 #[.val (.int p1), .val (.ref b1), .unset, .unset, .unset, .unset, .unset] [(.int (1 : Int32))])
  refine own_step (fun t k => XS.istoreN X32.here hx rfl (hb hby at_60) rfl (l' := #[.val (.int p1), .val (.ref b1), .val (.int (1 : Int32)), .unset, .unset, .unset, .unset]) rfl k) ?_
  show own_Goes _ _ _ _ T32 (mkF m 61 #[.val (.int p1), .val (.ref b1), .val (.int (1 : Int32)), .unset, .unset, .unset, .unset] [])
  refine own_step (fun t k => XS.aloadN X32.here hx rfl (hb hby at_61) rfl rfl k) ?_
  show own_Goes _ _ _ _ T32 (mkF m 62 #[.val (.int p1), .val (.ref b1), .val (.int (1 : Int32)), .unset, .unset, .unset, .unset] [(.ref b1)])
  refine own_step (fun t k => XS.iloadN X32.here hx rfl (hb hby at_62) rfl k) ?_
  show own_Goes _ _ _ _ T32 (mkF m 63 #[.val (.int p1), .val (.ref b1), .val (.int (1 : Int32)), .unset, .unset, .unset, .unset] [(.int (1 : Int32)), (.ref b1)])
  refine own_step (own_aaload X32 hx hZ e32 V32' rfl (.ref w_COPY) ⟨by decide, by decide⟩ rfl (g := (mkF m 63 #[.val (.int p1), .val (.ref b1), .val (.int (1 : Int32)), .unset, .unset, .unset, .unset] [(.int (1 : Int32)), (.ref b1)])) rfl rfl (hb hby at_63)) ?_
  show own_Goes _ _ _ _ T32 (mkF m 64 #[.val (.int p1), .val (.ref b1), .val (.int (1 : Int32)), .unset, .unset, .unset, .unset] [(.ref w_COPY)])
  refine own_step (fun t k => XS.astoreN X32.here hx rfl (hb hby at_64) rfl rfl (l' := #[.val (.int p1), .val (.ref b1), .val (.int (1 : Int32)), .val (.ref w_COPY), .unset, .unset, .unset]) rfl k) ?_
  show own_Goes _ _ _ _ T32 (mkF m 65 #[.val (.int p1), .val (.ref b1), .val (.int (1 : Int32)), .val (.ref w_COPY), .unset, .unset, .unset] [])
  refine own_step (fun t k => XS.iloadN X32.here hx rfl (hb hby at_65) rfl k) ?_
  show own_Goes _ _ _ _ T32 (mkF m 66 #[.val (.int p1), .val (.ref b1), .val (.int (1 : Int32)), .val (.ref w_COPY), .unset, .unset, .unset] [(.int (1 : Int32))])
  refine own_step (fun t k => XS.iconst X32.here hx rfl (hb hby at_66) k) ?_
  show own_Goes _ _ _ _ T32 (mkF m 67 #[.val (.int p1), .val (.ref b1), .val (.int (1 : Int32)), .val (.ref w_COPY), .unset, .unset, .unset] [(.int (1 : Int32)), (.int (1 : Int32))])
  refine own_step (fun t k => XS.iadd X32.here hx rfl (hb hby at_67) rfl k) ?_
  show own_Goes _ _ _ _ T32 (mkF m 68 #[.val (.int p1), .val (.ref b1), .val (.int (1 : Int32)), .val (.ref w_COPY), .unset, .unset, .unset] [(.int (2 : Int32))])
  refine own_step (fun t k => XS.istore X32.here hx rfl (hb hby at_68) rfl (l' := #[.val (.int p1), .val (.ref b1), .val (.int (1 : Int32)), .val (.ref w_COPY), .val (.int (2 : Int32)), .unset, .unset]) rfl k) ?_
  show own_Goes _ _ _ _ T32 (mkF m 70 #[.val (.int p1), .val (.ref b1), .val (.int (1 : Int32)), .val (.ref w_COPY), .val (.int (2 : Int32)), .unset, .unset] [])
  refine own_step (fun t k => XS.bipush X32.here hx rfl (hb hby at_70) k) ?_
  show own_Goes _ _ _ _ T32 (mkF m 72 #[.val (.int p1), .val (.ref b1), .val (.int (1 : Int32)), .val (.ref w_COPY), .val (.int (2 : Int32)), .unset, .unset] [(.int (106 : Int32))])
  refine own_step (fun t k => XS.istore X32.here hx rfl (hb hby at_72) rfl (l' := #[.val (.int p1), .val (.ref b1), .val (.int (1 : Int32)), .val (.ref w_COPY), .val (.int (2 : Int32)), .val (.int (106 : Int32)), .unset]) rfl k) ?_
  show own_Goes _ _ _ _ T32 (mkF m 74 #[.val (.int p1), .val (.ref b1), .val (.int (1 : Int32)), .val (.ref w_COPY), .val (.int (2 : Int32)), .val (.int (106 : Int32)), .unset] [])
  refine own_step (fun t k => XS.iload X32.here hx rfl (hb hby at_74) rfl k) ?_
  show own_Goes _ _ _ _ T32 (mkF m 76 #[.val (.int p1), .val (.ref b1), .val (.int (1 : Int32)), .val (.ref w_COPY), .val (.int (2 : Int32)), .val (.int (106 : Int32)), .unset] [(.int (106 : Int32))])
  refine own_step (fun t k => XS.iload X32.here hx rfl (hb hby at_76) rfl k) ?_
  show own_Goes _ _ _ _ T32 (mkF m 78 #[.val (.int p1), .val (.ref b1), .val (.int (1 : Int32)), .val (.ref w_COPY), .val (.int (2 : Int32)), .val (.int (106 : Int32)), .unset] [(.int (2 : Int32)), (.int (106 : Int32))])
  refine own_step (fun t k => XS.ishr X32.here hx rfl (hb hby at_78) rfl k) ?_
  show own_Goes _ _ _ _ T32 (mkF m 79 #[.val (.int p1), .val (.ref b1), .val (.int (1 : Int32)), .val (.ref w_COPY), .val (.int (2 : Int32)), .val (.int (106 : Int32)), .unset] [(.int (26 : Int32))])
  refine own_step (fun t k => XS.iconst X32.here hx rfl (hb hby at_79) k) ?_
  show own_Goes _ _ _ _ T32 (mkF m 80 #[.val (.int p1), .val (.ref b1), .val (.int (1 : Int32)), .val (.ref w_COPY), .val (.int (2 : Int32)), .val (.int (106 : Int32)), .unset] [(.int (1 : Int32)), (.int (26 : Int32))])
  refine own_step (fun t k => XS.iand X32.here hx rfl (hb hby at_80) rfl k) ?_
  show own_Goes _ _ _ _ T32 (mkF m 81 #[.val (.int p1), .val (.ref b1), .val (.int (1 : Int32)), .val (.ref w_COPY), .val (.int (2 : Int32)), .val (.int (106 : Int32)), .unset] [(.int (0 : Int32))])
  refine own_step (fun t k => XS.ifYes X32.here hx rfl (pc0 := 81) (pc' := 88) rfl (hb hby at_81) rfl ((if0 _ _).trans (teq (show (0 : Int32) = (0 : Int32) from (by decide))).1) (by decide) (by decide) k) ?_
  show own_Goes _ _ _ _ T32 (mkF m 88 #[.val (.int p1), .val (.ref b1), .val (.int (1 : Int32)), .val (.ref w_COPY), .val (.int (2 : Int32)), .val (.int (106 : Int32)), .unset] [])
  refine own_step (fun t k => XS.iconst X32.here hx rfl (hb hby at_88) k) ?_
  show own_Goes _ _ _ _ T32 (mkF m 89 #[.val (.int p1), .val (.ref b1), .val (.int (1 : Int32)), .val (.ref w_COPY), .val (.int (2 : Int32)), .val (.int (106 : Int32)), .unset] [(.int (0 : Int32))])
  refine own_step (fun t k => XS.istore X32.here hx rfl (hb hby at_89) rfl (l' := #[.val (.int p1), .val (.ref b1), .val (.int (1 : Int32)), .val (.ref w_COPY), .val (.int (2 : Int32)), .val (.int (106 : Int32)), .val (.int (0 : Int32))]) rfl k) ?_
  show own_Goes _ _ _ _ T32 (mkF m 91 #[.val (.int p1), .val (.ref b1), .val (.int (1 : Int32)), .val (.ref w_COPY), .val (.int (2 : Int32)), .val (.int (106 : Int32)), .val (.int (0 : Int32))] [])
  refine own_step (fun t k => XS.aloadN X32.here hx rfl (hb hby at_91) rfl rfl k) ?_
  show own_Goes _ _ _ _ T32 (mkF m 92 #[.val (.int p1), .val (.ref b1), .val (.int (1 : Int32)), .val (.ref w_COPY), .val (.int (2 : Int32)), .val (.int (106 : Int32)), .val (.int (0 : Int32))] [(.ref w_COPY)])
  have S_ISOLATE_v34 := ((((((((S_ISOLATE_v3.wr W4).wr W8).wr W12).wr W16).wr W20).wr W24).wr W28).wr W32)
  have S_COUNT_v35 := ((((((S_COUNT_v11.wr W12).wr W16).wr W20).wr W24).wr W28).wr W32)
  have S_SWITCH_v36 := ((((S_SWITCH_v19.wr W20).wr W24).wr W28).wr W32)
  have S_CARRY_v37 := (((S_CARRY_v23.wr W24).wr W28).wr W32)
  have E_w_COPY_v39 := (((((((E_w_COPY_v9.wr W8).wr W12).wr W16).wr W20).wr W24).wr W28).wr W32)
  refine own_callV X32 hx hZ (y := (⟨"com/example/ringshift/ringshift/net/KeyChangeStep", "endsPhase", "()Z"⟩ : MethodName)) (z := (⟨"com/example/ringshift/ringshift/net/KeyChangeStep", "endsPhase", "()Z"⟩ : MethodName)) hown (hw _ (List.mem_of_getElem? (i := 20) rfl)) (hw _ (List.mem_of_getElem? (i := 21) rfl)) (notFace_of_selects (args := #[]) (mvT hZ (hw _ (List.mem_of_getElem? (i := 23) rfl)))) (hw _ (List.mem_of_getElem? (i := 23) rfl)) (hw _ (List.mem_of_getElem? (i := 22) rfl)) (hw _ (List.mem_of_getElem? (i := 24) rfl)) (hw _ (List.mem_of_getElem? (i := 3) rfl)) (by decide) 0 E_w_COPY_v39 [] [] (own_ends_COPY l Z a0 hw [] w_COPY w_ISOLATE w_COUNT w_SWITCH w_CARRY h32 n0 (Nat.le_trans Z0 K32.1) S_ISOLATE_v34 S_COUNT_v35 S_SWITCH_v36 S_CARRY_v37 ne_COPY_ISOLATE ne_COPY_COUNT ne_COPY_SWITCH ne_COPY_CARRY) e32 (by decide) (by decide) (by decide) (by decide) (g := (mkF m 92 #[.val (.int p1), .val (.ref b1), .val (.int (1 : Int32)), .val (.ref w_COPY), .val (.int (2 : Int32)), .val (.int (106 : Int32)), .val (.int (0 : Int32))] [(.ref w_COPY)])) rfl (by rw [hml]; rfl) own_pd0 rfl rfl (by show 2 * 0 + _ ≤ _; exact Nat.le_of_eq rfl) (hb hby at_92) ?_
  intro T38 v38 L38 X38 hQ38
  obtain ⟨rfl, N38q, e38⟩ := hQ38
  have N38 := Fr.app N32 N38q
  show own_Goes _ _ _ _ T38 (mkF m 95 #[.val (.int p1), .val (.ref b1), .val (.int (1 : Int32)), .val (.ref w_COPY), .val (.int (2 : Int32)), .val (.int (106 : Int32)), .val (.int (0 : Int32))] [(.int (0 : Int32))])
  refine own_step (fun t k => XS.iload X38.here hx rfl (hb hby at_95) rfl k) ?_
  show own_Goes _ _ _ _ T38 (mkF m 97 #[.val (.int p1), .val (.ref b1), .val (.int (1 : Int32)), .val (.ref w_COPY), .val (.int (2 : Int32)), .val (.int (106 : Int32)), .val (.int (0 : Int32))] [(.int (0 : Int32)), (.int (0 : Int32))])
  refine own_step (fun t k => XS.icmpNo X38.here hx rfl (hb hby at_97) rfl (teq (show (0 : Int32) = (0 : Int32) from (by decide))).2 k) ?_
  show own_Goes _ _ _ _ T38 (mkF m 100 #[.val (.int p1), .val (.ref b1), .val (.int (1 : Int32)), .val (.ref w_COPY), .val (.int (2 : Int32)), .val (.int (106 : Int32)), .val (.int (0 : Int32))] [])
  refine own_step (fun t k => XS.iconst X38.here hx rfl (hb hby at_100) k) ?_
  show own_Goes _ _ _ _ T38 (mkF m 101 #[.val (.int p1), .val (.ref b1), .val (.int (1 : Int32)), .val (.ref w_COPY), .val (.int (2 : Int32)), .val (.int (106 : Int32)), .val (.int (0 : Int32))] [(.int (1 : Int32))])
  refine own_step (fun t k => XS.goto X38.here hx rfl (pc0 := 101) (pc' := 105) rfl (hb hby at_101) (by decide) (by decide) k) ?_
  show own_Goes _ _ _ _ T38 (mkF m 105 #[.val (.int p1), .val (.ref b1), .val (.int (1 : Int32)), .val (.ref w_COPY), .val (.int (2 : Int32)), .val (.int (106 : Int32)), .val (.int (0 : Int32))] [(.int (1 : Int32))])
  exact own_retN X38 hx hlk (t := .boolean) hrt (by simp) (hb hby at_105) ⟨rfl, N38⟩ (by decide) (by decide)
set_option maxRecDepth 65536 in
set_option maxHeartbeats 40000000 in
theorem own_law2 (l : Launch) (Z : State) (a0 : Array Value) (hw : ∀ d ∈ tables_1, d.before a0 Z = true) (ws : List Jvm.Cond) (p1 : Int32) (w_ISOLATE : Addr) (w_COPY : Addr) (w_COUNT : Addr) (w_PREPARE : Addr) (w_SWITCH : Addr) (w_CARRY : Addr) (w_ABANDON : Addr) (w_END : Addr) (h0 : Heap) (n0 : Nat) (Z0 : n0 ≤ h0.size) (S_ISOLATE : Sta Z h0 "com/example/ringshift/ringshift/net/KeyChangeStep" "ISOLATE" "Lcom/example/ringshift/ringshift/net/KeyChangeStep;" (.ref w_ISOLATE)) (S_COPY : Sta Z h0 "com/example/ringshift/ringshift/net/KeyChangeStep" "COPY" "Lcom/example/ringshift/ringshift/net/KeyChangeStep;" (.ref w_COPY)) (S_COUNT : Sta Z h0 "com/example/ringshift/ringshift/net/KeyChangeStep" "COUNT" "Lcom/example/ringshift/ringshift/net/KeyChangeStep;" (.ref w_COUNT)) (S_PREPARE : Sta Z h0 "com/example/ringshift/ringshift/net/KeyChangeStep" "PREPARE" "Lcom/example/ringshift/ringshift/net/KeyChangeStep;" (.ref w_PREPARE)) (S_SWITCH : Sta Z h0 "com/example/ringshift/ringshift/net/KeyChangeStep" "SWITCH" "Lcom/example/ringshift/ringshift/net/KeyChangeStep;" (.ref w_SWITCH)) (S_CARRY : Sta Z h0 "com/example/ringshift/ringshift/net/KeyChangeStep" "CARRY" "Lcom/example/ringshift/ringshift/net/KeyChangeStep;" (.ref w_CARRY)) (S_ABANDON : Sta Z h0 "com/example/ringshift/ringshift/net/KeyChangeStep" "ABANDON" "Lcom/example/ringshift/ringshift/net/KeyChangeStep;" (.ref w_ABANDON)) (S_END : Sta Z h0 "com/example/ringshift/ringshift/net/KeyChangeStep" "END" "Lcom/example/ringshift/ringshift/net/KeyChangeStep;" (.ref w_END)) (E_w_ISOLATE : Exa Z h0 w_ISOLATE "com/example/ringshift/ringshift/net/KeyChangeStep") (E_w_COPY : Exa Z h0 w_COPY "com/example/ringshift/ringshift/net/KeyChangeStep") (E_w_COUNT : Exa Z h0 w_COUNT "com/example/ringshift/ringshift/net/KeyChangeStep") (E_w_PREPARE : Exa Z h0 w_PREPARE "com/example/ringshift/ringshift/net/KeyChangeStep") (E_w_SWITCH : Exa Z h0 w_SWITCH "com/example/ringshift/ringshift/net/KeyChangeStep") (E_w_CARRY : Exa Z h0 w_CARRY "com/example/ringshift/ringshift/net/KeyChangeStep") (E_w_ABANDON : Exa Z h0 w_ABANDON "com/example/ringshift/ringshift/net/KeyChangeStep") (E_w_END : Exa Z h0 w_END "com/example/ringshift/ringshift/net/KeyChangeStep") (ne_COUNT_ISOLATE : ¬ (w_COUNT = w_ISOLATE)) (hi : (p1 &&& (7 : Int32)) = (2 : Int32)) :
    own_Met l Z x code maxLocals ret ws room_1 #[(.int p1)] h0 (fun v h L => v = some (.int 1) ∧ Fr n0 L) := by
  refine own_body (plainFor_of_name own_pn_com_example_ringshift_ringshift_net_KeyChangeStepEndsPhasePinLaw) (fun p e s m below meth c s₁ hx hby hml0 hrt hlk hown0 hnm hZ X0 e0 => ?_)
  have N0 := Fr.nil n0
  have hown : s.vm.findClass "com/example/ringshift/ringshift/net/KeyChangeStepEndsPhasePinLaw" = some m.cls := hown0
  have hml : c.maxLocals = 7 := hml0
  refine own_castG (own_ef1 m p1) ?_
  show own_Goes _ _ _ _ s₁ (mkF m 0 #[.val (.int p1), .unset, .unset, .unset, .unset, .unset, .unset] [])
  refine own_step (fun t k => XS.bipush X0.here hx rfl (hb hby at_0) k) ?_
  show own_Goes _ _ _ _ s₁ (mkF m 2 #[.val (.int p1), .unset, .unset, .unset, .unset, .unset, .unset] [(.int (8 : Int32))])
  obtain ⟨T1, h1, k1, X1, e1, E1, A1, O1, st1⟩ := newR X0 hx hZ hown (hw _ (List.mem_of_getElem? (i := 0) rfl)) (hw _ (List.mem_of_getElem? (i := 1) rfl)) e0 (g := (mkF m 2 #[.val (.int p1), .unset, .unset, .unset, .unset, .unset, .unset] [(.int (8 : Int32))])) rfl (hb hby at_2) rfl (by decide) (cap := 8) (by decide) (by decide) (by decide) (by decide)
  obtain ⟨b1, g1⟩ : ∃ z, z = h0.size := ⟨_, rfl⟩
  rw [← g1] at A1 st1
  refine own_step st1 ?_
  have g_b1 : n0 ≤ b1 := Nat.le_trans Z0 (Nat.le_of_eq g1.symm)
  have sz_b1 : h0.size ≤ b1 := Nat.le_trans (Keep.refl h0 []).1 (Nat.le_of_eq g1.symm)
  have ne_w_ISOLATE_b1 : w_ISOLATE ≠ b1 := Nat.ne_of_lt (Nat.lt_of_lt_of_le E_w_ISOLATE.lt (Nat.le_of_eq g1.symm))
  have ne_w_COPY_b1 : w_COPY ≠ b1 := Nat.ne_of_lt (Nat.lt_of_lt_of_le E_w_COPY.lt (Nat.le_of_eq g1.symm))
  have ne_w_COUNT_b1 : w_COUNT ≠ b1 := Nat.ne_of_lt (Nat.lt_of_lt_of_le E_w_COUNT.lt (Nat.le_of_eq g1.symm))
  have ne_w_PREPARE_b1 : w_PREPARE ≠ b1 := Nat.ne_of_lt (Nat.lt_of_lt_of_le E_w_PREPARE.lt (Nat.le_of_eq g1.symm))
  have ne_w_SWITCH_b1 : w_SWITCH ≠ b1 := Nat.ne_of_lt (Nat.lt_of_lt_of_le E_w_SWITCH.lt (Nat.le_of_eq g1.symm))
  have ne_w_CARRY_b1 : w_CARRY ≠ b1 := Nat.ne_of_lt (Nat.lt_of_lt_of_le E_w_CARRY.lt (Nat.le_of_eq g1.symm))
  have ne_w_ABANDON_b1 : w_ABANDON ≠ b1 := Nat.ne_of_lt (Nat.lt_of_lt_of_le E_w_ABANDON.lt (Nat.le_of_eq g1.symm))
  have ne_w_END_b1 : w_END ≠ b1 := Nat.ne_of_lt (Nat.lt_of_lt_of_le E_w_END.lt (Nat.le_of_eq g1.symm))
  have K1 := (Keep.refl h0 []).ext E1
  have V_b1 : Arv Z h1 b1 k1 (.object "com/example/ringshift/ringshift/net/KeyChangeStep") (8 : Int32) [.null, .null, .null, .null, .null, .null, .null, .null] .null := (Arv.new A1 (by decide)).pad (pad_rep [] .null 8)
  show own_Goes _ _ _ _ T1 (mkF m 5 #[.val (.int p1), .unset, .unset, .unset, .unset, .unset, .unset] [(.ref b1)])
  refine own_step (fun t k => XS.dup X1.here hx rfl (hb hby at_5) rfl rfl k) ?_
  show own_Goes _ _ _ _ T1 (mkF m 6 #[.val (.int p1), .unset, .unset, .unset, .unset, .unset, .unset] [(.ref b1), (.ref b1)])
  refine own_step (fun t k => XS.iconst X1.here hx rfl (hb hby at_6) k) ?_
  show own_Goes _ _ _ _ T1 (mkF m 7 #[.val (.int p1), .unset, .unset, .unset, .unset, .unset, .unset] [(.int (0 : Int32)), (.ref b1), (.ref b1)])
  have S_ISOLATE_v3 := (S_ISOLATE.ext E1)
  obtain ⟨T2, X2, e2, st2⟩ := getS2 X1 hx hZ hown (host := "") (Or.inl (hw _ (List.mem_of_getElem? (i := 2) rfl))) Via.refl e1 S_ISOLATE_v3 (g := (mkF m 7 #[.val (.int p1), .unset, .unset, .unset, .unset, .unset, .unset] [(.int (0 : Int32)), (.ref b1), (.ref b1)])) rfl (hb hby at_7)
  refine own_step st2 ?_
  show own_Goes _ _ _ _ T2 (mkF m 10 #[.val (.int p1), .unset, .unset, .unset, .unset, .unset, .unset] [(.ref w_ISOLATE), (.int (0 : Int32)), (.ref b1), (.ref b1)])
  have E_w_ISOLATE_v5 := (E_w_ISOLATE.ext E1)
  obtain ⟨T4, h4, X4, e4, W4, V4, st4⟩ := own_aastore X2 hx hZ e2 V_b1 O1 (Ins.self E_w_ISOLATE_v5) (j := (0 : Int32)) ⟨by decide, by decide⟩ 0 rfl (Nat.le_of_ble_eq_true rfl) (g := (mkF m 10 #[.val (.int p1), .unset, .unset, .unset, .unset, .unset, .unset] [(.ref w_ISOLATE), (.int (0 : Int32)), (.ref b1), (.ref b1)])) rfl rfl (hb hby at_10)
  refine own_step st4 ?_
  have K4 := K1.wr W4 (Or.inr sz_b1)
  have N4 := Fr.snoc X4 N0 g_b1
  have V4' : Arv Z h4 b1 k1 (.object "com/example/ringshift/ringshift/net/KeyChangeStep") (8 : Int32) [(.ref w_ISOLATE), .null, .null, .null, .null, .null, .null, .null] .null := V4
  show own_Goes _ _ _ _ T4 (mkF m 11 #[.val (.int p1), .unset, .unset, .unset, .unset, .unset, .unset] [(.ref b1)])
  refine own_step (fun t k => XS.dup X4.here hx rfl (hb hby at_11) rfl rfl k) ?_
  show own_Goes _ _ _ _ T4 (mkF m 12 #[.val (.int p1), .unset, .unset, .unset, .unset, .unset, .unset] [(.ref b1), (.ref b1)])
  refine own_step (fun t k => XS.iconst X4.here hx rfl (hb hby at_12) k) ?_
  show own_Goes _ _ _ _ T4 (mkF m 13 #[.val (.int p1), .unset, .unset, .unset, .unset, .unset, .unset] [(.int (1 : Int32)), (.ref b1), (.ref b1)])
  have S_COPY_v7 := ((S_COPY.ext E1).wr W4)
  obtain ⟨T6, X6, e6, st6⟩ := getS2 X4 hx hZ hown (host := "") (Or.inl (hw _ (List.mem_of_getElem? (i := 6) rfl))) Via.refl e4 S_COPY_v7 (g := (mkF m 13 #[.val (.int p1), .unset, .unset, .unset, .unset, .unset, .unset] [(.int (1 : Int32)), (.ref b1), (.ref b1)])) rfl (hb hby at_13)
  refine own_step st6 ?_
  show own_Goes _ _ _ _ T6 (mkF m 16 #[.val (.int p1), .unset, .unset, .unset, .unset, .unset, .unset] [(.ref w_COPY), (.int (1 : Int32)), (.ref b1), (.ref b1)])
  have E_w_COPY_v9 := ((E_w_COPY.ext E1).wr W4)
  obtain ⟨T8, h8, X8, e8, W8, V8, st8⟩ := own_aastore X6 hx hZ e6 V4' O1 (Ins.self E_w_COPY_v9) (j := (1 : Int32)) ⟨by decide, by decide⟩ 1 rfl (Nat.le_of_ble_eq_true rfl) (g := (mkF m 16 #[.val (.int p1), .unset, .unset, .unset, .unset, .unset, .unset] [(.ref w_COPY), (.int (1 : Int32)), (.ref b1), (.ref b1)])) rfl rfl (hb hby at_16)
  refine own_step st8 ?_
  have K8 := K4.wr W8 (Or.inr sz_b1)
  have N8 := Fr.snoc X8 N4 g_b1
  have V8' : Arv Z h8 b1 k1 (.object "com/example/ringshift/ringshift/net/KeyChangeStep") (8 : Int32) [(.ref w_ISOLATE), (.ref w_COPY), .null, .null, .null, .null, .null, .null] .null := V8
  show own_Goes _ _ _ _ T8 (mkF m 17 #[.val (.int p1), .unset, .unset, .unset, .unset, .unset, .unset] [(.ref b1)])
  refine own_step (fun t k => XS.dup X8.here hx rfl (hb hby at_17) rfl rfl k) ?_
  show own_Goes _ _ _ _ T8 (mkF m 18 #[.val (.int p1), .unset, .unset, .unset, .unset, .unset, .unset] [(.ref b1), (.ref b1)])
  refine own_step (fun t k => XS.iconst X8.here hx rfl (hb hby at_18) k) ?_
  show own_Goes _ _ _ _ T8 (mkF m 19 #[.val (.int p1), .unset, .unset, .unset, .unset, .unset, .unset] [(.int (2 : Int32)), (.ref b1), (.ref b1)])
  have S_COUNT_v11 := (((S_COUNT.ext E1).wr W4).wr W8)
  obtain ⟨T10, X10, e10, st10⟩ := getS2 X8 hx hZ hown (host := "") (Or.inl (hw _ (List.mem_of_getElem? (i := 8) rfl))) Via.refl e8 S_COUNT_v11 (g := (mkF m 19 #[.val (.int p1), .unset, .unset, .unset, .unset, .unset, .unset] [(.int (2 : Int32)), (.ref b1), (.ref b1)])) rfl (hb hby at_19)
  refine own_step st10 ?_
  show own_Goes _ _ _ _ T10 (mkF m 22 #[.val (.int p1), .unset, .unset, .unset, .unset, .unset, .unset] [(.ref w_COUNT), (.int (2 : Int32)), (.ref b1), (.ref b1)])
  have E_w_COUNT_v13 := (((E_w_COUNT.ext E1).wr W4).wr W8)
  obtain ⟨T12, h12, X12, e12, W12, V12, st12⟩ := own_aastore X10 hx hZ e10 V8' O1 (Ins.self E_w_COUNT_v13) (j := (2 : Int32)) ⟨by decide, by decide⟩ 2 rfl (Nat.le_of_ble_eq_true rfl) (g := (mkF m 22 #[.val (.int p1), .unset, .unset, .unset, .unset, .unset, .unset] [(.ref w_COUNT), (.int (2 : Int32)), (.ref b1), (.ref b1)])) rfl rfl (hb hby at_22)
  refine own_step st12 ?_
  have K12 := K8.wr W12 (Or.inr sz_b1)
  have N12 := Fr.snoc X12 N8 g_b1
  have V12' : Arv Z h12 b1 k1 (.object "com/example/ringshift/ringshift/net/KeyChangeStep") (8 : Int32) [(.ref w_ISOLATE), (.ref w_COPY), (.ref w_COUNT), .null, .null, .null, .null, .null] .null := V12
  show own_Goes _ _ _ _ T12 (mkF m 23 #[.val (.int p1), .unset, .unset, .unset, .unset, .unset, .unset] [(.ref b1)])
  refine own_step (fun t k => XS.dup X12.here hx rfl (hb hby at_23) rfl rfl k) ?_
  show own_Goes _ _ _ _ T12 (mkF m 24 #[.val (.int p1), .unset, .unset, .unset, .unset, .unset, .unset] [(.ref b1), (.ref b1)])
  refine own_step (fun t k => XS.iconst X12.here hx rfl (hb hby at_24) k) ?_
  show own_Goes _ _ _ _ T12 (mkF m 25 #[.val (.int p1), .unset, .unset, .unset, .unset, .unset, .unset] [(.int (3 : Int32)), (.ref b1), (.ref b1)])
  have S_PREPARE_v15 := ((((S_PREPARE.ext E1).wr W4).wr W8).wr W12)
  obtain ⟨T14, X14, e14, st14⟩ := getS2 X12 hx hZ hown (host := "") (Or.inl (hw _ (List.mem_of_getElem? (i := 10) rfl))) Via.refl e12 S_PREPARE_v15 (g := (mkF m 25 #[.val (.int p1), .unset, .unset, .unset, .unset, .unset, .unset] [(.int (3 : Int32)), (.ref b1), (.ref b1)])) rfl (hb hby at_25)
  refine own_step st14 ?_
  show own_Goes _ _ _ _ T14 (mkF m 28 #[.val (.int p1), .unset, .unset, .unset, .unset, .unset, .unset] [(.ref w_PREPARE), (.int (3 : Int32)), (.ref b1), (.ref b1)])
  have E_w_PREPARE_v17 := ((((E_w_PREPARE.ext E1).wr W4).wr W8).wr W12)
  obtain ⟨T16, h16, X16, e16, W16, V16, st16⟩ := own_aastore X14 hx hZ e14 V12' O1 (Ins.self E_w_PREPARE_v17) (j := (3 : Int32)) ⟨by decide, by decide⟩ 3 rfl (Nat.le_of_ble_eq_true rfl) (g := (mkF m 28 #[.val (.int p1), .unset, .unset, .unset, .unset, .unset, .unset] [(.ref w_PREPARE), (.int (3 : Int32)), (.ref b1), (.ref b1)])) rfl rfl (hb hby at_28)
  refine own_step st16 ?_
  have K16 := K12.wr W16 (Or.inr sz_b1)
  have N16 := Fr.snoc X16 N12 g_b1
  have V16' : Arv Z h16 b1 k1 (.object "com/example/ringshift/ringshift/net/KeyChangeStep") (8 : Int32) [(.ref w_ISOLATE), (.ref w_COPY), (.ref w_COUNT), (.ref w_PREPARE), .null, .null, .null, .null] .null := V16
  show own_Goes _ _ _ _ T16 (mkF m 29 #[.val (.int p1), .unset, .unset, .unset, .unset, .unset, .unset] [(.ref b1)])
  refine own_step (fun t k => XS.dup X16.here hx rfl (hb hby at_29) rfl rfl k) ?_
  show own_Goes _ _ _ _ T16 (mkF m 30 #[.val (.int p1), .unset, .unset, .unset, .unset, .unset, .unset] [(.ref b1), (.ref b1)])
  refine own_step (fun t k => XS.iconst X16.here hx rfl (hb hby at_30) k) ?_
  show own_Goes _ _ _ _ T16 (mkF m 31 #[.val (.int p1), .unset, .unset, .unset, .unset, .unset, .unset] [(.int (4 : Int32)), (.ref b1), (.ref b1)])
  have S_SWITCH_v19 := (((((S_SWITCH.ext E1).wr W4).wr W8).wr W12).wr W16)
  obtain ⟨T18, X18, e18, st18⟩ := getS2 X16 hx hZ hown (host := "") (Or.inl (hw _ (List.mem_of_getElem? (i := 12) rfl))) Via.refl e16 S_SWITCH_v19 (g := (mkF m 31 #[.val (.int p1), .unset, .unset, .unset, .unset, .unset, .unset] [(.int (4 : Int32)), (.ref b1), (.ref b1)])) rfl (hb hby at_31)
  refine own_step st18 ?_
  show own_Goes _ _ _ _ T18 (mkF m 34 #[.val (.int p1), .unset, .unset, .unset, .unset, .unset, .unset] [(.ref w_SWITCH), (.int (4 : Int32)), (.ref b1), (.ref b1)])
  have E_w_SWITCH_v21 := (((((E_w_SWITCH.ext E1).wr W4).wr W8).wr W12).wr W16)
  obtain ⟨T20, h20, X20, e20, W20, V20, st20⟩ := own_aastore X18 hx hZ e18 V16' O1 (Ins.self E_w_SWITCH_v21) (j := (4 : Int32)) ⟨by decide, by decide⟩ 4 rfl (Nat.le_of_ble_eq_true rfl) (g := (mkF m 34 #[.val (.int p1), .unset, .unset, .unset, .unset, .unset, .unset] [(.ref w_SWITCH), (.int (4 : Int32)), (.ref b1), (.ref b1)])) rfl rfl (hb hby at_34)
  refine own_step st20 ?_
  have K20 := K16.wr W20 (Or.inr sz_b1)
  have N20 := Fr.snoc X20 N16 g_b1
  have V20' : Arv Z h20 b1 k1 (.object "com/example/ringshift/ringshift/net/KeyChangeStep") (8 : Int32) [(.ref w_ISOLATE), (.ref w_COPY), (.ref w_COUNT), (.ref w_PREPARE), (.ref w_SWITCH), .null, .null, .null] .null := V20
  show own_Goes _ _ _ _ T20 (mkF m 35 #[.val (.int p1), .unset, .unset, .unset, .unset, .unset, .unset] [(.ref b1)])
  refine own_step (fun t k => XS.dup X20.here hx rfl (hb hby at_35) rfl rfl k) ?_
  show own_Goes _ _ _ _ T20 (mkF m 36 #[.val (.int p1), .unset, .unset, .unset, .unset, .unset, .unset] [(.ref b1), (.ref b1)])
  refine own_step (fun t k => XS.iconst X20.here hx rfl (hb hby at_36) k) ?_
  show own_Goes _ _ _ _ T20 (mkF m 37 #[.val (.int p1), .unset, .unset, .unset, .unset, .unset, .unset] [(.int (5 : Int32)), (.ref b1), (.ref b1)])
  have S_CARRY_v23 := ((((((S_CARRY.ext E1).wr W4).wr W8).wr W12).wr W16).wr W20)
  obtain ⟨T22, X22, e22, st22⟩ := getS2 X20 hx hZ hown (host := "") (Or.inl (hw _ (List.mem_of_getElem? (i := 14) rfl))) Via.refl e20 S_CARRY_v23 (g := (mkF m 37 #[.val (.int p1), .unset, .unset, .unset, .unset, .unset, .unset] [(.int (5 : Int32)), (.ref b1), (.ref b1)])) rfl (hb hby at_37)
  refine own_step st22 ?_
  show own_Goes _ _ _ _ T22 (mkF m 40 #[.val (.int p1), .unset, .unset, .unset, .unset, .unset, .unset] [(.ref w_CARRY), (.int (5 : Int32)), (.ref b1), (.ref b1)])
  have E_w_CARRY_v25 := ((((((E_w_CARRY.ext E1).wr W4).wr W8).wr W12).wr W16).wr W20)
  obtain ⟨T24, h24, X24, e24, W24, V24, st24⟩ := own_aastore X22 hx hZ e22 V20' O1 (Ins.self E_w_CARRY_v25) (j := (5 : Int32)) ⟨by decide, by decide⟩ 5 rfl (Nat.le_of_ble_eq_true rfl) (g := (mkF m 40 #[.val (.int p1), .unset, .unset, .unset, .unset, .unset, .unset] [(.ref w_CARRY), (.int (5 : Int32)), (.ref b1), (.ref b1)])) rfl rfl (hb hby at_40)
  refine own_step st24 ?_
  have K24 := K20.wr W24 (Or.inr sz_b1)
  have N24 := Fr.snoc X24 N20 g_b1
  have V24' : Arv Z h24 b1 k1 (.object "com/example/ringshift/ringshift/net/KeyChangeStep") (8 : Int32) [(.ref w_ISOLATE), (.ref w_COPY), (.ref w_COUNT), (.ref w_PREPARE), (.ref w_SWITCH), (.ref w_CARRY), .null, .null] .null := V24
  show own_Goes _ _ _ _ T24 (mkF m 41 #[.val (.int p1), .unset, .unset, .unset, .unset, .unset, .unset] [(.ref b1)])
  refine own_step (fun t k => XS.dup X24.here hx rfl (hb hby at_41) rfl rfl k) ?_
  show own_Goes _ _ _ _ T24 (mkF m 42 #[.val (.int p1), .unset, .unset, .unset, .unset, .unset, .unset] [(.ref b1), (.ref b1)])
  refine own_step (fun t k => XS.bipush X24.here hx rfl (hb hby at_42) k) ?_
  show own_Goes _ _ _ _ T24 (mkF m 44 #[.val (.int p1), .unset, .unset, .unset, .unset, .unset, .unset] [(.int (6 : Int32)), (.ref b1), (.ref b1)])
  have S_ABANDON_v27 := (((((((S_ABANDON.ext E1).wr W4).wr W8).wr W12).wr W16).wr W20).wr W24)
  obtain ⟨T26, X26, e26, st26⟩ := getS2 X24 hx hZ hown (host := "") (Or.inl (hw _ (List.mem_of_getElem? (i := 16) rfl))) Via.refl e24 S_ABANDON_v27 (g := (mkF m 44 #[.val (.int p1), .unset, .unset, .unset, .unset, .unset, .unset] [(.int (6 : Int32)), (.ref b1), (.ref b1)])) rfl (hb hby at_44)
  refine own_step st26 ?_
  show own_Goes _ _ _ _ T26 (mkF m 47 #[.val (.int p1), .unset, .unset, .unset, .unset, .unset, .unset] [(.ref w_ABANDON), (.int (6 : Int32)), (.ref b1), (.ref b1)])
  have E_w_ABANDON_v29 := (((((((E_w_ABANDON.ext E1).wr W4).wr W8).wr W12).wr W16).wr W20).wr W24)
  obtain ⟨T28, h28, X28, e28, W28, V28, st28⟩ := own_aastore X26 hx hZ e26 V24' O1 (Ins.self E_w_ABANDON_v29) (j := (6 : Int32)) ⟨by decide, by decide⟩ 6 rfl (Nat.le_of_ble_eq_true rfl) (g := (mkF m 47 #[.val (.int p1), .unset, .unset, .unset, .unset, .unset, .unset] [(.ref w_ABANDON), (.int (6 : Int32)), (.ref b1), (.ref b1)])) rfl rfl (hb hby at_47)
  refine own_step st28 ?_
  have K28 := K24.wr W28 (Or.inr sz_b1)
  have N28 := Fr.snoc X28 N24 g_b1
  have V28' : Arv Z h28 b1 k1 (.object "com/example/ringshift/ringshift/net/KeyChangeStep") (8 : Int32) [(.ref w_ISOLATE), (.ref w_COPY), (.ref w_COUNT), (.ref w_PREPARE), (.ref w_SWITCH), (.ref w_CARRY), (.ref w_ABANDON), .null] .null := V28
  show own_Goes _ _ _ _ T28 (mkF m 48 #[.val (.int p1), .unset, .unset, .unset, .unset, .unset, .unset] [(.ref b1)])
  refine own_step (fun t k => XS.dup X28.here hx rfl (hb hby at_48) rfl rfl k) ?_
  show own_Goes _ _ _ _ T28 (mkF m 49 #[.val (.int p1), .unset, .unset, .unset, .unset, .unset, .unset] [(.ref b1), (.ref b1)])
  refine own_step (fun t k => XS.bipush X28.here hx rfl (hb hby at_49) k) ?_
  show own_Goes _ _ _ _ T28 (mkF m 51 #[.val (.int p1), .unset, .unset, .unset, .unset, .unset, .unset] [(.int (7 : Int32)), (.ref b1), (.ref b1)])
  have S_END_v31 := ((((((((S_END.ext E1).wr W4).wr W8).wr W12).wr W16).wr W20).wr W24).wr W28)
  obtain ⟨T30, X30, e30, st30⟩ := getS2 X28 hx hZ hown (host := "") (Or.inl (hw _ (List.mem_of_getElem? (i := 18) rfl))) Via.refl e28 S_END_v31 (g := (mkF m 51 #[.val (.int p1), .unset, .unset, .unset, .unset, .unset, .unset] [(.int (7 : Int32)), (.ref b1), (.ref b1)])) rfl (hb hby at_51)
  refine own_step st30 ?_
  show own_Goes _ _ _ _ T30 (mkF m 54 #[.val (.int p1), .unset, .unset, .unset, .unset, .unset, .unset] [(.ref w_END), (.int (7 : Int32)), (.ref b1), (.ref b1)])
  have E_w_END_v33 := ((((((((E_w_END.ext E1).wr W4).wr W8).wr W12).wr W16).wr W20).wr W24).wr W28)
  obtain ⟨T32, h32, X32, e32, W32, V32, st32⟩ := own_aastore X30 hx hZ e30 V28' O1 (Ins.self E_w_END_v33) (j := (7 : Int32)) ⟨by decide, by decide⟩ 7 rfl (Nat.le_of_ble_eq_true rfl) (g := (mkF m 54 #[.val (.int p1), .unset, .unset, .unset, .unset, .unset, .unset] [(.ref w_END), (.int (7 : Int32)), (.ref b1), (.ref b1)])) rfl rfl (hb hby at_54)
  refine own_step st32 ?_
  have K32 := K28.wr W32 (Or.inr sz_b1)
  have N32 := Fr.snoc X32 N28 g_b1
  have V32' : Arv Z h32 b1 k1 (.object "com/example/ringshift/ringshift/net/KeyChangeStep") (8 : Int32) [(.ref w_ISOLATE), (.ref w_COPY), (.ref w_COUNT), (.ref w_PREPARE), (.ref w_SWITCH), (.ref w_CARRY), (.ref w_ABANDON), (.ref w_END)] .null := V32
  show own_Goes _ _ _ _ T32 (mkF m 55 #[.val (.int p1), .unset, .unset, .unset, .unset, .unset, .unset] [(.ref b1)])
  refine own_step (fun t k => XS.astoreN X32.here hx rfl (hb hby at_55) rfl rfl (l' := #[.val (.int p1), .val (.ref b1), .unset, .unset, .unset, .unset, .unset]) rfl k) ?_
  show own_Goes _ _ _ _ T32 (mkF m 56 #[.val (.int p1), .val (.ref b1), .unset, .unset, .unset, .unset, .unset] [])
  refine own_step (fun t k => XS.iloadN X32.here hx rfl (hb hby at_56) rfl k) ?_
  show own_Goes _ _ _ _ T32 (mkF m 57 #[.val (.int p1), .val (.ref b1), .unset, .unset, .unset, .unset, .unset] [(.int p1)])
  refine own_step (fun t k => XS.bipush X32.here hx rfl (hb hby at_57) k) ?_
  show own_Goes _ _ _ _ T32 (mkF m 59 #[.val (.int p1), .val (.ref b1), .unset, .unset, .unset, .unset, .unset] [(.int (7 : Int32)), (.int p1)])
  refine own_step (fun t k => XS.iand X32.here hx rfl (hb hby at_59) rfl k) ?_
  show own_Goes _ _ _ _ T32 (mkF m 60 #[.val (.int p1), .val (.ref b1), .unset, .unset, .unset, .unset, .unset] [(.int (p1 &&& (7 : Int32)))])
  rw [hi]
  show own_Goes _ _ _ _ T32 (mkF m 60 #[.val (.int p1), .val (.ref b1), .unset, .unset, .unset, .unset, .unset] [(.int (2 : Int32))])
  refine own_step (fun t k => XS.istoreN X32.here hx rfl (hb hby at_60) rfl (l' := #[.val (.int p1), .val (.ref b1), .val (.int (2 : Int32)), .unset, .unset, .unset, .unset]) rfl k) ?_
  show own_Goes _ _ _ _ T32 (mkF m 61 #[.val (.int p1), .val (.ref b1), .val (.int (2 : Int32)), .unset, .unset, .unset, .unset] [])
  refine own_step (fun t k => XS.aloadN X32.here hx rfl (hb hby at_61) rfl rfl k) ?_
  show own_Goes _ _ _ _ T32 (mkF m 62 #[.val (.int p1), .val (.ref b1), .val (.int (2 : Int32)), .unset, .unset, .unset, .unset] [(.ref b1)])
  refine own_step (fun t k => XS.iloadN X32.here hx rfl (hb hby at_62) rfl k) ?_
  show own_Goes _ _ _ _ T32 (mkF m 63 #[.val (.int p1), .val (.ref b1), .val (.int (2 : Int32)), .unset, .unset, .unset, .unset] [(.int (2 : Int32)), (.ref b1)])
  refine own_step (own_aaload X32 hx hZ e32 V32' rfl (.ref w_COUNT) ⟨by decide, by decide⟩ rfl (g := (mkF m 63 #[.val (.int p1), .val (.ref b1), .val (.int (2 : Int32)), .unset, .unset, .unset, .unset] [(.int (2 : Int32)), (.ref b1)])) rfl rfl (hb hby at_63)) ?_
  show own_Goes _ _ _ _ T32 (mkF m 64 #[.val (.int p1), .val (.ref b1), .val (.int (2 : Int32)), .unset, .unset, .unset, .unset] [(.ref w_COUNT)])
  refine own_step (fun t k => XS.astoreN X32.here hx rfl (hb hby at_64) rfl rfl (l' := #[.val (.int p1), .val (.ref b1), .val (.int (2 : Int32)), .val (.ref w_COUNT), .unset, .unset, .unset]) rfl k) ?_
  show own_Goes _ _ _ _ T32 (mkF m 65 #[.val (.int p1), .val (.ref b1), .val (.int (2 : Int32)), .val (.ref w_COUNT), .unset, .unset, .unset] [])
  refine own_step (fun t k => XS.iloadN X32.here hx rfl (hb hby at_65) rfl k) ?_
  show own_Goes _ _ _ _ T32 (mkF m 66 #[.val (.int p1), .val (.ref b1), .val (.int (2 : Int32)), .val (.ref w_COUNT), .unset, .unset, .unset] [(.int (2 : Int32))])
  refine own_step (fun t k => XS.iconst X32.here hx rfl (hb hby at_66) k) ?_
  show own_Goes _ _ _ _ T32 (mkF m 67 #[.val (.int p1), .val (.ref b1), .val (.int (2 : Int32)), .val (.ref w_COUNT), .unset, .unset, .unset] [(.int (1 : Int32)), (.int (2 : Int32))])
  refine own_step (fun t k => XS.iadd X32.here hx rfl (hb hby at_67) rfl k) ?_
  show own_Goes _ _ _ _ T32 (mkF m 68 #[.val (.int p1), .val (.ref b1), .val (.int (2 : Int32)), .val (.ref w_COUNT), .unset, .unset, .unset] [(.int (3 : Int32))])
  refine own_step (fun t k => XS.istore X32.here hx rfl (hb hby at_68) rfl (l' := #[.val (.int p1), .val (.ref b1), .val (.int (2 : Int32)), .val (.ref w_COUNT), .val (.int (3 : Int32)), .unset, .unset]) rfl k) ?_
  show own_Goes _ _ _ _ T32 (mkF m 70 #[.val (.int p1), .val (.ref b1), .val (.int (2 : Int32)), .val (.ref w_COUNT), .val (.int (3 : Int32)), .unset, .unset] [])
  refine own_step (fun t k => XS.bipush X32.here hx rfl (hb hby at_70) k) ?_
  show own_Goes _ _ _ _ T32 (mkF m 72 #[.val (.int p1), .val (.ref b1), .val (.int (2 : Int32)), .val (.ref w_COUNT), .val (.int (3 : Int32)), .unset, .unset] [(.int (106 : Int32))])
  refine own_step (fun t k => XS.istore X32.here hx rfl (hb hby at_72) rfl (l' := #[.val (.int p1), .val (.ref b1), .val (.int (2 : Int32)), .val (.ref w_COUNT), .val (.int (3 : Int32)), .val (.int (106 : Int32)), .unset]) rfl k) ?_
  show own_Goes _ _ _ _ T32 (mkF m 74 #[.val (.int p1), .val (.ref b1), .val (.int (2 : Int32)), .val (.ref w_COUNT), .val (.int (3 : Int32)), .val (.int (106 : Int32)), .unset] [])
  refine own_step (fun t k => XS.iload X32.here hx rfl (hb hby at_74) rfl k) ?_
  show own_Goes _ _ _ _ T32 (mkF m 76 #[.val (.int p1), .val (.ref b1), .val (.int (2 : Int32)), .val (.ref w_COUNT), .val (.int (3 : Int32)), .val (.int (106 : Int32)), .unset] [(.int (106 : Int32))])
  refine own_step (fun t k => XS.iload X32.here hx rfl (hb hby at_76) rfl k) ?_
  show own_Goes _ _ _ _ T32 (mkF m 78 #[.val (.int p1), .val (.ref b1), .val (.int (2 : Int32)), .val (.ref w_COUNT), .val (.int (3 : Int32)), .val (.int (106 : Int32)), .unset] [(.int (3 : Int32)), (.int (106 : Int32))])
  refine own_step (fun t k => XS.ishr X32.here hx rfl (hb hby at_78) rfl k) ?_
  show own_Goes _ _ _ _ T32 (mkF m 79 #[.val (.int p1), .val (.ref b1), .val (.int (2 : Int32)), .val (.ref w_COUNT), .val (.int (3 : Int32)), .val (.int (106 : Int32)), .unset] [(.int (13 : Int32))])
  refine own_step (fun t k => XS.iconst X32.here hx rfl (hb hby at_79) k) ?_
  show own_Goes _ _ _ _ T32 (mkF m 80 #[.val (.int p1), .val (.ref b1), .val (.int (2 : Int32)), .val (.ref w_COUNT), .val (.int (3 : Int32)), .val (.int (106 : Int32)), .unset] [(.int (1 : Int32)), (.int (13 : Int32))])
  refine own_step (fun t k => XS.iand X32.here hx rfl (hb hby at_80) rfl k) ?_
  show own_Goes _ _ _ _ T32 (mkF m 81 #[.val (.int p1), .val (.ref b1), .val (.int (2 : Int32)), .val (.ref w_COUNT), .val (.int (3 : Int32)), .val (.int (106 : Int32)), .unset] [(.int (1 : Int32))])
  refine own_step (fun t k => XS.ifNo X32.here hx rfl (hb hby at_81) rfl ((if0 _ _).trans (feq (show ¬ ((1 : Int32) = (0 : Int32)) from (by decide))).1) k) ?_
  show own_Goes _ _ _ _ T32 (mkF m 84 #[.val (.int p1), .val (.ref b1), .val (.int (2 : Int32)), .val (.ref w_COUNT), .val (.int (3 : Int32)), .val (.int (106 : Int32)), .unset] [])
  refine own_step (fun t k => XS.iconst X32.here hx rfl (hb hby at_84) k) ?_
  show own_Goes _ _ _ _ T32 (mkF m 85 #[.val (.int p1), .val (.ref b1), .val (.int (2 : Int32)), .val (.ref w_COUNT), .val (.int (3 : Int32)), .val (.int (106 : Int32)), .unset] [(.int (1 : Int32))])
  refine own_step (fun t k => XS.goto X32.here hx rfl (pc0 := 85) (pc' := 89) rfl (hb hby at_85) (by decide) (by decide) k) ?_
  show own_Goes _ _ _ _ T32 (mkF m 89 #[.val (.int p1), .val (.ref b1), .val (.int (2 : Int32)), .val (.ref w_COUNT), .val (.int (3 : Int32)), .val (.int (106 : Int32)), .unset] [(.int (1 : Int32))])
  refine own_step (fun t k => XS.istore X32.here hx rfl (hb hby at_89) rfl (l' := #[.val (.int p1), .val (.ref b1), .val (.int (2 : Int32)), .val (.ref w_COUNT), .val (.int (3 : Int32)), .val (.int (106 : Int32)), .val (.int (1 : Int32))]) rfl k) ?_
  show own_Goes _ _ _ _ T32 (mkF m 91 #[.val (.int p1), .val (.ref b1), .val (.int (2 : Int32)), .val (.ref w_COUNT), .val (.int (3 : Int32)), .val (.int (106 : Int32)), .val (.int (1 : Int32))] [])
  refine own_step (fun t k => XS.aloadN X32.here hx rfl (hb hby at_91) rfl rfl k) ?_
  show own_Goes _ _ _ _ T32 (mkF m 92 #[.val (.int p1), .val (.ref b1), .val (.int (2 : Int32)), .val (.ref w_COUNT), .val (.int (3 : Int32)), .val (.int (106 : Int32)), .val (.int (1 : Int32))] [(.ref w_COUNT)])
  have S_ISOLATE_v34 := ((((((((S_ISOLATE_v3.wr W4).wr W8).wr W12).wr W16).wr W20).wr W24).wr W28).wr W32)
  have S_COUNT_v35 := ((((((S_COUNT_v11.wr W12).wr W16).wr W20).wr W24).wr W28).wr W32)
  have E_w_COUNT_v37 := ((((((E_w_COUNT_v13.wr W12).wr W16).wr W20).wr W24).wr W28).wr W32)
  refine own_callV X32 hx hZ (y := (⟨"com/example/ringshift/ringshift/net/KeyChangeStep", "endsPhase", "()Z"⟩ : MethodName)) (z := (⟨"com/example/ringshift/ringshift/net/KeyChangeStep", "endsPhase", "()Z"⟩ : MethodName)) hown (hw _ (List.mem_of_getElem? (i := 20) rfl)) (hw _ (List.mem_of_getElem? (i := 21) rfl)) (notFace_of_selects (args := #[]) (mvT hZ (hw _ (List.mem_of_getElem? (i := 23) rfl)))) (hw _ (List.mem_of_getElem? (i := 23) rfl)) (hw _ (List.mem_of_getElem? (i := 22) rfl)) (hw _ (List.mem_of_getElem? (i := 24) rfl)) (hw _ (List.mem_of_getElem? (i := 3) rfl)) (by decide) 0 E_w_COUNT_v37 [] [] (own_ends_COUNT l Z a0 hw [] w_COUNT w_ISOLATE h32 n0 (Nat.le_trans Z0 K32.1) S_ISOLATE_v34 S_COUNT_v35 ne_COUNT_ISOLATE) e32 (by decide) (by decide) (by decide) (by decide) (g := (mkF m 92 #[.val (.int p1), .val (.ref b1), .val (.int (2 : Int32)), .val (.ref w_COUNT), .val (.int (3 : Int32)), .val (.int (106 : Int32)), .val (.int (1 : Int32))] [(.ref w_COUNT)])) rfl (by rw [hml]; rfl) own_pd0 rfl rfl (by show 2 * 0 + _ ≤ _; exact Nat.le_of_eq rfl) (hb hby at_92) ?_
  intro T36 v36 L36 X36 hQ36
  obtain ⟨rfl, N36q, e36⟩ := hQ36
  have N36 := Fr.app N32 N36q
  show own_Goes _ _ _ _ T36 (mkF m 95 #[.val (.int p1), .val (.ref b1), .val (.int (2 : Int32)), .val (.ref w_COUNT), .val (.int (3 : Int32)), .val (.int (106 : Int32)), .val (.int (1 : Int32))] [(.int (1 : Int32))])
  refine own_step (fun t k => XS.iload X36.here hx rfl (hb hby at_95) rfl k) ?_
  show own_Goes _ _ _ _ T36 (mkF m 97 #[.val (.int p1), .val (.ref b1), .val (.int (2 : Int32)), .val (.ref w_COUNT), .val (.int (3 : Int32)), .val (.int (106 : Int32)), .val (.int (1 : Int32))] [(.int (1 : Int32)), (.int (1 : Int32))])
  refine own_step (fun t k => XS.icmpNo X36.here hx rfl (hb hby at_97) rfl (teq (show (1 : Int32) = (1 : Int32) from (by decide))).2 k) ?_
  show own_Goes _ _ _ _ T36 (mkF m 100 #[.val (.int p1), .val (.ref b1), .val (.int (2 : Int32)), .val (.ref w_COUNT), .val (.int (3 : Int32)), .val (.int (106 : Int32)), .val (.int (1 : Int32))] [])
  refine own_step (fun t k => XS.iconst X36.here hx rfl (hb hby at_100) k) ?_
  show own_Goes _ _ _ _ T36 (mkF m 101 #[.val (.int p1), .val (.ref b1), .val (.int (2 : Int32)), .val (.ref w_COUNT), .val (.int (3 : Int32)), .val (.int (106 : Int32)), .val (.int (1 : Int32))] [(.int (1 : Int32))])
  refine own_step (fun t k => XS.goto X36.here hx rfl (pc0 := 101) (pc' := 105) rfl (hb hby at_101) (by decide) (by decide) k) ?_
  show own_Goes _ _ _ _ T36 (mkF m 105 #[.val (.int p1), .val (.ref b1), .val (.int (2 : Int32)), .val (.ref w_COUNT), .val (.int (3 : Int32)), .val (.int (106 : Int32)), .val (.int (1 : Int32))] [(.int (1 : Int32))])
  exact own_retN X36 hx hlk (t := .boolean) hrt (by simp) (hb hby at_105) ⟨rfl, N36⟩ (by decide) (by decide)
set_option maxRecDepth 65536 in
set_option maxHeartbeats 40000000 in
theorem own_law3 (l : Launch) (Z : State) (a0 : Array Value) (hw : ∀ d ∈ tables_1, d.before a0 Z = true) (ws : List Jvm.Cond) (p1 : Int32) (w_ISOLATE : Addr) (w_COPY : Addr) (w_COUNT : Addr) (w_PREPARE : Addr) (w_SWITCH : Addr) (w_CARRY : Addr) (w_ABANDON : Addr) (w_END : Addr) (h0 : Heap) (n0 : Nat) (Z0 : n0 ≤ h0.size) (S_ISOLATE : Sta Z h0 "com/example/ringshift/ringshift/net/KeyChangeStep" "ISOLATE" "Lcom/example/ringshift/ringshift/net/KeyChangeStep;" (.ref w_ISOLATE)) (S_COPY : Sta Z h0 "com/example/ringshift/ringshift/net/KeyChangeStep" "COPY" "Lcom/example/ringshift/ringshift/net/KeyChangeStep;" (.ref w_COPY)) (S_COUNT : Sta Z h0 "com/example/ringshift/ringshift/net/KeyChangeStep" "COUNT" "Lcom/example/ringshift/ringshift/net/KeyChangeStep;" (.ref w_COUNT)) (S_PREPARE : Sta Z h0 "com/example/ringshift/ringshift/net/KeyChangeStep" "PREPARE" "Lcom/example/ringshift/ringshift/net/KeyChangeStep;" (.ref w_PREPARE)) (S_SWITCH : Sta Z h0 "com/example/ringshift/ringshift/net/KeyChangeStep" "SWITCH" "Lcom/example/ringshift/ringshift/net/KeyChangeStep;" (.ref w_SWITCH)) (S_CARRY : Sta Z h0 "com/example/ringshift/ringshift/net/KeyChangeStep" "CARRY" "Lcom/example/ringshift/ringshift/net/KeyChangeStep;" (.ref w_CARRY)) (S_ABANDON : Sta Z h0 "com/example/ringshift/ringshift/net/KeyChangeStep" "ABANDON" "Lcom/example/ringshift/ringshift/net/KeyChangeStep;" (.ref w_ABANDON)) (S_END : Sta Z h0 "com/example/ringshift/ringshift/net/KeyChangeStep" "END" "Lcom/example/ringshift/ringshift/net/KeyChangeStep;" (.ref w_END)) (E_w_ISOLATE : Exa Z h0 w_ISOLATE "com/example/ringshift/ringshift/net/KeyChangeStep") (E_w_COPY : Exa Z h0 w_COPY "com/example/ringshift/ringshift/net/KeyChangeStep") (E_w_COUNT : Exa Z h0 w_COUNT "com/example/ringshift/ringshift/net/KeyChangeStep") (E_w_PREPARE : Exa Z h0 w_PREPARE "com/example/ringshift/ringshift/net/KeyChangeStep") (E_w_SWITCH : Exa Z h0 w_SWITCH "com/example/ringshift/ringshift/net/KeyChangeStep") (E_w_CARRY : Exa Z h0 w_CARRY "com/example/ringshift/ringshift/net/KeyChangeStep") (E_w_ABANDON : Exa Z h0 w_ABANDON "com/example/ringshift/ringshift/net/KeyChangeStep") (E_w_END : Exa Z h0 w_END "com/example/ringshift/ringshift/net/KeyChangeStep") (ne_PREPARE_ISOLATE : ¬ (w_PREPARE = w_ISOLATE)) (ne_PREPARE_COUNT : ¬ (w_PREPARE = w_COUNT)) (ne_PREPARE_SWITCH : ¬ (w_PREPARE = w_SWITCH)) (ne_PREPARE_CARRY : ¬ (w_PREPARE = w_CARRY)) (hi : (p1 &&& (7 : Int32)) = (3 : Int32)) :
    own_Met l Z x code maxLocals ret ws room_1 #[(.int p1)] h0 (fun v h L => v = some (.int 1) ∧ Fr n0 L) := by
  refine own_body (plainFor_of_name own_pn_com_example_ringshift_ringshift_net_KeyChangeStepEndsPhasePinLaw) (fun p e s m below meth c s₁ hx hby hml0 hrt hlk hown0 hnm hZ X0 e0 => ?_)
  have N0 := Fr.nil n0
  have hown : s.vm.findClass "com/example/ringshift/ringshift/net/KeyChangeStepEndsPhasePinLaw" = some m.cls := hown0
  have hml : c.maxLocals = 7 := hml0
  refine own_castG (own_ef1 m p1) ?_
  show own_Goes _ _ _ _ s₁ (mkF m 0 #[.val (.int p1), .unset, .unset, .unset, .unset, .unset, .unset] [])
  refine own_step (fun t k => XS.bipush X0.here hx rfl (hb hby at_0) k) ?_
  show own_Goes _ _ _ _ s₁ (mkF m 2 #[.val (.int p1), .unset, .unset, .unset, .unset, .unset, .unset] [(.int (8 : Int32))])
  obtain ⟨T1, h1, k1, X1, e1, E1, A1, O1, st1⟩ := newR X0 hx hZ hown (hw _ (List.mem_of_getElem? (i := 0) rfl)) (hw _ (List.mem_of_getElem? (i := 1) rfl)) e0 (g := (mkF m 2 #[.val (.int p1), .unset, .unset, .unset, .unset, .unset, .unset] [(.int (8 : Int32))])) rfl (hb hby at_2) rfl (by decide) (cap := 8) (by decide) (by decide) (by decide) (by decide)
  obtain ⟨b1, g1⟩ : ∃ z, z = h0.size := ⟨_, rfl⟩
  rw [← g1] at A1 st1
  refine own_step st1 ?_
  have g_b1 : n0 ≤ b1 := Nat.le_trans Z0 (Nat.le_of_eq g1.symm)
  have sz_b1 : h0.size ≤ b1 := Nat.le_trans (Keep.refl h0 []).1 (Nat.le_of_eq g1.symm)
  have ne_w_ISOLATE_b1 : w_ISOLATE ≠ b1 := Nat.ne_of_lt (Nat.lt_of_lt_of_le E_w_ISOLATE.lt (Nat.le_of_eq g1.symm))
  have ne_w_COPY_b1 : w_COPY ≠ b1 := Nat.ne_of_lt (Nat.lt_of_lt_of_le E_w_COPY.lt (Nat.le_of_eq g1.symm))
  have ne_w_COUNT_b1 : w_COUNT ≠ b1 := Nat.ne_of_lt (Nat.lt_of_lt_of_le E_w_COUNT.lt (Nat.le_of_eq g1.symm))
  have ne_w_PREPARE_b1 : w_PREPARE ≠ b1 := Nat.ne_of_lt (Nat.lt_of_lt_of_le E_w_PREPARE.lt (Nat.le_of_eq g1.symm))
  have ne_w_SWITCH_b1 : w_SWITCH ≠ b1 := Nat.ne_of_lt (Nat.lt_of_lt_of_le E_w_SWITCH.lt (Nat.le_of_eq g1.symm))
  have ne_w_CARRY_b1 : w_CARRY ≠ b1 := Nat.ne_of_lt (Nat.lt_of_lt_of_le E_w_CARRY.lt (Nat.le_of_eq g1.symm))
  have ne_w_ABANDON_b1 : w_ABANDON ≠ b1 := Nat.ne_of_lt (Nat.lt_of_lt_of_le E_w_ABANDON.lt (Nat.le_of_eq g1.symm))
  have ne_w_END_b1 : w_END ≠ b1 := Nat.ne_of_lt (Nat.lt_of_lt_of_le E_w_END.lt (Nat.le_of_eq g1.symm))
  have K1 := (Keep.refl h0 []).ext E1
  have V_b1 : Arv Z h1 b1 k1 (.object "com/example/ringshift/ringshift/net/KeyChangeStep") (8 : Int32) [.null, .null, .null, .null, .null, .null, .null, .null] .null := (Arv.new A1 (by decide)).pad (pad_rep [] .null 8)
  show own_Goes _ _ _ _ T1 (mkF m 5 #[.val (.int p1), .unset, .unset, .unset, .unset, .unset, .unset] [(.ref b1)])
  refine own_step (fun t k => XS.dup X1.here hx rfl (hb hby at_5) rfl rfl k) ?_
  show own_Goes _ _ _ _ T1 (mkF m 6 #[.val (.int p1), .unset, .unset, .unset, .unset, .unset, .unset] [(.ref b1), (.ref b1)])
  refine own_step (fun t k => XS.iconst X1.here hx rfl (hb hby at_6) k) ?_
  show own_Goes _ _ _ _ T1 (mkF m 7 #[.val (.int p1), .unset, .unset, .unset, .unset, .unset, .unset] [(.int (0 : Int32)), (.ref b1), (.ref b1)])
  have S_ISOLATE_v3 := (S_ISOLATE.ext E1)
  obtain ⟨T2, X2, e2, st2⟩ := getS2 X1 hx hZ hown (host := "") (Or.inl (hw _ (List.mem_of_getElem? (i := 2) rfl))) Via.refl e1 S_ISOLATE_v3 (g := (mkF m 7 #[.val (.int p1), .unset, .unset, .unset, .unset, .unset, .unset] [(.int (0 : Int32)), (.ref b1), (.ref b1)])) rfl (hb hby at_7)
  refine own_step st2 ?_
  show own_Goes _ _ _ _ T2 (mkF m 10 #[.val (.int p1), .unset, .unset, .unset, .unset, .unset, .unset] [(.ref w_ISOLATE), (.int (0 : Int32)), (.ref b1), (.ref b1)])
  have E_w_ISOLATE_v5 := (E_w_ISOLATE.ext E1)
  obtain ⟨T4, h4, X4, e4, W4, V4, st4⟩ := own_aastore X2 hx hZ e2 V_b1 O1 (Ins.self E_w_ISOLATE_v5) (j := (0 : Int32)) ⟨by decide, by decide⟩ 0 rfl (Nat.le_of_ble_eq_true rfl) (g := (mkF m 10 #[.val (.int p1), .unset, .unset, .unset, .unset, .unset, .unset] [(.ref w_ISOLATE), (.int (0 : Int32)), (.ref b1), (.ref b1)])) rfl rfl (hb hby at_10)
  refine own_step st4 ?_
  have K4 := K1.wr W4 (Or.inr sz_b1)
  have N4 := Fr.snoc X4 N0 g_b1
  have V4' : Arv Z h4 b1 k1 (.object "com/example/ringshift/ringshift/net/KeyChangeStep") (8 : Int32) [(.ref w_ISOLATE), .null, .null, .null, .null, .null, .null, .null] .null := V4
  show own_Goes _ _ _ _ T4 (mkF m 11 #[.val (.int p1), .unset, .unset, .unset, .unset, .unset, .unset] [(.ref b1)])
  refine own_step (fun t k => XS.dup X4.here hx rfl (hb hby at_11) rfl rfl k) ?_
  show own_Goes _ _ _ _ T4 (mkF m 12 #[.val (.int p1), .unset, .unset, .unset, .unset, .unset, .unset] [(.ref b1), (.ref b1)])
  refine own_step (fun t k => XS.iconst X4.here hx rfl (hb hby at_12) k) ?_
  show own_Goes _ _ _ _ T4 (mkF m 13 #[.val (.int p1), .unset, .unset, .unset, .unset, .unset, .unset] [(.int (1 : Int32)), (.ref b1), (.ref b1)])
  have S_COPY_v7 := ((S_COPY.ext E1).wr W4)
  obtain ⟨T6, X6, e6, st6⟩ := getS2 X4 hx hZ hown (host := "") (Or.inl (hw _ (List.mem_of_getElem? (i := 6) rfl))) Via.refl e4 S_COPY_v7 (g := (mkF m 13 #[.val (.int p1), .unset, .unset, .unset, .unset, .unset, .unset] [(.int (1 : Int32)), (.ref b1), (.ref b1)])) rfl (hb hby at_13)
  refine own_step st6 ?_
  show own_Goes _ _ _ _ T6 (mkF m 16 #[.val (.int p1), .unset, .unset, .unset, .unset, .unset, .unset] [(.ref w_COPY), (.int (1 : Int32)), (.ref b1), (.ref b1)])
  have E_w_COPY_v9 := ((E_w_COPY.ext E1).wr W4)
  obtain ⟨T8, h8, X8, e8, W8, V8, st8⟩ := own_aastore X6 hx hZ e6 V4' O1 (Ins.self E_w_COPY_v9) (j := (1 : Int32)) ⟨by decide, by decide⟩ 1 rfl (Nat.le_of_ble_eq_true rfl) (g := (mkF m 16 #[.val (.int p1), .unset, .unset, .unset, .unset, .unset, .unset] [(.ref w_COPY), (.int (1 : Int32)), (.ref b1), (.ref b1)])) rfl rfl (hb hby at_16)
  refine own_step st8 ?_
  have K8 := K4.wr W8 (Or.inr sz_b1)
  have N8 := Fr.snoc X8 N4 g_b1
  have V8' : Arv Z h8 b1 k1 (.object "com/example/ringshift/ringshift/net/KeyChangeStep") (8 : Int32) [(.ref w_ISOLATE), (.ref w_COPY), .null, .null, .null, .null, .null, .null] .null := V8
  show own_Goes _ _ _ _ T8 (mkF m 17 #[.val (.int p1), .unset, .unset, .unset, .unset, .unset, .unset] [(.ref b1)])
  refine own_step (fun t k => XS.dup X8.here hx rfl (hb hby at_17) rfl rfl k) ?_
  show own_Goes _ _ _ _ T8 (mkF m 18 #[.val (.int p1), .unset, .unset, .unset, .unset, .unset, .unset] [(.ref b1), (.ref b1)])
  refine own_step (fun t k => XS.iconst X8.here hx rfl (hb hby at_18) k) ?_
  show own_Goes _ _ _ _ T8 (mkF m 19 #[.val (.int p1), .unset, .unset, .unset, .unset, .unset, .unset] [(.int (2 : Int32)), (.ref b1), (.ref b1)])
  have S_COUNT_v11 := (((S_COUNT.ext E1).wr W4).wr W8)
  obtain ⟨T10, X10, e10, st10⟩ := getS2 X8 hx hZ hown (host := "") (Or.inl (hw _ (List.mem_of_getElem? (i := 8) rfl))) Via.refl e8 S_COUNT_v11 (g := (mkF m 19 #[.val (.int p1), .unset, .unset, .unset, .unset, .unset, .unset] [(.int (2 : Int32)), (.ref b1), (.ref b1)])) rfl (hb hby at_19)
  refine own_step st10 ?_
  show own_Goes _ _ _ _ T10 (mkF m 22 #[.val (.int p1), .unset, .unset, .unset, .unset, .unset, .unset] [(.ref w_COUNT), (.int (2 : Int32)), (.ref b1), (.ref b1)])
  have E_w_COUNT_v13 := (((E_w_COUNT.ext E1).wr W4).wr W8)
  obtain ⟨T12, h12, X12, e12, W12, V12, st12⟩ := own_aastore X10 hx hZ e10 V8' O1 (Ins.self E_w_COUNT_v13) (j := (2 : Int32)) ⟨by decide, by decide⟩ 2 rfl (Nat.le_of_ble_eq_true rfl) (g := (mkF m 22 #[.val (.int p1), .unset, .unset, .unset, .unset, .unset, .unset] [(.ref w_COUNT), (.int (2 : Int32)), (.ref b1), (.ref b1)])) rfl rfl (hb hby at_22)
  refine own_step st12 ?_
  have K12 := K8.wr W12 (Or.inr sz_b1)
  have N12 := Fr.snoc X12 N8 g_b1
  have V12' : Arv Z h12 b1 k1 (.object "com/example/ringshift/ringshift/net/KeyChangeStep") (8 : Int32) [(.ref w_ISOLATE), (.ref w_COPY), (.ref w_COUNT), .null, .null, .null, .null, .null] .null := V12
  show own_Goes _ _ _ _ T12 (mkF m 23 #[.val (.int p1), .unset, .unset, .unset, .unset, .unset, .unset] [(.ref b1)])
  refine own_step (fun t k => XS.dup X12.here hx rfl (hb hby at_23) rfl rfl k) ?_
  show own_Goes _ _ _ _ T12 (mkF m 24 #[.val (.int p1), .unset, .unset, .unset, .unset, .unset, .unset] [(.ref b1), (.ref b1)])
  refine own_step (fun t k => XS.iconst X12.here hx rfl (hb hby at_24) k) ?_
  show own_Goes _ _ _ _ T12 (mkF m 25 #[.val (.int p1), .unset, .unset, .unset, .unset, .unset, .unset] [(.int (3 : Int32)), (.ref b1), (.ref b1)])
  have S_PREPARE_v15 := ((((S_PREPARE.ext E1).wr W4).wr W8).wr W12)
  obtain ⟨T14, X14, e14, st14⟩ := getS2 X12 hx hZ hown (host := "") (Or.inl (hw _ (List.mem_of_getElem? (i := 10) rfl))) Via.refl e12 S_PREPARE_v15 (g := (mkF m 25 #[.val (.int p1), .unset, .unset, .unset, .unset, .unset, .unset] [(.int (3 : Int32)), (.ref b1), (.ref b1)])) rfl (hb hby at_25)
  refine own_step st14 ?_
  show own_Goes _ _ _ _ T14 (mkF m 28 #[.val (.int p1), .unset, .unset, .unset, .unset, .unset, .unset] [(.ref w_PREPARE), (.int (3 : Int32)), (.ref b1), (.ref b1)])
  have E_w_PREPARE_v17 := ((((E_w_PREPARE.ext E1).wr W4).wr W8).wr W12)
  obtain ⟨T16, h16, X16, e16, W16, V16, st16⟩ := own_aastore X14 hx hZ e14 V12' O1 (Ins.self E_w_PREPARE_v17) (j := (3 : Int32)) ⟨by decide, by decide⟩ 3 rfl (Nat.le_of_ble_eq_true rfl) (g := (mkF m 28 #[.val (.int p1), .unset, .unset, .unset, .unset, .unset, .unset] [(.ref w_PREPARE), (.int (3 : Int32)), (.ref b1), (.ref b1)])) rfl rfl (hb hby at_28)
  refine own_step st16 ?_
  have K16 := K12.wr W16 (Or.inr sz_b1)
  have N16 := Fr.snoc X16 N12 g_b1
  have V16' : Arv Z h16 b1 k1 (.object "com/example/ringshift/ringshift/net/KeyChangeStep") (8 : Int32) [(.ref w_ISOLATE), (.ref w_COPY), (.ref w_COUNT), (.ref w_PREPARE), .null, .null, .null, .null] .null := V16
  show own_Goes _ _ _ _ T16 (mkF m 29 #[.val (.int p1), .unset, .unset, .unset, .unset, .unset, .unset] [(.ref b1)])
  refine own_step (fun t k => XS.dup X16.here hx rfl (hb hby at_29) rfl rfl k) ?_
  show own_Goes _ _ _ _ T16 (mkF m 30 #[.val (.int p1), .unset, .unset, .unset, .unset, .unset, .unset] [(.ref b1), (.ref b1)])
  refine own_step (fun t k => XS.iconst X16.here hx rfl (hb hby at_30) k) ?_
  show own_Goes _ _ _ _ T16 (mkF m 31 #[.val (.int p1), .unset, .unset, .unset, .unset, .unset, .unset] [(.int (4 : Int32)), (.ref b1), (.ref b1)])
  have S_SWITCH_v19 := (((((S_SWITCH.ext E1).wr W4).wr W8).wr W12).wr W16)
  obtain ⟨T18, X18, e18, st18⟩ := getS2 X16 hx hZ hown (host := "") (Or.inl (hw _ (List.mem_of_getElem? (i := 12) rfl))) Via.refl e16 S_SWITCH_v19 (g := (mkF m 31 #[.val (.int p1), .unset, .unset, .unset, .unset, .unset, .unset] [(.int (4 : Int32)), (.ref b1), (.ref b1)])) rfl (hb hby at_31)
  refine own_step st18 ?_
  show own_Goes _ _ _ _ T18 (mkF m 34 #[.val (.int p1), .unset, .unset, .unset, .unset, .unset, .unset] [(.ref w_SWITCH), (.int (4 : Int32)), (.ref b1), (.ref b1)])
  have E_w_SWITCH_v21 := (((((E_w_SWITCH.ext E1).wr W4).wr W8).wr W12).wr W16)
  obtain ⟨T20, h20, X20, e20, W20, V20, st20⟩ := own_aastore X18 hx hZ e18 V16' O1 (Ins.self E_w_SWITCH_v21) (j := (4 : Int32)) ⟨by decide, by decide⟩ 4 rfl (Nat.le_of_ble_eq_true rfl) (g := (mkF m 34 #[.val (.int p1), .unset, .unset, .unset, .unset, .unset, .unset] [(.ref w_SWITCH), (.int (4 : Int32)), (.ref b1), (.ref b1)])) rfl rfl (hb hby at_34)
  refine own_step st20 ?_
  have K20 := K16.wr W20 (Or.inr sz_b1)
  have N20 := Fr.snoc X20 N16 g_b1
  have V20' : Arv Z h20 b1 k1 (.object "com/example/ringshift/ringshift/net/KeyChangeStep") (8 : Int32) [(.ref w_ISOLATE), (.ref w_COPY), (.ref w_COUNT), (.ref w_PREPARE), (.ref w_SWITCH), .null, .null, .null] .null := V20
  show own_Goes _ _ _ _ T20 (mkF m 35 #[.val (.int p1), .unset, .unset, .unset, .unset, .unset, .unset] [(.ref b1)])
  refine own_step (fun t k => XS.dup X20.here hx rfl (hb hby at_35) rfl rfl k) ?_
  show own_Goes _ _ _ _ T20 (mkF m 36 #[.val (.int p1), .unset, .unset, .unset, .unset, .unset, .unset] [(.ref b1), (.ref b1)])
  refine own_step (fun t k => XS.iconst X20.here hx rfl (hb hby at_36) k) ?_
  show own_Goes _ _ _ _ T20 (mkF m 37 #[.val (.int p1), .unset, .unset, .unset, .unset, .unset, .unset] [(.int (5 : Int32)), (.ref b1), (.ref b1)])
  have S_CARRY_v23 := ((((((S_CARRY.ext E1).wr W4).wr W8).wr W12).wr W16).wr W20)
  obtain ⟨T22, X22, e22, st22⟩ := getS2 X20 hx hZ hown (host := "") (Or.inl (hw _ (List.mem_of_getElem? (i := 14) rfl))) Via.refl e20 S_CARRY_v23 (g := (mkF m 37 #[.val (.int p1), .unset, .unset, .unset, .unset, .unset, .unset] [(.int (5 : Int32)), (.ref b1), (.ref b1)])) rfl (hb hby at_37)
  refine own_step st22 ?_
  show own_Goes _ _ _ _ T22 (mkF m 40 #[.val (.int p1), .unset, .unset, .unset, .unset, .unset, .unset] [(.ref w_CARRY), (.int (5 : Int32)), (.ref b1), (.ref b1)])
  have E_w_CARRY_v25 := ((((((E_w_CARRY.ext E1).wr W4).wr W8).wr W12).wr W16).wr W20)
  obtain ⟨T24, h24, X24, e24, W24, V24, st24⟩ := own_aastore X22 hx hZ e22 V20' O1 (Ins.self E_w_CARRY_v25) (j := (5 : Int32)) ⟨by decide, by decide⟩ 5 rfl (Nat.le_of_ble_eq_true rfl) (g := (mkF m 40 #[.val (.int p1), .unset, .unset, .unset, .unset, .unset, .unset] [(.ref w_CARRY), (.int (5 : Int32)), (.ref b1), (.ref b1)])) rfl rfl (hb hby at_40)
  refine own_step st24 ?_
  have K24 := K20.wr W24 (Or.inr sz_b1)
  have N24 := Fr.snoc X24 N20 g_b1
  have V24' : Arv Z h24 b1 k1 (.object "com/example/ringshift/ringshift/net/KeyChangeStep") (8 : Int32) [(.ref w_ISOLATE), (.ref w_COPY), (.ref w_COUNT), (.ref w_PREPARE), (.ref w_SWITCH), (.ref w_CARRY), .null, .null] .null := V24
  show own_Goes _ _ _ _ T24 (mkF m 41 #[.val (.int p1), .unset, .unset, .unset, .unset, .unset, .unset] [(.ref b1)])
  refine own_step (fun t k => XS.dup X24.here hx rfl (hb hby at_41) rfl rfl k) ?_
  show own_Goes _ _ _ _ T24 (mkF m 42 #[.val (.int p1), .unset, .unset, .unset, .unset, .unset, .unset] [(.ref b1), (.ref b1)])
  refine own_step (fun t k => XS.bipush X24.here hx rfl (hb hby at_42) k) ?_
  show own_Goes _ _ _ _ T24 (mkF m 44 #[.val (.int p1), .unset, .unset, .unset, .unset, .unset, .unset] [(.int (6 : Int32)), (.ref b1), (.ref b1)])
  have S_ABANDON_v27 := (((((((S_ABANDON.ext E1).wr W4).wr W8).wr W12).wr W16).wr W20).wr W24)
  obtain ⟨T26, X26, e26, st26⟩ := getS2 X24 hx hZ hown (host := "") (Or.inl (hw _ (List.mem_of_getElem? (i := 16) rfl))) Via.refl e24 S_ABANDON_v27 (g := (mkF m 44 #[.val (.int p1), .unset, .unset, .unset, .unset, .unset, .unset] [(.int (6 : Int32)), (.ref b1), (.ref b1)])) rfl (hb hby at_44)
  refine own_step st26 ?_
  show own_Goes _ _ _ _ T26 (mkF m 47 #[.val (.int p1), .unset, .unset, .unset, .unset, .unset, .unset] [(.ref w_ABANDON), (.int (6 : Int32)), (.ref b1), (.ref b1)])
  have E_w_ABANDON_v29 := (((((((E_w_ABANDON.ext E1).wr W4).wr W8).wr W12).wr W16).wr W20).wr W24)
  obtain ⟨T28, h28, X28, e28, W28, V28, st28⟩ := own_aastore X26 hx hZ e26 V24' O1 (Ins.self E_w_ABANDON_v29) (j := (6 : Int32)) ⟨by decide, by decide⟩ 6 rfl (Nat.le_of_ble_eq_true rfl) (g := (mkF m 47 #[.val (.int p1), .unset, .unset, .unset, .unset, .unset, .unset] [(.ref w_ABANDON), (.int (6 : Int32)), (.ref b1), (.ref b1)])) rfl rfl (hb hby at_47)
  refine own_step st28 ?_
  have K28 := K24.wr W28 (Or.inr sz_b1)
  have N28 := Fr.snoc X28 N24 g_b1
  have V28' : Arv Z h28 b1 k1 (.object "com/example/ringshift/ringshift/net/KeyChangeStep") (8 : Int32) [(.ref w_ISOLATE), (.ref w_COPY), (.ref w_COUNT), (.ref w_PREPARE), (.ref w_SWITCH), (.ref w_CARRY), (.ref w_ABANDON), .null] .null := V28
  show own_Goes _ _ _ _ T28 (mkF m 48 #[.val (.int p1), .unset, .unset, .unset, .unset, .unset, .unset] [(.ref b1)])
  refine own_step (fun t k => XS.dup X28.here hx rfl (hb hby at_48) rfl rfl k) ?_
  show own_Goes _ _ _ _ T28 (mkF m 49 #[.val (.int p1), .unset, .unset, .unset, .unset, .unset, .unset] [(.ref b1), (.ref b1)])
  refine own_step (fun t k => XS.bipush X28.here hx rfl (hb hby at_49) k) ?_
  show own_Goes _ _ _ _ T28 (mkF m 51 #[.val (.int p1), .unset, .unset, .unset, .unset, .unset, .unset] [(.int (7 : Int32)), (.ref b1), (.ref b1)])
  have S_END_v31 := ((((((((S_END.ext E1).wr W4).wr W8).wr W12).wr W16).wr W20).wr W24).wr W28)
  obtain ⟨T30, X30, e30, st30⟩ := getS2 X28 hx hZ hown (host := "") (Or.inl (hw _ (List.mem_of_getElem? (i := 18) rfl))) Via.refl e28 S_END_v31 (g := (mkF m 51 #[.val (.int p1), .unset, .unset, .unset, .unset, .unset, .unset] [(.int (7 : Int32)), (.ref b1), (.ref b1)])) rfl (hb hby at_51)
  refine own_step st30 ?_
  show own_Goes _ _ _ _ T30 (mkF m 54 #[.val (.int p1), .unset, .unset, .unset, .unset, .unset, .unset] [(.ref w_END), (.int (7 : Int32)), (.ref b1), (.ref b1)])
  have E_w_END_v33 := ((((((((E_w_END.ext E1).wr W4).wr W8).wr W12).wr W16).wr W20).wr W24).wr W28)
  obtain ⟨T32, h32, X32, e32, W32, V32, st32⟩ := own_aastore X30 hx hZ e30 V28' O1 (Ins.self E_w_END_v33) (j := (7 : Int32)) ⟨by decide, by decide⟩ 7 rfl (Nat.le_of_ble_eq_true rfl) (g := (mkF m 54 #[.val (.int p1), .unset, .unset, .unset, .unset, .unset, .unset] [(.ref w_END), (.int (7 : Int32)), (.ref b1), (.ref b1)])) rfl rfl (hb hby at_54)
  refine own_step st32 ?_
  have K32 := K28.wr W32 (Or.inr sz_b1)
  have N32 := Fr.snoc X32 N28 g_b1
  have V32' : Arv Z h32 b1 k1 (.object "com/example/ringshift/ringshift/net/KeyChangeStep") (8 : Int32) [(.ref w_ISOLATE), (.ref w_COPY), (.ref w_COUNT), (.ref w_PREPARE), (.ref w_SWITCH), (.ref w_CARRY), (.ref w_ABANDON), (.ref w_END)] .null := V32
  show own_Goes _ _ _ _ T32 (mkF m 55 #[.val (.int p1), .unset, .unset, .unset, .unset, .unset, .unset] [(.ref b1)])
  refine own_step (fun t k => XS.astoreN X32.here hx rfl (hb hby at_55) rfl rfl (l' := #[.val (.int p1), .val (.ref b1), .unset, .unset, .unset, .unset, .unset]) rfl k) ?_
  show own_Goes _ _ _ _ T32 (mkF m 56 #[.val (.int p1), .val (.ref b1), .unset, .unset, .unset, .unset, .unset] [])
  refine own_step (fun t k => XS.iloadN X32.here hx rfl (hb hby at_56) rfl k) ?_
  show own_Goes _ _ _ _ T32 (mkF m 57 #[.val (.int p1), .val (.ref b1), .unset, .unset, .unset, .unset, .unset] [(.int p1)])
  refine own_step (fun t k => XS.bipush X32.here hx rfl (hb hby at_57) k) ?_
  show own_Goes _ _ _ _ T32 (mkF m 59 #[.val (.int p1), .val (.ref b1), .unset, .unset, .unset, .unset, .unset] [(.int (7 : Int32)), (.int p1)])
  refine own_step (fun t k => XS.iand X32.here hx rfl (hb hby at_59) rfl k) ?_
  show own_Goes _ _ _ _ T32 (mkF m 60 #[.val (.int p1), .val (.ref b1), .unset, .unset, .unset, .unset, .unset] [(.int (p1 &&& (7 : Int32)))])
  rw [hi]
  show own_Goes _ _ _ _ T32 (mkF m 60 #[.val (.int p1), .val (.ref b1), .unset, .unset, .unset, .unset, .unset] [(.int (3 : Int32))])
  refine own_step (fun t k => XS.istoreN X32.here hx rfl (hb hby at_60) rfl (l' := #[.val (.int p1), .val (.ref b1), .val (.int (3 : Int32)), .unset, .unset, .unset, .unset]) rfl k) ?_
  show own_Goes _ _ _ _ T32 (mkF m 61 #[.val (.int p1), .val (.ref b1), .val (.int (3 : Int32)), .unset, .unset, .unset, .unset] [])
  refine own_step (fun t k => XS.aloadN X32.here hx rfl (hb hby at_61) rfl rfl k) ?_
  show own_Goes _ _ _ _ T32 (mkF m 62 #[.val (.int p1), .val (.ref b1), .val (.int (3 : Int32)), .unset, .unset, .unset, .unset] [(.ref b1)])
  refine own_step (fun t k => XS.iloadN X32.here hx rfl (hb hby at_62) rfl k) ?_
  show own_Goes _ _ _ _ T32 (mkF m 63 #[.val (.int p1), .val (.ref b1), .val (.int (3 : Int32)), .unset, .unset, .unset, .unset] [(.int (3 : Int32)), (.ref b1)])
  refine own_step (own_aaload X32 hx hZ e32 V32' rfl (.ref w_PREPARE) ⟨by decide, by decide⟩ rfl (g := (mkF m 63 #[.val (.int p1), .val (.ref b1), .val (.int (3 : Int32)), .unset, .unset, .unset, .unset] [(.int (3 : Int32)), (.ref b1)])) rfl rfl (hb hby at_63)) ?_
  show own_Goes _ _ _ _ T32 (mkF m 64 #[.val (.int p1), .val (.ref b1), .val (.int (3 : Int32)), .unset, .unset, .unset, .unset] [(.ref w_PREPARE)])
  refine own_step (fun t k => XS.astoreN X32.here hx rfl (hb hby at_64) rfl rfl (l' := #[.val (.int p1), .val (.ref b1), .val (.int (3 : Int32)), .val (.ref w_PREPARE), .unset, .unset, .unset]) rfl k) ?_
  show own_Goes _ _ _ _ T32 (mkF m 65 #[.val (.int p1), .val (.ref b1), .val (.int (3 : Int32)), .val (.ref w_PREPARE), .unset, .unset, .unset] [])
  refine own_step (fun t k => XS.iloadN X32.here hx rfl (hb hby at_65) rfl k) ?_
  show own_Goes _ _ _ _ T32 (mkF m 66 #[.val (.int p1), .val (.ref b1), .val (.int (3 : Int32)), .val (.ref w_PREPARE), .unset, .unset, .unset] [(.int (3 : Int32))])
  refine own_step (fun t k => XS.iconst X32.here hx rfl (hb hby at_66) k) ?_
  show own_Goes _ _ _ _ T32 (mkF m 67 #[.val (.int p1), .val (.ref b1), .val (.int (3 : Int32)), .val (.ref w_PREPARE), .unset, .unset, .unset] [(.int (1 : Int32)), (.int (3 : Int32))])
  refine own_step (fun t k => XS.iadd X32.here hx rfl (hb hby at_67) rfl k) ?_
  show own_Goes _ _ _ _ T32 (mkF m 68 #[.val (.int p1), .val (.ref b1), .val (.int (3 : Int32)), .val (.ref w_PREPARE), .unset, .unset, .unset] [(.int (4 : Int32))])
  refine own_step (fun t k => XS.istore X32.here hx rfl (hb hby at_68) rfl (l' := #[.val (.int p1), .val (.ref b1), .val (.int (3 : Int32)), .val (.ref w_PREPARE), .val (.int (4 : Int32)), .unset, .unset]) rfl k) ?_
  show own_Goes _ _ _ _ T32 (mkF m 70 #[.val (.int p1), .val (.ref b1), .val (.int (3 : Int32)), .val (.ref w_PREPARE), .val (.int (4 : Int32)), .unset, .unset] [])
  refine own_step (fun t k => XS.bipush X32.here hx rfl (hb hby at_70) k) ?_
  show own_Goes _ _ _ _ T32 (mkF m 72 #[.val (.int p1), .val (.ref b1), .val (.int (3 : Int32)), .val (.ref w_PREPARE), .val (.int (4 : Int32)), .unset, .unset] [(.int (106 : Int32))])
  refine own_step (fun t k => XS.istore X32.here hx rfl (hb hby at_72) rfl (l' := #[.val (.int p1), .val (.ref b1), .val (.int (3 : Int32)), .val (.ref w_PREPARE), .val (.int (4 : Int32)), .val (.int (106 : Int32)), .unset]) rfl k) ?_
  show own_Goes _ _ _ _ T32 (mkF m 74 #[.val (.int p1), .val (.ref b1), .val (.int (3 : Int32)), .val (.ref w_PREPARE), .val (.int (4 : Int32)), .val (.int (106 : Int32)), .unset] [])
  refine own_step (fun t k => XS.iload X32.here hx rfl (hb hby at_74) rfl k) ?_
  show own_Goes _ _ _ _ T32 (mkF m 76 #[.val (.int p1), .val (.ref b1), .val (.int (3 : Int32)), .val (.ref w_PREPARE), .val (.int (4 : Int32)), .val (.int (106 : Int32)), .unset] [(.int (106 : Int32))])
  refine own_step (fun t k => XS.iload X32.here hx rfl (hb hby at_76) rfl k) ?_
  show own_Goes _ _ _ _ T32 (mkF m 78 #[.val (.int p1), .val (.ref b1), .val (.int (3 : Int32)), .val (.ref w_PREPARE), .val (.int (4 : Int32)), .val (.int (106 : Int32)), .unset] [(.int (4 : Int32)), (.int (106 : Int32))])
  refine own_step (fun t k => XS.ishr X32.here hx rfl (hb hby at_78) rfl k) ?_
  show own_Goes _ _ _ _ T32 (mkF m 79 #[.val (.int p1), .val (.ref b1), .val (.int (3 : Int32)), .val (.ref w_PREPARE), .val (.int (4 : Int32)), .val (.int (106 : Int32)), .unset] [(.int (6 : Int32))])
  refine own_step (fun t k => XS.iconst X32.here hx rfl (hb hby at_79) k) ?_
  show own_Goes _ _ _ _ T32 (mkF m 80 #[.val (.int p1), .val (.ref b1), .val (.int (3 : Int32)), .val (.ref w_PREPARE), .val (.int (4 : Int32)), .val (.int (106 : Int32)), .unset] [(.int (1 : Int32)), (.int (6 : Int32))])
  refine own_step (fun t k => XS.iand X32.here hx rfl (hb hby at_80) rfl k) ?_
  show own_Goes _ _ _ _ T32 (mkF m 81 #[.val (.int p1), .val (.ref b1), .val (.int (3 : Int32)), .val (.ref w_PREPARE), .val (.int (4 : Int32)), .val (.int (106 : Int32)), .unset] [(.int (0 : Int32))])
  refine own_step (fun t k => XS.ifYes X32.here hx rfl (pc0 := 81) (pc' := 88) rfl (hb hby at_81) rfl ((if0 _ _).trans (teq (show (0 : Int32) = (0 : Int32) from (by decide))).1) (by decide) (by decide) k) ?_
  show own_Goes _ _ _ _ T32 (mkF m 88 #[.val (.int p1), .val (.ref b1), .val (.int (3 : Int32)), .val (.ref w_PREPARE), .val (.int (4 : Int32)), .val (.int (106 : Int32)), .unset] [])
  refine own_step (fun t k => XS.iconst X32.here hx rfl (hb hby at_88) k) ?_
  show own_Goes _ _ _ _ T32 (mkF m 89 #[.val (.int p1), .val (.ref b1), .val (.int (3 : Int32)), .val (.ref w_PREPARE), .val (.int (4 : Int32)), .val (.int (106 : Int32)), .unset] [(.int (0 : Int32))])
  refine own_step (fun t k => XS.istore X32.here hx rfl (hb hby at_89) rfl (l' := #[.val (.int p1), .val (.ref b1), .val (.int (3 : Int32)), .val (.ref w_PREPARE), .val (.int (4 : Int32)), .val (.int (106 : Int32)), .val (.int (0 : Int32))]) rfl k) ?_
  show own_Goes _ _ _ _ T32 (mkF m 91 #[.val (.int p1), .val (.ref b1), .val (.int (3 : Int32)), .val (.ref w_PREPARE), .val (.int (4 : Int32)), .val (.int (106 : Int32)), .val (.int (0 : Int32))] [])
  refine own_step (fun t k => XS.aloadN X32.here hx rfl (hb hby at_91) rfl rfl k) ?_
  show own_Goes _ _ _ _ T32 (mkF m 92 #[.val (.int p1), .val (.ref b1), .val (.int (3 : Int32)), .val (.ref w_PREPARE), .val (.int (4 : Int32)), .val (.int (106 : Int32)), .val (.int (0 : Int32))] [(.ref w_PREPARE)])
  have S_ISOLATE_v34 := ((((((((S_ISOLATE_v3.wr W4).wr W8).wr W12).wr W16).wr W20).wr W24).wr W28).wr W32)
  have S_COUNT_v35 := ((((((S_COUNT_v11.wr W12).wr W16).wr W20).wr W24).wr W28).wr W32)
  have S_SWITCH_v36 := ((((S_SWITCH_v19.wr W20).wr W24).wr W28).wr W32)
  have S_CARRY_v37 := (((S_CARRY_v23.wr W24).wr W28).wr W32)
  have E_w_PREPARE_v39 := (((((E_w_PREPARE_v17.wr W16).wr W20).wr W24).wr W28).wr W32)
  refine own_callV X32 hx hZ (y := (⟨"com/example/ringshift/ringshift/net/KeyChangeStep", "endsPhase", "()Z"⟩ : MethodName)) (z := (⟨"com/example/ringshift/ringshift/net/KeyChangeStep", "endsPhase", "()Z"⟩ : MethodName)) hown (hw _ (List.mem_of_getElem? (i := 20) rfl)) (hw _ (List.mem_of_getElem? (i := 21) rfl)) (notFace_of_selects (args := #[]) (mvT hZ (hw _ (List.mem_of_getElem? (i := 23) rfl)))) (hw _ (List.mem_of_getElem? (i := 23) rfl)) (hw _ (List.mem_of_getElem? (i := 22) rfl)) (hw _ (List.mem_of_getElem? (i := 24) rfl)) (hw _ (List.mem_of_getElem? (i := 3) rfl)) (by decide) 0 E_w_PREPARE_v39 [] [] (own_ends_PREPARE l Z a0 hw [] w_PREPARE w_ISOLATE w_COUNT w_SWITCH w_CARRY h32 n0 (Nat.le_trans Z0 K32.1) S_ISOLATE_v34 S_COUNT_v35 S_SWITCH_v36 S_CARRY_v37 ne_PREPARE_ISOLATE ne_PREPARE_COUNT ne_PREPARE_SWITCH ne_PREPARE_CARRY) e32 (by decide) (by decide) (by decide) (by decide) (g := (mkF m 92 #[.val (.int p1), .val (.ref b1), .val (.int (3 : Int32)), .val (.ref w_PREPARE), .val (.int (4 : Int32)), .val (.int (106 : Int32)), .val (.int (0 : Int32))] [(.ref w_PREPARE)])) rfl (by rw [hml]; rfl) own_pd0 rfl rfl (by show 2 * 0 + _ ≤ _; exact Nat.le_of_eq rfl) (hb hby at_92) ?_
  intro T38 v38 L38 X38 hQ38
  obtain ⟨rfl, N38q, e38⟩ := hQ38
  have N38 := Fr.app N32 N38q
  show own_Goes _ _ _ _ T38 (mkF m 95 #[.val (.int p1), .val (.ref b1), .val (.int (3 : Int32)), .val (.ref w_PREPARE), .val (.int (4 : Int32)), .val (.int (106 : Int32)), .val (.int (0 : Int32))] [(.int (0 : Int32))])
  refine own_step (fun t k => XS.iload X38.here hx rfl (hb hby at_95) rfl k) ?_
  show own_Goes _ _ _ _ T38 (mkF m 97 #[.val (.int p1), .val (.ref b1), .val (.int (3 : Int32)), .val (.ref w_PREPARE), .val (.int (4 : Int32)), .val (.int (106 : Int32)), .val (.int (0 : Int32))] [(.int (0 : Int32)), (.int (0 : Int32))])
  refine own_step (fun t k => XS.icmpNo X38.here hx rfl (hb hby at_97) rfl (teq (show (0 : Int32) = (0 : Int32) from (by decide))).2 k) ?_
  show own_Goes _ _ _ _ T38 (mkF m 100 #[.val (.int p1), .val (.ref b1), .val (.int (3 : Int32)), .val (.ref w_PREPARE), .val (.int (4 : Int32)), .val (.int (106 : Int32)), .val (.int (0 : Int32))] [])
  refine own_step (fun t k => XS.iconst X38.here hx rfl (hb hby at_100) k) ?_
  show own_Goes _ _ _ _ T38 (mkF m 101 #[.val (.int p1), .val (.ref b1), .val (.int (3 : Int32)), .val (.ref w_PREPARE), .val (.int (4 : Int32)), .val (.int (106 : Int32)), .val (.int (0 : Int32))] [(.int (1 : Int32))])
  refine own_step (fun t k => XS.goto X38.here hx rfl (pc0 := 101) (pc' := 105) rfl (hb hby at_101) (by decide) (by decide) k) ?_
  show own_Goes _ _ _ _ T38 (mkF m 105 #[.val (.int p1), .val (.ref b1), .val (.int (3 : Int32)), .val (.ref w_PREPARE), .val (.int (4 : Int32)), .val (.int (106 : Int32)), .val (.int (0 : Int32))] [(.int (1 : Int32))])
  exact own_retN X38 hx hlk (t := .boolean) hrt (by simp) (hb hby at_105) ⟨rfl, N38⟩ (by decide) (by decide)
set_option maxRecDepth 65536 in
set_option maxHeartbeats 40000000 in
theorem own_law4 (l : Launch) (Z : State) (a0 : Array Value) (hw : ∀ d ∈ tables_1, d.before a0 Z = true) (ws : List Jvm.Cond) (p1 : Int32) (w_ISOLATE : Addr) (w_COPY : Addr) (w_COUNT : Addr) (w_PREPARE : Addr) (w_SWITCH : Addr) (w_CARRY : Addr) (w_ABANDON : Addr) (w_END : Addr) (h0 : Heap) (n0 : Nat) (Z0 : n0 ≤ h0.size) (S_ISOLATE : Sta Z h0 "com/example/ringshift/ringshift/net/KeyChangeStep" "ISOLATE" "Lcom/example/ringshift/ringshift/net/KeyChangeStep;" (.ref w_ISOLATE)) (S_COPY : Sta Z h0 "com/example/ringshift/ringshift/net/KeyChangeStep" "COPY" "Lcom/example/ringshift/ringshift/net/KeyChangeStep;" (.ref w_COPY)) (S_COUNT : Sta Z h0 "com/example/ringshift/ringshift/net/KeyChangeStep" "COUNT" "Lcom/example/ringshift/ringshift/net/KeyChangeStep;" (.ref w_COUNT)) (S_PREPARE : Sta Z h0 "com/example/ringshift/ringshift/net/KeyChangeStep" "PREPARE" "Lcom/example/ringshift/ringshift/net/KeyChangeStep;" (.ref w_PREPARE)) (S_SWITCH : Sta Z h0 "com/example/ringshift/ringshift/net/KeyChangeStep" "SWITCH" "Lcom/example/ringshift/ringshift/net/KeyChangeStep;" (.ref w_SWITCH)) (S_CARRY : Sta Z h0 "com/example/ringshift/ringshift/net/KeyChangeStep" "CARRY" "Lcom/example/ringshift/ringshift/net/KeyChangeStep;" (.ref w_CARRY)) (S_ABANDON : Sta Z h0 "com/example/ringshift/ringshift/net/KeyChangeStep" "ABANDON" "Lcom/example/ringshift/ringshift/net/KeyChangeStep;" (.ref w_ABANDON)) (S_END : Sta Z h0 "com/example/ringshift/ringshift/net/KeyChangeStep" "END" "Lcom/example/ringshift/ringshift/net/KeyChangeStep;" (.ref w_END)) (E_w_ISOLATE : Exa Z h0 w_ISOLATE "com/example/ringshift/ringshift/net/KeyChangeStep") (E_w_COPY : Exa Z h0 w_COPY "com/example/ringshift/ringshift/net/KeyChangeStep") (E_w_COUNT : Exa Z h0 w_COUNT "com/example/ringshift/ringshift/net/KeyChangeStep") (E_w_PREPARE : Exa Z h0 w_PREPARE "com/example/ringshift/ringshift/net/KeyChangeStep") (E_w_SWITCH : Exa Z h0 w_SWITCH "com/example/ringshift/ringshift/net/KeyChangeStep") (E_w_CARRY : Exa Z h0 w_CARRY "com/example/ringshift/ringshift/net/KeyChangeStep") (E_w_ABANDON : Exa Z h0 w_ABANDON "com/example/ringshift/ringshift/net/KeyChangeStep") (E_w_END : Exa Z h0 w_END "com/example/ringshift/ringshift/net/KeyChangeStep") (ne_SWITCH_ISOLATE : ¬ (w_SWITCH = w_ISOLATE)) (ne_SWITCH_COUNT : ¬ (w_SWITCH = w_COUNT)) (hi : (p1 &&& (7 : Int32)) = (4 : Int32)) :
    own_Met l Z x code maxLocals ret ws room_1 #[(.int p1)] h0 (fun v h L => v = some (.int 1) ∧ Fr n0 L) := by
  refine own_body (plainFor_of_name own_pn_com_example_ringshift_ringshift_net_KeyChangeStepEndsPhasePinLaw) (fun p e s m below meth c s₁ hx hby hml0 hrt hlk hown0 hnm hZ X0 e0 => ?_)
  have N0 := Fr.nil n0
  have hown : s.vm.findClass "com/example/ringshift/ringshift/net/KeyChangeStepEndsPhasePinLaw" = some m.cls := hown0
  have hml : c.maxLocals = 7 := hml0
  refine own_castG (own_ef1 m p1) ?_
  show own_Goes _ _ _ _ s₁ (mkF m 0 #[.val (.int p1), .unset, .unset, .unset, .unset, .unset, .unset] [])
  refine own_step (fun t k => XS.bipush X0.here hx rfl (hb hby at_0) k) ?_
  show own_Goes _ _ _ _ s₁ (mkF m 2 #[.val (.int p1), .unset, .unset, .unset, .unset, .unset, .unset] [(.int (8 : Int32))])
  obtain ⟨T1, h1, k1, X1, e1, E1, A1, O1, st1⟩ := newR X0 hx hZ hown (hw _ (List.mem_of_getElem? (i := 0) rfl)) (hw _ (List.mem_of_getElem? (i := 1) rfl)) e0 (g := (mkF m 2 #[.val (.int p1), .unset, .unset, .unset, .unset, .unset, .unset] [(.int (8 : Int32))])) rfl (hb hby at_2) rfl (by decide) (cap := 8) (by decide) (by decide) (by decide) (by decide)
  obtain ⟨b1, g1⟩ : ∃ z, z = h0.size := ⟨_, rfl⟩
  rw [← g1] at A1 st1
  refine own_step st1 ?_
  have g_b1 : n0 ≤ b1 := Nat.le_trans Z0 (Nat.le_of_eq g1.symm)
  have sz_b1 : h0.size ≤ b1 := Nat.le_trans (Keep.refl h0 []).1 (Nat.le_of_eq g1.symm)
  have ne_w_ISOLATE_b1 : w_ISOLATE ≠ b1 := Nat.ne_of_lt (Nat.lt_of_lt_of_le E_w_ISOLATE.lt (Nat.le_of_eq g1.symm))
  have ne_w_COPY_b1 : w_COPY ≠ b1 := Nat.ne_of_lt (Nat.lt_of_lt_of_le E_w_COPY.lt (Nat.le_of_eq g1.symm))
  have ne_w_COUNT_b1 : w_COUNT ≠ b1 := Nat.ne_of_lt (Nat.lt_of_lt_of_le E_w_COUNT.lt (Nat.le_of_eq g1.symm))
  have ne_w_PREPARE_b1 : w_PREPARE ≠ b1 := Nat.ne_of_lt (Nat.lt_of_lt_of_le E_w_PREPARE.lt (Nat.le_of_eq g1.symm))
  have ne_w_SWITCH_b1 : w_SWITCH ≠ b1 := Nat.ne_of_lt (Nat.lt_of_lt_of_le E_w_SWITCH.lt (Nat.le_of_eq g1.symm))
  have ne_w_CARRY_b1 : w_CARRY ≠ b1 := Nat.ne_of_lt (Nat.lt_of_lt_of_le E_w_CARRY.lt (Nat.le_of_eq g1.symm))
  have ne_w_ABANDON_b1 : w_ABANDON ≠ b1 := Nat.ne_of_lt (Nat.lt_of_lt_of_le E_w_ABANDON.lt (Nat.le_of_eq g1.symm))
  have ne_w_END_b1 : w_END ≠ b1 := Nat.ne_of_lt (Nat.lt_of_lt_of_le E_w_END.lt (Nat.le_of_eq g1.symm))
  have K1 := (Keep.refl h0 []).ext E1
  have V_b1 : Arv Z h1 b1 k1 (.object "com/example/ringshift/ringshift/net/KeyChangeStep") (8 : Int32) [.null, .null, .null, .null, .null, .null, .null, .null] .null := (Arv.new A1 (by decide)).pad (pad_rep [] .null 8)
  show own_Goes _ _ _ _ T1 (mkF m 5 #[.val (.int p1), .unset, .unset, .unset, .unset, .unset, .unset] [(.ref b1)])
  refine own_step (fun t k => XS.dup X1.here hx rfl (hb hby at_5) rfl rfl k) ?_
  show own_Goes _ _ _ _ T1 (mkF m 6 #[.val (.int p1), .unset, .unset, .unset, .unset, .unset, .unset] [(.ref b1), (.ref b1)])
  refine own_step (fun t k => XS.iconst X1.here hx rfl (hb hby at_6) k) ?_
  show own_Goes _ _ _ _ T1 (mkF m 7 #[.val (.int p1), .unset, .unset, .unset, .unset, .unset, .unset] [(.int (0 : Int32)), (.ref b1), (.ref b1)])
  have S_ISOLATE_v3 := (S_ISOLATE.ext E1)
  obtain ⟨T2, X2, e2, st2⟩ := getS2 X1 hx hZ hown (host := "") (Or.inl (hw _ (List.mem_of_getElem? (i := 2) rfl))) Via.refl e1 S_ISOLATE_v3 (g := (mkF m 7 #[.val (.int p1), .unset, .unset, .unset, .unset, .unset, .unset] [(.int (0 : Int32)), (.ref b1), (.ref b1)])) rfl (hb hby at_7)
  refine own_step st2 ?_
  show own_Goes _ _ _ _ T2 (mkF m 10 #[.val (.int p1), .unset, .unset, .unset, .unset, .unset, .unset] [(.ref w_ISOLATE), (.int (0 : Int32)), (.ref b1), (.ref b1)])
  have E_w_ISOLATE_v5 := (E_w_ISOLATE.ext E1)
  obtain ⟨T4, h4, X4, e4, W4, V4, st4⟩ := own_aastore X2 hx hZ e2 V_b1 O1 (Ins.self E_w_ISOLATE_v5) (j := (0 : Int32)) ⟨by decide, by decide⟩ 0 rfl (Nat.le_of_ble_eq_true rfl) (g := (mkF m 10 #[.val (.int p1), .unset, .unset, .unset, .unset, .unset, .unset] [(.ref w_ISOLATE), (.int (0 : Int32)), (.ref b1), (.ref b1)])) rfl rfl (hb hby at_10)
  refine own_step st4 ?_
  have K4 := K1.wr W4 (Or.inr sz_b1)
  have N4 := Fr.snoc X4 N0 g_b1
  have V4' : Arv Z h4 b1 k1 (.object "com/example/ringshift/ringshift/net/KeyChangeStep") (8 : Int32) [(.ref w_ISOLATE), .null, .null, .null, .null, .null, .null, .null] .null := V4
  show own_Goes _ _ _ _ T4 (mkF m 11 #[.val (.int p1), .unset, .unset, .unset, .unset, .unset, .unset] [(.ref b1)])
  refine own_step (fun t k => XS.dup X4.here hx rfl (hb hby at_11) rfl rfl k) ?_
  show own_Goes _ _ _ _ T4 (mkF m 12 #[.val (.int p1), .unset, .unset, .unset, .unset, .unset, .unset] [(.ref b1), (.ref b1)])
  refine own_step (fun t k => XS.iconst X4.here hx rfl (hb hby at_12) k) ?_
  show own_Goes _ _ _ _ T4 (mkF m 13 #[.val (.int p1), .unset, .unset, .unset, .unset, .unset, .unset] [(.int (1 : Int32)), (.ref b1), (.ref b1)])
  have S_COPY_v7 := ((S_COPY.ext E1).wr W4)
  obtain ⟨T6, X6, e6, st6⟩ := getS2 X4 hx hZ hown (host := "") (Or.inl (hw _ (List.mem_of_getElem? (i := 6) rfl))) Via.refl e4 S_COPY_v7 (g := (mkF m 13 #[.val (.int p1), .unset, .unset, .unset, .unset, .unset, .unset] [(.int (1 : Int32)), (.ref b1), (.ref b1)])) rfl (hb hby at_13)
  refine own_step st6 ?_
  show own_Goes _ _ _ _ T6 (mkF m 16 #[.val (.int p1), .unset, .unset, .unset, .unset, .unset, .unset] [(.ref w_COPY), (.int (1 : Int32)), (.ref b1), (.ref b1)])
  have E_w_COPY_v9 := ((E_w_COPY.ext E1).wr W4)
  obtain ⟨T8, h8, X8, e8, W8, V8, st8⟩ := own_aastore X6 hx hZ e6 V4' O1 (Ins.self E_w_COPY_v9) (j := (1 : Int32)) ⟨by decide, by decide⟩ 1 rfl (Nat.le_of_ble_eq_true rfl) (g := (mkF m 16 #[.val (.int p1), .unset, .unset, .unset, .unset, .unset, .unset] [(.ref w_COPY), (.int (1 : Int32)), (.ref b1), (.ref b1)])) rfl rfl (hb hby at_16)
  refine own_step st8 ?_
  have K8 := K4.wr W8 (Or.inr sz_b1)
  have N8 := Fr.snoc X8 N4 g_b1
  have V8' : Arv Z h8 b1 k1 (.object "com/example/ringshift/ringshift/net/KeyChangeStep") (8 : Int32) [(.ref w_ISOLATE), (.ref w_COPY), .null, .null, .null, .null, .null, .null] .null := V8
  show own_Goes _ _ _ _ T8 (mkF m 17 #[.val (.int p1), .unset, .unset, .unset, .unset, .unset, .unset] [(.ref b1)])
  refine own_step (fun t k => XS.dup X8.here hx rfl (hb hby at_17) rfl rfl k) ?_
  show own_Goes _ _ _ _ T8 (mkF m 18 #[.val (.int p1), .unset, .unset, .unset, .unset, .unset, .unset] [(.ref b1), (.ref b1)])
  refine own_step (fun t k => XS.iconst X8.here hx rfl (hb hby at_18) k) ?_
  show own_Goes _ _ _ _ T8 (mkF m 19 #[.val (.int p1), .unset, .unset, .unset, .unset, .unset, .unset] [(.int (2 : Int32)), (.ref b1), (.ref b1)])
  have S_COUNT_v11 := (((S_COUNT.ext E1).wr W4).wr W8)
  obtain ⟨T10, X10, e10, st10⟩ := getS2 X8 hx hZ hown (host := "") (Or.inl (hw _ (List.mem_of_getElem? (i := 8) rfl))) Via.refl e8 S_COUNT_v11 (g := (mkF m 19 #[.val (.int p1), .unset, .unset, .unset, .unset, .unset, .unset] [(.int (2 : Int32)), (.ref b1), (.ref b1)])) rfl (hb hby at_19)
  refine own_step st10 ?_
  show own_Goes _ _ _ _ T10 (mkF m 22 #[.val (.int p1), .unset, .unset, .unset, .unset, .unset, .unset] [(.ref w_COUNT), (.int (2 : Int32)), (.ref b1), (.ref b1)])
  have E_w_COUNT_v13 := (((E_w_COUNT.ext E1).wr W4).wr W8)
  obtain ⟨T12, h12, X12, e12, W12, V12, st12⟩ := own_aastore X10 hx hZ e10 V8' O1 (Ins.self E_w_COUNT_v13) (j := (2 : Int32)) ⟨by decide, by decide⟩ 2 rfl (Nat.le_of_ble_eq_true rfl) (g := (mkF m 22 #[.val (.int p1), .unset, .unset, .unset, .unset, .unset, .unset] [(.ref w_COUNT), (.int (2 : Int32)), (.ref b1), (.ref b1)])) rfl rfl (hb hby at_22)
  refine own_step st12 ?_
  have K12 := K8.wr W12 (Or.inr sz_b1)
  have N12 := Fr.snoc X12 N8 g_b1
  have V12' : Arv Z h12 b1 k1 (.object "com/example/ringshift/ringshift/net/KeyChangeStep") (8 : Int32) [(.ref w_ISOLATE), (.ref w_COPY), (.ref w_COUNT), .null, .null, .null, .null, .null] .null := V12
  show own_Goes _ _ _ _ T12 (mkF m 23 #[.val (.int p1), .unset, .unset, .unset, .unset, .unset, .unset] [(.ref b1)])
  refine own_step (fun t k => XS.dup X12.here hx rfl (hb hby at_23) rfl rfl k) ?_
  show own_Goes _ _ _ _ T12 (mkF m 24 #[.val (.int p1), .unset, .unset, .unset, .unset, .unset, .unset] [(.ref b1), (.ref b1)])
  refine own_step (fun t k => XS.iconst X12.here hx rfl (hb hby at_24) k) ?_
  show own_Goes _ _ _ _ T12 (mkF m 25 #[.val (.int p1), .unset, .unset, .unset, .unset, .unset, .unset] [(.int (3 : Int32)), (.ref b1), (.ref b1)])
  have S_PREPARE_v15 := ((((S_PREPARE.ext E1).wr W4).wr W8).wr W12)
  obtain ⟨T14, X14, e14, st14⟩ := getS2 X12 hx hZ hown (host := "") (Or.inl (hw _ (List.mem_of_getElem? (i := 10) rfl))) Via.refl e12 S_PREPARE_v15 (g := (mkF m 25 #[.val (.int p1), .unset, .unset, .unset, .unset, .unset, .unset] [(.int (3 : Int32)), (.ref b1), (.ref b1)])) rfl (hb hby at_25)
  refine own_step st14 ?_
  show own_Goes _ _ _ _ T14 (mkF m 28 #[.val (.int p1), .unset, .unset, .unset, .unset, .unset, .unset] [(.ref w_PREPARE), (.int (3 : Int32)), (.ref b1), (.ref b1)])
  have E_w_PREPARE_v17 := ((((E_w_PREPARE.ext E1).wr W4).wr W8).wr W12)
  obtain ⟨T16, h16, X16, e16, W16, V16, st16⟩ := own_aastore X14 hx hZ e14 V12' O1 (Ins.self E_w_PREPARE_v17) (j := (3 : Int32)) ⟨by decide, by decide⟩ 3 rfl (Nat.le_of_ble_eq_true rfl) (g := (mkF m 28 #[.val (.int p1), .unset, .unset, .unset, .unset, .unset, .unset] [(.ref w_PREPARE), (.int (3 : Int32)), (.ref b1), (.ref b1)])) rfl rfl (hb hby at_28)
  refine own_step st16 ?_
  have K16 := K12.wr W16 (Or.inr sz_b1)
  have N16 := Fr.snoc X16 N12 g_b1
  have V16' : Arv Z h16 b1 k1 (.object "com/example/ringshift/ringshift/net/KeyChangeStep") (8 : Int32) [(.ref w_ISOLATE), (.ref w_COPY), (.ref w_COUNT), (.ref w_PREPARE), .null, .null, .null, .null] .null := V16
  show own_Goes _ _ _ _ T16 (mkF m 29 #[.val (.int p1), .unset, .unset, .unset, .unset, .unset, .unset] [(.ref b1)])
  refine own_step (fun t k => XS.dup X16.here hx rfl (hb hby at_29) rfl rfl k) ?_
  show own_Goes _ _ _ _ T16 (mkF m 30 #[.val (.int p1), .unset, .unset, .unset, .unset, .unset, .unset] [(.ref b1), (.ref b1)])
  refine own_step (fun t k => XS.iconst X16.here hx rfl (hb hby at_30) k) ?_
  show own_Goes _ _ _ _ T16 (mkF m 31 #[.val (.int p1), .unset, .unset, .unset, .unset, .unset, .unset] [(.int (4 : Int32)), (.ref b1), (.ref b1)])
  have S_SWITCH_v19 := (((((S_SWITCH.ext E1).wr W4).wr W8).wr W12).wr W16)
  obtain ⟨T18, X18, e18, st18⟩ := getS2 X16 hx hZ hown (host := "") (Or.inl (hw _ (List.mem_of_getElem? (i := 12) rfl))) Via.refl e16 S_SWITCH_v19 (g := (mkF m 31 #[.val (.int p1), .unset, .unset, .unset, .unset, .unset, .unset] [(.int (4 : Int32)), (.ref b1), (.ref b1)])) rfl (hb hby at_31)
  refine own_step st18 ?_
  show own_Goes _ _ _ _ T18 (mkF m 34 #[.val (.int p1), .unset, .unset, .unset, .unset, .unset, .unset] [(.ref w_SWITCH), (.int (4 : Int32)), (.ref b1), (.ref b1)])
  have E_w_SWITCH_v21 := (((((E_w_SWITCH.ext E1).wr W4).wr W8).wr W12).wr W16)
  obtain ⟨T20, h20, X20, e20, W20, V20, st20⟩ := own_aastore X18 hx hZ e18 V16' O1 (Ins.self E_w_SWITCH_v21) (j := (4 : Int32)) ⟨by decide, by decide⟩ 4 rfl (Nat.le_of_ble_eq_true rfl) (g := (mkF m 34 #[.val (.int p1), .unset, .unset, .unset, .unset, .unset, .unset] [(.ref w_SWITCH), (.int (4 : Int32)), (.ref b1), (.ref b1)])) rfl rfl (hb hby at_34)
  refine own_step st20 ?_
  have K20 := K16.wr W20 (Or.inr sz_b1)
  have N20 := Fr.snoc X20 N16 g_b1
  have V20' : Arv Z h20 b1 k1 (.object "com/example/ringshift/ringshift/net/KeyChangeStep") (8 : Int32) [(.ref w_ISOLATE), (.ref w_COPY), (.ref w_COUNT), (.ref w_PREPARE), (.ref w_SWITCH), .null, .null, .null] .null := V20
  show own_Goes _ _ _ _ T20 (mkF m 35 #[.val (.int p1), .unset, .unset, .unset, .unset, .unset, .unset] [(.ref b1)])
  refine own_step (fun t k => XS.dup X20.here hx rfl (hb hby at_35) rfl rfl k) ?_
  show own_Goes _ _ _ _ T20 (mkF m 36 #[.val (.int p1), .unset, .unset, .unset, .unset, .unset, .unset] [(.ref b1), (.ref b1)])
  refine own_step (fun t k => XS.iconst X20.here hx rfl (hb hby at_36) k) ?_
  show own_Goes _ _ _ _ T20 (mkF m 37 #[.val (.int p1), .unset, .unset, .unset, .unset, .unset, .unset] [(.int (5 : Int32)), (.ref b1), (.ref b1)])
  have S_CARRY_v23 := ((((((S_CARRY.ext E1).wr W4).wr W8).wr W12).wr W16).wr W20)
  obtain ⟨T22, X22, e22, st22⟩ := getS2 X20 hx hZ hown (host := "") (Or.inl (hw _ (List.mem_of_getElem? (i := 14) rfl))) Via.refl e20 S_CARRY_v23 (g := (mkF m 37 #[.val (.int p1), .unset, .unset, .unset, .unset, .unset, .unset] [(.int (5 : Int32)), (.ref b1), (.ref b1)])) rfl (hb hby at_37)
  refine own_step st22 ?_
  show own_Goes _ _ _ _ T22 (mkF m 40 #[.val (.int p1), .unset, .unset, .unset, .unset, .unset, .unset] [(.ref w_CARRY), (.int (5 : Int32)), (.ref b1), (.ref b1)])
  have E_w_CARRY_v25 := ((((((E_w_CARRY.ext E1).wr W4).wr W8).wr W12).wr W16).wr W20)
  obtain ⟨T24, h24, X24, e24, W24, V24, st24⟩ := own_aastore X22 hx hZ e22 V20' O1 (Ins.self E_w_CARRY_v25) (j := (5 : Int32)) ⟨by decide, by decide⟩ 5 rfl (Nat.le_of_ble_eq_true rfl) (g := (mkF m 40 #[.val (.int p1), .unset, .unset, .unset, .unset, .unset, .unset] [(.ref w_CARRY), (.int (5 : Int32)), (.ref b1), (.ref b1)])) rfl rfl (hb hby at_40)
  refine own_step st24 ?_
  have K24 := K20.wr W24 (Or.inr sz_b1)
  have N24 := Fr.snoc X24 N20 g_b1
  have V24' : Arv Z h24 b1 k1 (.object "com/example/ringshift/ringshift/net/KeyChangeStep") (8 : Int32) [(.ref w_ISOLATE), (.ref w_COPY), (.ref w_COUNT), (.ref w_PREPARE), (.ref w_SWITCH), (.ref w_CARRY), .null, .null] .null := V24
  show own_Goes _ _ _ _ T24 (mkF m 41 #[.val (.int p1), .unset, .unset, .unset, .unset, .unset, .unset] [(.ref b1)])
  refine own_step (fun t k => XS.dup X24.here hx rfl (hb hby at_41) rfl rfl k) ?_
  show own_Goes _ _ _ _ T24 (mkF m 42 #[.val (.int p1), .unset, .unset, .unset, .unset, .unset, .unset] [(.ref b1), (.ref b1)])
  refine own_step (fun t k => XS.bipush X24.here hx rfl (hb hby at_42) k) ?_
  show own_Goes _ _ _ _ T24 (mkF m 44 #[.val (.int p1), .unset, .unset, .unset, .unset, .unset, .unset] [(.int (6 : Int32)), (.ref b1), (.ref b1)])
  have S_ABANDON_v27 := (((((((S_ABANDON.ext E1).wr W4).wr W8).wr W12).wr W16).wr W20).wr W24)
  obtain ⟨T26, X26, e26, st26⟩ := getS2 X24 hx hZ hown (host := "") (Or.inl (hw _ (List.mem_of_getElem? (i := 16) rfl))) Via.refl e24 S_ABANDON_v27 (g := (mkF m 44 #[.val (.int p1), .unset, .unset, .unset, .unset, .unset, .unset] [(.int (6 : Int32)), (.ref b1), (.ref b1)])) rfl (hb hby at_44)
  refine own_step st26 ?_
  show own_Goes _ _ _ _ T26 (mkF m 47 #[.val (.int p1), .unset, .unset, .unset, .unset, .unset, .unset] [(.ref w_ABANDON), (.int (6 : Int32)), (.ref b1), (.ref b1)])
  have E_w_ABANDON_v29 := (((((((E_w_ABANDON.ext E1).wr W4).wr W8).wr W12).wr W16).wr W20).wr W24)
  obtain ⟨T28, h28, X28, e28, W28, V28, st28⟩ := own_aastore X26 hx hZ e26 V24' O1 (Ins.self E_w_ABANDON_v29) (j := (6 : Int32)) ⟨by decide, by decide⟩ 6 rfl (Nat.le_of_ble_eq_true rfl) (g := (mkF m 47 #[.val (.int p1), .unset, .unset, .unset, .unset, .unset, .unset] [(.ref w_ABANDON), (.int (6 : Int32)), (.ref b1), (.ref b1)])) rfl rfl (hb hby at_47)
  refine own_step st28 ?_
  have K28 := K24.wr W28 (Or.inr sz_b1)
  have N28 := Fr.snoc X28 N24 g_b1
  have V28' : Arv Z h28 b1 k1 (.object "com/example/ringshift/ringshift/net/KeyChangeStep") (8 : Int32) [(.ref w_ISOLATE), (.ref w_COPY), (.ref w_COUNT), (.ref w_PREPARE), (.ref w_SWITCH), (.ref w_CARRY), (.ref w_ABANDON), .null] .null := V28
  show own_Goes _ _ _ _ T28 (mkF m 48 #[.val (.int p1), .unset, .unset, .unset, .unset, .unset, .unset] [(.ref b1)])
  refine own_step (fun t k => XS.dup X28.here hx rfl (hb hby at_48) rfl rfl k) ?_
  show own_Goes _ _ _ _ T28 (mkF m 49 #[.val (.int p1), .unset, .unset, .unset, .unset, .unset, .unset] [(.ref b1), (.ref b1)])
  refine own_step (fun t k => XS.bipush X28.here hx rfl (hb hby at_49) k) ?_
  show own_Goes _ _ _ _ T28 (mkF m 51 #[.val (.int p1), .unset, .unset, .unset, .unset, .unset, .unset] [(.int (7 : Int32)), (.ref b1), (.ref b1)])
  have S_END_v31 := ((((((((S_END.ext E1).wr W4).wr W8).wr W12).wr W16).wr W20).wr W24).wr W28)
  obtain ⟨T30, X30, e30, st30⟩ := getS2 X28 hx hZ hown (host := "") (Or.inl (hw _ (List.mem_of_getElem? (i := 18) rfl))) Via.refl e28 S_END_v31 (g := (mkF m 51 #[.val (.int p1), .unset, .unset, .unset, .unset, .unset, .unset] [(.int (7 : Int32)), (.ref b1), (.ref b1)])) rfl (hb hby at_51)
  refine own_step st30 ?_
  show own_Goes _ _ _ _ T30 (mkF m 54 #[.val (.int p1), .unset, .unset, .unset, .unset, .unset, .unset] [(.ref w_END), (.int (7 : Int32)), (.ref b1), (.ref b1)])
  have E_w_END_v33 := ((((((((E_w_END.ext E1).wr W4).wr W8).wr W12).wr W16).wr W20).wr W24).wr W28)
  obtain ⟨T32, h32, X32, e32, W32, V32, st32⟩ := own_aastore X30 hx hZ e30 V28' O1 (Ins.self E_w_END_v33) (j := (7 : Int32)) ⟨by decide, by decide⟩ 7 rfl (Nat.le_of_ble_eq_true rfl) (g := (mkF m 54 #[.val (.int p1), .unset, .unset, .unset, .unset, .unset, .unset] [(.ref w_END), (.int (7 : Int32)), (.ref b1), (.ref b1)])) rfl rfl (hb hby at_54)
  refine own_step st32 ?_
  have K32 := K28.wr W32 (Or.inr sz_b1)
  have N32 := Fr.snoc X32 N28 g_b1
  have V32' : Arv Z h32 b1 k1 (.object "com/example/ringshift/ringshift/net/KeyChangeStep") (8 : Int32) [(.ref w_ISOLATE), (.ref w_COPY), (.ref w_COUNT), (.ref w_PREPARE), (.ref w_SWITCH), (.ref w_CARRY), (.ref w_ABANDON), (.ref w_END)] .null := V32
  show own_Goes _ _ _ _ T32 (mkF m 55 #[.val (.int p1), .unset, .unset, .unset, .unset, .unset, .unset] [(.ref b1)])
  refine own_step (fun t k => XS.astoreN X32.here hx rfl (hb hby at_55) rfl rfl (l' := #[.val (.int p1), .val (.ref b1), .unset, .unset, .unset, .unset, .unset]) rfl k) ?_
  show own_Goes _ _ _ _ T32 (mkF m 56 #[.val (.int p1), .val (.ref b1), .unset, .unset, .unset, .unset, .unset] [])
  refine own_step (fun t k => XS.iloadN X32.here hx rfl (hb hby at_56) rfl k) ?_
  show own_Goes _ _ _ _ T32 (mkF m 57 #[.val (.int p1), .val (.ref b1), .unset, .unset, .unset, .unset, .unset] [(.int p1)])
  refine own_step (fun t k => XS.bipush X32.here hx rfl (hb hby at_57) k) ?_
  show own_Goes _ _ _ _ T32 (mkF m 59 #[.val (.int p1), .val (.ref b1), .unset, .unset, .unset, .unset, .unset] [(.int (7 : Int32)), (.int p1)])
  refine own_step (fun t k => XS.iand X32.here hx rfl (hb hby at_59) rfl k) ?_
  show own_Goes _ _ _ _ T32 (mkF m 60 #[.val (.int p1), .val (.ref b1), .unset, .unset, .unset, .unset, .unset] [(.int (p1 &&& (7 : Int32)))])
  rw [hi]
  show own_Goes _ _ _ _ T32 (mkF m 60 #[.val (.int p1), .val (.ref b1), .unset, .unset, .unset, .unset, .unset] [(.int (4 : Int32))])
  refine own_step (fun t k => XS.istoreN X32.here hx rfl (hb hby at_60) rfl (l' := #[.val (.int p1), .val (.ref b1), .val (.int (4 : Int32)), .unset, .unset, .unset, .unset]) rfl k) ?_
  show own_Goes _ _ _ _ T32 (mkF m 61 #[.val (.int p1), .val (.ref b1), .val (.int (4 : Int32)), .unset, .unset, .unset, .unset] [])
  refine own_step (fun t k => XS.aloadN X32.here hx rfl (hb hby at_61) rfl rfl k) ?_
  show own_Goes _ _ _ _ T32 (mkF m 62 #[.val (.int p1), .val (.ref b1), .val (.int (4 : Int32)), .unset, .unset, .unset, .unset] [(.ref b1)])
  refine own_step (fun t k => XS.iloadN X32.here hx rfl (hb hby at_62) rfl k) ?_
  show own_Goes _ _ _ _ T32 (mkF m 63 #[.val (.int p1), .val (.ref b1), .val (.int (4 : Int32)), .unset, .unset, .unset, .unset] [(.int (4 : Int32)), (.ref b1)])
  refine own_step (own_aaload X32 hx hZ e32 V32' rfl (.ref w_SWITCH) ⟨by decide, by decide⟩ rfl (g := (mkF m 63 #[.val (.int p1), .val (.ref b1), .val (.int (4 : Int32)), .unset, .unset, .unset, .unset] [(.int (4 : Int32)), (.ref b1)])) rfl rfl (hb hby at_63)) ?_
  show own_Goes _ _ _ _ T32 (mkF m 64 #[.val (.int p1), .val (.ref b1), .val (.int (4 : Int32)), .unset, .unset, .unset, .unset] [(.ref w_SWITCH)])
  refine own_step (fun t k => XS.astoreN X32.here hx rfl (hb hby at_64) rfl rfl (l' := #[.val (.int p1), .val (.ref b1), .val (.int (4 : Int32)), .val (.ref w_SWITCH), .unset, .unset, .unset]) rfl k) ?_
  show own_Goes _ _ _ _ T32 (mkF m 65 #[.val (.int p1), .val (.ref b1), .val (.int (4 : Int32)), .val (.ref w_SWITCH), .unset, .unset, .unset] [])
  refine own_step (fun t k => XS.iloadN X32.here hx rfl (hb hby at_65) rfl k) ?_
  show own_Goes _ _ _ _ T32 (mkF m 66 #[.val (.int p1), .val (.ref b1), .val (.int (4 : Int32)), .val (.ref w_SWITCH), .unset, .unset, .unset] [(.int (4 : Int32))])
  refine own_step (fun t k => XS.iconst X32.here hx rfl (hb hby at_66) k) ?_
  show own_Goes _ _ _ _ T32 (mkF m 67 #[.val (.int p1), .val (.ref b1), .val (.int (4 : Int32)), .val (.ref w_SWITCH), .unset, .unset, .unset] [(.int (1 : Int32)), (.int (4 : Int32))])
  refine own_step (fun t k => XS.iadd X32.here hx rfl (hb hby at_67) rfl k) ?_
  show own_Goes _ _ _ _ T32 (mkF m 68 #[.val (.int p1), .val (.ref b1), .val (.int (4 : Int32)), .val (.ref w_SWITCH), .unset, .unset, .unset] [(.int (5 : Int32))])
  refine own_step (fun t k => XS.istore X32.here hx rfl (hb hby at_68) rfl (l' := #[.val (.int p1), .val (.ref b1), .val (.int (4 : Int32)), .val (.ref w_SWITCH), .val (.int (5 : Int32)), .unset, .unset]) rfl k) ?_
  show own_Goes _ _ _ _ T32 (mkF m 70 #[.val (.int p1), .val (.ref b1), .val (.int (4 : Int32)), .val (.ref w_SWITCH), .val (.int (5 : Int32)), .unset, .unset] [])
  refine own_step (fun t k => XS.bipush X32.here hx rfl (hb hby at_70) k) ?_
  show own_Goes _ _ _ _ T32 (mkF m 72 #[.val (.int p1), .val (.ref b1), .val (.int (4 : Int32)), .val (.ref w_SWITCH), .val (.int (5 : Int32)), .unset, .unset] [(.int (106 : Int32))])
  refine own_step (fun t k => XS.istore X32.here hx rfl (hb hby at_72) rfl (l' := #[.val (.int p1), .val (.ref b1), .val (.int (4 : Int32)), .val (.ref w_SWITCH), .val (.int (5 : Int32)), .val (.int (106 : Int32)), .unset]) rfl k) ?_
  show own_Goes _ _ _ _ T32 (mkF m 74 #[.val (.int p1), .val (.ref b1), .val (.int (4 : Int32)), .val (.ref w_SWITCH), .val (.int (5 : Int32)), .val (.int (106 : Int32)), .unset] [])
  refine own_step (fun t k => XS.iload X32.here hx rfl (hb hby at_74) rfl k) ?_
  show own_Goes _ _ _ _ T32 (mkF m 76 #[.val (.int p1), .val (.ref b1), .val (.int (4 : Int32)), .val (.ref w_SWITCH), .val (.int (5 : Int32)), .val (.int (106 : Int32)), .unset] [(.int (106 : Int32))])
  refine own_step (fun t k => XS.iload X32.here hx rfl (hb hby at_76) rfl k) ?_
  show own_Goes _ _ _ _ T32 (mkF m 78 #[.val (.int p1), .val (.ref b1), .val (.int (4 : Int32)), .val (.ref w_SWITCH), .val (.int (5 : Int32)), .val (.int (106 : Int32)), .unset] [(.int (5 : Int32)), (.int (106 : Int32))])
  refine own_step (fun t k => XS.ishr X32.here hx rfl (hb hby at_78) rfl k) ?_
  show own_Goes _ _ _ _ T32 (mkF m 79 #[.val (.int p1), .val (.ref b1), .val (.int (4 : Int32)), .val (.ref w_SWITCH), .val (.int (5 : Int32)), .val (.int (106 : Int32)), .unset] [(.int (3 : Int32))])
  refine own_step (fun t k => XS.iconst X32.here hx rfl (hb hby at_79) k) ?_
  show own_Goes _ _ _ _ T32 (mkF m 80 #[.val (.int p1), .val (.ref b1), .val (.int (4 : Int32)), .val (.ref w_SWITCH), .val (.int (5 : Int32)), .val (.int (106 : Int32)), .unset] [(.int (1 : Int32)), (.int (3 : Int32))])
  refine own_step (fun t k => XS.iand X32.here hx rfl (hb hby at_80) rfl k) ?_
  show own_Goes _ _ _ _ T32 (mkF m 81 #[.val (.int p1), .val (.ref b1), .val (.int (4 : Int32)), .val (.ref w_SWITCH), .val (.int (5 : Int32)), .val (.int (106 : Int32)), .unset] [(.int (1 : Int32))])
  refine own_step (fun t k => XS.ifNo X32.here hx rfl (hb hby at_81) rfl ((if0 _ _).trans (feq (show ¬ ((1 : Int32) = (0 : Int32)) from (by decide))).1) k) ?_
  show own_Goes _ _ _ _ T32 (mkF m 84 #[.val (.int p1), .val (.ref b1), .val (.int (4 : Int32)), .val (.ref w_SWITCH), .val (.int (5 : Int32)), .val (.int (106 : Int32)), .unset] [])
  refine own_step (fun t k => XS.iconst X32.here hx rfl (hb hby at_84) k) ?_
  show own_Goes _ _ _ _ T32 (mkF m 85 #[.val (.int p1), .val (.ref b1), .val (.int (4 : Int32)), .val (.ref w_SWITCH), .val (.int (5 : Int32)), .val (.int (106 : Int32)), .unset] [(.int (1 : Int32))])
  refine own_step (fun t k => XS.goto X32.here hx rfl (pc0 := 85) (pc' := 89) rfl (hb hby at_85) (by decide) (by decide) k) ?_
  show own_Goes _ _ _ _ T32 (mkF m 89 #[.val (.int p1), .val (.ref b1), .val (.int (4 : Int32)), .val (.ref w_SWITCH), .val (.int (5 : Int32)), .val (.int (106 : Int32)), .unset] [(.int (1 : Int32))])
  refine own_step (fun t k => XS.istore X32.here hx rfl (hb hby at_89) rfl (l' := #[.val (.int p1), .val (.ref b1), .val (.int (4 : Int32)), .val (.ref w_SWITCH), .val (.int (5 : Int32)), .val (.int (106 : Int32)), .val (.int (1 : Int32))]) rfl k) ?_
  show own_Goes _ _ _ _ T32 (mkF m 91 #[.val (.int p1), .val (.ref b1), .val (.int (4 : Int32)), .val (.ref w_SWITCH), .val (.int (5 : Int32)), .val (.int (106 : Int32)), .val (.int (1 : Int32))] [])
  refine own_step (fun t k => XS.aloadN X32.here hx rfl (hb hby at_91) rfl rfl k) ?_
  show own_Goes _ _ _ _ T32 (mkF m 92 #[.val (.int p1), .val (.ref b1), .val (.int (4 : Int32)), .val (.ref w_SWITCH), .val (.int (5 : Int32)), .val (.int (106 : Int32)), .val (.int (1 : Int32))] [(.ref w_SWITCH)])
  have S_ISOLATE_v34 := ((((((((S_ISOLATE_v3.wr W4).wr W8).wr W12).wr W16).wr W20).wr W24).wr W28).wr W32)
  have S_COUNT_v35 := ((((((S_COUNT_v11.wr W12).wr W16).wr W20).wr W24).wr W28).wr W32)
  have S_SWITCH_v36 := ((((S_SWITCH_v19.wr W20).wr W24).wr W28).wr W32)
  have E_w_SWITCH_v38 := ((((E_w_SWITCH_v21.wr W20).wr W24).wr W28).wr W32)
  refine own_callV X32 hx hZ (y := (⟨"com/example/ringshift/ringshift/net/KeyChangeStep", "endsPhase", "()Z"⟩ : MethodName)) (z := (⟨"com/example/ringshift/ringshift/net/KeyChangeStep", "endsPhase", "()Z"⟩ : MethodName)) hown (hw _ (List.mem_of_getElem? (i := 20) rfl)) (hw _ (List.mem_of_getElem? (i := 21) rfl)) (notFace_of_selects (args := #[]) (mvT hZ (hw _ (List.mem_of_getElem? (i := 23) rfl)))) (hw _ (List.mem_of_getElem? (i := 23) rfl)) (hw _ (List.mem_of_getElem? (i := 22) rfl)) (hw _ (List.mem_of_getElem? (i := 24) rfl)) (hw _ (List.mem_of_getElem? (i := 3) rfl)) (by decide) 0 E_w_SWITCH_v38 [] [] (own_ends_SWITCH l Z a0 hw [] w_SWITCH w_ISOLATE w_COUNT h32 n0 (Nat.le_trans Z0 K32.1) S_ISOLATE_v34 S_COUNT_v35 S_SWITCH_v36 ne_SWITCH_ISOLATE ne_SWITCH_COUNT) e32 (by decide) (by decide) (by decide) (by decide) (g := (mkF m 92 #[.val (.int p1), .val (.ref b1), .val (.int (4 : Int32)), .val (.ref w_SWITCH), .val (.int (5 : Int32)), .val (.int (106 : Int32)), .val (.int (1 : Int32))] [(.ref w_SWITCH)])) rfl (by rw [hml]; rfl) own_pd0 rfl rfl (by show 2 * 0 + _ ≤ _; exact Nat.le_of_eq rfl) (hb hby at_92) ?_
  intro T37 v37 L37 X37 hQ37
  obtain ⟨rfl, N37q, e37⟩ := hQ37
  have N37 := Fr.app N32 N37q
  show own_Goes _ _ _ _ T37 (mkF m 95 #[.val (.int p1), .val (.ref b1), .val (.int (4 : Int32)), .val (.ref w_SWITCH), .val (.int (5 : Int32)), .val (.int (106 : Int32)), .val (.int (1 : Int32))] [(.int (1 : Int32))])
  refine own_step (fun t k => XS.iload X37.here hx rfl (hb hby at_95) rfl k) ?_
  show own_Goes _ _ _ _ T37 (mkF m 97 #[.val (.int p1), .val (.ref b1), .val (.int (4 : Int32)), .val (.ref w_SWITCH), .val (.int (5 : Int32)), .val (.int (106 : Int32)), .val (.int (1 : Int32))] [(.int (1 : Int32)), (.int (1 : Int32))])
  refine own_step (fun t k => XS.icmpNo X37.here hx rfl (hb hby at_97) rfl (teq (show (1 : Int32) = (1 : Int32) from (by decide))).2 k) ?_
  show own_Goes _ _ _ _ T37 (mkF m 100 #[.val (.int p1), .val (.ref b1), .val (.int (4 : Int32)), .val (.ref w_SWITCH), .val (.int (5 : Int32)), .val (.int (106 : Int32)), .val (.int (1 : Int32))] [])
  refine own_step (fun t k => XS.iconst X37.here hx rfl (hb hby at_100) k) ?_
  show own_Goes _ _ _ _ T37 (mkF m 101 #[.val (.int p1), .val (.ref b1), .val (.int (4 : Int32)), .val (.ref w_SWITCH), .val (.int (5 : Int32)), .val (.int (106 : Int32)), .val (.int (1 : Int32))] [(.int (1 : Int32))])
  refine own_step (fun t k => XS.goto X37.here hx rfl (pc0 := 101) (pc' := 105) rfl (hb hby at_101) (by decide) (by decide) k) ?_
  show own_Goes _ _ _ _ T37 (mkF m 105 #[.val (.int p1), .val (.ref b1), .val (.int (4 : Int32)), .val (.ref w_SWITCH), .val (.int (5 : Int32)), .val (.int (106 : Int32)), .val (.int (1 : Int32))] [(.int (1 : Int32))])
  exact own_retN X37 hx hlk (t := .boolean) hrt (by simp) (hb hby at_105) ⟨rfl, N37⟩ (by decide) (by decide)
set_option maxRecDepth 65536 in
set_option maxHeartbeats 40000000 in
theorem own_law5 (l : Launch) (Z : State) (a0 : Array Value) (hw : ∀ d ∈ tables_1, d.before a0 Z = true) (ws : List Jvm.Cond) (p1 : Int32) (w_ISOLATE : Addr) (w_COPY : Addr) (w_COUNT : Addr) (w_PREPARE : Addr) (w_SWITCH : Addr) (w_CARRY : Addr) (w_ABANDON : Addr) (w_END : Addr) (h0 : Heap) (n0 : Nat) (Z0 : n0 ≤ h0.size) (S_ISOLATE : Sta Z h0 "com/example/ringshift/ringshift/net/KeyChangeStep" "ISOLATE" "Lcom/example/ringshift/ringshift/net/KeyChangeStep;" (.ref w_ISOLATE)) (S_COPY : Sta Z h0 "com/example/ringshift/ringshift/net/KeyChangeStep" "COPY" "Lcom/example/ringshift/ringshift/net/KeyChangeStep;" (.ref w_COPY)) (S_COUNT : Sta Z h0 "com/example/ringshift/ringshift/net/KeyChangeStep" "COUNT" "Lcom/example/ringshift/ringshift/net/KeyChangeStep;" (.ref w_COUNT)) (S_PREPARE : Sta Z h0 "com/example/ringshift/ringshift/net/KeyChangeStep" "PREPARE" "Lcom/example/ringshift/ringshift/net/KeyChangeStep;" (.ref w_PREPARE)) (S_SWITCH : Sta Z h0 "com/example/ringshift/ringshift/net/KeyChangeStep" "SWITCH" "Lcom/example/ringshift/ringshift/net/KeyChangeStep;" (.ref w_SWITCH)) (S_CARRY : Sta Z h0 "com/example/ringshift/ringshift/net/KeyChangeStep" "CARRY" "Lcom/example/ringshift/ringshift/net/KeyChangeStep;" (.ref w_CARRY)) (S_ABANDON : Sta Z h0 "com/example/ringshift/ringshift/net/KeyChangeStep" "ABANDON" "Lcom/example/ringshift/ringshift/net/KeyChangeStep;" (.ref w_ABANDON)) (S_END : Sta Z h0 "com/example/ringshift/ringshift/net/KeyChangeStep" "END" "Lcom/example/ringshift/ringshift/net/KeyChangeStep;" (.ref w_END)) (E_w_ISOLATE : Exa Z h0 w_ISOLATE "com/example/ringshift/ringshift/net/KeyChangeStep") (E_w_COPY : Exa Z h0 w_COPY "com/example/ringshift/ringshift/net/KeyChangeStep") (E_w_COUNT : Exa Z h0 w_COUNT "com/example/ringshift/ringshift/net/KeyChangeStep") (E_w_PREPARE : Exa Z h0 w_PREPARE "com/example/ringshift/ringshift/net/KeyChangeStep") (E_w_SWITCH : Exa Z h0 w_SWITCH "com/example/ringshift/ringshift/net/KeyChangeStep") (E_w_CARRY : Exa Z h0 w_CARRY "com/example/ringshift/ringshift/net/KeyChangeStep") (E_w_ABANDON : Exa Z h0 w_ABANDON "com/example/ringshift/ringshift/net/KeyChangeStep") (E_w_END : Exa Z h0 w_END "com/example/ringshift/ringshift/net/KeyChangeStep") (ne_CARRY_ISOLATE : ¬ (w_CARRY = w_ISOLATE)) (ne_CARRY_COUNT : ¬ (w_CARRY = w_COUNT)) (ne_CARRY_SWITCH : ¬ (w_CARRY = w_SWITCH)) (hi : (p1 &&& (7 : Int32)) = (5 : Int32)) :
    own_Met l Z x code maxLocals ret ws room_1 #[(.int p1)] h0 (fun v h L => v = some (.int 1) ∧ Fr n0 L) := by
  refine own_body (plainFor_of_name own_pn_com_example_ringshift_ringshift_net_KeyChangeStepEndsPhasePinLaw) (fun p e s m below meth c s₁ hx hby hml0 hrt hlk hown0 hnm hZ X0 e0 => ?_)
  have N0 := Fr.nil n0
  have hown : s.vm.findClass "com/example/ringshift/ringshift/net/KeyChangeStepEndsPhasePinLaw" = some m.cls := hown0
  have hml : c.maxLocals = 7 := hml0
  refine own_castG (own_ef1 m p1) ?_
  show own_Goes _ _ _ _ s₁ (mkF m 0 #[.val (.int p1), .unset, .unset, .unset, .unset, .unset, .unset] [])
  refine own_step (fun t k => XS.bipush X0.here hx rfl (hb hby at_0) k) ?_
  show own_Goes _ _ _ _ s₁ (mkF m 2 #[.val (.int p1), .unset, .unset, .unset, .unset, .unset, .unset] [(.int (8 : Int32))])
  obtain ⟨T1, h1, k1, X1, e1, E1, A1, O1, st1⟩ := newR X0 hx hZ hown (hw _ (List.mem_of_getElem? (i := 0) rfl)) (hw _ (List.mem_of_getElem? (i := 1) rfl)) e0 (g := (mkF m 2 #[.val (.int p1), .unset, .unset, .unset, .unset, .unset, .unset] [(.int (8 : Int32))])) rfl (hb hby at_2) rfl (by decide) (cap := 8) (by decide) (by decide) (by decide) (by decide)
  obtain ⟨b1, g1⟩ : ∃ z, z = h0.size := ⟨_, rfl⟩
  rw [← g1] at A1 st1
  refine own_step st1 ?_
  have g_b1 : n0 ≤ b1 := Nat.le_trans Z0 (Nat.le_of_eq g1.symm)
  have sz_b1 : h0.size ≤ b1 := Nat.le_trans (Keep.refl h0 []).1 (Nat.le_of_eq g1.symm)
  have ne_w_ISOLATE_b1 : w_ISOLATE ≠ b1 := Nat.ne_of_lt (Nat.lt_of_lt_of_le E_w_ISOLATE.lt (Nat.le_of_eq g1.symm))
  have ne_w_COPY_b1 : w_COPY ≠ b1 := Nat.ne_of_lt (Nat.lt_of_lt_of_le E_w_COPY.lt (Nat.le_of_eq g1.symm))
  have ne_w_COUNT_b1 : w_COUNT ≠ b1 := Nat.ne_of_lt (Nat.lt_of_lt_of_le E_w_COUNT.lt (Nat.le_of_eq g1.symm))
  have ne_w_PREPARE_b1 : w_PREPARE ≠ b1 := Nat.ne_of_lt (Nat.lt_of_lt_of_le E_w_PREPARE.lt (Nat.le_of_eq g1.symm))
  have ne_w_SWITCH_b1 : w_SWITCH ≠ b1 := Nat.ne_of_lt (Nat.lt_of_lt_of_le E_w_SWITCH.lt (Nat.le_of_eq g1.symm))
  have ne_w_CARRY_b1 : w_CARRY ≠ b1 := Nat.ne_of_lt (Nat.lt_of_lt_of_le E_w_CARRY.lt (Nat.le_of_eq g1.symm))
  have ne_w_ABANDON_b1 : w_ABANDON ≠ b1 := Nat.ne_of_lt (Nat.lt_of_lt_of_le E_w_ABANDON.lt (Nat.le_of_eq g1.symm))
  have ne_w_END_b1 : w_END ≠ b1 := Nat.ne_of_lt (Nat.lt_of_lt_of_le E_w_END.lt (Nat.le_of_eq g1.symm))
  have K1 := (Keep.refl h0 []).ext E1
  have V_b1 : Arv Z h1 b1 k1 (.object "com/example/ringshift/ringshift/net/KeyChangeStep") (8 : Int32) [.null, .null, .null, .null, .null, .null, .null, .null] .null := (Arv.new A1 (by decide)).pad (pad_rep [] .null 8)
  show own_Goes _ _ _ _ T1 (mkF m 5 #[.val (.int p1), .unset, .unset, .unset, .unset, .unset, .unset] [(.ref b1)])
  refine own_step (fun t k => XS.dup X1.here hx rfl (hb hby at_5) rfl rfl k) ?_
  show own_Goes _ _ _ _ T1 (mkF m 6 #[.val (.int p1), .unset, .unset, .unset, .unset, .unset, .unset] [(.ref b1), (.ref b1)])
  refine own_step (fun t k => XS.iconst X1.here hx rfl (hb hby at_6) k) ?_
  show own_Goes _ _ _ _ T1 (mkF m 7 #[.val (.int p1), .unset, .unset, .unset, .unset, .unset, .unset] [(.int (0 : Int32)), (.ref b1), (.ref b1)])
  have S_ISOLATE_v3 := (S_ISOLATE.ext E1)
  obtain ⟨T2, X2, e2, st2⟩ := getS2 X1 hx hZ hown (host := "") (Or.inl (hw _ (List.mem_of_getElem? (i := 2) rfl))) Via.refl e1 S_ISOLATE_v3 (g := (mkF m 7 #[.val (.int p1), .unset, .unset, .unset, .unset, .unset, .unset] [(.int (0 : Int32)), (.ref b1), (.ref b1)])) rfl (hb hby at_7)
  refine own_step st2 ?_
  show own_Goes _ _ _ _ T2 (mkF m 10 #[.val (.int p1), .unset, .unset, .unset, .unset, .unset, .unset] [(.ref w_ISOLATE), (.int (0 : Int32)), (.ref b1), (.ref b1)])
  have E_w_ISOLATE_v5 := (E_w_ISOLATE.ext E1)
  obtain ⟨T4, h4, X4, e4, W4, V4, st4⟩ := own_aastore X2 hx hZ e2 V_b1 O1 (Ins.self E_w_ISOLATE_v5) (j := (0 : Int32)) ⟨by decide, by decide⟩ 0 rfl (Nat.le_of_ble_eq_true rfl) (g := (mkF m 10 #[.val (.int p1), .unset, .unset, .unset, .unset, .unset, .unset] [(.ref w_ISOLATE), (.int (0 : Int32)), (.ref b1), (.ref b1)])) rfl rfl (hb hby at_10)
  refine own_step st4 ?_
  have K4 := K1.wr W4 (Or.inr sz_b1)
  have N4 := Fr.snoc X4 N0 g_b1
  have V4' : Arv Z h4 b1 k1 (.object "com/example/ringshift/ringshift/net/KeyChangeStep") (8 : Int32) [(.ref w_ISOLATE), .null, .null, .null, .null, .null, .null, .null] .null := V4
  show own_Goes _ _ _ _ T4 (mkF m 11 #[.val (.int p1), .unset, .unset, .unset, .unset, .unset, .unset] [(.ref b1)])
  refine own_step (fun t k => XS.dup X4.here hx rfl (hb hby at_11) rfl rfl k) ?_
  show own_Goes _ _ _ _ T4 (mkF m 12 #[.val (.int p1), .unset, .unset, .unset, .unset, .unset, .unset] [(.ref b1), (.ref b1)])
  refine own_step (fun t k => XS.iconst X4.here hx rfl (hb hby at_12) k) ?_
  show own_Goes _ _ _ _ T4 (mkF m 13 #[.val (.int p1), .unset, .unset, .unset, .unset, .unset, .unset] [(.int (1 : Int32)), (.ref b1), (.ref b1)])
  have S_COPY_v7 := ((S_COPY.ext E1).wr W4)
  obtain ⟨T6, X6, e6, st6⟩ := getS2 X4 hx hZ hown (host := "") (Or.inl (hw _ (List.mem_of_getElem? (i := 6) rfl))) Via.refl e4 S_COPY_v7 (g := (mkF m 13 #[.val (.int p1), .unset, .unset, .unset, .unset, .unset, .unset] [(.int (1 : Int32)), (.ref b1), (.ref b1)])) rfl (hb hby at_13)
  refine own_step st6 ?_
  show own_Goes _ _ _ _ T6 (mkF m 16 #[.val (.int p1), .unset, .unset, .unset, .unset, .unset, .unset] [(.ref w_COPY), (.int (1 : Int32)), (.ref b1), (.ref b1)])
  have E_w_COPY_v9 := ((E_w_COPY.ext E1).wr W4)
  obtain ⟨T8, h8, X8, e8, W8, V8, st8⟩ := own_aastore X6 hx hZ e6 V4' O1 (Ins.self E_w_COPY_v9) (j := (1 : Int32)) ⟨by decide, by decide⟩ 1 rfl (Nat.le_of_ble_eq_true rfl) (g := (mkF m 16 #[.val (.int p1), .unset, .unset, .unset, .unset, .unset, .unset] [(.ref w_COPY), (.int (1 : Int32)), (.ref b1), (.ref b1)])) rfl rfl (hb hby at_16)
  refine own_step st8 ?_
  have K8 := K4.wr W8 (Or.inr sz_b1)
  have N8 := Fr.snoc X8 N4 g_b1
  have V8' : Arv Z h8 b1 k1 (.object "com/example/ringshift/ringshift/net/KeyChangeStep") (8 : Int32) [(.ref w_ISOLATE), (.ref w_COPY), .null, .null, .null, .null, .null, .null] .null := V8
  show own_Goes _ _ _ _ T8 (mkF m 17 #[.val (.int p1), .unset, .unset, .unset, .unset, .unset, .unset] [(.ref b1)])
  refine own_step (fun t k => XS.dup X8.here hx rfl (hb hby at_17) rfl rfl k) ?_
  show own_Goes _ _ _ _ T8 (mkF m 18 #[.val (.int p1), .unset, .unset, .unset, .unset, .unset, .unset] [(.ref b1), (.ref b1)])
  refine own_step (fun t k => XS.iconst X8.here hx rfl (hb hby at_18) k) ?_
  show own_Goes _ _ _ _ T8 (mkF m 19 #[.val (.int p1), .unset, .unset, .unset, .unset, .unset, .unset] [(.int (2 : Int32)), (.ref b1), (.ref b1)])
  have S_COUNT_v11 := (((S_COUNT.ext E1).wr W4).wr W8)
  obtain ⟨T10, X10, e10, st10⟩ := getS2 X8 hx hZ hown (host := "") (Or.inl (hw _ (List.mem_of_getElem? (i := 8) rfl))) Via.refl e8 S_COUNT_v11 (g := (mkF m 19 #[.val (.int p1), .unset, .unset, .unset, .unset, .unset, .unset] [(.int (2 : Int32)), (.ref b1), (.ref b1)])) rfl (hb hby at_19)
  refine own_step st10 ?_
  show own_Goes _ _ _ _ T10 (mkF m 22 #[.val (.int p1), .unset, .unset, .unset, .unset, .unset, .unset] [(.ref w_COUNT), (.int (2 : Int32)), (.ref b1), (.ref b1)])
  have E_w_COUNT_v13 := (((E_w_COUNT.ext E1).wr W4).wr W8)
  obtain ⟨T12, h12, X12, e12, W12, V12, st12⟩ := own_aastore X10 hx hZ e10 V8' O1 (Ins.self E_w_COUNT_v13) (j := (2 : Int32)) ⟨by decide, by decide⟩ 2 rfl (Nat.le_of_ble_eq_true rfl) (g := (mkF m 22 #[.val (.int p1), .unset, .unset, .unset, .unset, .unset, .unset] [(.ref w_COUNT), (.int (2 : Int32)), (.ref b1), (.ref b1)])) rfl rfl (hb hby at_22)
  refine own_step st12 ?_
  have K12 := K8.wr W12 (Or.inr sz_b1)
  have N12 := Fr.snoc X12 N8 g_b1
  have V12' : Arv Z h12 b1 k1 (.object "com/example/ringshift/ringshift/net/KeyChangeStep") (8 : Int32) [(.ref w_ISOLATE), (.ref w_COPY), (.ref w_COUNT), .null, .null, .null, .null, .null] .null := V12
  show own_Goes _ _ _ _ T12 (mkF m 23 #[.val (.int p1), .unset, .unset, .unset, .unset, .unset, .unset] [(.ref b1)])
  refine own_step (fun t k => XS.dup X12.here hx rfl (hb hby at_23) rfl rfl k) ?_
  show own_Goes _ _ _ _ T12 (mkF m 24 #[.val (.int p1), .unset, .unset, .unset, .unset, .unset, .unset] [(.ref b1), (.ref b1)])
  refine own_step (fun t k => XS.iconst X12.here hx rfl (hb hby at_24) k) ?_
  show own_Goes _ _ _ _ T12 (mkF m 25 #[.val (.int p1), .unset, .unset, .unset, .unset, .unset, .unset] [(.int (3 : Int32)), (.ref b1), (.ref b1)])
  have S_PREPARE_v15 := ((((S_PREPARE.ext E1).wr W4).wr W8).wr W12)
  obtain ⟨T14, X14, e14, st14⟩ := getS2 X12 hx hZ hown (host := "") (Or.inl (hw _ (List.mem_of_getElem? (i := 10) rfl))) Via.refl e12 S_PREPARE_v15 (g := (mkF m 25 #[.val (.int p1), .unset, .unset, .unset, .unset, .unset, .unset] [(.int (3 : Int32)), (.ref b1), (.ref b1)])) rfl (hb hby at_25)
  refine own_step st14 ?_
  show own_Goes _ _ _ _ T14 (mkF m 28 #[.val (.int p1), .unset, .unset, .unset, .unset, .unset, .unset] [(.ref w_PREPARE), (.int (3 : Int32)), (.ref b1), (.ref b1)])
  have E_w_PREPARE_v17 := ((((E_w_PREPARE.ext E1).wr W4).wr W8).wr W12)
  obtain ⟨T16, h16, X16, e16, W16, V16, st16⟩ := own_aastore X14 hx hZ e14 V12' O1 (Ins.self E_w_PREPARE_v17) (j := (3 : Int32)) ⟨by decide, by decide⟩ 3 rfl (Nat.le_of_ble_eq_true rfl) (g := (mkF m 28 #[.val (.int p1), .unset, .unset, .unset, .unset, .unset, .unset] [(.ref w_PREPARE), (.int (3 : Int32)), (.ref b1), (.ref b1)])) rfl rfl (hb hby at_28)
  refine own_step st16 ?_
  have K16 := K12.wr W16 (Or.inr sz_b1)
  have N16 := Fr.snoc X16 N12 g_b1
  have V16' : Arv Z h16 b1 k1 (.object "com/example/ringshift/ringshift/net/KeyChangeStep") (8 : Int32) [(.ref w_ISOLATE), (.ref w_COPY), (.ref w_COUNT), (.ref w_PREPARE), .null, .null, .null, .null] .null := V16
  show own_Goes _ _ _ _ T16 (mkF m 29 #[.val (.int p1), .unset, .unset, .unset, .unset, .unset, .unset] [(.ref b1)])
  refine own_step (fun t k => XS.dup X16.here hx rfl (hb hby at_29) rfl rfl k) ?_
  show own_Goes _ _ _ _ T16 (mkF m 30 #[.val (.int p1), .unset, .unset, .unset, .unset, .unset, .unset] [(.ref b1), (.ref b1)])
  refine own_step (fun t k => XS.iconst X16.here hx rfl (hb hby at_30) k) ?_
  show own_Goes _ _ _ _ T16 (mkF m 31 #[.val (.int p1), .unset, .unset, .unset, .unset, .unset, .unset] [(.int (4 : Int32)), (.ref b1), (.ref b1)])
  have S_SWITCH_v19 := (((((S_SWITCH.ext E1).wr W4).wr W8).wr W12).wr W16)
  obtain ⟨T18, X18, e18, st18⟩ := getS2 X16 hx hZ hown (host := "") (Or.inl (hw _ (List.mem_of_getElem? (i := 12) rfl))) Via.refl e16 S_SWITCH_v19 (g := (mkF m 31 #[.val (.int p1), .unset, .unset, .unset, .unset, .unset, .unset] [(.int (4 : Int32)), (.ref b1), (.ref b1)])) rfl (hb hby at_31)
  refine own_step st18 ?_
  show own_Goes _ _ _ _ T18 (mkF m 34 #[.val (.int p1), .unset, .unset, .unset, .unset, .unset, .unset] [(.ref w_SWITCH), (.int (4 : Int32)), (.ref b1), (.ref b1)])
  have E_w_SWITCH_v21 := (((((E_w_SWITCH.ext E1).wr W4).wr W8).wr W12).wr W16)
  obtain ⟨T20, h20, X20, e20, W20, V20, st20⟩ := own_aastore X18 hx hZ e18 V16' O1 (Ins.self E_w_SWITCH_v21) (j := (4 : Int32)) ⟨by decide, by decide⟩ 4 rfl (Nat.le_of_ble_eq_true rfl) (g := (mkF m 34 #[.val (.int p1), .unset, .unset, .unset, .unset, .unset, .unset] [(.ref w_SWITCH), (.int (4 : Int32)), (.ref b1), (.ref b1)])) rfl rfl (hb hby at_34)
  refine own_step st20 ?_
  have K20 := K16.wr W20 (Or.inr sz_b1)
  have N20 := Fr.snoc X20 N16 g_b1
  have V20' : Arv Z h20 b1 k1 (.object "com/example/ringshift/ringshift/net/KeyChangeStep") (8 : Int32) [(.ref w_ISOLATE), (.ref w_COPY), (.ref w_COUNT), (.ref w_PREPARE), (.ref w_SWITCH), .null, .null, .null] .null := V20
  show own_Goes _ _ _ _ T20 (mkF m 35 #[.val (.int p1), .unset, .unset, .unset, .unset, .unset, .unset] [(.ref b1)])
  refine own_step (fun t k => XS.dup X20.here hx rfl (hb hby at_35) rfl rfl k) ?_
  show own_Goes _ _ _ _ T20 (mkF m 36 #[.val (.int p1), .unset, .unset, .unset, .unset, .unset, .unset] [(.ref b1), (.ref b1)])
  refine own_step (fun t k => XS.iconst X20.here hx rfl (hb hby at_36) k) ?_
  show own_Goes _ _ _ _ T20 (mkF m 37 #[.val (.int p1), .unset, .unset, .unset, .unset, .unset, .unset] [(.int (5 : Int32)), (.ref b1), (.ref b1)])
  have S_CARRY_v23 := ((((((S_CARRY.ext E1).wr W4).wr W8).wr W12).wr W16).wr W20)
  obtain ⟨T22, X22, e22, st22⟩ := getS2 X20 hx hZ hown (host := "") (Or.inl (hw _ (List.mem_of_getElem? (i := 14) rfl))) Via.refl e20 S_CARRY_v23 (g := (mkF m 37 #[.val (.int p1), .unset, .unset, .unset, .unset, .unset, .unset] [(.int (5 : Int32)), (.ref b1), (.ref b1)])) rfl (hb hby at_37)
  refine own_step st22 ?_
  show own_Goes _ _ _ _ T22 (mkF m 40 #[.val (.int p1), .unset, .unset, .unset, .unset, .unset, .unset] [(.ref w_CARRY), (.int (5 : Int32)), (.ref b1), (.ref b1)])
  have E_w_CARRY_v25 := ((((((E_w_CARRY.ext E1).wr W4).wr W8).wr W12).wr W16).wr W20)
  obtain ⟨T24, h24, X24, e24, W24, V24, st24⟩ := own_aastore X22 hx hZ e22 V20' O1 (Ins.self E_w_CARRY_v25) (j := (5 : Int32)) ⟨by decide, by decide⟩ 5 rfl (Nat.le_of_ble_eq_true rfl) (g := (mkF m 40 #[.val (.int p1), .unset, .unset, .unset, .unset, .unset, .unset] [(.ref w_CARRY), (.int (5 : Int32)), (.ref b1), (.ref b1)])) rfl rfl (hb hby at_40)
  refine own_step st24 ?_
  have K24 := K20.wr W24 (Or.inr sz_b1)
  have N24 := Fr.snoc X24 N20 g_b1
  have V24' : Arv Z h24 b1 k1 (.object "com/example/ringshift/ringshift/net/KeyChangeStep") (8 : Int32) [(.ref w_ISOLATE), (.ref w_COPY), (.ref w_COUNT), (.ref w_PREPARE), (.ref w_SWITCH), (.ref w_CARRY), .null, .null] .null := V24
  show own_Goes _ _ _ _ T24 (mkF m 41 #[.val (.int p1), .unset, .unset, .unset, .unset, .unset, .unset] [(.ref b1)])
  refine own_step (fun t k => XS.dup X24.here hx rfl (hb hby at_41) rfl rfl k) ?_
  show own_Goes _ _ _ _ T24 (mkF m 42 #[.val (.int p1), .unset, .unset, .unset, .unset, .unset, .unset] [(.ref b1), (.ref b1)])
  refine own_step (fun t k => XS.bipush X24.here hx rfl (hb hby at_42) k) ?_
  show own_Goes _ _ _ _ T24 (mkF m 44 #[.val (.int p1), .unset, .unset, .unset, .unset, .unset, .unset] [(.int (6 : Int32)), (.ref b1), (.ref b1)])
  have S_ABANDON_v27 := (((((((S_ABANDON.ext E1).wr W4).wr W8).wr W12).wr W16).wr W20).wr W24)
  obtain ⟨T26, X26, e26, st26⟩ := getS2 X24 hx hZ hown (host := "") (Or.inl (hw _ (List.mem_of_getElem? (i := 16) rfl))) Via.refl e24 S_ABANDON_v27 (g := (mkF m 44 #[.val (.int p1), .unset, .unset, .unset, .unset, .unset, .unset] [(.int (6 : Int32)), (.ref b1), (.ref b1)])) rfl (hb hby at_44)
  refine own_step st26 ?_
  show own_Goes _ _ _ _ T26 (mkF m 47 #[.val (.int p1), .unset, .unset, .unset, .unset, .unset, .unset] [(.ref w_ABANDON), (.int (6 : Int32)), (.ref b1), (.ref b1)])
  have E_w_ABANDON_v29 := (((((((E_w_ABANDON.ext E1).wr W4).wr W8).wr W12).wr W16).wr W20).wr W24)
  obtain ⟨T28, h28, X28, e28, W28, V28, st28⟩ := own_aastore X26 hx hZ e26 V24' O1 (Ins.self E_w_ABANDON_v29) (j := (6 : Int32)) ⟨by decide, by decide⟩ 6 rfl (Nat.le_of_ble_eq_true rfl) (g := (mkF m 47 #[.val (.int p1), .unset, .unset, .unset, .unset, .unset, .unset] [(.ref w_ABANDON), (.int (6 : Int32)), (.ref b1), (.ref b1)])) rfl rfl (hb hby at_47)
  refine own_step st28 ?_
  have K28 := K24.wr W28 (Or.inr sz_b1)
  have N28 := Fr.snoc X28 N24 g_b1
  have V28' : Arv Z h28 b1 k1 (.object "com/example/ringshift/ringshift/net/KeyChangeStep") (8 : Int32) [(.ref w_ISOLATE), (.ref w_COPY), (.ref w_COUNT), (.ref w_PREPARE), (.ref w_SWITCH), (.ref w_CARRY), (.ref w_ABANDON), .null] .null := V28
  show own_Goes _ _ _ _ T28 (mkF m 48 #[.val (.int p1), .unset, .unset, .unset, .unset, .unset, .unset] [(.ref b1)])
  refine own_step (fun t k => XS.dup X28.here hx rfl (hb hby at_48) rfl rfl k) ?_
  show own_Goes _ _ _ _ T28 (mkF m 49 #[.val (.int p1), .unset, .unset, .unset, .unset, .unset, .unset] [(.ref b1), (.ref b1)])
  refine own_step (fun t k => XS.bipush X28.here hx rfl (hb hby at_49) k) ?_
  show own_Goes _ _ _ _ T28 (mkF m 51 #[.val (.int p1), .unset, .unset, .unset, .unset, .unset, .unset] [(.int (7 : Int32)), (.ref b1), (.ref b1)])
  have S_END_v31 := ((((((((S_END.ext E1).wr W4).wr W8).wr W12).wr W16).wr W20).wr W24).wr W28)
  obtain ⟨T30, X30, e30, st30⟩ := getS2 X28 hx hZ hown (host := "") (Or.inl (hw _ (List.mem_of_getElem? (i := 18) rfl))) Via.refl e28 S_END_v31 (g := (mkF m 51 #[.val (.int p1), .unset, .unset, .unset, .unset, .unset, .unset] [(.int (7 : Int32)), (.ref b1), (.ref b1)])) rfl (hb hby at_51)
  refine own_step st30 ?_
  show own_Goes _ _ _ _ T30 (mkF m 54 #[.val (.int p1), .unset, .unset, .unset, .unset, .unset, .unset] [(.ref w_END), (.int (7 : Int32)), (.ref b1), (.ref b1)])
  have E_w_END_v33 := ((((((((E_w_END.ext E1).wr W4).wr W8).wr W12).wr W16).wr W20).wr W24).wr W28)
  obtain ⟨T32, h32, X32, e32, W32, V32, st32⟩ := own_aastore X30 hx hZ e30 V28' O1 (Ins.self E_w_END_v33) (j := (7 : Int32)) ⟨by decide, by decide⟩ 7 rfl (Nat.le_of_ble_eq_true rfl) (g := (mkF m 54 #[.val (.int p1), .unset, .unset, .unset, .unset, .unset, .unset] [(.ref w_END), (.int (7 : Int32)), (.ref b1), (.ref b1)])) rfl rfl (hb hby at_54)
  refine own_step st32 ?_
  have K32 := K28.wr W32 (Or.inr sz_b1)
  have N32 := Fr.snoc X32 N28 g_b1
  have V32' : Arv Z h32 b1 k1 (.object "com/example/ringshift/ringshift/net/KeyChangeStep") (8 : Int32) [(.ref w_ISOLATE), (.ref w_COPY), (.ref w_COUNT), (.ref w_PREPARE), (.ref w_SWITCH), (.ref w_CARRY), (.ref w_ABANDON), (.ref w_END)] .null := V32
  show own_Goes _ _ _ _ T32 (mkF m 55 #[.val (.int p1), .unset, .unset, .unset, .unset, .unset, .unset] [(.ref b1)])
  refine own_step (fun t k => XS.astoreN X32.here hx rfl (hb hby at_55) rfl rfl (l' := #[.val (.int p1), .val (.ref b1), .unset, .unset, .unset, .unset, .unset]) rfl k) ?_
  show own_Goes _ _ _ _ T32 (mkF m 56 #[.val (.int p1), .val (.ref b1), .unset, .unset, .unset, .unset, .unset] [])
  refine own_step (fun t k => XS.iloadN X32.here hx rfl (hb hby at_56) rfl k) ?_
  show own_Goes _ _ _ _ T32 (mkF m 57 #[.val (.int p1), .val (.ref b1), .unset, .unset, .unset, .unset, .unset] [(.int p1)])
  refine own_step (fun t k => XS.bipush X32.here hx rfl (hb hby at_57) k) ?_
  show own_Goes _ _ _ _ T32 (mkF m 59 #[.val (.int p1), .val (.ref b1), .unset, .unset, .unset, .unset, .unset] [(.int (7 : Int32)), (.int p1)])
  refine own_step (fun t k => XS.iand X32.here hx rfl (hb hby at_59) rfl k) ?_
  show own_Goes _ _ _ _ T32 (mkF m 60 #[.val (.int p1), .val (.ref b1), .unset, .unset, .unset, .unset, .unset] [(.int (p1 &&& (7 : Int32)))])
  rw [hi]
  show own_Goes _ _ _ _ T32 (mkF m 60 #[.val (.int p1), .val (.ref b1), .unset, .unset, .unset, .unset, .unset] [(.int (5 : Int32))])
  refine own_step (fun t k => XS.istoreN X32.here hx rfl (hb hby at_60) rfl (l' := #[.val (.int p1), .val (.ref b1), .val (.int (5 : Int32)), .unset, .unset, .unset, .unset]) rfl k) ?_
  show own_Goes _ _ _ _ T32 (mkF m 61 #[.val (.int p1), .val (.ref b1), .val (.int (5 : Int32)), .unset, .unset, .unset, .unset] [])
  refine own_step (fun t k => XS.aloadN X32.here hx rfl (hb hby at_61) rfl rfl k) ?_
  show own_Goes _ _ _ _ T32 (mkF m 62 #[.val (.int p1), .val (.ref b1), .val (.int (5 : Int32)), .unset, .unset, .unset, .unset] [(.ref b1)])
  refine own_step (fun t k => XS.iloadN X32.here hx rfl (hb hby at_62) rfl k) ?_
  show own_Goes _ _ _ _ T32 (mkF m 63 #[.val (.int p1), .val (.ref b1), .val (.int (5 : Int32)), .unset, .unset, .unset, .unset] [(.int (5 : Int32)), (.ref b1)])
  refine own_step (own_aaload X32 hx hZ e32 V32' rfl (.ref w_CARRY) ⟨by decide, by decide⟩ rfl (g := (mkF m 63 #[.val (.int p1), .val (.ref b1), .val (.int (5 : Int32)), .unset, .unset, .unset, .unset] [(.int (5 : Int32)), (.ref b1)])) rfl rfl (hb hby at_63)) ?_
  show own_Goes _ _ _ _ T32 (mkF m 64 #[.val (.int p1), .val (.ref b1), .val (.int (5 : Int32)), .unset, .unset, .unset, .unset] [(.ref w_CARRY)])
  refine own_step (fun t k => XS.astoreN X32.here hx rfl (hb hby at_64) rfl rfl (l' := #[.val (.int p1), .val (.ref b1), .val (.int (5 : Int32)), .val (.ref w_CARRY), .unset, .unset, .unset]) rfl k) ?_
  show own_Goes _ _ _ _ T32 (mkF m 65 #[.val (.int p1), .val (.ref b1), .val (.int (5 : Int32)), .val (.ref w_CARRY), .unset, .unset, .unset] [])
  refine own_step (fun t k => XS.iloadN X32.here hx rfl (hb hby at_65) rfl k) ?_
  show own_Goes _ _ _ _ T32 (mkF m 66 #[.val (.int p1), .val (.ref b1), .val (.int (5 : Int32)), .val (.ref w_CARRY), .unset, .unset, .unset] [(.int (5 : Int32))])
  refine own_step (fun t k => XS.iconst X32.here hx rfl (hb hby at_66) k) ?_
  show own_Goes _ _ _ _ T32 (mkF m 67 #[.val (.int p1), .val (.ref b1), .val (.int (5 : Int32)), .val (.ref w_CARRY), .unset, .unset, .unset] [(.int (1 : Int32)), (.int (5 : Int32))])
  refine own_step (fun t k => XS.iadd X32.here hx rfl (hb hby at_67) rfl k) ?_
  show own_Goes _ _ _ _ T32 (mkF m 68 #[.val (.int p1), .val (.ref b1), .val (.int (5 : Int32)), .val (.ref w_CARRY), .unset, .unset, .unset] [(.int (6 : Int32))])
  refine own_step (fun t k => XS.istore X32.here hx rfl (hb hby at_68) rfl (l' := #[.val (.int p1), .val (.ref b1), .val (.int (5 : Int32)), .val (.ref w_CARRY), .val (.int (6 : Int32)), .unset, .unset]) rfl k) ?_
  show own_Goes _ _ _ _ T32 (mkF m 70 #[.val (.int p1), .val (.ref b1), .val (.int (5 : Int32)), .val (.ref w_CARRY), .val (.int (6 : Int32)), .unset, .unset] [])
  refine own_step (fun t k => XS.bipush X32.here hx rfl (hb hby at_70) k) ?_
  show own_Goes _ _ _ _ T32 (mkF m 72 #[.val (.int p1), .val (.ref b1), .val (.int (5 : Int32)), .val (.ref w_CARRY), .val (.int (6 : Int32)), .unset, .unset] [(.int (106 : Int32))])
  refine own_step (fun t k => XS.istore X32.here hx rfl (hb hby at_72) rfl (l' := #[.val (.int p1), .val (.ref b1), .val (.int (5 : Int32)), .val (.ref w_CARRY), .val (.int (6 : Int32)), .val (.int (106 : Int32)), .unset]) rfl k) ?_
  show own_Goes _ _ _ _ T32 (mkF m 74 #[.val (.int p1), .val (.ref b1), .val (.int (5 : Int32)), .val (.ref w_CARRY), .val (.int (6 : Int32)), .val (.int (106 : Int32)), .unset] [])
  refine own_step (fun t k => XS.iload X32.here hx rfl (hb hby at_74) rfl k) ?_
  show own_Goes _ _ _ _ T32 (mkF m 76 #[.val (.int p1), .val (.ref b1), .val (.int (5 : Int32)), .val (.ref w_CARRY), .val (.int (6 : Int32)), .val (.int (106 : Int32)), .unset] [(.int (106 : Int32))])
  refine own_step (fun t k => XS.iload X32.here hx rfl (hb hby at_76) rfl k) ?_
  show own_Goes _ _ _ _ T32 (mkF m 78 #[.val (.int p1), .val (.ref b1), .val (.int (5 : Int32)), .val (.ref w_CARRY), .val (.int (6 : Int32)), .val (.int (106 : Int32)), .unset] [(.int (6 : Int32)), (.int (106 : Int32))])
  refine own_step (fun t k => XS.ishr X32.here hx rfl (hb hby at_78) rfl k) ?_
  show own_Goes _ _ _ _ T32 (mkF m 79 #[.val (.int p1), .val (.ref b1), .val (.int (5 : Int32)), .val (.ref w_CARRY), .val (.int (6 : Int32)), .val (.int (106 : Int32)), .unset] [(.int (1 : Int32))])
  refine own_step (fun t k => XS.iconst X32.here hx rfl (hb hby at_79) k) ?_
  show own_Goes _ _ _ _ T32 (mkF m 80 #[.val (.int p1), .val (.ref b1), .val (.int (5 : Int32)), .val (.ref w_CARRY), .val (.int (6 : Int32)), .val (.int (106 : Int32)), .unset] [(.int (1 : Int32)), (.int (1 : Int32))])
  refine own_step (fun t k => XS.iand X32.here hx rfl (hb hby at_80) rfl k) ?_
  show own_Goes _ _ _ _ T32 (mkF m 81 #[.val (.int p1), .val (.ref b1), .val (.int (5 : Int32)), .val (.ref w_CARRY), .val (.int (6 : Int32)), .val (.int (106 : Int32)), .unset] [(.int (1 : Int32))])
  refine own_step (fun t k => XS.ifNo X32.here hx rfl (hb hby at_81) rfl ((if0 _ _).trans (feq (show ¬ ((1 : Int32) = (0 : Int32)) from (by decide))).1) k) ?_
  show own_Goes _ _ _ _ T32 (mkF m 84 #[.val (.int p1), .val (.ref b1), .val (.int (5 : Int32)), .val (.ref w_CARRY), .val (.int (6 : Int32)), .val (.int (106 : Int32)), .unset] [])
  refine own_step (fun t k => XS.iconst X32.here hx rfl (hb hby at_84) k) ?_
  show own_Goes _ _ _ _ T32 (mkF m 85 #[.val (.int p1), .val (.ref b1), .val (.int (5 : Int32)), .val (.ref w_CARRY), .val (.int (6 : Int32)), .val (.int (106 : Int32)), .unset] [(.int (1 : Int32))])
  refine own_step (fun t k => XS.goto X32.here hx rfl (pc0 := 85) (pc' := 89) rfl (hb hby at_85) (by decide) (by decide) k) ?_
  show own_Goes _ _ _ _ T32 (mkF m 89 #[.val (.int p1), .val (.ref b1), .val (.int (5 : Int32)), .val (.ref w_CARRY), .val (.int (6 : Int32)), .val (.int (106 : Int32)), .unset] [(.int (1 : Int32))])
  refine own_step (fun t k => XS.istore X32.here hx rfl (hb hby at_89) rfl (l' := #[.val (.int p1), .val (.ref b1), .val (.int (5 : Int32)), .val (.ref w_CARRY), .val (.int (6 : Int32)), .val (.int (106 : Int32)), .val (.int (1 : Int32))]) rfl k) ?_
  show own_Goes _ _ _ _ T32 (mkF m 91 #[.val (.int p1), .val (.ref b1), .val (.int (5 : Int32)), .val (.ref w_CARRY), .val (.int (6 : Int32)), .val (.int (106 : Int32)), .val (.int (1 : Int32))] [])
  refine own_step (fun t k => XS.aloadN X32.here hx rfl (hb hby at_91) rfl rfl k) ?_
  show own_Goes _ _ _ _ T32 (mkF m 92 #[.val (.int p1), .val (.ref b1), .val (.int (5 : Int32)), .val (.ref w_CARRY), .val (.int (6 : Int32)), .val (.int (106 : Int32)), .val (.int (1 : Int32))] [(.ref w_CARRY)])
  have S_ISOLATE_v34 := ((((((((S_ISOLATE_v3.wr W4).wr W8).wr W12).wr W16).wr W20).wr W24).wr W28).wr W32)
  have S_COUNT_v35 := ((((((S_COUNT_v11.wr W12).wr W16).wr W20).wr W24).wr W28).wr W32)
  have S_SWITCH_v36 := ((((S_SWITCH_v19.wr W20).wr W24).wr W28).wr W32)
  have S_CARRY_v37 := (((S_CARRY_v23.wr W24).wr W28).wr W32)
  have E_w_CARRY_v39 := (((E_w_CARRY_v25.wr W24).wr W28).wr W32)
  refine own_callV X32 hx hZ (y := (⟨"com/example/ringshift/ringshift/net/KeyChangeStep", "endsPhase", "()Z"⟩ : MethodName)) (z := (⟨"com/example/ringshift/ringshift/net/KeyChangeStep", "endsPhase", "()Z"⟩ : MethodName)) hown (hw _ (List.mem_of_getElem? (i := 20) rfl)) (hw _ (List.mem_of_getElem? (i := 21) rfl)) (notFace_of_selects (args := #[]) (mvT hZ (hw _ (List.mem_of_getElem? (i := 23) rfl)))) (hw _ (List.mem_of_getElem? (i := 23) rfl)) (hw _ (List.mem_of_getElem? (i := 22) rfl)) (hw _ (List.mem_of_getElem? (i := 24) rfl)) (hw _ (List.mem_of_getElem? (i := 3) rfl)) (by decide) 0 E_w_CARRY_v39 [] [] (own_ends_CARRY l Z a0 hw [] w_CARRY w_ISOLATE w_COUNT w_SWITCH h32 n0 (Nat.le_trans Z0 K32.1) S_ISOLATE_v34 S_COUNT_v35 S_SWITCH_v36 S_CARRY_v37 ne_CARRY_ISOLATE ne_CARRY_COUNT ne_CARRY_SWITCH) e32 (by decide) (by decide) (by decide) (by decide) (g := (mkF m 92 #[.val (.int p1), .val (.ref b1), .val (.int (5 : Int32)), .val (.ref w_CARRY), .val (.int (6 : Int32)), .val (.int (106 : Int32)), .val (.int (1 : Int32))] [(.ref w_CARRY)])) rfl (by rw [hml]; rfl) own_pd0 rfl rfl (by show 2 * 0 + _ ≤ _; exact Nat.le_of_eq rfl) (hb hby at_92) ?_
  intro T38 v38 L38 X38 hQ38
  obtain ⟨rfl, N38q, e38⟩ := hQ38
  have N38 := Fr.app N32 N38q
  show own_Goes _ _ _ _ T38 (mkF m 95 #[.val (.int p1), .val (.ref b1), .val (.int (5 : Int32)), .val (.ref w_CARRY), .val (.int (6 : Int32)), .val (.int (106 : Int32)), .val (.int (1 : Int32))] [(.int (1 : Int32))])
  refine own_step (fun t k => XS.iload X38.here hx rfl (hb hby at_95) rfl k) ?_
  show own_Goes _ _ _ _ T38 (mkF m 97 #[.val (.int p1), .val (.ref b1), .val (.int (5 : Int32)), .val (.ref w_CARRY), .val (.int (6 : Int32)), .val (.int (106 : Int32)), .val (.int (1 : Int32))] [(.int (1 : Int32)), (.int (1 : Int32))])
  refine own_step (fun t k => XS.icmpNo X38.here hx rfl (hb hby at_97) rfl (teq (show (1 : Int32) = (1 : Int32) from (by decide))).2 k) ?_
  show own_Goes _ _ _ _ T38 (mkF m 100 #[.val (.int p1), .val (.ref b1), .val (.int (5 : Int32)), .val (.ref w_CARRY), .val (.int (6 : Int32)), .val (.int (106 : Int32)), .val (.int (1 : Int32))] [])
  refine own_step (fun t k => XS.iconst X38.here hx rfl (hb hby at_100) k) ?_
  show own_Goes _ _ _ _ T38 (mkF m 101 #[.val (.int p1), .val (.ref b1), .val (.int (5 : Int32)), .val (.ref w_CARRY), .val (.int (6 : Int32)), .val (.int (106 : Int32)), .val (.int (1 : Int32))] [(.int (1 : Int32))])
  refine own_step (fun t k => XS.goto X38.here hx rfl (pc0 := 101) (pc' := 105) rfl (hb hby at_101) (by decide) (by decide) k) ?_
  show own_Goes _ _ _ _ T38 (mkF m 105 #[.val (.int p1), .val (.ref b1), .val (.int (5 : Int32)), .val (.ref w_CARRY), .val (.int (6 : Int32)), .val (.int (106 : Int32)), .val (.int (1 : Int32))] [(.int (1 : Int32))])
  exact own_retN X38 hx hlk (t := .boolean) hrt (by simp) (hb hby at_105) ⟨rfl, N38⟩ (by decide) (by decide)
set_option maxRecDepth 65536 in
set_option maxHeartbeats 40000000 in
theorem own_law6 (l : Launch) (Z : State) (a0 : Array Value) (hw : ∀ d ∈ tables_1, d.before a0 Z = true) (ws : List Jvm.Cond) (p1 : Int32) (w_ISOLATE : Addr) (w_COPY : Addr) (w_COUNT : Addr) (w_PREPARE : Addr) (w_SWITCH : Addr) (w_CARRY : Addr) (w_ABANDON : Addr) (w_END : Addr) (h0 : Heap) (n0 : Nat) (Z0 : n0 ≤ h0.size) (S_ISOLATE : Sta Z h0 "com/example/ringshift/ringshift/net/KeyChangeStep" "ISOLATE" "Lcom/example/ringshift/ringshift/net/KeyChangeStep;" (.ref w_ISOLATE)) (S_COPY : Sta Z h0 "com/example/ringshift/ringshift/net/KeyChangeStep" "COPY" "Lcom/example/ringshift/ringshift/net/KeyChangeStep;" (.ref w_COPY)) (S_COUNT : Sta Z h0 "com/example/ringshift/ringshift/net/KeyChangeStep" "COUNT" "Lcom/example/ringshift/ringshift/net/KeyChangeStep;" (.ref w_COUNT)) (S_PREPARE : Sta Z h0 "com/example/ringshift/ringshift/net/KeyChangeStep" "PREPARE" "Lcom/example/ringshift/ringshift/net/KeyChangeStep;" (.ref w_PREPARE)) (S_SWITCH : Sta Z h0 "com/example/ringshift/ringshift/net/KeyChangeStep" "SWITCH" "Lcom/example/ringshift/ringshift/net/KeyChangeStep;" (.ref w_SWITCH)) (S_CARRY : Sta Z h0 "com/example/ringshift/ringshift/net/KeyChangeStep" "CARRY" "Lcom/example/ringshift/ringshift/net/KeyChangeStep;" (.ref w_CARRY)) (S_ABANDON : Sta Z h0 "com/example/ringshift/ringshift/net/KeyChangeStep" "ABANDON" "Lcom/example/ringshift/ringshift/net/KeyChangeStep;" (.ref w_ABANDON)) (S_END : Sta Z h0 "com/example/ringshift/ringshift/net/KeyChangeStep" "END" "Lcom/example/ringshift/ringshift/net/KeyChangeStep;" (.ref w_END)) (E_w_ISOLATE : Exa Z h0 w_ISOLATE "com/example/ringshift/ringshift/net/KeyChangeStep") (E_w_COPY : Exa Z h0 w_COPY "com/example/ringshift/ringshift/net/KeyChangeStep") (E_w_COUNT : Exa Z h0 w_COUNT "com/example/ringshift/ringshift/net/KeyChangeStep") (E_w_PREPARE : Exa Z h0 w_PREPARE "com/example/ringshift/ringshift/net/KeyChangeStep") (E_w_SWITCH : Exa Z h0 w_SWITCH "com/example/ringshift/ringshift/net/KeyChangeStep") (E_w_CARRY : Exa Z h0 w_CARRY "com/example/ringshift/ringshift/net/KeyChangeStep") (E_w_ABANDON : Exa Z h0 w_ABANDON "com/example/ringshift/ringshift/net/KeyChangeStep") (E_w_END : Exa Z h0 w_END "com/example/ringshift/ringshift/net/KeyChangeStep") (ne_ABANDON_ISOLATE : ¬ (w_ABANDON = w_ISOLATE)) (ne_ABANDON_COUNT : ¬ (w_ABANDON = w_COUNT)) (ne_ABANDON_SWITCH : ¬ (w_ABANDON = w_SWITCH)) (ne_ABANDON_CARRY : ¬ (w_ABANDON = w_CARRY)) (hi : (p1 &&& (7 : Int32)) = (6 : Int32)) :
    own_Met l Z x code maxLocals ret ws room_1 #[(.int p1)] h0 (fun v h L => v = some (.int 1) ∧ Fr n0 L) := by
  refine own_body (plainFor_of_name own_pn_com_example_ringshift_ringshift_net_KeyChangeStepEndsPhasePinLaw) (fun p e s m below meth c s₁ hx hby hml0 hrt hlk hown0 hnm hZ X0 e0 => ?_)
  have N0 := Fr.nil n0
  have hown : s.vm.findClass "com/example/ringshift/ringshift/net/KeyChangeStepEndsPhasePinLaw" = some m.cls := hown0
  have hml : c.maxLocals = 7 := hml0
  refine own_castG (own_ef1 m p1) ?_
  show own_Goes _ _ _ _ s₁ (mkF m 0 #[.val (.int p1), .unset, .unset, .unset, .unset, .unset, .unset] [])
  refine own_step (fun t k => XS.bipush X0.here hx rfl (hb hby at_0) k) ?_
  show own_Goes _ _ _ _ s₁ (mkF m 2 #[.val (.int p1), .unset, .unset, .unset, .unset, .unset, .unset] [(.int (8 : Int32))])
  obtain ⟨T1, h1, k1, X1, e1, E1, A1, O1, st1⟩ := newR X0 hx hZ hown (hw _ (List.mem_of_getElem? (i := 0) rfl)) (hw _ (List.mem_of_getElem? (i := 1) rfl)) e0 (g := (mkF m 2 #[.val (.int p1), .unset, .unset, .unset, .unset, .unset, .unset] [(.int (8 : Int32))])) rfl (hb hby at_2) rfl (by decide) (cap := 8) (by decide) (by decide) (by decide) (by decide)
  obtain ⟨b1, g1⟩ : ∃ z, z = h0.size := ⟨_, rfl⟩
  rw [← g1] at A1 st1
  refine own_step st1 ?_
  have g_b1 : n0 ≤ b1 := Nat.le_trans Z0 (Nat.le_of_eq g1.symm)
  have sz_b1 : h0.size ≤ b1 := Nat.le_trans (Keep.refl h0 []).1 (Nat.le_of_eq g1.symm)
  have ne_w_ISOLATE_b1 : w_ISOLATE ≠ b1 := Nat.ne_of_lt (Nat.lt_of_lt_of_le E_w_ISOLATE.lt (Nat.le_of_eq g1.symm))
  have ne_w_COPY_b1 : w_COPY ≠ b1 := Nat.ne_of_lt (Nat.lt_of_lt_of_le E_w_COPY.lt (Nat.le_of_eq g1.symm))
  have ne_w_COUNT_b1 : w_COUNT ≠ b1 := Nat.ne_of_lt (Nat.lt_of_lt_of_le E_w_COUNT.lt (Nat.le_of_eq g1.symm))
  have ne_w_PREPARE_b1 : w_PREPARE ≠ b1 := Nat.ne_of_lt (Nat.lt_of_lt_of_le E_w_PREPARE.lt (Nat.le_of_eq g1.symm))
  have ne_w_SWITCH_b1 : w_SWITCH ≠ b1 := Nat.ne_of_lt (Nat.lt_of_lt_of_le E_w_SWITCH.lt (Nat.le_of_eq g1.symm))
  have ne_w_CARRY_b1 : w_CARRY ≠ b1 := Nat.ne_of_lt (Nat.lt_of_lt_of_le E_w_CARRY.lt (Nat.le_of_eq g1.symm))
  have ne_w_ABANDON_b1 : w_ABANDON ≠ b1 := Nat.ne_of_lt (Nat.lt_of_lt_of_le E_w_ABANDON.lt (Nat.le_of_eq g1.symm))
  have ne_w_END_b1 : w_END ≠ b1 := Nat.ne_of_lt (Nat.lt_of_lt_of_le E_w_END.lt (Nat.le_of_eq g1.symm))
  have K1 := (Keep.refl h0 []).ext E1
  have V_b1 : Arv Z h1 b1 k1 (.object "com/example/ringshift/ringshift/net/KeyChangeStep") (8 : Int32) [.null, .null, .null, .null, .null, .null, .null, .null] .null := (Arv.new A1 (by decide)).pad (pad_rep [] .null 8)
  show own_Goes _ _ _ _ T1 (mkF m 5 #[.val (.int p1), .unset, .unset, .unset, .unset, .unset, .unset] [(.ref b1)])
  refine own_step (fun t k => XS.dup X1.here hx rfl (hb hby at_5) rfl rfl k) ?_
  show own_Goes _ _ _ _ T1 (mkF m 6 #[.val (.int p1), .unset, .unset, .unset, .unset, .unset, .unset] [(.ref b1), (.ref b1)])
  refine own_step (fun t k => XS.iconst X1.here hx rfl (hb hby at_6) k) ?_
  show own_Goes _ _ _ _ T1 (mkF m 7 #[.val (.int p1), .unset, .unset, .unset, .unset, .unset, .unset] [(.int (0 : Int32)), (.ref b1), (.ref b1)])
  have S_ISOLATE_v3 := (S_ISOLATE.ext E1)
  obtain ⟨T2, X2, e2, st2⟩ := getS2 X1 hx hZ hown (host := "") (Or.inl (hw _ (List.mem_of_getElem? (i := 2) rfl))) Via.refl e1 S_ISOLATE_v3 (g := (mkF m 7 #[.val (.int p1), .unset, .unset, .unset, .unset, .unset, .unset] [(.int (0 : Int32)), (.ref b1), (.ref b1)])) rfl (hb hby at_7)
  refine own_step st2 ?_
  show own_Goes _ _ _ _ T2 (mkF m 10 #[.val (.int p1), .unset, .unset, .unset, .unset, .unset, .unset] [(.ref w_ISOLATE), (.int (0 : Int32)), (.ref b1), (.ref b1)])
  have E_w_ISOLATE_v5 := (E_w_ISOLATE.ext E1)
  obtain ⟨T4, h4, X4, e4, W4, V4, st4⟩ := own_aastore X2 hx hZ e2 V_b1 O1 (Ins.self E_w_ISOLATE_v5) (j := (0 : Int32)) ⟨by decide, by decide⟩ 0 rfl (Nat.le_of_ble_eq_true rfl) (g := (mkF m 10 #[.val (.int p1), .unset, .unset, .unset, .unset, .unset, .unset] [(.ref w_ISOLATE), (.int (0 : Int32)), (.ref b1), (.ref b1)])) rfl rfl (hb hby at_10)
  refine own_step st4 ?_
  have K4 := K1.wr W4 (Or.inr sz_b1)
  have N4 := Fr.snoc X4 N0 g_b1
  have V4' : Arv Z h4 b1 k1 (.object "com/example/ringshift/ringshift/net/KeyChangeStep") (8 : Int32) [(.ref w_ISOLATE), .null, .null, .null, .null, .null, .null, .null] .null := V4
  show own_Goes _ _ _ _ T4 (mkF m 11 #[.val (.int p1), .unset, .unset, .unset, .unset, .unset, .unset] [(.ref b1)])
  refine own_step (fun t k => XS.dup X4.here hx rfl (hb hby at_11) rfl rfl k) ?_
  show own_Goes _ _ _ _ T4 (mkF m 12 #[.val (.int p1), .unset, .unset, .unset, .unset, .unset, .unset] [(.ref b1), (.ref b1)])
  refine own_step (fun t k => XS.iconst X4.here hx rfl (hb hby at_12) k) ?_
  show own_Goes _ _ _ _ T4 (mkF m 13 #[.val (.int p1), .unset, .unset, .unset, .unset, .unset, .unset] [(.int (1 : Int32)), (.ref b1), (.ref b1)])
  have S_COPY_v7 := ((S_COPY.ext E1).wr W4)
  obtain ⟨T6, X6, e6, st6⟩ := getS2 X4 hx hZ hown (host := "") (Or.inl (hw _ (List.mem_of_getElem? (i := 6) rfl))) Via.refl e4 S_COPY_v7 (g := (mkF m 13 #[.val (.int p1), .unset, .unset, .unset, .unset, .unset, .unset] [(.int (1 : Int32)), (.ref b1), (.ref b1)])) rfl (hb hby at_13)
  refine own_step st6 ?_
  show own_Goes _ _ _ _ T6 (mkF m 16 #[.val (.int p1), .unset, .unset, .unset, .unset, .unset, .unset] [(.ref w_COPY), (.int (1 : Int32)), (.ref b1), (.ref b1)])
  have E_w_COPY_v9 := ((E_w_COPY.ext E1).wr W4)
  obtain ⟨T8, h8, X8, e8, W8, V8, st8⟩ := own_aastore X6 hx hZ e6 V4' O1 (Ins.self E_w_COPY_v9) (j := (1 : Int32)) ⟨by decide, by decide⟩ 1 rfl (Nat.le_of_ble_eq_true rfl) (g := (mkF m 16 #[.val (.int p1), .unset, .unset, .unset, .unset, .unset, .unset] [(.ref w_COPY), (.int (1 : Int32)), (.ref b1), (.ref b1)])) rfl rfl (hb hby at_16)
  refine own_step st8 ?_
  have K8 := K4.wr W8 (Or.inr sz_b1)
  have N8 := Fr.snoc X8 N4 g_b1
  have V8' : Arv Z h8 b1 k1 (.object "com/example/ringshift/ringshift/net/KeyChangeStep") (8 : Int32) [(.ref w_ISOLATE), (.ref w_COPY), .null, .null, .null, .null, .null, .null] .null := V8
  show own_Goes _ _ _ _ T8 (mkF m 17 #[.val (.int p1), .unset, .unset, .unset, .unset, .unset, .unset] [(.ref b1)])
  refine own_step (fun t k => XS.dup X8.here hx rfl (hb hby at_17) rfl rfl k) ?_
  show own_Goes _ _ _ _ T8 (mkF m 18 #[.val (.int p1), .unset, .unset, .unset, .unset, .unset, .unset] [(.ref b1), (.ref b1)])
  refine own_step (fun t k => XS.iconst X8.here hx rfl (hb hby at_18) k) ?_
  show own_Goes _ _ _ _ T8 (mkF m 19 #[.val (.int p1), .unset, .unset, .unset, .unset, .unset, .unset] [(.int (2 : Int32)), (.ref b1), (.ref b1)])
  have S_COUNT_v11 := (((S_COUNT.ext E1).wr W4).wr W8)
  obtain ⟨T10, X10, e10, st10⟩ := getS2 X8 hx hZ hown (host := "") (Or.inl (hw _ (List.mem_of_getElem? (i := 8) rfl))) Via.refl e8 S_COUNT_v11 (g := (mkF m 19 #[.val (.int p1), .unset, .unset, .unset, .unset, .unset, .unset] [(.int (2 : Int32)), (.ref b1), (.ref b1)])) rfl (hb hby at_19)
  refine own_step st10 ?_
  show own_Goes _ _ _ _ T10 (mkF m 22 #[.val (.int p1), .unset, .unset, .unset, .unset, .unset, .unset] [(.ref w_COUNT), (.int (2 : Int32)), (.ref b1), (.ref b1)])
  have E_w_COUNT_v13 := (((E_w_COUNT.ext E1).wr W4).wr W8)
  obtain ⟨T12, h12, X12, e12, W12, V12, st12⟩ := own_aastore X10 hx hZ e10 V8' O1 (Ins.self E_w_COUNT_v13) (j := (2 : Int32)) ⟨by decide, by decide⟩ 2 rfl (Nat.le_of_ble_eq_true rfl) (g := (mkF m 22 #[.val (.int p1), .unset, .unset, .unset, .unset, .unset, .unset] [(.ref w_COUNT), (.int (2 : Int32)), (.ref b1), (.ref b1)])) rfl rfl (hb hby at_22)
  refine own_step st12 ?_
  have K12 := K8.wr W12 (Or.inr sz_b1)
  have N12 := Fr.snoc X12 N8 g_b1
  have V12' : Arv Z h12 b1 k1 (.object "com/example/ringshift/ringshift/net/KeyChangeStep") (8 : Int32) [(.ref w_ISOLATE), (.ref w_COPY), (.ref w_COUNT), .null, .null, .null, .null, .null] .null := V12
  show own_Goes _ _ _ _ T12 (mkF m 23 #[.val (.int p1), .unset, .unset, .unset, .unset, .unset, .unset] [(.ref b1)])
  refine own_step (fun t k => XS.dup X12.here hx rfl (hb hby at_23) rfl rfl k) ?_
  show own_Goes _ _ _ _ T12 (mkF m 24 #[.val (.int p1), .unset, .unset, .unset, .unset, .unset, .unset] [(.ref b1), (.ref b1)])
  refine own_step (fun t k => XS.iconst X12.here hx rfl (hb hby at_24) k) ?_
  show own_Goes _ _ _ _ T12 (mkF m 25 #[.val (.int p1), .unset, .unset, .unset, .unset, .unset, .unset] [(.int (3 : Int32)), (.ref b1), (.ref b1)])
  have S_PREPARE_v15 := ((((S_PREPARE.ext E1).wr W4).wr W8).wr W12)
  obtain ⟨T14, X14, e14, st14⟩ := getS2 X12 hx hZ hown (host := "") (Or.inl (hw _ (List.mem_of_getElem? (i := 10) rfl))) Via.refl e12 S_PREPARE_v15 (g := (mkF m 25 #[.val (.int p1), .unset, .unset, .unset, .unset, .unset, .unset] [(.int (3 : Int32)), (.ref b1), (.ref b1)])) rfl (hb hby at_25)
  refine own_step st14 ?_
  show own_Goes _ _ _ _ T14 (mkF m 28 #[.val (.int p1), .unset, .unset, .unset, .unset, .unset, .unset] [(.ref w_PREPARE), (.int (3 : Int32)), (.ref b1), (.ref b1)])
  have E_w_PREPARE_v17 := ((((E_w_PREPARE.ext E1).wr W4).wr W8).wr W12)
  obtain ⟨T16, h16, X16, e16, W16, V16, st16⟩ := own_aastore X14 hx hZ e14 V12' O1 (Ins.self E_w_PREPARE_v17) (j := (3 : Int32)) ⟨by decide, by decide⟩ 3 rfl (Nat.le_of_ble_eq_true rfl) (g := (mkF m 28 #[.val (.int p1), .unset, .unset, .unset, .unset, .unset, .unset] [(.ref w_PREPARE), (.int (3 : Int32)), (.ref b1), (.ref b1)])) rfl rfl (hb hby at_28)
  refine own_step st16 ?_
  have K16 := K12.wr W16 (Or.inr sz_b1)
  have N16 := Fr.snoc X16 N12 g_b1
  have V16' : Arv Z h16 b1 k1 (.object "com/example/ringshift/ringshift/net/KeyChangeStep") (8 : Int32) [(.ref w_ISOLATE), (.ref w_COPY), (.ref w_COUNT), (.ref w_PREPARE), .null, .null, .null, .null] .null := V16
  show own_Goes _ _ _ _ T16 (mkF m 29 #[.val (.int p1), .unset, .unset, .unset, .unset, .unset, .unset] [(.ref b1)])
  refine own_step (fun t k => XS.dup X16.here hx rfl (hb hby at_29) rfl rfl k) ?_
  show own_Goes _ _ _ _ T16 (mkF m 30 #[.val (.int p1), .unset, .unset, .unset, .unset, .unset, .unset] [(.ref b1), (.ref b1)])
  refine own_step (fun t k => XS.iconst X16.here hx rfl (hb hby at_30) k) ?_
  show own_Goes _ _ _ _ T16 (mkF m 31 #[.val (.int p1), .unset, .unset, .unset, .unset, .unset, .unset] [(.int (4 : Int32)), (.ref b1), (.ref b1)])
  have S_SWITCH_v19 := (((((S_SWITCH.ext E1).wr W4).wr W8).wr W12).wr W16)
  obtain ⟨T18, X18, e18, st18⟩ := getS2 X16 hx hZ hown (host := "") (Or.inl (hw _ (List.mem_of_getElem? (i := 12) rfl))) Via.refl e16 S_SWITCH_v19 (g := (mkF m 31 #[.val (.int p1), .unset, .unset, .unset, .unset, .unset, .unset] [(.int (4 : Int32)), (.ref b1), (.ref b1)])) rfl (hb hby at_31)
  refine own_step st18 ?_
  show own_Goes _ _ _ _ T18 (mkF m 34 #[.val (.int p1), .unset, .unset, .unset, .unset, .unset, .unset] [(.ref w_SWITCH), (.int (4 : Int32)), (.ref b1), (.ref b1)])
  have E_w_SWITCH_v21 := (((((E_w_SWITCH.ext E1).wr W4).wr W8).wr W12).wr W16)
  obtain ⟨T20, h20, X20, e20, W20, V20, st20⟩ := own_aastore X18 hx hZ e18 V16' O1 (Ins.self E_w_SWITCH_v21) (j := (4 : Int32)) ⟨by decide, by decide⟩ 4 rfl (Nat.le_of_ble_eq_true rfl) (g := (mkF m 34 #[.val (.int p1), .unset, .unset, .unset, .unset, .unset, .unset] [(.ref w_SWITCH), (.int (4 : Int32)), (.ref b1), (.ref b1)])) rfl rfl (hb hby at_34)
  refine own_step st20 ?_
  have K20 := K16.wr W20 (Or.inr sz_b1)
  have N20 := Fr.snoc X20 N16 g_b1
  have V20' : Arv Z h20 b1 k1 (.object "com/example/ringshift/ringshift/net/KeyChangeStep") (8 : Int32) [(.ref w_ISOLATE), (.ref w_COPY), (.ref w_COUNT), (.ref w_PREPARE), (.ref w_SWITCH), .null, .null, .null] .null := V20
  show own_Goes _ _ _ _ T20 (mkF m 35 #[.val (.int p1), .unset, .unset, .unset, .unset, .unset, .unset] [(.ref b1)])
  refine own_step (fun t k => XS.dup X20.here hx rfl (hb hby at_35) rfl rfl k) ?_
  show own_Goes _ _ _ _ T20 (mkF m 36 #[.val (.int p1), .unset, .unset, .unset, .unset, .unset, .unset] [(.ref b1), (.ref b1)])
  refine own_step (fun t k => XS.iconst X20.here hx rfl (hb hby at_36) k) ?_
  show own_Goes _ _ _ _ T20 (mkF m 37 #[.val (.int p1), .unset, .unset, .unset, .unset, .unset, .unset] [(.int (5 : Int32)), (.ref b1), (.ref b1)])
  have S_CARRY_v23 := ((((((S_CARRY.ext E1).wr W4).wr W8).wr W12).wr W16).wr W20)
  obtain ⟨T22, X22, e22, st22⟩ := getS2 X20 hx hZ hown (host := "") (Or.inl (hw _ (List.mem_of_getElem? (i := 14) rfl))) Via.refl e20 S_CARRY_v23 (g := (mkF m 37 #[.val (.int p1), .unset, .unset, .unset, .unset, .unset, .unset] [(.int (5 : Int32)), (.ref b1), (.ref b1)])) rfl (hb hby at_37)
  refine own_step st22 ?_
  show own_Goes _ _ _ _ T22 (mkF m 40 #[.val (.int p1), .unset, .unset, .unset, .unset, .unset, .unset] [(.ref w_CARRY), (.int (5 : Int32)), (.ref b1), (.ref b1)])
  have E_w_CARRY_v25 := ((((((E_w_CARRY.ext E1).wr W4).wr W8).wr W12).wr W16).wr W20)
  obtain ⟨T24, h24, X24, e24, W24, V24, st24⟩ := own_aastore X22 hx hZ e22 V20' O1 (Ins.self E_w_CARRY_v25) (j := (5 : Int32)) ⟨by decide, by decide⟩ 5 rfl (Nat.le_of_ble_eq_true rfl) (g := (mkF m 40 #[.val (.int p1), .unset, .unset, .unset, .unset, .unset, .unset] [(.ref w_CARRY), (.int (5 : Int32)), (.ref b1), (.ref b1)])) rfl rfl (hb hby at_40)
  refine own_step st24 ?_
  have K24 := K20.wr W24 (Or.inr sz_b1)
  have N24 := Fr.snoc X24 N20 g_b1
  have V24' : Arv Z h24 b1 k1 (.object "com/example/ringshift/ringshift/net/KeyChangeStep") (8 : Int32) [(.ref w_ISOLATE), (.ref w_COPY), (.ref w_COUNT), (.ref w_PREPARE), (.ref w_SWITCH), (.ref w_CARRY), .null, .null] .null := V24
  show own_Goes _ _ _ _ T24 (mkF m 41 #[.val (.int p1), .unset, .unset, .unset, .unset, .unset, .unset] [(.ref b1)])
  refine own_step (fun t k => XS.dup X24.here hx rfl (hb hby at_41) rfl rfl k) ?_
  show own_Goes _ _ _ _ T24 (mkF m 42 #[.val (.int p1), .unset, .unset, .unset, .unset, .unset, .unset] [(.ref b1), (.ref b1)])
  refine own_step (fun t k => XS.bipush X24.here hx rfl (hb hby at_42) k) ?_
  show own_Goes _ _ _ _ T24 (mkF m 44 #[.val (.int p1), .unset, .unset, .unset, .unset, .unset, .unset] [(.int (6 : Int32)), (.ref b1), (.ref b1)])
  have S_ABANDON_v27 := (((((((S_ABANDON.ext E1).wr W4).wr W8).wr W12).wr W16).wr W20).wr W24)
  obtain ⟨T26, X26, e26, st26⟩ := getS2 X24 hx hZ hown (host := "") (Or.inl (hw _ (List.mem_of_getElem? (i := 16) rfl))) Via.refl e24 S_ABANDON_v27 (g := (mkF m 44 #[.val (.int p1), .unset, .unset, .unset, .unset, .unset, .unset] [(.int (6 : Int32)), (.ref b1), (.ref b1)])) rfl (hb hby at_44)
  refine own_step st26 ?_
  show own_Goes _ _ _ _ T26 (mkF m 47 #[.val (.int p1), .unset, .unset, .unset, .unset, .unset, .unset] [(.ref w_ABANDON), (.int (6 : Int32)), (.ref b1), (.ref b1)])
  have E_w_ABANDON_v29 := (((((((E_w_ABANDON.ext E1).wr W4).wr W8).wr W12).wr W16).wr W20).wr W24)
  obtain ⟨T28, h28, X28, e28, W28, V28, st28⟩ := own_aastore X26 hx hZ e26 V24' O1 (Ins.self E_w_ABANDON_v29) (j := (6 : Int32)) ⟨by decide, by decide⟩ 6 rfl (Nat.le_of_ble_eq_true rfl) (g := (mkF m 47 #[.val (.int p1), .unset, .unset, .unset, .unset, .unset, .unset] [(.ref w_ABANDON), (.int (6 : Int32)), (.ref b1), (.ref b1)])) rfl rfl (hb hby at_47)
  refine own_step st28 ?_
  have K28 := K24.wr W28 (Or.inr sz_b1)
  have N28 := Fr.snoc X28 N24 g_b1
  have V28' : Arv Z h28 b1 k1 (.object "com/example/ringshift/ringshift/net/KeyChangeStep") (8 : Int32) [(.ref w_ISOLATE), (.ref w_COPY), (.ref w_COUNT), (.ref w_PREPARE), (.ref w_SWITCH), (.ref w_CARRY), (.ref w_ABANDON), .null] .null := V28
  show own_Goes _ _ _ _ T28 (mkF m 48 #[.val (.int p1), .unset, .unset, .unset, .unset, .unset, .unset] [(.ref b1)])
  refine own_step (fun t k => XS.dup X28.here hx rfl (hb hby at_48) rfl rfl k) ?_
  show own_Goes _ _ _ _ T28 (mkF m 49 #[.val (.int p1), .unset, .unset, .unset, .unset, .unset, .unset] [(.ref b1), (.ref b1)])
  refine own_step (fun t k => XS.bipush X28.here hx rfl (hb hby at_49) k) ?_
  show own_Goes _ _ _ _ T28 (mkF m 51 #[.val (.int p1), .unset, .unset, .unset, .unset, .unset, .unset] [(.int (7 : Int32)), (.ref b1), (.ref b1)])
  have S_END_v31 := ((((((((S_END.ext E1).wr W4).wr W8).wr W12).wr W16).wr W20).wr W24).wr W28)
  obtain ⟨T30, X30, e30, st30⟩ := getS2 X28 hx hZ hown (host := "") (Or.inl (hw _ (List.mem_of_getElem? (i := 18) rfl))) Via.refl e28 S_END_v31 (g := (mkF m 51 #[.val (.int p1), .unset, .unset, .unset, .unset, .unset, .unset] [(.int (7 : Int32)), (.ref b1), (.ref b1)])) rfl (hb hby at_51)
  refine own_step st30 ?_
  show own_Goes _ _ _ _ T30 (mkF m 54 #[.val (.int p1), .unset, .unset, .unset, .unset, .unset, .unset] [(.ref w_END), (.int (7 : Int32)), (.ref b1), (.ref b1)])
  have E_w_END_v33 := ((((((((E_w_END.ext E1).wr W4).wr W8).wr W12).wr W16).wr W20).wr W24).wr W28)
  obtain ⟨T32, h32, X32, e32, W32, V32, st32⟩ := own_aastore X30 hx hZ e30 V28' O1 (Ins.self E_w_END_v33) (j := (7 : Int32)) ⟨by decide, by decide⟩ 7 rfl (Nat.le_of_ble_eq_true rfl) (g := (mkF m 54 #[.val (.int p1), .unset, .unset, .unset, .unset, .unset, .unset] [(.ref w_END), (.int (7 : Int32)), (.ref b1), (.ref b1)])) rfl rfl (hb hby at_54)
  refine own_step st32 ?_
  have K32 := K28.wr W32 (Or.inr sz_b1)
  have N32 := Fr.snoc X32 N28 g_b1
  have V32' : Arv Z h32 b1 k1 (.object "com/example/ringshift/ringshift/net/KeyChangeStep") (8 : Int32) [(.ref w_ISOLATE), (.ref w_COPY), (.ref w_COUNT), (.ref w_PREPARE), (.ref w_SWITCH), (.ref w_CARRY), (.ref w_ABANDON), (.ref w_END)] .null := V32
  show own_Goes _ _ _ _ T32 (mkF m 55 #[.val (.int p1), .unset, .unset, .unset, .unset, .unset, .unset] [(.ref b1)])
  refine own_step (fun t k => XS.astoreN X32.here hx rfl (hb hby at_55) rfl rfl (l' := #[.val (.int p1), .val (.ref b1), .unset, .unset, .unset, .unset, .unset]) rfl k) ?_
  show own_Goes _ _ _ _ T32 (mkF m 56 #[.val (.int p1), .val (.ref b1), .unset, .unset, .unset, .unset, .unset] [])
  refine own_step (fun t k => XS.iloadN X32.here hx rfl (hb hby at_56) rfl k) ?_
  show own_Goes _ _ _ _ T32 (mkF m 57 #[.val (.int p1), .val (.ref b1), .unset, .unset, .unset, .unset, .unset] [(.int p1)])
  refine own_step (fun t k => XS.bipush X32.here hx rfl (hb hby at_57) k) ?_
  show own_Goes _ _ _ _ T32 (mkF m 59 #[.val (.int p1), .val (.ref b1), .unset, .unset, .unset, .unset, .unset] [(.int (7 : Int32)), (.int p1)])
  refine own_step (fun t k => XS.iand X32.here hx rfl (hb hby at_59) rfl k) ?_
  show own_Goes _ _ _ _ T32 (mkF m 60 #[.val (.int p1), .val (.ref b1), .unset, .unset, .unset, .unset, .unset] [(.int (p1 &&& (7 : Int32)))])
  rw [hi]
  show own_Goes _ _ _ _ T32 (mkF m 60 #[.val (.int p1), .val (.ref b1), .unset, .unset, .unset, .unset, .unset] [(.int (6 : Int32))])
  refine own_step (fun t k => XS.istoreN X32.here hx rfl (hb hby at_60) rfl (l' := #[.val (.int p1), .val (.ref b1), .val (.int (6 : Int32)), .unset, .unset, .unset, .unset]) rfl k) ?_
  show own_Goes _ _ _ _ T32 (mkF m 61 #[.val (.int p1), .val (.ref b1), .val (.int (6 : Int32)), .unset, .unset, .unset, .unset] [])
  refine own_step (fun t k => XS.aloadN X32.here hx rfl (hb hby at_61) rfl rfl k) ?_
  show own_Goes _ _ _ _ T32 (mkF m 62 #[.val (.int p1), .val (.ref b1), .val (.int (6 : Int32)), .unset, .unset, .unset, .unset] [(.ref b1)])
  refine own_step (fun t k => XS.iloadN X32.here hx rfl (hb hby at_62) rfl k) ?_
  show own_Goes _ _ _ _ T32 (mkF m 63 #[.val (.int p1), .val (.ref b1), .val (.int (6 : Int32)), .unset, .unset, .unset, .unset] [(.int (6 : Int32)), (.ref b1)])
  refine own_step (own_aaload X32 hx hZ e32 V32' rfl (.ref w_ABANDON) ⟨by decide, by decide⟩ rfl (g := (mkF m 63 #[.val (.int p1), .val (.ref b1), .val (.int (6 : Int32)), .unset, .unset, .unset, .unset] [(.int (6 : Int32)), (.ref b1)])) rfl rfl (hb hby at_63)) ?_
  show own_Goes _ _ _ _ T32 (mkF m 64 #[.val (.int p1), .val (.ref b1), .val (.int (6 : Int32)), .unset, .unset, .unset, .unset] [(.ref w_ABANDON)])
  refine own_step (fun t k => XS.astoreN X32.here hx rfl (hb hby at_64) rfl rfl (l' := #[.val (.int p1), .val (.ref b1), .val (.int (6 : Int32)), .val (.ref w_ABANDON), .unset, .unset, .unset]) rfl k) ?_
  show own_Goes _ _ _ _ T32 (mkF m 65 #[.val (.int p1), .val (.ref b1), .val (.int (6 : Int32)), .val (.ref w_ABANDON), .unset, .unset, .unset] [])
  refine own_step (fun t k => XS.iloadN X32.here hx rfl (hb hby at_65) rfl k) ?_
  show own_Goes _ _ _ _ T32 (mkF m 66 #[.val (.int p1), .val (.ref b1), .val (.int (6 : Int32)), .val (.ref w_ABANDON), .unset, .unset, .unset] [(.int (6 : Int32))])
  refine own_step (fun t k => XS.iconst X32.here hx rfl (hb hby at_66) k) ?_
  show own_Goes _ _ _ _ T32 (mkF m 67 #[.val (.int p1), .val (.ref b1), .val (.int (6 : Int32)), .val (.ref w_ABANDON), .unset, .unset, .unset] [(.int (1 : Int32)), (.int (6 : Int32))])
  refine own_step (fun t k => XS.iadd X32.here hx rfl (hb hby at_67) rfl k) ?_
  show own_Goes _ _ _ _ T32 (mkF m 68 #[.val (.int p1), .val (.ref b1), .val (.int (6 : Int32)), .val (.ref w_ABANDON), .unset, .unset, .unset] [(.int (7 : Int32))])
  refine own_step (fun t k => XS.istore X32.here hx rfl (hb hby at_68) rfl (l' := #[.val (.int p1), .val (.ref b1), .val (.int (6 : Int32)), .val (.ref w_ABANDON), .val (.int (7 : Int32)), .unset, .unset]) rfl k) ?_
  show own_Goes _ _ _ _ T32 (mkF m 70 #[.val (.int p1), .val (.ref b1), .val (.int (6 : Int32)), .val (.ref w_ABANDON), .val (.int (7 : Int32)), .unset, .unset] [])
  refine own_step (fun t k => XS.bipush X32.here hx rfl (hb hby at_70) k) ?_
  show own_Goes _ _ _ _ T32 (mkF m 72 #[.val (.int p1), .val (.ref b1), .val (.int (6 : Int32)), .val (.ref w_ABANDON), .val (.int (7 : Int32)), .unset, .unset] [(.int (106 : Int32))])
  refine own_step (fun t k => XS.istore X32.here hx rfl (hb hby at_72) rfl (l' := #[.val (.int p1), .val (.ref b1), .val (.int (6 : Int32)), .val (.ref w_ABANDON), .val (.int (7 : Int32)), .val (.int (106 : Int32)), .unset]) rfl k) ?_
  show own_Goes _ _ _ _ T32 (mkF m 74 #[.val (.int p1), .val (.ref b1), .val (.int (6 : Int32)), .val (.ref w_ABANDON), .val (.int (7 : Int32)), .val (.int (106 : Int32)), .unset] [])
  refine own_step (fun t k => XS.iload X32.here hx rfl (hb hby at_74) rfl k) ?_
  show own_Goes _ _ _ _ T32 (mkF m 76 #[.val (.int p1), .val (.ref b1), .val (.int (6 : Int32)), .val (.ref w_ABANDON), .val (.int (7 : Int32)), .val (.int (106 : Int32)), .unset] [(.int (106 : Int32))])
  refine own_step (fun t k => XS.iload X32.here hx rfl (hb hby at_76) rfl k) ?_
  show own_Goes _ _ _ _ T32 (mkF m 78 #[.val (.int p1), .val (.ref b1), .val (.int (6 : Int32)), .val (.ref w_ABANDON), .val (.int (7 : Int32)), .val (.int (106 : Int32)), .unset] [(.int (7 : Int32)), (.int (106 : Int32))])
  refine own_step (fun t k => XS.ishr X32.here hx rfl (hb hby at_78) rfl k) ?_
  show own_Goes _ _ _ _ T32 (mkF m 79 #[.val (.int p1), .val (.ref b1), .val (.int (6 : Int32)), .val (.ref w_ABANDON), .val (.int (7 : Int32)), .val (.int (106 : Int32)), .unset] [(.int (0 : Int32))])
  refine own_step (fun t k => XS.iconst X32.here hx rfl (hb hby at_79) k) ?_
  show own_Goes _ _ _ _ T32 (mkF m 80 #[.val (.int p1), .val (.ref b1), .val (.int (6 : Int32)), .val (.ref w_ABANDON), .val (.int (7 : Int32)), .val (.int (106 : Int32)), .unset] [(.int (1 : Int32)), (.int (0 : Int32))])
  refine own_step (fun t k => XS.iand X32.here hx rfl (hb hby at_80) rfl k) ?_
  show own_Goes _ _ _ _ T32 (mkF m 81 #[.val (.int p1), .val (.ref b1), .val (.int (6 : Int32)), .val (.ref w_ABANDON), .val (.int (7 : Int32)), .val (.int (106 : Int32)), .unset] [(.int (0 : Int32))])
  refine own_step (fun t k => XS.ifYes X32.here hx rfl (pc0 := 81) (pc' := 88) rfl (hb hby at_81) rfl ((if0 _ _).trans (teq (show (0 : Int32) = (0 : Int32) from (by decide))).1) (by decide) (by decide) k) ?_
  show own_Goes _ _ _ _ T32 (mkF m 88 #[.val (.int p1), .val (.ref b1), .val (.int (6 : Int32)), .val (.ref w_ABANDON), .val (.int (7 : Int32)), .val (.int (106 : Int32)), .unset] [])
  refine own_step (fun t k => XS.iconst X32.here hx rfl (hb hby at_88) k) ?_
  show own_Goes _ _ _ _ T32 (mkF m 89 #[.val (.int p1), .val (.ref b1), .val (.int (6 : Int32)), .val (.ref w_ABANDON), .val (.int (7 : Int32)), .val (.int (106 : Int32)), .unset] [(.int (0 : Int32))])
  refine own_step (fun t k => XS.istore X32.here hx rfl (hb hby at_89) rfl (l' := #[.val (.int p1), .val (.ref b1), .val (.int (6 : Int32)), .val (.ref w_ABANDON), .val (.int (7 : Int32)), .val (.int (106 : Int32)), .val (.int (0 : Int32))]) rfl k) ?_
  show own_Goes _ _ _ _ T32 (mkF m 91 #[.val (.int p1), .val (.ref b1), .val (.int (6 : Int32)), .val (.ref w_ABANDON), .val (.int (7 : Int32)), .val (.int (106 : Int32)), .val (.int (0 : Int32))] [])
  refine own_step (fun t k => XS.aloadN X32.here hx rfl (hb hby at_91) rfl rfl k) ?_
  show own_Goes _ _ _ _ T32 (mkF m 92 #[.val (.int p1), .val (.ref b1), .val (.int (6 : Int32)), .val (.ref w_ABANDON), .val (.int (7 : Int32)), .val (.int (106 : Int32)), .val (.int (0 : Int32))] [(.ref w_ABANDON)])
  have S_ISOLATE_v34 := ((((((((S_ISOLATE_v3.wr W4).wr W8).wr W12).wr W16).wr W20).wr W24).wr W28).wr W32)
  have S_COUNT_v35 := ((((((S_COUNT_v11.wr W12).wr W16).wr W20).wr W24).wr W28).wr W32)
  have S_SWITCH_v36 := ((((S_SWITCH_v19.wr W20).wr W24).wr W28).wr W32)
  have S_CARRY_v37 := (((S_CARRY_v23.wr W24).wr W28).wr W32)
  have E_w_ABANDON_v39 := ((E_w_ABANDON_v29.wr W28).wr W32)
  refine own_callV X32 hx hZ (y := (⟨"com/example/ringshift/ringshift/net/KeyChangeStep", "endsPhase", "()Z"⟩ : MethodName)) (z := (⟨"com/example/ringshift/ringshift/net/KeyChangeStep", "endsPhase", "()Z"⟩ : MethodName)) hown (hw _ (List.mem_of_getElem? (i := 20) rfl)) (hw _ (List.mem_of_getElem? (i := 21) rfl)) (notFace_of_selects (args := #[]) (mvT hZ (hw _ (List.mem_of_getElem? (i := 23) rfl)))) (hw _ (List.mem_of_getElem? (i := 23) rfl)) (hw _ (List.mem_of_getElem? (i := 22) rfl)) (hw _ (List.mem_of_getElem? (i := 24) rfl)) (hw _ (List.mem_of_getElem? (i := 3) rfl)) (by decide) 0 E_w_ABANDON_v39 [] [] (own_ends_ABANDON l Z a0 hw [] w_ABANDON w_ISOLATE w_COUNT w_SWITCH w_CARRY h32 n0 (Nat.le_trans Z0 K32.1) S_ISOLATE_v34 S_COUNT_v35 S_SWITCH_v36 S_CARRY_v37 ne_ABANDON_ISOLATE ne_ABANDON_COUNT ne_ABANDON_SWITCH ne_ABANDON_CARRY) e32 (by decide) (by decide) (by decide) (by decide) (g := (mkF m 92 #[.val (.int p1), .val (.ref b1), .val (.int (6 : Int32)), .val (.ref w_ABANDON), .val (.int (7 : Int32)), .val (.int (106 : Int32)), .val (.int (0 : Int32))] [(.ref w_ABANDON)])) rfl (by rw [hml]; rfl) own_pd0 rfl rfl (by show 2 * 0 + _ ≤ _; exact Nat.le_of_eq rfl) (hb hby at_92) ?_
  intro T38 v38 L38 X38 hQ38
  obtain ⟨rfl, N38q, e38⟩ := hQ38
  have N38 := Fr.app N32 N38q
  show own_Goes _ _ _ _ T38 (mkF m 95 #[.val (.int p1), .val (.ref b1), .val (.int (6 : Int32)), .val (.ref w_ABANDON), .val (.int (7 : Int32)), .val (.int (106 : Int32)), .val (.int (0 : Int32))] [(.int (0 : Int32))])
  refine own_step (fun t k => XS.iload X38.here hx rfl (hb hby at_95) rfl k) ?_
  show own_Goes _ _ _ _ T38 (mkF m 97 #[.val (.int p1), .val (.ref b1), .val (.int (6 : Int32)), .val (.ref w_ABANDON), .val (.int (7 : Int32)), .val (.int (106 : Int32)), .val (.int (0 : Int32))] [(.int (0 : Int32)), (.int (0 : Int32))])
  refine own_step (fun t k => XS.icmpNo X38.here hx rfl (hb hby at_97) rfl (teq (show (0 : Int32) = (0 : Int32) from (by decide))).2 k) ?_
  show own_Goes _ _ _ _ T38 (mkF m 100 #[.val (.int p1), .val (.ref b1), .val (.int (6 : Int32)), .val (.ref w_ABANDON), .val (.int (7 : Int32)), .val (.int (106 : Int32)), .val (.int (0 : Int32))] [])
  refine own_step (fun t k => XS.iconst X38.here hx rfl (hb hby at_100) k) ?_
  show own_Goes _ _ _ _ T38 (mkF m 101 #[.val (.int p1), .val (.ref b1), .val (.int (6 : Int32)), .val (.ref w_ABANDON), .val (.int (7 : Int32)), .val (.int (106 : Int32)), .val (.int (0 : Int32))] [(.int (1 : Int32))])
  refine own_step (fun t k => XS.goto X38.here hx rfl (pc0 := 101) (pc' := 105) rfl (hb hby at_101) (by decide) (by decide) k) ?_
  show own_Goes _ _ _ _ T38 (mkF m 105 #[.val (.int p1), .val (.ref b1), .val (.int (6 : Int32)), .val (.ref w_ABANDON), .val (.int (7 : Int32)), .val (.int (106 : Int32)), .val (.int (0 : Int32))] [(.int (1 : Int32))])
  exact own_retN X38 hx hlk (t := .boolean) hrt (by simp) (hb hby at_105) ⟨rfl, N38⟩ (by decide) (by decide)
set_option maxRecDepth 65536 in
set_option maxHeartbeats 40000000 in
theorem own_law7 (l : Launch) (Z : State) (a0 : Array Value) (hw : ∀ d ∈ tables_1, d.before a0 Z = true) (ws : List Jvm.Cond) (p1 : Int32) (w_ISOLATE : Addr) (w_COPY : Addr) (w_COUNT : Addr) (w_PREPARE : Addr) (w_SWITCH : Addr) (w_CARRY : Addr) (w_ABANDON : Addr) (w_END : Addr) (h0 : Heap) (n0 : Nat) (Z0 : n0 ≤ h0.size) (S_ISOLATE : Sta Z h0 "com/example/ringshift/ringshift/net/KeyChangeStep" "ISOLATE" "Lcom/example/ringshift/ringshift/net/KeyChangeStep;" (.ref w_ISOLATE)) (S_COPY : Sta Z h0 "com/example/ringshift/ringshift/net/KeyChangeStep" "COPY" "Lcom/example/ringshift/ringshift/net/KeyChangeStep;" (.ref w_COPY)) (S_COUNT : Sta Z h0 "com/example/ringshift/ringshift/net/KeyChangeStep" "COUNT" "Lcom/example/ringshift/ringshift/net/KeyChangeStep;" (.ref w_COUNT)) (S_PREPARE : Sta Z h0 "com/example/ringshift/ringshift/net/KeyChangeStep" "PREPARE" "Lcom/example/ringshift/ringshift/net/KeyChangeStep;" (.ref w_PREPARE)) (S_SWITCH : Sta Z h0 "com/example/ringshift/ringshift/net/KeyChangeStep" "SWITCH" "Lcom/example/ringshift/ringshift/net/KeyChangeStep;" (.ref w_SWITCH)) (S_CARRY : Sta Z h0 "com/example/ringshift/ringshift/net/KeyChangeStep" "CARRY" "Lcom/example/ringshift/ringshift/net/KeyChangeStep;" (.ref w_CARRY)) (S_ABANDON : Sta Z h0 "com/example/ringshift/ringshift/net/KeyChangeStep" "ABANDON" "Lcom/example/ringshift/ringshift/net/KeyChangeStep;" (.ref w_ABANDON)) (S_END : Sta Z h0 "com/example/ringshift/ringshift/net/KeyChangeStep" "END" "Lcom/example/ringshift/ringshift/net/KeyChangeStep;" (.ref w_END)) (E_w_ISOLATE : Exa Z h0 w_ISOLATE "com/example/ringshift/ringshift/net/KeyChangeStep") (E_w_COPY : Exa Z h0 w_COPY "com/example/ringshift/ringshift/net/KeyChangeStep") (E_w_COUNT : Exa Z h0 w_COUNT "com/example/ringshift/ringshift/net/KeyChangeStep") (E_w_PREPARE : Exa Z h0 w_PREPARE "com/example/ringshift/ringshift/net/KeyChangeStep") (E_w_SWITCH : Exa Z h0 w_SWITCH "com/example/ringshift/ringshift/net/KeyChangeStep") (E_w_CARRY : Exa Z h0 w_CARRY "com/example/ringshift/ringshift/net/KeyChangeStep") (E_w_ABANDON : Exa Z h0 w_ABANDON "com/example/ringshift/ringshift/net/KeyChangeStep") (E_w_END : Exa Z h0 w_END "com/example/ringshift/ringshift/net/KeyChangeStep") (ne_END_ISOLATE : ¬ (w_END = w_ISOLATE)) (ne_END_COUNT : ¬ (w_END = w_COUNT)) (ne_END_SWITCH : ¬ (w_END = w_SWITCH)) (ne_END_CARRY : ¬ (w_END = w_CARRY)) (hi : (p1 &&& (7 : Int32)) = (7 : Int32)) :
    own_Met l Z x code maxLocals ret ws room_1 #[(.int p1)] h0 (fun v h L => v = some (.int 1) ∧ Fr n0 L) := by
  refine own_body (plainFor_of_name own_pn_com_example_ringshift_ringshift_net_KeyChangeStepEndsPhasePinLaw) (fun p e s m below meth c s₁ hx hby hml0 hrt hlk hown0 hnm hZ X0 e0 => ?_)
  have N0 := Fr.nil n0
  have hown : s.vm.findClass "com/example/ringshift/ringshift/net/KeyChangeStepEndsPhasePinLaw" = some m.cls := hown0
  have hml : c.maxLocals = 7 := hml0
  refine own_castG (own_ef1 m p1) ?_
  show own_Goes _ _ _ _ s₁ (mkF m 0 #[.val (.int p1), .unset, .unset, .unset, .unset, .unset, .unset] [])
  refine own_step (fun t k => XS.bipush X0.here hx rfl (hb hby at_0) k) ?_
  show own_Goes _ _ _ _ s₁ (mkF m 2 #[.val (.int p1), .unset, .unset, .unset, .unset, .unset, .unset] [(.int (8 : Int32))])
  obtain ⟨T1, h1, k1, X1, e1, E1, A1, O1, st1⟩ := newR X0 hx hZ hown (hw _ (List.mem_of_getElem? (i := 0) rfl)) (hw _ (List.mem_of_getElem? (i := 1) rfl)) e0 (g := (mkF m 2 #[.val (.int p1), .unset, .unset, .unset, .unset, .unset, .unset] [(.int (8 : Int32))])) rfl (hb hby at_2) rfl (by decide) (cap := 8) (by decide) (by decide) (by decide) (by decide)
  obtain ⟨b1, g1⟩ : ∃ z, z = h0.size := ⟨_, rfl⟩
  rw [← g1] at A1 st1
  refine own_step st1 ?_
  have g_b1 : n0 ≤ b1 := Nat.le_trans Z0 (Nat.le_of_eq g1.symm)
  have sz_b1 : h0.size ≤ b1 := Nat.le_trans (Keep.refl h0 []).1 (Nat.le_of_eq g1.symm)
  have ne_w_ISOLATE_b1 : w_ISOLATE ≠ b1 := Nat.ne_of_lt (Nat.lt_of_lt_of_le E_w_ISOLATE.lt (Nat.le_of_eq g1.symm))
  have ne_w_COPY_b1 : w_COPY ≠ b1 := Nat.ne_of_lt (Nat.lt_of_lt_of_le E_w_COPY.lt (Nat.le_of_eq g1.symm))
  have ne_w_COUNT_b1 : w_COUNT ≠ b1 := Nat.ne_of_lt (Nat.lt_of_lt_of_le E_w_COUNT.lt (Nat.le_of_eq g1.symm))
  have ne_w_PREPARE_b1 : w_PREPARE ≠ b1 := Nat.ne_of_lt (Nat.lt_of_lt_of_le E_w_PREPARE.lt (Nat.le_of_eq g1.symm))
  have ne_w_SWITCH_b1 : w_SWITCH ≠ b1 := Nat.ne_of_lt (Nat.lt_of_lt_of_le E_w_SWITCH.lt (Nat.le_of_eq g1.symm))
  have ne_w_CARRY_b1 : w_CARRY ≠ b1 := Nat.ne_of_lt (Nat.lt_of_lt_of_le E_w_CARRY.lt (Nat.le_of_eq g1.symm))
  have ne_w_ABANDON_b1 : w_ABANDON ≠ b1 := Nat.ne_of_lt (Nat.lt_of_lt_of_le E_w_ABANDON.lt (Nat.le_of_eq g1.symm))
  have ne_w_END_b1 : w_END ≠ b1 := Nat.ne_of_lt (Nat.lt_of_lt_of_le E_w_END.lt (Nat.le_of_eq g1.symm))
  have K1 := (Keep.refl h0 []).ext E1
  have V_b1 : Arv Z h1 b1 k1 (.object "com/example/ringshift/ringshift/net/KeyChangeStep") (8 : Int32) [.null, .null, .null, .null, .null, .null, .null, .null] .null := (Arv.new A1 (by decide)).pad (pad_rep [] .null 8)
  show own_Goes _ _ _ _ T1 (mkF m 5 #[.val (.int p1), .unset, .unset, .unset, .unset, .unset, .unset] [(.ref b1)])
  refine own_step (fun t k => XS.dup X1.here hx rfl (hb hby at_5) rfl rfl k) ?_
  show own_Goes _ _ _ _ T1 (mkF m 6 #[.val (.int p1), .unset, .unset, .unset, .unset, .unset, .unset] [(.ref b1), (.ref b1)])
  refine own_step (fun t k => XS.iconst X1.here hx rfl (hb hby at_6) k) ?_
  show own_Goes _ _ _ _ T1 (mkF m 7 #[.val (.int p1), .unset, .unset, .unset, .unset, .unset, .unset] [(.int (0 : Int32)), (.ref b1), (.ref b1)])
  have S_ISOLATE_v3 := (S_ISOLATE.ext E1)
  obtain ⟨T2, X2, e2, st2⟩ := getS2 X1 hx hZ hown (host := "") (Or.inl (hw _ (List.mem_of_getElem? (i := 2) rfl))) Via.refl e1 S_ISOLATE_v3 (g := (mkF m 7 #[.val (.int p1), .unset, .unset, .unset, .unset, .unset, .unset] [(.int (0 : Int32)), (.ref b1), (.ref b1)])) rfl (hb hby at_7)
  refine own_step st2 ?_
  show own_Goes _ _ _ _ T2 (mkF m 10 #[.val (.int p1), .unset, .unset, .unset, .unset, .unset, .unset] [(.ref w_ISOLATE), (.int (0 : Int32)), (.ref b1), (.ref b1)])
  have E_w_ISOLATE_v5 := (E_w_ISOLATE.ext E1)
  obtain ⟨T4, h4, X4, e4, W4, V4, st4⟩ := own_aastore X2 hx hZ e2 V_b1 O1 (Ins.self E_w_ISOLATE_v5) (j := (0 : Int32)) ⟨by decide, by decide⟩ 0 rfl (Nat.le_of_ble_eq_true rfl) (g := (mkF m 10 #[.val (.int p1), .unset, .unset, .unset, .unset, .unset, .unset] [(.ref w_ISOLATE), (.int (0 : Int32)), (.ref b1), (.ref b1)])) rfl rfl (hb hby at_10)
  refine own_step st4 ?_
  have K4 := K1.wr W4 (Or.inr sz_b1)
  have N4 := Fr.snoc X4 N0 g_b1
  have V4' : Arv Z h4 b1 k1 (.object "com/example/ringshift/ringshift/net/KeyChangeStep") (8 : Int32) [(.ref w_ISOLATE), .null, .null, .null, .null, .null, .null, .null] .null := V4
  show own_Goes _ _ _ _ T4 (mkF m 11 #[.val (.int p1), .unset, .unset, .unset, .unset, .unset, .unset] [(.ref b1)])
  refine own_step (fun t k => XS.dup X4.here hx rfl (hb hby at_11) rfl rfl k) ?_
  show own_Goes _ _ _ _ T4 (mkF m 12 #[.val (.int p1), .unset, .unset, .unset, .unset, .unset, .unset] [(.ref b1), (.ref b1)])
  refine own_step (fun t k => XS.iconst X4.here hx rfl (hb hby at_12) k) ?_
  show own_Goes _ _ _ _ T4 (mkF m 13 #[.val (.int p1), .unset, .unset, .unset, .unset, .unset, .unset] [(.int (1 : Int32)), (.ref b1), (.ref b1)])
  have S_COPY_v7 := ((S_COPY.ext E1).wr W4)
  obtain ⟨T6, X6, e6, st6⟩ := getS2 X4 hx hZ hown (host := "") (Or.inl (hw _ (List.mem_of_getElem? (i := 6) rfl))) Via.refl e4 S_COPY_v7 (g := (mkF m 13 #[.val (.int p1), .unset, .unset, .unset, .unset, .unset, .unset] [(.int (1 : Int32)), (.ref b1), (.ref b1)])) rfl (hb hby at_13)
  refine own_step st6 ?_
  show own_Goes _ _ _ _ T6 (mkF m 16 #[.val (.int p1), .unset, .unset, .unset, .unset, .unset, .unset] [(.ref w_COPY), (.int (1 : Int32)), (.ref b1), (.ref b1)])
  have E_w_COPY_v9 := ((E_w_COPY.ext E1).wr W4)
  obtain ⟨T8, h8, X8, e8, W8, V8, st8⟩ := own_aastore X6 hx hZ e6 V4' O1 (Ins.self E_w_COPY_v9) (j := (1 : Int32)) ⟨by decide, by decide⟩ 1 rfl (Nat.le_of_ble_eq_true rfl) (g := (mkF m 16 #[.val (.int p1), .unset, .unset, .unset, .unset, .unset, .unset] [(.ref w_COPY), (.int (1 : Int32)), (.ref b1), (.ref b1)])) rfl rfl (hb hby at_16)
  refine own_step st8 ?_
  have K8 := K4.wr W8 (Or.inr sz_b1)
  have N8 := Fr.snoc X8 N4 g_b1
  have V8' : Arv Z h8 b1 k1 (.object "com/example/ringshift/ringshift/net/KeyChangeStep") (8 : Int32) [(.ref w_ISOLATE), (.ref w_COPY), .null, .null, .null, .null, .null, .null] .null := V8
  show own_Goes _ _ _ _ T8 (mkF m 17 #[.val (.int p1), .unset, .unset, .unset, .unset, .unset, .unset] [(.ref b1)])
  refine own_step (fun t k => XS.dup X8.here hx rfl (hb hby at_17) rfl rfl k) ?_
  show own_Goes _ _ _ _ T8 (mkF m 18 #[.val (.int p1), .unset, .unset, .unset, .unset, .unset, .unset] [(.ref b1), (.ref b1)])
  refine own_step (fun t k => XS.iconst X8.here hx rfl (hb hby at_18) k) ?_
  show own_Goes _ _ _ _ T8 (mkF m 19 #[.val (.int p1), .unset, .unset, .unset, .unset, .unset, .unset] [(.int (2 : Int32)), (.ref b1), (.ref b1)])
  have S_COUNT_v11 := (((S_COUNT.ext E1).wr W4).wr W8)
  obtain ⟨T10, X10, e10, st10⟩ := getS2 X8 hx hZ hown (host := "") (Or.inl (hw _ (List.mem_of_getElem? (i := 8) rfl))) Via.refl e8 S_COUNT_v11 (g := (mkF m 19 #[.val (.int p1), .unset, .unset, .unset, .unset, .unset, .unset] [(.int (2 : Int32)), (.ref b1), (.ref b1)])) rfl (hb hby at_19)
  refine own_step st10 ?_
  show own_Goes _ _ _ _ T10 (mkF m 22 #[.val (.int p1), .unset, .unset, .unset, .unset, .unset, .unset] [(.ref w_COUNT), (.int (2 : Int32)), (.ref b1), (.ref b1)])
  have E_w_COUNT_v13 := (((E_w_COUNT.ext E1).wr W4).wr W8)
  obtain ⟨T12, h12, X12, e12, W12, V12, st12⟩ := own_aastore X10 hx hZ e10 V8' O1 (Ins.self E_w_COUNT_v13) (j := (2 : Int32)) ⟨by decide, by decide⟩ 2 rfl (Nat.le_of_ble_eq_true rfl) (g := (mkF m 22 #[.val (.int p1), .unset, .unset, .unset, .unset, .unset, .unset] [(.ref w_COUNT), (.int (2 : Int32)), (.ref b1), (.ref b1)])) rfl rfl (hb hby at_22)
  refine own_step st12 ?_
  have K12 := K8.wr W12 (Or.inr sz_b1)
  have N12 := Fr.snoc X12 N8 g_b1
  have V12' : Arv Z h12 b1 k1 (.object "com/example/ringshift/ringshift/net/KeyChangeStep") (8 : Int32) [(.ref w_ISOLATE), (.ref w_COPY), (.ref w_COUNT), .null, .null, .null, .null, .null] .null := V12
  show own_Goes _ _ _ _ T12 (mkF m 23 #[.val (.int p1), .unset, .unset, .unset, .unset, .unset, .unset] [(.ref b1)])
  refine own_step (fun t k => XS.dup X12.here hx rfl (hb hby at_23) rfl rfl k) ?_
  show own_Goes _ _ _ _ T12 (mkF m 24 #[.val (.int p1), .unset, .unset, .unset, .unset, .unset, .unset] [(.ref b1), (.ref b1)])
  refine own_step (fun t k => XS.iconst X12.here hx rfl (hb hby at_24) k) ?_
  show own_Goes _ _ _ _ T12 (mkF m 25 #[.val (.int p1), .unset, .unset, .unset, .unset, .unset, .unset] [(.int (3 : Int32)), (.ref b1), (.ref b1)])
  have S_PREPARE_v15 := ((((S_PREPARE.ext E1).wr W4).wr W8).wr W12)
  obtain ⟨T14, X14, e14, st14⟩ := getS2 X12 hx hZ hown (host := "") (Or.inl (hw _ (List.mem_of_getElem? (i := 10) rfl))) Via.refl e12 S_PREPARE_v15 (g := (mkF m 25 #[.val (.int p1), .unset, .unset, .unset, .unset, .unset, .unset] [(.int (3 : Int32)), (.ref b1), (.ref b1)])) rfl (hb hby at_25)
  refine own_step st14 ?_
  show own_Goes _ _ _ _ T14 (mkF m 28 #[.val (.int p1), .unset, .unset, .unset, .unset, .unset, .unset] [(.ref w_PREPARE), (.int (3 : Int32)), (.ref b1), (.ref b1)])
  have E_w_PREPARE_v17 := ((((E_w_PREPARE.ext E1).wr W4).wr W8).wr W12)
  obtain ⟨T16, h16, X16, e16, W16, V16, st16⟩ := own_aastore X14 hx hZ e14 V12' O1 (Ins.self E_w_PREPARE_v17) (j := (3 : Int32)) ⟨by decide, by decide⟩ 3 rfl (Nat.le_of_ble_eq_true rfl) (g := (mkF m 28 #[.val (.int p1), .unset, .unset, .unset, .unset, .unset, .unset] [(.ref w_PREPARE), (.int (3 : Int32)), (.ref b1), (.ref b1)])) rfl rfl (hb hby at_28)
  refine own_step st16 ?_
  have K16 := K12.wr W16 (Or.inr sz_b1)
  have N16 := Fr.snoc X16 N12 g_b1
  have V16' : Arv Z h16 b1 k1 (.object "com/example/ringshift/ringshift/net/KeyChangeStep") (8 : Int32) [(.ref w_ISOLATE), (.ref w_COPY), (.ref w_COUNT), (.ref w_PREPARE), .null, .null, .null, .null] .null := V16
  show own_Goes _ _ _ _ T16 (mkF m 29 #[.val (.int p1), .unset, .unset, .unset, .unset, .unset, .unset] [(.ref b1)])
  refine own_step (fun t k => XS.dup X16.here hx rfl (hb hby at_29) rfl rfl k) ?_
  show own_Goes _ _ _ _ T16 (mkF m 30 #[.val (.int p1), .unset, .unset, .unset, .unset, .unset, .unset] [(.ref b1), (.ref b1)])
  refine own_step (fun t k => XS.iconst X16.here hx rfl (hb hby at_30) k) ?_
  show own_Goes _ _ _ _ T16 (mkF m 31 #[.val (.int p1), .unset, .unset, .unset, .unset, .unset, .unset] [(.int (4 : Int32)), (.ref b1), (.ref b1)])
  have S_SWITCH_v19 := (((((S_SWITCH.ext E1).wr W4).wr W8).wr W12).wr W16)
  obtain ⟨T18, X18, e18, st18⟩ := getS2 X16 hx hZ hown (host := "") (Or.inl (hw _ (List.mem_of_getElem? (i := 12) rfl))) Via.refl e16 S_SWITCH_v19 (g := (mkF m 31 #[.val (.int p1), .unset, .unset, .unset, .unset, .unset, .unset] [(.int (4 : Int32)), (.ref b1), (.ref b1)])) rfl (hb hby at_31)
  refine own_step st18 ?_
  show own_Goes _ _ _ _ T18 (mkF m 34 #[.val (.int p1), .unset, .unset, .unset, .unset, .unset, .unset] [(.ref w_SWITCH), (.int (4 : Int32)), (.ref b1), (.ref b1)])
  have E_w_SWITCH_v21 := (((((E_w_SWITCH.ext E1).wr W4).wr W8).wr W12).wr W16)
  obtain ⟨T20, h20, X20, e20, W20, V20, st20⟩ := own_aastore X18 hx hZ e18 V16' O1 (Ins.self E_w_SWITCH_v21) (j := (4 : Int32)) ⟨by decide, by decide⟩ 4 rfl (Nat.le_of_ble_eq_true rfl) (g := (mkF m 34 #[.val (.int p1), .unset, .unset, .unset, .unset, .unset, .unset] [(.ref w_SWITCH), (.int (4 : Int32)), (.ref b1), (.ref b1)])) rfl rfl (hb hby at_34)
  refine own_step st20 ?_
  have K20 := K16.wr W20 (Or.inr sz_b1)
  have N20 := Fr.snoc X20 N16 g_b1
  have V20' : Arv Z h20 b1 k1 (.object "com/example/ringshift/ringshift/net/KeyChangeStep") (8 : Int32) [(.ref w_ISOLATE), (.ref w_COPY), (.ref w_COUNT), (.ref w_PREPARE), (.ref w_SWITCH), .null, .null, .null] .null := V20
  show own_Goes _ _ _ _ T20 (mkF m 35 #[.val (.int p1), .unset, .unset, .unset, .unset, .unset, .unset] [(.ref b1)])
  refine own_step (fun t k => XS.dup X20.here hx rfl (hb hby at_35) rfl rfl k) ?_
  show own_Goes _ _ _ _ T20 (mkF m 36 #[.val (.int p1), .unset, .unset, .unset, .unset, .unset, .unset] [(.ref b1), (.ref b1)])
  refine own_step (fun t k => XS.iconst X20.here hx rfl (hb hby at_36) k) ?_
  show own_Goes _ _ _ _ T20 (mkF m 37 #[.val (.int p1), .unset, .unset, .unset, .unset, .unset, .unset] [(.int (5 : Int32)), (.ref b1), (.ref b1)])
  have S_CARRY_v23 := ((((((S_CARRY.ext E1).wr W4).wr W8).wr W12).wr W16).wr W20)
  obtain ⟨T22, X22, e22, st22⟩ := getS2 X20 hx hZ hown (host := "") (Or.inl (hw _ (List.mem_of_getElem? (i := 14) rfl))) Via.refl e20 S_CARRY_v23 (g := (mkF m 37 #[.val (.int p1), .unset, .unset, .unset, .unset, .unset, .unset] [(.int (5 : Int32)), (.ref b1), (.ref b1)])) rfl (hb hby at_37)
  refine own_step st22 ?_
  show own_Goes _ _ _ _ T22 (mkF m 40 #[.val (.int p1), .unset, .unset, .unset, .unset, .unset, .unset] [(.ref w_CARRY), (.int (5 : Int32)), (.ref b1), (.ref b1)])
  have E_w_CARRY_v25 := ((((((E_w_CARRY.ext E1).wr W4).wr W8).wr W12).wr W16).wr W20)
  obtain ⟨T24, h24, X24, e24, W24, V24, st24⟩ := own_aastore X22 hx hZ e22 V20' O1 (Ins.self E_w_CARRY_v25) (j := (5 : Int32)) ⟨by decide, by decide⟩ 5 rfl (Nat.le_of_ble_eq_true rfl) (g := (mkF m 40 #[.val (.int p1), .unset, .unset, .unset, .unset, .unset, .unset] [(.ref w_CARRY), (.int (5 : Int32)), (.ref b1), (.ref b1)])) rfl rfl (hb hby at_40)
  refine own_step st24 ?_
  have K24 := K20.wr W24 (Or.inr sz_b1)
  have N24 := Fr.snoc X24 N20 g_b1
  have V24' : Arv Z h24 b1 k1 (.object "com/example/ringshift/ringshift/net/KeyChangeStep") (8 : Int32) [(.ref w_ISOLATE), (.ref w_COPY), (.ref w_COUNT), (.ref w_PREPARE), (.ref w_SWITCH), (.ref w_CARRY), .null, .null] .null := V24
  show own_Goes _ _ _ _ T24 (mkF m 41 #[.val (.int p1), .unset, .unset, .unset, .unset, .unset, .unset] [(.ref b1)])
  refine own_step (fun t k => XS.dup X24.here hx rfl (hb hby at_41) rfl rfl k) ?_
  show own_Goes _ _ _ _ T24 (mkF m 42 #[.val (.int p1), .unset, .unset, .unset, .unset, .unset, .unset] [(.ref b1), (.ref b1)])
  refine own_step (fun t k => XS.bipush X24.here hx rfl (hb hby at_42) k) ?_
  show own_Goes _ _ _ _ T24 (mkF m 44 #[.val (.int p1), .unset, .unset, .unset, .unset, .unset, .unset] [(.int (6 : Int32)), (.ref b1), (.ref b1)])
  have S_ABANDON_v27 := (((((((S_ABANDON.ext E1).wr W4).wr W8).wr W12).wr W16).wr W20).wr W24)
  obtain ⟨T26, X26, e26, st26⟩ := getS2 X24 hx hZ hown (host := "") (Or.inl (hw _ (List.mem_of_getElem? (i := 16) rfl))) Via.refl e24 S_ABANDON_v27 (g := (mkF m 44 #[.val (.int p1), .unset, .unset, .unset, .unset, .unset, .unset] [(.int (6 : Int32)), (.ref b1), (.ref b1)])) rfl (hb hby at_44)
  refine own_step st26 ?_
  show own_Goes _ _ _ _ T26 (mkF m 47 #[.val (.int p1), .unset, .unset, .unset, .unset, .unset, .unset] [(.ref w_ABANDON), (.int (6 : Int32)), (.ref b1), (.ref b1)])
  have E_w_ABANDON_v29 := (((((((E_w_ABANDON.ext E1).wr W4).wr W8).wr W12).wr W16).wr W20).wr W24)
  obtain ⟨T28, h28, X28, e28, W28, V28, st28⟩ := own_aastore X26 hx hZ e26 V24' O1 (Ins.self E_w_ABANDON_v29) (j := (6 : Int32)) ⟨by decide, by decide⟩ 6 rfl (Nat.le_of_ble_eq_true rfl) (g := (mkF m 47 #[.val (.int p1), .unset, .unset, .unset, .unset, .unset, .unset] [(.ref w_ABANDON), (.int (6 : Int32)), (.ref b1), (.ref b1)])) rfl rfl (hb hby at_47)
  refine own_step st28 ?_
  have K28 := K24.wr W28 (Or.inr sz_b1)
  have N28 := Fr.snoc X28 N24 g_b1
  have V28' : Arv Z h28 b1 k1 (.object "com/example/ringshift/ringshift/net/KeyChangeStep") (8 : Int32) [(.ref w_ISOLATE), (.ref w_COPY), (.ref w_COUNT), (.ref w_PREPARE), (.ref w_SWITCH), (.ref w_CARRY), (.ref w_ABANDON), .null] .null := V28
  show own_Goes _ _ _ _ T28 (mkF m 48 #[.val (.int p1), .unset, .unset, .unset, .unset, .unset, .unset] [(.ref b1)])
  refine own_step (fun t k => XS.dup X28.here hx rfl (hb hby at_48) rfl rfl k) ?_
  show own_Goes _ _ _ _ T28 (mkF m 49 #[.val (.int p1), .unset, .unset, .unset, .unset, .unset, .unset] [(.ref b1), (.ref b1)])
  refine own_step (fun t k => XS.bipush X28.here hx rfl (hb hby at_49) k) ?_
  show own_Goes _ _ _ _ T28 (mkF m 51 #[.val (.int p1), .unset, .unset, .unset, .unset, .unset, .unset] [(.int (7 : Int32)), (.ref b1), (.ref b1)])
  have S_END_v31 := ((((((((S_END.ext E1).wr W4).wr W8).wr W12).wr W16).wr W20).wr W24).wr W28)
  obtain ⟨T30, X30, e30, st30⟩ := getS2 X28 hx hZ hown (host := "") (Or.inl (hw _ (List.mem_of_getElem? (i := 18) rfl))) Via.refl e28 S_END_v31 (g := (mkF m 51 #[.val (.int p1), .unset, .unset, .unset, .unset, .unset, .unset] [(.int (7 : Int32)), (.ref b1), (.ref b1)])) rfl (hb hby at_51)
  refine own_step st30 ?_
  show own_Goes _ _ _ _ T30 (mkF m 54 #[.val (.int p1), .unset, .unset, .unset, .unset, .unset, .unset] [(.ref w_END), (.int (7 : Int32)), (.ref b1), (.ref b1)])
  have E_w_END_v33 := ((((((((E_w_END.ext E1).wr W4).wr W8).wr W12).wr W16).wr W20).wr W24).wr W28)
  obtain ⟨T32, h32, X32, e32, W32, V32, st32⟩ := own_aastore X30 hx hZ e30 V28' O1 (Ins.self E_w_END_v33) (j := (7 : Int32)) ⟨by decide, by decide⟩ 7 rfl (Nat.le_of_ble_eq_true rfl) (g := (mkF m 54 #[.val (.int p1), .unset, .unset, .unset, .unset, .unset, .unset] [(.ref w_END), (.int (7 : Int32)), (.ref b1), (.ref b1)])) rfl rfl (hb hby at_54)
  refine own_step st32 ?_
  have K32 := K28.wr W32 (Or.inr sz_b1)
  have N32 := Fr.snoc X32 N28 g_b1
  have V32' : Arv Z h32 b1 k1 (.object "com/example/ringshift/ringshift/net/KeyChangeStep") (8 : Int32) [(.ref w_ISOLATE), (.ref w_COPY), (.ref w_COUNT), (.ref w_PREPARE), (.ref w_SWITCH), (.ref w_CARRY), (.ref w_ABANDON), (.ref w_END)] .null := V32
  show own_Goes _ _ _ _ T32 (mkF m 55 #[.val (.int p1), .unset, .unset, .unset, .unset, .unset, .unset] [(.ref b1)])
  refine own_step (fun t k => XS.astoreN X32.here hx rfl (hb hby at_55) rfl rfl (l' := #[.val (.int p1), .val (.ref b1), .unset, .unset, .unset, .unset, .unset]) rfl k) ?_
  show own_Goes _ _ _ _ T32 (mkF m 56 #[.val (.int p1), .val (.ref b1), .unset, .unset, .unset, .unset, .unset] [])
  refine own_step (fun t k => XS.iloadN X32.here hx rfl (hb hby at_56) rfl k) ?_
  show own_Goes _ _ _ _ T32 (mkF m 57 #[.val (.int p1), .val (.ref b1), .unset, .unset, .unset, .unset, .unset] [(.int p1)])
  refine own_step (fun t k => XS.bipush X32.here hx rfl (hb hby at_57) k) ?_
  show own_Goes _ _ _ _ T32 (mkF m 59 #[.val (.int p1), .val (.ref b1), .unset, .unset, .unset, .unset, .unset] [(.int (7 : Int32)), (.int p1)])
  refine own_step (fun t k => XS.iand X32.here hx rfl (hb hby at_59) rfl k) ?_
  show own_Goes _ _ _ _ T32 (mkF m 60 #[.val (.int p1), .val (.ref b1), .unset, .unset, .unset, .unset, .unset] [(.int (p1 &&& (7 : Int32)))])
  rw [hi]
  show own_Goes _ _ _ _ T32 (mkF m 60 #[.val (.int p1), .val (.ref b1), .unset, .unset, .unset, .unset, .unset] [(.int (7 : Int32))])
  refine own_step (fun t k => XS.istoreN X32.here hx rfl (hb hby at_60) rfl (l' := #[.val (.int p1), .val (.ref b1), .val (.int (7 : Int32)), .unset, .unset, .unset, .unset]) rfl k) ?_
  show own_Goes _ _ _ _ T32 (mkF m 61 #[.val (.int p1), .val (.ref b1), .val (.int (7 : Int32)), .unset, .unset, .unset, .unset] [])
  refine own_step (fun t k => XS.aloadN X32.here hx rfl (hb hby at_61) rfl rfl k) ?_
  show own_Goes _ _ _ _ T32 (mkF m 62 #[.val (.int p1), .val (.ref b1), .val (.int (7 : Int32)), .unset, .unset, .unset, .unset] [(.ref b1)])
  refine own_step (fun t k => XS.iloadN X32.here hx rfl (hb hby at_62) rfl k) ?_
  show own_Goes _ _ _ _ T32 (mkF m 63 #[.val (.int p1), .val (.ref b1), .val (.int (7 : Int32)), .unset, .unset, .unset, .unset] [(.int (7 : Int32)), (.ref b1)])
  refine own_step (own_aaload X32 hx hZ e32 V32' rfl (.ref w_END) ⟨by decide, by decide⟩ rfl (g := (mkF m 63 #[.val (.int p1), .val (.ref b1), .val (.int (7 : Int32)), .unset, .unset, .unset, .unset] [(.int (7 : Int32)), (.ref b1)])) rfl rfl (hb hby at_63)) ?_
  show own_Goes _ _ _ _ T32 (mkF m 64 #[.val (.int p1), .val (.ref b1), .val (.int (7 : Int32)), .unset, .unset, .unset, .unset] [(.ref w_END)])
  refine own_step (fun t k => XS.astoreN X32.here hx rfl (hb hby at_64) rfl rfl (l' := #[.val (.int p1), .val (.ref b1), .val (.int (7 : Int32)), .val (.ref w_END), .unset, .unset, .unset]) rfl k) ?_
  show own_Goes _ _ _ _ T32 (mkF m 65 #[.val (.int p1), .val (.ref b1), .val (.int (7 : Int32)), .val (.ref w_END), .unset, .unset, .unset] [])
  refine own_step (fun t k => XS.iloadN X32.here hx rfl (hb hby at_65) rfl k) ?_
  show own_Goes _ _ _ _ T32 (mkF m 66 #[.val (.int p1), .val (.ref b1), .val (.int (7 : Int32)), .val (.ref w_END), .unset, .unset, .unset] [(.int (7 : Int32))])
  refine own_step (fun t k => XS.iconst X32.here hx rfl (hb hby at_66) k) ?_
  show own_Goes _ _ _ _ T32 (mkF m 67 #[.val (.int p1), .val (.ref b1), .val (.int (7 : Int32)), .val (.ref w_END), .unset, .unset, .unset] [(.int (1 : Int32)), (.int (7 : Int32))])
  refine own_step (fun t k => XS.iadd X32.here hx rfl (hb hby at_67) rfl k) ?_
  show own_Goes _ _ _ _ T32 (mkF m 68 #[.val (.int p1), .val (.ref b1), .val (.int (7 : Int32)), .val (.ref w_END), .unset, .unset, .unset] [(.int (8 : Int32))])
  refine own_step (fun t k => XS.istore X32.here hx rfl (hb hby at_68) rfl (l' := #[.val (.int p1), .val (.ref b1), .val (.int (7 : Int32)), .val (.ref w_END), .val (.int (8 : Int32)), .unset, .unset]) rfl k) ?_
  show own_Goes _ _ _ _ T32 (mkF m 70 #[.val (.int p1), .val (.ref b1), .val (.int (7 : Int32)), .val (.ref w_END), .val (.int (8 : Int32)), .unset, .unset] [])
  refine own_step (fun t k => XS.bipush X32.here hx rfl (hb hby at_70) k) ?_
  show own_Goes _ _ _ _ T32 (mkF m 72 #[.val (.int p1), .val (.ref b1), .val (.int (7 : Int32)), .val (.ref w_END), .val (.int (8 : Int32)), .unset, .unset] [(.int (106 : Int32))])
  refine own_step (fun t k => XS.istore X32.here hx rfl (hb hby at_72) rfl (l' := #[.val (.int p1), .val (.ref b1), .val (.int (7 : Int32)), .val (.ref w_END), .val (.int (8 : Int32)), .val (.int (106 : Int32)), .unset]) rfl k) ?_
  show own_Goes _ _ _ _ T32 (mkF m 74 #[.val (.int p1), .val (.ref b1), .val (.int (7 : Int32)), .val (.ref w_END), .val (.int (8 : Int32)), .val (.int (106 : Int32)), .unset] [])
  refine own_step (fun t k => XS.iload X32.here hx rfl (hb hby at_74) rfl k) ?_
  show own_Goes _ _ _ _ T32 (mkF m 76 #[.val (.int p1), .val (.ref b1), .val (.int (7 : Int32)), .val (.ref w_END), .val (.int (8 : Int32)), .val (.int (106 : Int32)), .unset] [(.int (106 : Int32))])
  refine own_step (fun t k => XS.iload X32.here hx rfl (hb hby at_76) rfl k) ?_
  show own_Goes _ _ _ _ T32 (mkF m 78 #[.val (.int p1), .val (.ref b1), .val (.int (7 : Int32)), .val (.ref w_END), .val (.int (8 : Int32)), .val (.int (106 : Int32)), .unset] [(.int (8 : Int32)), (.int (106 : Int32))])
  refine own_step (fun t k => XS.ishr X32.here hx rfl (hb hby at_78) rfl k) ?_
  show own_Goes _ _ _ _ T32 (mkF m 79 #[.val (.int p1), .val (.ref b1), .val (.int (7 : Int32)), .val (.ref w_END), .val (.int (8 : Int32)), .val (.int (106 : Int32)), .unset] [(.int (0 : Int32))])
  refine own_step (fun t k => XS.iconst X32.here hx rfl (hb hby at_79) k) ?_
  show own_Goes _ _ _ _ T32 (mkF m 80 #[.val (.int p1), .val (.ref b1), .val (.int (7 : Int32)), .val (.ref w_END), .val (.int (8 : Int32)), .val (.int (106 : Int32)), .unset] [(.int (1 : Int32)), (.int (0 : Int32))])
  refine own_step (fun t k => XS.iand X32.here hx rfl (hb hby at_80) rfl k) ?_
  show own_Goes _ _ _ _ T32 (mkF m 81 #[.val (.int p1), .val (.ref b1), .val (.int (7 : Int32)), .val (.ref w_END), .val (.int (8 : Int32)), .val (.int (106 : Int32)), .unset] [(.int (0 : Int32))])
  refine own_step (fun t k => XS.ifYes X32.here hx rfl (pc0 := 81) (pc' := 88) rfl (hb hby at_81) rfl ((if0 _ _).trans (teq (show (0 : Int32) = (0 : Int32) from (by decide))).1) (by decide) (by decide) k) ?_
  show own_Goes _ _ _ _ T32 (mkF m 88 #[.val (.int p1), .val (.ref b1), .val (.int (7 : Int32)), .val (.ref w_END), .val (.int (8 : Int32)), .val (.int (106 : Int32)), .unset] [])
  refine own_step (fun t k => XS.iconst X32.here hx rfl (hb hby at_88) k) ?_
  show own_Goes _ _ _ _ T32 (mkF m 89 #[.val (.int p1), .val (.ref b1), .val (.int (7 : Int32)), .val (.ref w_END), .val (.int (8 : Int32)), .val (.int (106 : Int32)), .unset] [(.int (0 : Int32))])
  refine own_step (fun t k => XS.istore X32.here hx rfl (hb hby at_89) rfl (l' := #[.val (.int p1), .val (.ref b1), .val (.int (7 : Int32)), .val (.ref w_END), .val (.int (8 : Int32)), .val (.int (106 : Int32)), .val (.int (0 : Int32))]) rfl k) ?_
  show own_Goes _ _ _ _ T32 (mkF m 91 #[.val (.int p1), .val (.ref b1), .val (.int (7 : Int32)), .val (.ref w_END), .val (.int (8 : Int32)), .val (.int (106 : Int32)), .val (.int (0 : Int32))] [])
  refine own_step (fun t k => XS.aloadN X32.here hx rfl (hb hby at_91) rfl rfl k) ?_
  show own_Goes _ _ _ _ T32 (mkF m 92 #[.val (.int p1), .val (.ref b1), .val (.int (7 : Int32)), .val (.ref w_END), .val (.int (8 : Int32)), .val (.int (106 : Int32)), .val (.int (0 : Int32))] [(.ref w_END)])
  have S_ISOLATE_v34 := ((((((((S_ISOLATE_v3.wr W4).wr W8).wr W12).wr W16).wr W20).wr W24).wr W28).wr W32)
  have S_COUNT_v35 := ((((((S_COUNT_v11.wr W12).wr W16).wr W20).wr W24).wr W28).wr W32)
  have S_SWITCH_v36 := ((((S_SWITCH_v19.wr W20).wr W24).wr W28).wr W32)
  have S_CARRY_v37 := (((S_CARRY_v23.wr W24).wr W28).wr W32)
  have E_w_END_v39 := (E_w_END_v33.wr W32)
  refine own_callV X32 hx hZ (y := (⟨"com/example/ringshift/ringshift/net/KeyChangeStep", "endsPhase", "()Z"⟩ : MethodName)) (z := (⟨"com/example/ringshift/ringshift/net/KeyChangeStep", "endsPhase", "()Z"⟩ : MethodName)) hown (hw _ (List.mem_of_getElem? (i := 20) rfl)) (hw _ (List.mem_of_getElem? (i := 21) rfl)) (notFace_of_selects (args := #[]) (mvT hZ (hw _ (List.mem_of_getElem? (i := 23) rfl)))) (hw _ (List.mem_of_getElem? (i := 23) rfl)) (hw _ (List.mem_of_getElem? (i := 22) rfl)) (hw _ (List.mem_of_getElem? (i := 24) rfl)) (hw _ (List.mem_of_getElem? (i := 3) rfl)) (by decide) 0 E_w_END_v39 [] [] (own_ends_END l Z a0 hw [] w_END w_ISOLATE w_COUNT w_SWITCH w_CARRY h32 n0 (Nat.le_trans Z0 K32.1) S_ISOLATE_v34 S_COUNT_v35 S_SWITCH_v36 S_CARRY_v37 ne_END_ISOLATE ne_END_COUNT ne_END_SWITCH ne_END_CARRY) e32 (by decide) (by decide) (by decide) (by decide) (g := (mkF m 92 #[.val (.int p1), .val (.ref b1), .val (.int (7 : Int32)), .val (.ref w_END), .val (.int (8 : Int32)), .val (.int (106 : Int32)), .val (.int (0 : Int32))] [(.ref w_END)])) rfl (by rw [hml]; rfl) own_pd0 rfl rfl (by show 2 * 0 + _ ≤ _; exact Nat.le_of_eq rfl) (hb hby at_92) ?_
  intro T38 v38 L38 X38 hQ38
  obtain ⟨rfl, N38q, e38⟩ := hQ38
  have N38 := Fr.app N32 N38q
  show own_Goes _ _ _ _ T38 (mkF m 95 #[.val (.int p1), .val (.ref b1), .val (.int (7 : Int32)), .val (.ref w_END), .val (.int (8 : Int32)), .val (.int (106 : Int32)), .val (.int (0 : Int32))] [(.int (0 : Int32))])
  refine own_step (fun t k => XS.iload X38.here hx rfl (hb hby at_95) rfl k) ?_
  show own_Goes _ _ _ _ T38 (mkF m 97 #[.val (.int p1), .val (.ref b1), .val (.int (7 : Int32)), .val (.ref w_END), .val (.int (8 : Int32)), .val (.int (106 : Int32)), .val (.int (0 : Int32))] [(.int (0 : Int32)), (.int (0 : Int32))])
  refine own_step (fun t k => XS.icmpNo X38.here hx rfl (hb hby at_97) rfl (teq (show (0 : Int32) = (0 : Int32) from (by decide))).2 k) ?_
  show own_Goes _ _ _ _ T38 (mkF m 100 #[.val (.int p1), .val (.ref b1), .val (.int (7 : Int32)), .val (.ref w_END), .val (.int (8 : Int32)), .val (.int (106 : Int32)), .val (.int (0 : Int32))] [])
  refine own_step (fun t k => XS.iconst X38.here hx rfl (hb hby at_100) k) ?_
  show own_Goes _ _ _ _ T38 (mkF m 101 #[.val (.int p1), .val (.ref b1), .val (.int (7 : Int32)), .val (.ref w_END), .val (.int (8 : Int32)), .val (.int (106 : Int32)), .val (.int (0 : Int32))] [(.int (1 : Int32))])
  refine own_step (fun t k => XS.goto X38.here hx rfl (pc0 := 101) (pc' := 105) rfl (hb hby at_101) (by decide) (by decide) k) ?_
  show own_Goes _ _ _ _ T38 (mkF m 105 #[.val (.int p1), .val (.ref b1), .val (.int (7 : Int32)), .val (.ref w_END), .val (.int (8 : Int32)), .val (.int (106 : Int32)), .val (.int (0 : Int32))] [(.int (1 : Int32))])
  exact own_retN X38 hx hlk (t := .boolean) hrt (by simp) (hb hby at_105) ⟨rfl, N38⟩ (by decide) (by decide)
theorem own_and7 (x : Int32) : (x &&& (7 : Int32)) = (0 : Int32) ∨ (x &&& (7 : Int32)) = (1 : Int32) ∨ (x &&& (7 : Int32)) = (2 : Int32) ∨ (x &&& (7 : Int32)) = (3 : Int32) ∨ (x &&& (7 : Int32)) = (4 : Int32) ∨ (x &&& (7 : Int32)) = (5 : Int32) ∨ (x &&& (7 : Int32)) = (6 : Int32) ∨ (x &&& (7 : Int32)) = (7 : Int32) := by
  have h1 := c_mask x (7 : Int32) 3 (by decide) (by decide)
  have h3 : 0 ≤ (x &&& (7 : Int32)).toInt ∧ (x &&& (7 : Int32)).toInt < 8 := by rw [h1]; omega
  generalize x &&& (7 : Int32) = t at *
  have key : ∀ n : Int32, t.toInt = n.toInt → t = n := fun n h => Int32.toInt_inj.mp h
  have e0 : (0 : Int32).toInt = 0 := by decide
  have e1 : (1 : Int32).toInt = 1 := by decide
  have e2 : (2 : Int32).toInt = 2 := by decide
  have e3 : (3 : Int32).toInt = 3 := by decide
  have e4 : (4 : Int32).toInt = 4 := by decide
  have e5 : (5 : Int32).toInt = 5 := by decide
  have e6 : (6 : Int32).toInt = 6 := by decide
  have e7 : (7 : Int32).toInt = 7 := by decide
  have q : t.toInt = (0 : Int32).toInt ∨ t.toInt = (1 : Int32).toInt ∨ t.toInt = (2 : Int32).toInt ∨ t.toInt = (3 : Int32).toInt ∨ t.toInt = (4 : Int32).toInt ∨ t.toInt = (5 : Int32).toInt ∨ t.toInt = (6 : Int32).toInt ∨ t.toInt = (7 : Int32).toInt := by omega
  rcases q with h | h | h | h | h | h | h | h
  · exact Or.inl (key _ h)
  · exact Or.inr (Or.inl (key _ h))
  · exact Or.inr (Or.inr (Or.inl (key _ h)))
  · exact Or.inr (Or.inr (Or.inr (Or.inl (key _ h))))
  · exact Or.inr (Or.inr (Or.inr (Or.inr (Or.inl (key _ h)))))
  · exact Or.inr (Or.inr (Or.inr (Or.inr (Or.inr (Or.inl (key _ h))))))
  · exact Or.inr (Or.inr (Or.inr (Or.inr (Or.inr (Or.inr (Or.inl (key _ h)))))))
  · exact Or.inr (Or.inr (Or.inr (Or.inr (Or.inr (Or.inr (Or.inr (key _ h)))))))
theorem own_law (l : Launch) (Z : State) (a0 : Array Value) (hw : ∀ d ∈ tables_1, d.before a0 Z = true) (ws : List Jvm.Cond) (p1 : Int32) (w_ISOLATE : Addr) (w_COPY : Addr) (w_COUNT : Addr) (w_PREPARE : Addr) (w_SWITCH : Addr) (w_CARRY : Addr) (w_ABANDON : Addr) (w_END : Addr) (h0 : Heap) (n0 : Nat) (Z0 : n0 ≤ h0.size) (S_ISOLATE : Sta Z h0 "com/example/ringshift/ringshift/net/KeyChangeStep" "ISOLATE" "Lcom/example/ringshift/ringshift/net/KeyChangeStep;" (.ref w_ISOLATE)) (S_COPY : Sta Z h0 "com/example/ringshift/ringshift/net/KeyChangeStep" "COPY" "Lcom/example/ringshift/ringshift/net/KeyChangeStep;" (.ref w_COPY)) (S_COUNT : Sta Z h0 "com/example/ringshift/ringshift/net/KeyChangeStep" "COUNT" "Lcom/example/ringshift/ringshift/net/KeyChangeStep;" (.ref w_COUNT)) (S_PREPARE : Sta Z h0 "com/example/ringshift/ringshift/net/KeyChangeStep" "PREPARE" "Lcom/example/ringshift/ringshift/net/KeyChangeStep;" (.ref w_PREPARE)) (S_SWITCH : Sta Z h0 "com/example/ringshift/ringshift/net/KeyChangeStep" "SWITCH" "Lcom/example/ringshift/ringshift/net/KeyChangeStep;" (.ref w_SWITCH)) (S_CARRY : Sta Z h0 "com/example/ringshift/ringshift/net/KeyChangeStep" "CARRY" "Lcom/example/ringshift/ringshift/net/KeyChangeStep;" (.ref w_CARRY)) (S_ABANDON : Sta Z h0 "com/example/ringshift/ringshift/net/KeyChangeStep" "ABANDON" "Lcom/example/ringshift/ringshift/net/KeyChangeStep;" (.ref w_ABANDON)) (S_END : Sta Z h0 "com/example/ringshift/ringshift/net/KeyChangeStep" "END" "Lcom/example/ringshift/ringshift/net/KeyChangeStep;" (.ref w_END)) (E_w_ISOLATE : Exa Z h0 w_ISOLATE "com/example/ringshift/ringshift/net/KeyChangeStep") (E_w_COPY : Exa Z h0 w_COPY "com/example/ringshift/ringshift/net/KeyChangeStep") (E_w_COUNT : Exa Z h0 w_COUNT "com/example/ringshift/ringshift/net/KeyChangeStep") (E_w_PREPARE : Exa Z h0 w_PREPARE "com/example/ringshift/ringshift/net/KeyChangeStep") (E_w_SWITCH : Exa Z h0 w_SWITCH "com/example/ringshift/ringshift/net/KeyChangeStep") (E_w_CARRY : Exa Z h0 w_CARRY "com/example/ringshift/ringshift/net/KeyChangeStep") (E_w_ABANDON : Exa Z h0 w_ABANDON "com/example/ringshift/ringshift/net/KeyChangeStep") (E_w_END : Exa Z h0 w_END "com/example/ringshift/ringshift/net/KeyChangeStep") (ne_COPY_ISOLATE : ¬ (w_COPY = w_ISOLATE)) (ne_COPY_COUNT : ¬ (w_COPY = w_COUNT)) (ne_COPY_SWITCH : ¬ (w_COPY = w_SWITCH)) (ne_COPY_CARRY : ¬ (w_COPY = w_CARRY)) (ne_COUNT_ISOLATE : ¬ (w_COUNT = w_ISOLATE)) (ne_PREPARE_ISOLATE : ¬ (w_PREPARE = w_ISOLATE)) (ne_PREPARE_COUNT : ¬ (w_PREPARE = w_COUNT)) (ne_PREPARE_SWITCH : ¬ (w_PREPARE = w_SWITCH)) (ne_PREPARE_CARRY : ¬ (w_PREPARE = w_CARRY)) (ne_SWITCH_ISOLATE : ¬ (w_SWITCH = w_ISOLATE)) (ne_SWITCH_COUNT : ¬ (w_SWITCH = w_COUNT)) (ne_CARRY_ISOLATE : ¬ (w_CARRY = w_ISOLATE)) (ne_CARRY_COUNT : ¬ (w_CARRY = w_COUNT)) (ne_CARRY_SWITCH : ¬ (w_CARRY = w_SWITCH)) (ne_ABANDON_ISOLATE : ¬ (w_ABANDON = w_ISOLATE)) (ne_ABANDON_COUNT : ¬ (w_ABANDON = w_COUNT)) (ne_ABANDON_SWITCH : ¬ (w_ABANDON = w_SWITCH)) (ne_ABANDON_CARRY : ¬ (w_ABANDON = w_CARRY)) (ne_END_ISOLATE : ¬ (w_END = w_ISOLATE)) (ne_END_COUNT : ¬ (w_END = w_COUNT)) (ne_END_SWITCH : ¬ (w_END = w_SWITCH)) (ne_END_CARRY : ¬ (w_END = w_CARRY)) : own_Met l Z x code maxLocals ret ws room_1 #[(.int p1)] h0 (fun v h L => v = some (.int 1) ∧ Fr n0 L) := by
  rcases own_and7 p1 with hi | hi | hi | hi | hi | hi | hi | hi
  · exact own_law0 l Z a0 hw ws p1 w_ISOLATE w_COPY w_COUNT w_PREPARE w_SWITCH w_CARRY w_ABANDON w_END h0 n0 Z0 S_ISOLATE S_COPY S_COUNT S_PREPARE S_SWITCH S_CARRY S_ABANDON S_END E_w_ISOLATE E_w_COPY E_w_COUNT E_w_PREPARE E_w_SWITCH E_w_CARRY E_w_ABANDON E_w_END hi
  · exact own_law1 l Z a0 hw ws p1 w_ISOLATE w_COPY w_COUNT w_PREPARE w_SWITCH w_CARRY w_ABANDON w_END h0 n0 Z0 S_ISOLATE S_COPY S_COUNT S_PREPARE S_SWITCH S_CARRY S_ABANDON S_END E_w_ISOLATE E_w_COPY E_w_COUNT E_w_PREPARE E_w_SWITCH E_w_CARRY E_w_ABANDON E_w_END ne_COPY_ISOLATE ne_COPY_COUNT ne_COPY_SWITCH ne_COPY_CARRY hi
  · exact own_law2 l Z a0 hw ws p1 w_ISOLATE w_COPY w_COUNT w_PREPARE w_SWITCH w_CARRY w_ABANDON w_END h0 n0 Z0 S_ISOLATE S_COPY S_COUNT S_PREPARE S_SWITCH S_CARRY S_ABANDON S_END E_w_ISOLATE E_w_COPY E_w_COUNT E_w_PREPARE E_w_SWITCH E_w_CARRY E_w_ABANDON E_w_END ne_COUNT_ISOLATE hi
  · exact own_law3 l Z a0 hw ws p1 w_ISOLATE w_COPY w_COUNT w_PREPARE w_SWITCH w_CARRY w_ABANDON w_END h0 n0 Z0 S_ISOLATE S_COPY S_COUNT S_PREPARE S_SWITCH S_CARRY S_ABANDON S_END E_w_ISOLATE E_w_COPY E_w_COUNT E_w_PREPARE E_w_SWITCH E_w_CARRY E_w_ABANDON E_w_END ne_PREPARE_ISOLATE ne_PREPARE_COUNT ne_PREPARE_SWITCH ne_PREPARE_CARRY hi
  · exact own_law4 l Z a0 hw ws p1 w_ISOLATE w_COPY w_COUNT w_PREPARE w_SWITCH w_CARRY w_ABANDON w_END h0 n0 Z0 S_ISOLATE S_COPY S_COUNT S_PREPARE S_SWITCH S_CARRY S_ABANDON S_END E_w_ISOLATE E_w_COPY E_w_COUNT E_w_PREPARE E_w_SWITCH E_w_CARRY E_w_ABANDON E_w_END ne_SWITCH_ISOLATE ne_SWITCH_COUNT hi
  · exact own_law5 l Z a0 hw ws p1 w_ISOLATE w_COPY w_COUNT w_PREPARE w_SWITCH w_CARRY w_ABANDON w_END h0 n0 Z0 S_ISOLATE S_COPY S_COUNT S_PREPARE S_SWITCH S_CARRY S_ABANDON S_END E_w_ISOLATE E_w_COPY E_w_COUNT E_w_PREPARE E_w_SWITCH E_w_CARRY E_w_ABANDON E_w_END ne_CARRY_ISOLATE ne_CARRY_COUNT ne_CARRY_SWITCH hi
  · exact own_law6 l Z a0 hw ws p1 w_ISOLATE w_COPY w_COUNT w_PREPARE w_SWITCH w_CARRY w_ABANDON w_END h0 n0 Z0 S_ISOLATE S_COPY S_COUNT S_PREPARE S_SWITCH S_CARRY S_ABANDON S_END E_w_ISOLATE E_w_COPY E_w_COUNT E_w_PREPARE E_w_SWITCH E_w_CARRY E_w_ABANDON E_w_END ne_ABANDON_ISOLATE ne_ABANDON_COUNT ne_ABANDON_SWITCH ne_ABANDON_CARRY hi
  · exact own_law7 l Z a0 hw ws p1 w_ISOLATE w_COPY w_COUNT w_PREPARE w_SWITCH w_CARRY w_ABANDON w_END h0 n0 Z0 S_ISOLATE S_COPY S_COUNT S_PREPARE S_SWITCH S_CARRY S_ABANDON S_END E_w_ISOLATE E_w_COPY E_w_COUNT E_w_PREPARE E_w_SWITCH E_w_CARRY E_w_ABANDON E_w_END ne_END_ISOLATE ne_END_COUNT ne_END_SWITCH ne_END_CARRY hi
set_option maxRecDepth 65536 in
set_option maxHeartbeats 40000000 in
theorem comes_1 {Post : Tables → Env → Array Value → State → Outcome → State → Prop} (hpost : ∀ tb e args s v u, (limb_1_1.after args s (.returned v) u = true ∧ limb_1_2.after args s (.returned v) u = true ∧ True) → FrameEnd s (.returned v) u (Jvm.fieldLocs frame_1_writes args s ++ Jvm.arrayLocs frame_1_arrays args s ++ Jvm.staticLocs frame_1_statics s) 16 128 → Post tb e args s (.returned v) u) :
    ArmFor flags0 classFile x code maxLocals ret World_1 tables_1 room_1 Calls_1 rest_1 Pre_1 Post := by
  intro l hfl _ _ p e ha hc hk s m args below hf hA hF happ hP
  obtain ⟨hcalls, hrest, hpre⟩ := hP
  obtain ⟨-, -, -, hnamed, -, -, -, hat⟩ := (Spec.applies_iff hf).mp happ
  obtain ⟨hg, hn⟩ := and_e (Cond.before_iff.mp (show (Jvm.Cond.and given_1 narrow_1).before args s = true from hpre))
  obtain ⟨q1, q2⟩ := and_e hg
  obtain ⟨q3, q4⟩ := and_e hn
  obtain ⟨q5, q6⟩ := and_e q4
  obtain ⟨q7, q8⟩ := and_e q6
  obtain ⟨q9, q10⟩ := and_e q8
  obtain ⟨q11, q12⟩ := and_e q10
  obtain ⟨q13, q14⟩ := and_e q12
  obtain ⟨q15, q16⟩ := and_e q14
  obtain ⟨q17, q18⟩ := and_e q16
  obtain ⟨q19, q20⟩ := and_e q18
  obtain ⟨q21, q22⟩ := and_e q20
  obtain ⟨q23, q24⟩ := and_e q22
  obtain ⟨q25, q26⟩ := and_e q24
  obtain ⟨q27, q28⟩ := and_e q26
  obtain ⟨q29, q30⟩ := and_e q28
  obtain ⟨q31, q32⟩ := and_e q30
  obtain ⟨w0, rfl⟩ : ∃ w0 : Value, args = #[w0] := by
    have hs : args.size = 1 := by simpa [Cond.value, given_1] using q1
    obtain ⟨L⟩ := args
    match L, hs with
    | [w0], _ => exact ⟨w0, rfl⟩
  have hw := fun d (hd : d ∈ tables_1) => atoms_spec (ws := Jvm.Cond.code x code maxLocals ret :: tables_1) hat d (List.mem_cons_of_mem _ hd)
  have hfit : Fit s := fun {y c} hc i hi => by
    obtain ⟨ha, rfl⟩ := Array.getElem?_eq_some_iff.mp hc
    have q := List.all_eq_true.mp ((Array.all_eq_true_iff_forall_mem.mp hF) _ (Array.getElem_mem ha)) i (List.mem_range.mpr hi)
    simpa [Array.getElem?_eq_getElem hi] using q
  obtain ⟨i0, ei0⟩ := is_v q2
  obtain rfl : w0 = (.int i0) := Option.some.inj ei0
  obtain ⟨w_ISOLATE, ev_ISOLATE⟩ := exa_v q3
  have S_ISOLATE : Sta s s.heap "com/example/ringshift/ringshift/net/KeyChangeStep" "ISOLATE" "Lcom/example/ringshift/ringshift/net/KeyChangeStep;" (.ref w_ISOLATE) := Sta.start ev_ISOLATE (Or.inr ⟨(hw _ (List.mem_of_getElem? (i := 3) rfl)), (hw _ (List.mem_of_getElem? (i := 4) rfl))⟩)
  have E_w_ISOLATE : Exa s s.heap w_ISOLATE "com/example/ringshift/ringshift/net/KeyChangeStep" := Exa.start ev_ISOLATE q3
  obtain ⟨w_COPY, ev_COPY⟩ := exa_v q5
  have S_COPY : Sta s s.heap "com/example/ringshift/ringshift/net/KeyChangeStep" "COPY" "Lcom/example/ringshift/ringshift/net/KeyChangeStep;" (.ref w_COPY) := Sta.start ev_COPY (Or.inr ⟨(hw _ (List.mem_of_getElem? (i := 3) rfl)), (hw _ (List.mem_of_getElem? (i := 7) rfl))⟩)
  have E_w_COPY : Exa s s.heap w_COPY "com/example/ringshift/ringshift/net/KeyChangeStep" := Exa.start ev_COPY q5
  obtain ⟨w_COUNT, ev_COUNT⟩ := exa_v q7
  have S_COUNT : Sta s s.heap "com/example/ringshift/ringshift/net/KeyChangeStep" "COUNT" "Lcom/example/ringshift/ringshift/net/KeyChangeStep;" (.ref w_COUNT) := Sta.start ev_COUNT (Or.inr ⟨(hw _ (List.mem_of_getElem? (i := 3) rfl)), (hw _ (List.mem_of_getElem? (i := 9) rfl))⟩)
  have E_w_COUNT : Exa s s.heap w_COUNT "com/example/ringshift/ringshift/net/KeyChangeStep" := Exa.start ev_COUNT q7
  obtain ⟨w_PREPARE, ev_PREPARE⟩ := exa_v q9
  have S_PREPARE : Sta s s.heap "com/example/ringshift/ringshift/net/KeyChangeStep" "PREPARE" "Lcom/example/ringshift/ringshift/net/KeyChangeStep;" (.ref w_PREPARE) := Sta.start ev_PREPARE (Or.inr ⟨(hw _ (List.mem_of_getElem? (i := 3) rfl)), (hw _ (List.mem_of_getElem? (i := 11) rfl))⟩)
  have E_w_PREPARE : Exa s s.heap w_PREPARE "com/example/ringshift/ringshift/net/KeyChangeStep" := Exa.start ev_PREPARE q9
  obtain ⟨w_SWITCH, ev_SWITCH⟩ := exa_v q11
  have S_SWITCH : Sta s s.heap "com/example/ringshift/ringshift/net/KeyChangeStep" "SWITCH" "Lcom/example/ringshift/ringshift/net/KeyChangeStep;" (.ref w_SWITCH) := Sta.start ev_SWITCH (Or.inr ⟨(hw _ (List.mem_of_getElem? (i := 3) rfl)), (hw _ (List.mem_of_getElem? (i := 13) rfl))⟩)
  have E_w_SWITCH : Exa s s.heap w_SWITCH "com/example/ringshift/ringshift/net/KeyChangeStep" := Exa.start ev_SWITCH q11
  obtain ⟨w_CARRY, ev_CARRY⟩ := exa_v q13
  have S_CARRY : Sta s s.heap "com/example/ringshift/ringshift/net/KeyChangeStep" "CARRY" "Lcom/example/ringshift/ringshift/net/KeyChangeStep;" (.ref w_CARRY) := Sta.start ev_CARRY (Or.inr ⟨(hw _ (List.mem_of_getElem? (i := 3) rfl)), (hw _ (List.mem_of_getElem? (i := 15) rfl))⟩)
  have E_w_CARRY : Exa s s.heap w_CARRY "com/example/ringshift/ringshift/net/KeyChangeStep" := Exa.start ev_CARRY q13
  obtain ⟨w_ABANDON, ev_ABANDON⟩ := exa_v q15
  have S_ABANDON : Sta s s.heap "com/example/ringshift/ringshift/net/KeyChangeStep" "ABANDON" "Lcom/example/ringshift/ringshift/net/KeyChangeStep;" (.ref w_ABANDON) := Sta.start ev_ABANDON (Or.inr ⟨(hw _ (List.mem_of_getElem? (i := 3) rfl)), (hw _ (List.mem_of_getElem? (i := 17) rfl))⟩)
  have E_w_ABANDON : Exa s s.heap w_ABANDON "com/example/ringshift/ringshift/net/KeyChangeStep" := Exa.start ev_ABANDON q15
  obtain ⟨w_END, ev_END⟩ := exa_v q17
  have S_END : Sta s s.heap "com/example/ringshift/ringshift/net/KeyChangeStep" "END" "Lcom/example/ringshift/ringshift/net/KeyChangeStep;" (.ref w_END) := Sta.start ev_END (Or.inr ⟨(hw _ (List.mem_of_getElem? (i := 3) rfl)), (hw _ (List.mem_of_getElem? (i := 19) rfl))⟩)
  have E_w_END : Exa s s.heap w_END "com/example/ringshift/ringshift/net/KeyChangeStep" := Exa.start ev_END q17
  have F_w_PREPARE_ordinal : Fld s s.heap w_PREPARE "java/lang/Enum" "ordinal" "I" (.int (3 : Int32)) := own_fldI ev_PREPARE q19
  have F_w_ISOLATE_ordinal : Fld s s.heap w_ISOLATE "java/lang/Enum" "ordinal" "I" (.int (0 : Int32)) := own_fldI ev_ISOLATE q21
  have F_w_COUNT_ordinal : Fld s s.heap w_COUNT "java/lang/Enum" "ordinal" "I" (.int (2 : Int32)) := own_fldI ev_COUNT q23
  have F_w_SWITCH_ordinal : Fld s s.heap w_SWITCH "java/lang/Enum" "ordinal" "I" (.int (4 : Int32)) := own_fldI ev_SWITCH q25
  have F_w_CARRY_ordinal : Fld s s.heap w_CARRY "java/lang/Enum" "ordinal" "I" (.int (5 : Int32)) := own_fldI ev_CARRY q27
  have F_w_ABANDON_ordinal : Fld s s.heap w_ABANDON "java/lang/Enum" "ordinal" "I" (.int (6 : Int32)) := own_fldI ev_ABANDON q29
  have F_w_END_ordinal : Fld s s.heap w_END "java/lang/Enum" "ordinal" "I" (.int (7 : Int32)) := own_fldI ev_END q31
  have F_w_COPY_ordinal : Fld s s.heap w_COPY "java/lang/Enum" "ordinal" "I" (.int (1 : Int32)) := own_fldI ev_COPY q32
  obtain ⟨n, o, h1, h2, h3, _, L, rfl, ⟨rfl, N⟩, hq⟩ := own_law l s _ hw tables_1 i0 w_ISOLATE w_COPY w_COUNT w_PREPARE w_SWITCH w_CARRY w_ABANDON w_END s.heap s.heap.size (Nat.le_refl _) S_ISOLATE S_COPY S_COUNT S_PREPARE S_SWITCH S_CARRY S_ABANDON S_END E_w_ISOLATE E_w_COPY E_w_COUNT E_w_PREPARE E_w_SWITCH E_w_CARRY E_w_ABANDON E_w_END (F_w_COPY_ordinal.ne F_w_ISOLATE_ordinal (by decide)) (F_w_COPY_ordinal.ne F_w_COUNT_ordinal (by decide)) (F_w_COPY_ordinal.ne F_w_SWITCH_ordinal (by decide)) (F_w_COPY_ordinal.ne F_w_CARRY_ordinal (by decide)) (F_w_COUNT_ordinal.ne F_w_ISOLATE_ordinal (by decide)) (F_w_PREPARE_ordinal.ne F_w_ISOLATE_ordinal (by decide)) (F_w_PREPARE_ordinal.ne F_w_COUNT_ordinal (by decide)) (F_w_PREPARE_ordinal.ne F_w_SWITCH_ordinal (by decide)) (F_w_PREPARE_ordinal.ne F_w_CARRY_ordinal (by decide)) (F_w_SWITCH_ordinal.ne F_w_ISOLATE_ordinal (by decide)) (F_w_SWITCH_ordinal.ne F_w_COUNT_ordinal (by decide)) (F_w_CARRY_ordinal.ne F_w_ISOLATE_ordinal (by decide)) (F_w_CARRY_ordinal.ne F_w_COUNT_ordinal (by decide)) (F_w_CARRY_ordinal.ne F_w_SWITCH_ordinal (by decide)) (F_w_ABANDON_ordinal.ne F_w_ISOLATE_ordinal (by decide)) (F_w_ABANDON_ordinal.ne F_w_COUNT_ordinal (by decide)) (F_w_ABANDON_ordinal.ne F_w_SWITCH_ordinal (by decide)) (F_w_ABANDON_ordinal.ne F_w_CARRY_ordinal (by decide)) (F_w_END_ordinal.ne F_w_ISOLATE_ordinal (by decide)) (F_w_END_ordinal.ne F_w_COUNT_ordinal (by decide)) (F_w_END_ordinal.ne F_w_SWITCH_ordinal (by decide)) (F_w_END_ordinal.ne F_w_CARRY_ordinal (by decide)) p e ha hc hk s m _ below hf ((Spec.applies_iff_loose hf).mp happ).1 ⟨rfl, State.Warmed39.refl s, rfl⟩ trivial
  refine ⟨n, _, h1, h2, h3, hpost _ _ _ _ _ _ ⟨Cond.after_iff.mpr rfl, Cond.after_iff.mpr (eq_i res_at (Term.int_eval (1)) rfl), trivial⟩ ⟨hq.1, hq.2.1, (hq.2.2.sift fun y hy => Or.inr (N y hy)).mono (by decide) (by decide)⟩⟩
theorem main_1_1 : Claimed_1_1 := comes_1 fun _ _ _ _ _ _ h hF => ⟨h.1, hF⟩
theorem main_1_2 : Claimed_1_2 := comes_1 fun _ _ _ _ _ _ h hF => ⟨h.2.1, hF⟩
end Jvm.Pilot.@@N@@
namespace Jvm.Pilot.@@N@@
open Jvm Jvm.ClassFile Sem Op Lib Jvm.Free Jvm.Stand Jvm.Pilot.@@N@@.Jvm.D
/-! MADE BY PROGRAM (witnessworld.py) out of the Statement's table words and the real class files: 11 classes; the members and pool entries that the words name. The judged class is class 1, her method 1. -/
namespace start1
open Jvm.ClassFile
def u (s : String) : CpInfo := .utf8 (stringToUtf16 s)
/-- a pool by its gaps: so many unusable entries, then the entry; so many at the end -/
def gap : Nat → List CpInfo → List CpInfo
  | 0, r => r
  | n + 1, r => .unusable :: gap n r
def poolList (es : List (Nat × CpInfo)) (last : Nat) : List CpInfo := es.foldr (fun e r => gap e.1 (e.2 :: r)) (gap last [])
def pool (es : List (Nat × CpInfo)) (last : Nat) : Array CpInfo := ⟨poolList es last⟩
def fileOf (pool : Array CpInfo) (this : Nat) (attrs : Array Attribute := #[]) (ms : Array MethodInfo := #[]) (fl : Nat := 33) (sup : Nat := 0) (ifs : Array Nat := #[]) (fds : Array FieldInfo := #[]) : ClassFile where
  minorVersion := 0
  majorVersion := 65
  constantPool := pool
  accessFlags := fl
  thisClass := this
  superClass := sup
  interfaces := ifs
  fields := fds
  methods := ms
  attributes := attrs
def plain (name : String) (sup : Option ClassId) : Class where
  name := name
  kind := .ordinary
  loader := none
  accessFlags := 33
  super := sup
  interfaces := #[]
  cf := none
  fields := #[]
  methods := #[]
  instanceTypes := #[]
  staticTypes := #[]
  resolved := #[]
  callSites := []
  init := .initialized
  statics := none
  mirror := none

def pool0 : Array CpInfo := pool [(5, u "<init>"), (0, u "()V"), (1, .class_ 10), (1, u "java/lang/Object")] 113

def k0m0 : Method := { name := "<init>", desc := "()V", sig := { parameters := [], returnType := none }, accessFlags := 1, code := none }
/-- java/lang/Object -/
def k0 : Class := { plain "java/lang/Object" none with
  accessFlags := 33
  interfaces := #[]
  cf := some (fileOf pool0 8 #[] #[{ accessFlags := 1, nameIndex := 5, descriptorIndex := 6, attributes := #[] }] 33 0 #[] #[])
  fields := #[]
  methods := #[k0m0]
  instanceTypes := #[]
  staticTypes := #[]
  resolved := Array.replicate 124 none
  statics := none }

def pool1 : Array CpInfo := pool [(2, .class_ 4), (1, u "java/lang/Object"), (0, u "<init>"), (0, u "()V"), (0, .class_ 8), (0, u "com/example/ringshift/ringshift/net/KeyChangeStep"), (0, .fieldref 7 10), (0, .nameAndType 11 12), (0, u "ISOLATE"), (0, u "Lcom/example/ringshift/ringshift/net/KeyChangeStep;"), (0, .fieldref 7 14), (0, .nameAndType 15 12), (0, u "COPY"), (0, .fieldref 7 17), (0, .nameAndType 18 12), (0, u "COUNT"), (0, .fieldref 7 20), (0, .nameAndType 21 12), (0, u "PREPARE"), (0, .fieldref 7 23), (0, .nameAndType 24 12), (0, u "SWITCH"), (0, .fieldref 7 26), (0, .nameAndType 27 12), (0, u "CARRY"), (0, .fieldref 7 29), (0, .nameAndType 30 12), (0, u "ABANDON"), (0, .fieldref 7 32), (0, .nameAndType 33 12), (0, u "END"), (0, .methodref 7 35), (0, .nameAndType 36 37), (0, u "endsPhase"), (0, u "()Z"), (0, .class_ 39), (0, u "com/example/ringshift/ringshift/net/KeyChangeStepEndsPhasePinLaw"), (2, u "law"), (0, u "(I)Z")] 5

def k1m0 : Method := { name := "<init>", desc := "()V", sig := { parameters := [], returnType := none }, accessFlags := 1, code := none }
def k1c1 : Code := { maxStack := 4, maxLocals := 7, code := code, exceptionTable := #[], attributes := #[] }
def k1m1 : Method := { name := "law", desc := "(I)Z", sig := { parameters := [.int], returnType := some .boolean }, accessFlags := 9, code := some k1c1 }
/-- com/example/ringshift/ringshift/net/KeyChangeStepEndsPhasePinLaw -/
def k1 : Class := { plain "com/example/ringshift/ringshift/net/KeyChangeStepEndsPhasePinLaw" (some 0) with
  accessFlags := 49
  interfaces := #[]
  cf := some (fileOf pool1 38 #[] #[{ accessFlags := 1, nameIndex := 5, descriptorIndex := 6, attributes := #[] }, { accessFlags := 9, nameIndex := 42, descriptorIndex := 43, attributes := #[] }] 49 2 #[] #[])
  fields := #[]
  methods := #[k1m0, k1m1]
  instanceTypes := #[]
  staticTypes := #[]
  resolved := Array.replicate 49 none
  statics := none }

def pool2 : Array CpInfo := pool [(1, .class_ 2), (0, u "java/lang/constant/Constable"), (0, .class_ 4), (0, u "java/lang/Object")] 6

/-- java/lang/constant/Constable -/
def k2 : Class := { plain "java/lang/constant/Constable" (some 0) with
  accessFlags := 1537
  interfaces := #[]
  cf := some (fileOf pool2 1 #[] #[] 1537 3 #[] #[])
  fields := #[]
  methods := #[]
  instanceTypes := #[]
  staticTypes := #[]
  resolved := Array.replicate 11 none
  statics := none }

def pool3 : Array CpInfo := pool [(1, .class_ 2), (0, u "java/lang/Comparable"), (0, .class_ 4), (0, u "java/lang/Object")] 7

/-- java/lang/Comparable -/
def k3 : Class := { plain "java/lang/Comparable" (some 0) with
  accessFlags := 1537
  interfaces := #[]
  cf := some (fileOf pool3 1 #[] #[] 1537 3 #[] #[])
  fields := #[]
  methods := #[]
  instanceTypes := #[]
  staticTypes := #[]
  resolved := Array.replicate 12 none
  statics := none }

def pool4 : Array CpInfo := pool [(1, .class_ 2), (0, u "java/io/Serializable"), (0, .class_ 4), (0, u "java/lang/Object")] 2

/-- java/io/Serializable -/
def k4 : Class := { plain "java/io/Serializable" (some 0) with
  accessFlags := 1537
  interfaces := #[]
  cf := some (fileOf pool4 1 #[] #[] 1537 3 #[] #[])
  fields := #[]
  methods := #[]
  instanceTypes := #[]
  staticTypes := #[]
  resolved := Array.replicate 7 none
  statics := none }

def pool5 : Array CpInfo := pool [(2, .class_ 4), (1, u "java/lang/Enum"), (0, u "name"), (0, u "Ljava/lang/String;"), (2, u "ordinal"), (0, u "I"), (1, .class_ 14), (1, u "java/lang/Object"), (4, u "hash"), (86, .class_ 108), (1, u "java/lang/Enum$EnumDesc"), (2, .class_ 112), (0, u "java/lang/constant/Constable"), (0, .class_ 114), (0, u "java/lang/Comparable"), (0, .class_ 116), (0, u "java/io/Serializable")] 87

/-- java/lang/Enum -/
def k5 : Class := { plain "java/lang/Enum" (some 0) with
  accessFlags := 1057
  interfaces := #[2, 3, 4]
  cf := some (fileOf pool5 2 #[.nestMembers #[106]] #[] 1057 12 #[111, 113, 115] #[{ accessFlags := 18, nameIndex := 5, descriptorIndex := 6, attributes := #[] }, { accessFlags := 18, nameIndex := 9, descriptorIndex := 10, attributes := #[] }, { accessFlags := 2, nameIndex := 19, descriptorIndex := 10, attributes := #[] }])
  fields := #[{ name := "name", type := (.object "java/lang/String"), accessFlags := 18, slot := 0, constantValue := 0 }, { name := "ordinal", type := .int, accessFlags := 18, slot := 1, constantValue := 0 }, { name := "hash", type := .int, accessFlags := 2, slot := 2, constantValue := 0 }]
  methods := #[]
  instanceTypes := #[(.object "java/lang/String"), .int, .int]
  staticTypes := #[]
  resolved := Array.replicate 204 none
  statics := none }

def pool6 : Array CpInfo := pool [(1, .class_ 2), (0, u "com/example/ringshift/ringshift/net/KeyChangeStep"), (0, .fieldref 1 4), (0, .nameAndType 5 6), (0, u "ISOLATE"), (0, u "Lcom/example/ringshift/ringshift/net/KeyChangeStep;"), (2, u "COPY"), (0, .fieldref 1 11), (0, .nameAndType 12 6), (0, u "COUNT"), (2, u "PREPARE"), (0, .fieldref 1 17), (0, .nameAndType 18 6), (0, u "SWITCH"), (0, .fieldref 1 20), (0, .nameAndType 21 6), (0, u "CARRY"), (2, u "ABANDON"), (2, u "END"), (2, u "$VALUES"), (0, u "[Lcom/example/ringshift/ringshift/net/KeyChangeStep;"), (6, .class_ 40), (1, u "java/lang/Enum"), (8, u "code"), (0, u "I"), (64, u "endsPhase"), (0, u "()Z"), (14, .class_ 132), (0, u "com/example/ringshift/ringshift/net/KeyChangeStep$Answer"), (0, .class_ 134), (0, u "com/example/ringshift/ringshift/net/KeyChangeStep$Work"), (0, .class_ 136), (0, u "com/example/ringshift/ringshift/net/KeyChangeStep$Order"), (0, .class_ 138), (0, u "com/example/ringshift/ringshift/net/KeyChangeStep$Progress"), (0, .class_ 140), (0, u "com/example/ringshift/ringshift/net/KeyChangeStep$Count")] 40

def k6c0 : Code := { maxStack := 2, maxLocals := 1, code := prog_91_method_5_code, exceptionTable := #[], attributes := #[] }
def k6m0 : Method := { name := "endsPhase", desc := "()Z", sig := { parameters := [], returnType := some .boolean }, accessFlags := 1, code := some k6c0 }
/-- com/example/ringshift/ringshift/net/KeyChangeStep -/
def k6 : Class := { plain "com/example/ringshift/ringshift/net/KeyChangeStep" (some 5) with
  accessFlags := 16433
  interfaces := #[]
  cf := some (fileOf pool6 1 #[.nestMembers #[131, 133, 135, 137, 139]] #[{ accessFlags := 1, nameIndex := 115, descriptorIndex := 116, attributes := #[] }] 16433 38 #[] #[{ accessFlags := 16409, nameIndex := 5, descriptorIndex := 6, attributes := #[] }, { accessFlags := 16409, nameIndex := 9, descriptorIndex := 6, attributes := #[] }, { accessFlags := 16409, nameIndex := 12, descriptorIndex := 6, attributes := #[] }, { accessFlags := 16409, nameIndex := 15, descriptorIndex := 6, attributes := #[] }, { accessFlags := 16409, nameIndex := 18, descriptorIndex := 6, attributes := #[] }, { accessFlags := 16409, nameIndex := 21, descriptorIndex := 6, attributes := #[] }, { accessFlags := 16409, nameIndex := 24, descriptorIndex := 6, attributes := #[] }, { accessFlags := 16409, nameIndex := 27, descriptorIndex := 6, attributes := #[] }, { accessFlags := 18, nameIndex := 49, descriptorIndex := 50, attributes := #[] }, { accessFlags := 4122, nameIndex := 30, descriptorIndex := 31, attributes := #[] }])
  fields := #[{ name := "ISOLATE", type := (.object "com/example/ringshift/ringshift/net/KeyChangeStep"), accessFlags := 16409, slot := 0, constantValue := 0 }, { name := "COPY", type := (.object "com/example/ringshift/ringshift/net/KeyChangeStep"), accessFlags := 16409, slot := 1, constantValue := 0 }, { name := "COUNT", type := (.object "com/example/ringshift/ringshift/net/KeyChangeStep"), accessFlags := 16409, slot := 2, constantValue := 0 }, { name := "PREPARE", type := (.object "com/example/ringshift/ringshift/net/KeyChangeStep"), accessFlags := 16409, slot := 3, constantValue := 0 }, { name := "SWITCH", type := (.object "com/example/ringshift/ringshift/net/KeyChangeStep"), accessFlags := 16409, slot := 4, constantValue := 0 }, { name := "CARRY", type := (.object "com/example/ringshift/ringshift/net/KeyChangeStep"), accessFlags := 16409, slot := 5, constantValue := 0 }, { name := "ABANDON", type := (.object "com/example/ringshift/ringshift/net/KeyChangeStep"), accessFlags := 16409, slot := 6, constantValue := 0 }, { name := "END", type := (.object "com/example/ringshift/ringshift/net/KeyChangeStep"), accessFlags := 16409, slot := 7, constantValue := 0 }, { name := "code", type := .int, accessFlags := 18, slot := 3, constantValue := 0 }, { name := "$VALUES", type := (.array (.object "com/example/ringshift/ringshift/net/KeyChangeStep")), accessFlags := 4122, slot := 8, constantValue := 0 }]
  methods := #[k6m0]
  instanceTypes := #[(.object "java/lang/String"), .int, .int, .int]
  staticTypes := #[(.object "com/example/ringshift/ringshift/net/KeyChangeStep"), (.object "com/example/ringshift/ringshift/net/KeyChangeStep"), (.object "com/example/ringshift/ringshift/net/KeyChangeStep"), (.object "com/example/ringshift/ringshift/net/KeyChangeStep"), (.object "com/example/ringshift/ringshift/net/KeyChangeStep"), (.object "com/example/ringshift/ringshift/net/KeyChangeStep"), (.object "com/example/ringshift/ringshift/net/KeyChangeStep"), (.object "com/example/ringshift/ringshift/net/KeyChangeStep"), (.array (.object "com/example/ringshift/ringshift/net/KeyChangeStep"))]
  resolved := Array.replicate 181 none
  statics := some 0 }

def pool7 : Array CpInfo := pool [(1, u "java/lang/Cloneable"), (0, .class_ 1), (0, u "java/lang/Object"), (0, .class_ 3)] 3

/-- java/lang/Cloneable -/
def k7 : Class := { plain "java/lang/Cloneable" (some 0) with
  accessFlags := 1537
  interfaces := #[]
  cf := some (fileOf pool7 2 #[] #[] 1537 4 #[] #[])
  fields := #[]
  methods := #[]
  instanceTypes := #[]
  staticTypes := #[]
  resolved := Array.replicate 8 none
  statics := none }

/-- the primitive byte -/
def k8 : Class := { plain "byte" none with kind := .primitive 'B', accessFlags := 0x411 }
/-- [B -/
def k9 : Class := { plain "[B" (some 0) with kind := .array 8 .byte, interfaces := #[7, 4], accessFlags := 1041 }

/-- [Lcom/example/ringshift/ringshift/net/KeyChangeStep; -/
def k10 : Class := { plain "[Lcom/example/ringshift/ringshift/net/KeyChangeStep;" (some 0) with kind := .array 6 (.object "com/example/ringshift/ringshift/net/KeyChangeStep"), interfaces := #[7, 4], accessFlags := 1041 }

def heap : Heap := #[{ cls := 6, slots := #[.ref 1, .ref 2, .ref 3, .ref 4, .ref 5, .ref 6, .ref 7, .ref 8, .null], vm := .statics 6 },
  { cls := 6, slots := #[.null, .int 0, .int 0, .int 0], vm := .none },
  { cls := 6, slots := #[.null, .int 1, .int 0, .int 0], vm := .none },
  { cls := 6, slots := #[.null, .int 2, .int 0, .int 0], vm := .none },
  { cls := 6, slots := #[.null, .int 3, .int 0, .int 0], vm := .none },
  { cls := 6, slots := #[.null, .int 4, .int 0, .int 0], vm := .none },
  { cls := 6, slots := #[.null, .int 5, .int 0, .int 0], vm := .none },
  { cls := 6, slots := #[.null, .int 6, .int 0, .int 0], vm := .none },
  { cls := 6, slots := #[.null, .int 7, .int 0, .int 0], vm := .none }]
def classes : Array Class := #[k0, k1, k2, k3, k4, k5, k6, k7, k8, k9, k10]
def interned : List (Array UInt16 × Addr) := []
def slotsUsed : Nat := 41
def theMethod : MethodId := ⟨1, 1⟩
def args0 : Array Value := #[.int 5]
def aboutOver (below : List Frame) : State where
  vm := { classes := classes, interned := interned.toArray }
  heap := heap
  slotsUsed := slotsUsed
  threads := #[{ frames := .invoking theMethod args0 :: below }]
def below0 : List Frame := [.native { method := ⟨0, 0⟩, args := #[] }]
def about1 : State := aboutOver below0
def p0 : Program := .bare "" "" ""
def e0 : Env := launch0.env 0 0 0
theorem w_frames : about1.frames = Frame.invoking theMethod args0 :: below0 := rfl
set_option maxRecDepth 65536 in
theorem w_args : argsFit about1.vm theMethod args0 = true := by decide +kernel
set_option maxRecDepth 65536 in
theorem w_heap : heapFits about1 = true := by decide +kernel
set_option maxRecDepth 65536 in
theorem w_runnable : about1.curStatus? = some .runnable := by decide +kernel
set_option maxRecDepth 65536 in
theorem w_alone : about1.alone = true := by decide +kernel
set_option maxRecDepth 65536 in
theorem w_named : about1.methodNamed? x = some theMethod := by decide +kernel
set_option maxRecDepth 65536 in
theorem w_hears : about1.hears theMethod below0 = true := by decide +kernel
set_option maxRecDepth 65536 in
theorem w_ripe : about1.ripe theMethod args0 below0 = true := by decide +kernel
theorem w_running : about1.status = .running := rfl
set_option maxRecDepth 65536 in
theorem w_room : about1.hasRoom e0.platform room_1 = true :=
  launch0.hasRoom_least _ room_1 (by decide +kernel) (by decide +kernel) (by decide +kernel) (by decide +kernel) (by decide +kernel) (by decide +kernel)
theorem allAtoms_all (ts : List Jvm.Cond) (a : Array Jvm.Value) (st : Jvm.State) : (allAtoms ts).before a st = ts.all (fun c => c.before a st) := by
  induction ts with
  | nil => rfl
  | cons c t ih =>
    show (Jvm.Cond.and c (allAtoms t)).before a st = _
    rw [Jvm.Cond.before_and, ih, List.all_cons]
def words1 : List Jvm.Cond := Jvm.Cond.code x code maxLocals ret :: tables_1
/-- a 'code' word, met by the world's own term for the bytes: nothing is compared byte by byte -/
theorem code_word {y : MethodName} {bytes : ByteArray} {mx : Nat} {rt : Option FieldType} {a : Array Value} {s : State} {m : MethodId} {meth : Method} {c : Code} (h1 : s.methodNamed? y = some m) (h2 : s.vm.method? m = some meth) (h3 : meth.code = some c) (h4 : c.code = bytes)
    (h5 : (c.maxLocals == mx && c.exceptionTable.isEmpty && decide (c.maxStack ≤ mostOperands) && decide (meth.sig.returnType = rt) && !meth.locks && decide (parseMethodDescriptor y.desc = some meth.sig)) = true) : (Jvm.Cond.code y bytes mx rt).before a s = true := by
  simp only [Bool.and_eq_true, beq_iff_eq, Bool.not_eq_true', decide_eq_true_eq] at h5
  obtain ⟨⟨⟨⟨⟨g1, g2⟩, g3⟩, g4⟩, g5⟩, g6⟩ := h5
  simp [Cond.before, Cond.holds, Cond.value, h1, h2, h3, h4, g1, g2, g3, g4, g5, g6]
def isCode : Jvm.Cond → Bool
  | .code _ _ _ _ => true
  | _ => false
theorem all_split {L : List Jvm.Cond} {P : Jvm.Cond → Bool} (h1 : L.all (fun c => isCode c || P c) = true) (h2 : ∀ c ∈ L.filter isCode, P c = true) : L.all P = true := by
  refine List.all_eq_true.mpr fun c hc => ?_
  have h := List.all_eq_true.mp h1 c hc
  rcases Bool.eq_false_or_eq_true (isCode c) with hi | hi
  · exact h2 c (List.mem_filter.mpr ⟨hc, hi⟩)
  · simpa [hi] using h
set_option maxRecDepth 65536 in
theorem w_c0 : (Jvm.Cond.code x code maxLocals ret).before args0 about1 = true := code_word (m := ⟨1, 1⟩) (meth := k1m1) (c := k1c1) (by decide +kernel) rfl rfl rfl (by decide +kernel)
set_option maxRecDepth 65536 in
theorem w_c1 : (Jvm.Cond.code ({ cls := "com/example/ringshift/ringshift/net/KeyChangeStep", name := "endsPhase", desc := "()Z" } : Jvm.MethodName) prog_91_method_5_code (1 : Nat) (Option.some Jvm.ClassFile.FieldType.boolean)).before args0 about1 = true := code_word (m := ⟨6, 0⟩) (meth := k6m0) (c := k6c0) (by decide +kernel) rfl rfl rfl (by decide +kernel)
def codes1 : List Jvm.Cond := [Jvm.Cond.code x code maxLocals ret, Jvm.Cond.code ({ cls := "com/example/ringshift/ringshift/net/KeyChangeStep", name := "endsPhase", desc := "()Z" } : Jvm.MethodName) prog_91_method_5_code (1 : Nat) (Option.some Jvm.ClassFile.FieldType.boolean)]
set_option maxRecDepth 65536 in
theorem codes_eq : words1.filter isCode = codes1 := rfl
theorem w_codes : ∀ c ∈ words1.filter isCode, c.before args0 about1 = true := by
  rw [codes_eq]
  intro c hc
  simp only [codes1, List.mem_cons, List.not_mem_nil, or_false] at hc
  rcases hc with rfl | rfl
  · exact w_c0
  · exact w_c1
set_option maxRecDepth 65536 in
theorem w_t1 : (words1.take 24).all (fun c => isCode c || c.before args0 about1) = true := by decide +kernel
set_option maxRecDepth 65536 in
theorem w_t2 : (words1.drop 24).all (fun c => isCode c || c.before args0 about1) = true := by decide +kernel
theorem w_tables : (allAtoms (Jvm.Cond.code x code maxLocals ret :: tables_1)).before args0 about1 = true := by
  rw [allAtoms_all]
  show words1.all (fun c => c.before args0 about1) = true
  refine all_split ?_ w_codes
  rw [← List.take_append_drop 24 words1, List.all_append, w_t1, w_t2]
  rfl
set_option maxRecDepth 65536 in
theorem w_case : (Jvm.Cond.and given_1 narrow_1).before args0 about1 = true := by decide +kernel
theorem w_applies : (headSpec (Jvm.Cond.code x code maxLocals ret :: tables_1) room_1).applies x e0.platform about1 = true :=
  (Spec.applies_iff w_frames).mpr ⟨w_running, w_runnable, w_alone, w_named, w_hears, w_ripe, w_room, w_tables⟩
theorem atStart : AtStart classFile x code maxLocals ret World_1 tables_1 room_1 Calls_1 rest_1 Pre_1 launch0 p0 e0 about1 theMethod args0 below0 :=
  ⟨lists_1, trivial, launch0.admits_env _ _ _, launch0.least_env, fairChoices_fair.cas, fairChoices_fair.clock, w_frames, w_args, w_heap, w_applies, trivial, trivial, w_case⟩
end start1
theorem witness_1 : WitnessClaimed_1 := ⟨start1.p0, start1.e0, start1.about1, start1.theMethod, start1.args0, start1.below0, start1.atStart⟩
end Jvm.Pilot.@@N@@
