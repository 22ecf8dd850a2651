import JvmDerived
import JvmDerived.Pilot.@@N@@Statement
import JvmDerived.Pilot.@@N@@Code
set_option linter.unusedVariables false
set_option linter.unusedSimpArgs false
namespace Jvm.Pilot.@@N@@
open Jvm Jvm.ClassFile Sem Op Lib Jvm.Free Jvm.Stand Jvm.LawKit Jvm.RoadKit Bundle Jvm.Pilot.@@N@@.Jvm.D
/-! own kit: a walk told forwards -/
section OwnKit
variable {p : Program} {l : Launch} {e : Env} {R : Room} {s : State} {m : MethodId} {args : Array Value} {below : List Frame} {meth : Method} {c : Code} {T : State} {locs : List Loc} {cells slots : Nat} {Z : State} {a0 : Array Value} {h : Heap}
/-- from here the run comes to an end of which K speaks -/
def own_Goes (p : Program) (e : Env) (below : List Frame) (K : Outcome → State → Prop) (T : State) (g : JFrame) : Prop :=
  ∃ s₂ o, Steps p.tables e below (T.setTop g) s₂ ∧ s₂.status = .running ∧ Ended s₂ below o ∧ K o s₂
theorem own_step {K : Outcome → State → Prop} {T' : State} {g g' : JFrame} (st : ∀ t, Steps p.tables e below (T'.setTop g') t → Steps p.tables e below (T.setTop g) t) (hg : own_Goes p e below K T' g') : own_Goes p e below K T g := by
  obtain ⟨s2, o, a, b⟩ := hg
  exact ⟨s2, o, st _ a, b⟩
theorem own_castG {K : Outcome → State → Prop} {g g' : JFrame} (q : g = g') (hg : own_Goes p e below K T g') : own_Goes p e below K T g := q ▸ hg
def own_K (s : State) (Q : Option Value → Heap → List Loc → Prop) (rc rs : Nat) : Outcome → State → Prop := fun o u => ∃ v L, o = .returned v ∧ Q v u.heap L ∧ FrameEnd s o u L rc rs
def own_Met (l : Launch) (Z : State) (y : MethodName) (bytes : ByteArray) (maxL : Nat) (ret : Option FieldType) (ws : List Jvm.Cond) (rm : Room) (as' : Array Value) (h0 : Heap) (Q : Option Value → Heap → List Loc → Prop) : Prop :=
  MetFree l y (head1 (Jvm.Cond.code y bytes maxL ret :: ws) rm) (fun a U => a = as' ∧ Z.Warmed39 U.vm ∧ U.heap = h0) (fun _ _ _ _ _ => True) (fun _ U o U' => ∃ v L, o = .returned v ∧ Q v U'.heap L ∧ FrameEnd U o U' L rm.cells rm.slots)
theorem own_body {y : MethodName} {bytes : ByteArray} {maxL : Nat} {ret : Option FieldType} {ws : List Jvm.Cond} {rm : Room} {as' : Array Value} {h0 : Heap} {Q : Option Value → Heap → List Loc → Prop} (hp : plainFor y = true)
    (body : ∀ (p : Program) (e : Env) (s : State) (m : MethodId) (below : List Frame) (meth : Method) (c : Code) (s₁ : State), p.tables.exec = Jvm.exec → c.code = bytes → c.maxLocals = maxL → meth.sig.returnType = ret → meth.locks = false → s.vm.findClass y.cls = some m.cls → meth.name = y.name → Z.Warmed39 s.vm →
      Stand p l e rm s m as' below meth c s₁ [] 0 0 → s₁.heap = h0 → own_Goes p e below (own_K s Q rm.cells rm.slots) s₁ (entryFrame m as' maxL)) : own_Met l Z y bytes maxL ret ws rm as' h0 Q := by
  refine MetFree.of_bodySF hp hisR ?_
  intro p e s m args below meth c s₁ Bd hml0 hP hK
  obtain ⟨rfl, hZ, hh⟩ := hP
  exact body p e s m below meth c s₁ Bd.exec Bd.bytes hml0 Bd.returns (BodyLoose.notSynchronized Bd) (findClass_of_methodNamed Bd.named) (name_of_methodNamed Bd.named Bd.method).1 hZ (Stand.of_body Bd) (by rw [← hh, Bd.state]; rfl)
theorem own_out (X : Stand p l e R s m args below meth c T locs cells slots) (hlk : meth.locks = false) {v : Option Value} (hv : meth.sig.returnType = none → v = none) {Q : Option Value → Heap → List Loc → Prop} {rc rs : Nat} {g : JFrame}
    (st : ∀ fs, (∀ (f : JFrame) (acts : List Action), f.method = m → f.locked = none → f.entered = [] → (doReturn e (T.setTop f) acts v).1 = T.setFrames fs) → Steps p.tables e below (T.setTop g) (T.setFrames fs))
    (hQ : Q v T.heap locs) (hc : cells ≤ rc) (hs : slots ≤ rs) : own_Goes p e below (own_K s Q rc rs) T g := by
  obtain ⟨fs, hr, hrun, hended, hW, hsame⟩ := X.leave (v := v) hv hlk
  exact ⟨_, _, st fs hr, hrun, hended, v, locs, rfl, hQ, ⟨_, rfl⟩, hW, hsame.mono hc hs⟩
theorem own_retN (X : Stand p l e R s m args below meth c T locs cells slots) (hx : p.tables.exec = Jvm.exec) (hlk : meth.locks = false) {pc : Nat} {Ls : Array Slot} {z : Int32} {t : FieldType} {rest : List Value} (hret : meth.sig.returnType = some t) (ht : t = .boolean ∨ t = .byte ∨ t = .char ∨ t = .short)
    (hd : decode c.code pc = .ok (.ireturn, 1)) {Q : Option Value → Heap → List Loc → Prop} {rc rs : Nat} (hQ : Q (some (.int (nar t z))) T.heap locs) (hc : cells ≤ rc) (hs : slots ≤ rs) : own_Goes p e below (own_K s Q rc rs) T (mkF m pc Ls (.int z :: rest)) :=
  own_out X hlk (fun q => by rw [hret] at q; cases q) (fun fs hr => retN X hx hret ht hd hr) hQ hc hs
theorem own_retI (X : Stand p l e R s m args below meth c T locs cells slots) (hx : p.tables.exec = Jvm.exec) (hlk : meth.locks = false) {pc : Nat} {Ls : Array Slot} {z : Int32} {rest : List Value} (hret : meth.sig.returnType = some .int)
    (hd : decode c.code pc = .ok (.ireturn, 1)) {Q : Option Value → Heap → List Loc → Prop} {rc rs : Nat} (hQ : Q (some (.int z)) T.heap locs) (hc : cells ≤ rc) (hs : slots ≤ rs) : own_Goes p e below (own_K s Q rc rs) T (mkF m pc Ls (.int z :: rest)) :=
  own_out X hlk (fun q => by rw [hret] at q; cases q) (fun fs hr => retOut X hx hret rfl (Or.inl ⟨rfl, Or.inl rfl, z, rfl⟩) hd hr) hQ hc hs
theorem own_retL (X : Stand p l e R s m args below meth c T locs cells slots) (hx : p.tables.exec = Jvm.exec) (hlk : meth.locks = false) {pc : Nat} {Ls : Array Slot} {z : Int64} {rest : List Value} (hret : meth.sig.returnType = some .long)
    (hd : decode c.code pc = .ok (.lreturn, 1)) {Q : Option Value → Heap → List Loc → Prop} {rc rs : Nat} (hQ : Q (some (.long z)) T.heap locs) (hc : cells ≤ rc) (hs : slots ≤ rs) : own_Goes p e below (own_K s Q rc rs) T (mkF m pc Ls (.long z :: rest)) :=
  own_out X hlk (fun q => by rw [hret] at q; cases q) (fun fs hr => retOut X hx hret rfl (Or.inr (Or.inl ⟨rfl, rfl, z, rfl⟩)) hd hr) hQ hc hs
theorem own_retA (X : Stand p l e R s m args below meth c T locs cells slots) (hx : p.tables.exec = Jvm.exec) (hlk : meth.locks = false) {pc : Nat} {Ls : Array Slot} {w : Value} {t : FieldType} {rest : List Value} (hret : meth.sig.returnType = some t) (hn : narrow t w = w) (ht : t.isReference = true) (hw : w.isRef = true)
    (hd : decode c.code pc = .ok (.areturn, 1)) {Q : Option Value → Heap → List Loc → Prop} {rc rs : Nat} (hQ : Q (some w) T.heap locs) (hc : cells ≤ rc) (hs : slots ≤ rs) : own_Goes p e below (own_K s Q rc rs) T (mkF m pc Ls (w :: rest)) :=
  own_out X hlk (fun q => by rw [hret] at q; cases q) (fun fs hr => retOut X hx hret hn (Or.inr (Or.inr (Or.inr (Or.inr ⟨rfl, ht, hw⟩)))) hd hr) hQ hc hs
theorem own_retV (X : Stand p l e R s m args below meth c T locs cells slots) (hx : p.tables.exec = Jvm.exec) (hlk : meth.locks = false) {pc : Nat} {Ls : Array Slot} (hret : meth.sig.returnType = none)
    (hd : decode c.code pc = .ok (.return_, 1)) {Q : Option Value → Heap → List Loc → Prop} {rc rs : Nat} (hQ : Q none T.heap locs) (hc : cells ≤ rc) (hs : slots ≤ rs) : own_Goes p e below (own_K s Q rc rs) T (mkF m pc Ls []) :=
  own_out X hlk (fun _ => rfl) (fun fs hr => X.returnOut hx hret hd hr) hQ hc hs
theorem own_callS (X : Stand p l e R s m args below meth c T locs cells slots) (hx : p.tables.exec = Jvm.exec) (hZ : Z.Warmed39 s.vm) {own : String} {index : Nat} {y : MethodName} {bytes : ByteArray} {maxL : Nat} {ret : Option FieldType} (hown : s.vm.findClass own = some m.cls)
    (w1 : (Jvm.Cond.methodLink own index y).before a0 Z = true) (w2 : (Jvm.Cond.static y).before a0 Z = true) (w3 : (Jvm.Cond.initialized y.cls).before a0 Z = true) (w4 : (Jvm.Cond.code y bytes maxL ret).before a0 Z = true) (hy : y.cls ≠ "java/lang/invoke/MethodHandle" ∧ y.cls ≠ "java/lang/invoke/VarHandle")
    {rm : Room} (W : Nat) (argsL rest : List Value) {Q : Option Value → Heap → List Loc → Prop} (hM : own_Met l Z y bytes maxL ret [] rm argsL.toArray h Q) (eT : T.heap = h)
    (hf : rm.frames + 1 ≤ R.frames) (hl : W + (maxL + 11) + rm.locals ≤ R.locals) (hc : cells + rm.cells ≤ R.cells) (hs : slots + rm.slots ≤ R.slots)
    {g : JFrame} (hg : g.method = m) (hsize : g.locals.size = c.maxLocals) {ps : List FieldType} {r : Option FieldType} (hpd : parseMethodDescriptor y.desc = some ⟨ps, r⟩) (hlen : argsL.length = ps.length)
    (hstack : g.stack = argsL.reverse ++ rest) (hW : 2 * g.monitorRoom + (rest.map fun v => v.category).sum ≤ W) (hd : decode c.code g.pc = .ok (.invokestatic index, 3))
    {K : Outcome → State → Prop} (go : ∀ T' v L, Stand p l e R s m args below meth c T' (locs ++ L) (cells + rm.cells) (slots + rm.slots) → Q v T'.heap L → own_Goes p e below K T' { g with pc := g.pc + 3, stack := v.toList ++ rest }) : own_Goes p e below K T g := by
  obtain ⟨v, _, ⟨T', L', k', n'⟩, -, X', ⟨Lc, hQ, l1, y1, z1⟩, st⟩ := Jvm.LawKit.callS X hx (y := y) hown (mvT hZ w1) (mvT hZ w2) (mvT hZ w3) (mvT hZ w4) hy (backOf (W := W) hM hZ w4 w3 hf hl) hg hsize (lenOf hpd hlen) hstack hW hd (fun _ _ => ⟨rfl, eT, hc, hs⟩)
  dsimp only [Pt.U, Pt.locs, Pt.cells, Pt.slots] at X' l1 y1 z1 st hQ
  subst l1 y1 z1
  exact own_step st (go _ _ _ X' hQ)
theorem own_callV (X : Stand p l e R s m args below meth c T locs cells slots) (hx : p.tables.exec = Jvm.exec) (hZ : Z.Warmed39 s.vm) {own C : String} {index : Nat} {y z : MethodName} {bytes : ByteArray} {maxL : Nat} {ret : Option FieldType} (hown : s.vm.findClass own = some m.cls)
    (w1 : (Jvm.Cond.methodLink own index y).before a0 Z = true) (w2 : (Jvm.Cond.declares y).before a0 Z = true) (nf : NotFace s y) (w3 : (Jvm.Cond.selects C y z).before a0 Z = true) (w4 : (Jvm.Cond.instanceMethod z).before a0 Z = true) (w5 : (Jvm.Cond.code z bytes maxL ret).before a0 Z = true) (w6 : (Jvm.Cond.initialized z.cls).before a0 Z = true)
    (hy : y.cls ≠ "java/lang/invoke/MethodHandle" ∧ y.cls ≠ "java/lang/invoke/VarHandle")
    {rm : Room} (W : Nat) {a : Addr} (E : Exa Z h a C) (argsL rest : List Value) {Q : Option Value → Heap → List Loc → Prop} (hM : own_Met l Z z bytes maxL ret [] rm (.ref a :: argsL).toArray h Q) (eT : T.heap = h)
    (hf : rm.frames + 1 ≤ R.frames) (hl : W + (maxL + 11) + rm.locals ≤ R.locals) (hc : cells + rm.cells ≤ R.cells) (hs : slots + rm.slots ≤ R.slots)
    {g : JFrame} (hg : g.method = m) (hsize : g.locals.size = c.maxLocals) {ps : List FieldType} {r : Option FieldType} (hpd : parseMethodDescriptor y.desc = some ⟨ps, r⟩) (hlen : argsL.length = ps.length)
    (hstack : g.stack = argsL.reverse ++ .ref a :: rest) (hW : 2 * g.monitorRoom + (rest.map fun v => v.category).sum ≤ W) (hd : decode c.code g.pc = .ok (.invokevirtual index, 3))
    {K : Outcome → State → Prop} (go : ∀ T' v L, Stand p l e R s m args below meth c T' (locs ++ L) (cells + rm.cells) (slots + rm.slots) → Q v T'.heap L → own_Goes p e below K T' { g with pc := g.pc + 3, stack := v.toList ++ rest }) : own_Goes p e below K T g := by
  obtain ⟨cq, kq, qa, qb, qc⟩ := isOf hZ eT E
  obtain ⟨v, _, ⟨T', L', k', n'⟩, -, X', ⟨Lc, hQ, l1, y1, z1⟩, st⟩ := X.virtualBack hx (y := y) (z := z) hown (mvT hZ w1) (mvT hZ w2) nf (mvT hZ w3) (mvT hZ w4) hy (backOf (W := W) hM hZ w5 w6 hf hl) qa qc hg hsize (Steps.refl _) (lenOf hpd hlen) hstack hW hd (fun _ _ => ⟨rfl, eT, hc, hs⟩)
  dsimp only [Pt.U, Pt.locs, Pt.cells, Pt.slots] at X' l1 y1 z1 st hQ
  subst l1 y1 z1
  exact own_step (fun t k => st.trans k) (go _ _ _ X' hQ)
theorem own_callC (X : Stand p l e R s m args below meth c T locs cells slots) (hx : p.tables.exec = Jvm.exec) (hZ : Z.Warmed39 s.vm) {own : String} {index : Nat} {y : MethodName} {bytes : ByteArray} {maxL : Nat} (hy1 : y.name = "<init>") (hown : s.vm.findClass own = some m.cls)
    (w1 : (Jvm.Cond.methodLink own index y).before a0 Z = true) (w2 : (Jvm.Cond.instanceMethod y).before a0 Z = true) (w3 : (Jvm.Cond.code y bytes maxL none).before a0 Z = true) (w4 : (Jvm.Cond.initialized y.cls).before a0 Z = true)
    (hy : y.cls ≠ "java/lang/invoke/MethodHandle" ∧ y.cls ≠ "java/lang/invoke/VarHandle")
    {rm : Room} (W : Nat) {a : Addr} (argsL rest : List Value) {Q : Option Value → Heap → List Loc → Prop} (hM : own_Met l Z y bytes maxL none [] rm (.ref a :: argsL).toArray h Q) (eT : T.heap = h)
    (hf : rm.frames + 1 ≤ R.frames) (hl : W + (maxL + 11) + rm.locals ≤ R.locals) (hc : cells + rm.cells ≤ R.cells) (hs : slots + rm.slots ≤ R.slots)
    {g : JFrame} (hg : g.method = m) (hsize : g.locals.size = c.maxLocals) {ps : List FieldType} {r : Option FieldType} (hpd : parseMethodDescriptor y.desc = some ⟨ps, r⟩) (hlen : argsL.length = ps.length)
    (hstack : g.stack = argsL.reverse ++ .ref a :: rest) (hW : 2 * g.monitorRoom + (rest.map fun v => v.category).sum ≤ W) (hd : decode c.code g.pc = .ok (.invokespecial index, 3))
    {K : Outcome → State → Prop} (go : ∀ T' v L, Stand p l e R s m args below meth c T' (locs ++ L) (cells + rm.cells) (slots + rm.slots) → Q v T'.heap L → own_Goes p e below K T' { g with pc := g.pc + 3, stack := v.toList ++ rest }) : own_Goes p e below K T g := by
  obtain ⟨v, _, ⟨T', L', k', n'⟩, -, X', ⟨Lc, hQ, l1, y1, z1⟩, st⟩ := X.specialBack hx (y := y) hy1 hown (mvT hZ w1) (mvT hZ w2) (mvT hZ w3) hy (backOf (W := W) hM hZ w3 w4 hf hl) hg hsize (Steps.refl _) (a := a) (lenOf hpd hlen) hstack hW hd (fun _ _ => ⟨rfl, eT, hc, hs⟩)
  dsimp only [Pt.U, Pt.locs, Pt.cells, Pt.slots] at X' l1 y1 z1 st hQ
  subst l1 y1 z1
  exact own_step (fun t k => st.trans k) (go _ _ _ X' hQ)
theorem own_fldI {t : Term} {C n d : String} {k : Int32} {a : Addr} (ev : t.eval args s none [] s = some (.ref a)) (hq : (Jvm.Cond.eq (.field t C n d) (.int k)).value args s none s [] = some true) : Fld s s.heap a C n d (.int k) := by
  have e1 := fld_at (C := C) (n := n) (dd := d) ev
  refine Fld.start ?_
  simp only [Jvm.Cond.value, e1, Term.int_eval] at hq
  cases hf : s.fieldOf? a C n d with
  | none => simp [hf] at hq
  | some v => cases v <;> simp [hf] at hq; rw [hq]
theorem own_callU (X : Stand p l e R s m args below meth c T locs cells slots) (hx : p.tables.exec = Jvm.exec) (hZ : Z.Warmed39 s.vm) {own C owner : String} {index : Nat} {y z : MethodName} {bytes : ByteArray} {maxL : Nat} {ret : Option FieldType} (hown : s.vm.findClass own = some m.cls)
    (w1 : (Jvm.Cond.methodLink own index y).before a0 Z = true) (w2 : (Jvm.Cond.sameMethod y.cls owner y.name y.desc).before a0 Z = true) (w2' : (Jvm.Cond.declares ⟨owner, y.name, y.desc⟩).before a0 Z = true) (w3 : (Jvm.Cond.selects C y z).before a0 Z = true) (w4 : (Jvm.Cond.instanceMethod z).before a0 Z = true) (w5 : (Jvm.Cond.code z bytes maxL ret).before a0 Z = true) (w6 : (Jvm.Cond.initialized z.cls).before a0 Z = true)
    (hy : owner ≠ "java/lang/invoke/MethodHandle" ∧ owner ≠ "java/lang/invoke/VarHandle")
    {rm : Room} (W : Nat) {a : Addr} (E : Exa Z h a C) (argsL rest : List Value) {Q : Option Value → Heap → List Loc → Prop} (hM : own_Met l Z z bytes maxL ret [] rm (.ref a :: argsL).toArray h Q) (eT : T.heap = h)
    (hf : rm.frames + 1 ≤ R.frames) (hl : W + (maxL + 11) + rm.locals ≤ R.locals) (hc : cells + rm.cells ≤ R.cells) (hs : slots + rm.slots ≤ R.slots)
    {g : JFrame} (hg : g.method = m) (hsize : g.locals.size = c.maxLocals) {ps : List FieldType} {r : Option FieldType} (hpd : parseMethodDescriptor y.desc = some ⟨ps, r⟩) (hlen : argsL.length = ps.length)
    (hstack : g.stack = argsL.reverse ++ .ref a :: rest) (hW : 2 * g.monitorRoom + (rest.map fun v => v.category).sum ≤ W) (hd : decode c.code g.pc = .ok (.invokevirtual index, 3))
    {K : Outcome → State → Prop} (go : ∀ T' v L, Stand p l e R s m args below meth c T' (locs ++ L) (cells + rm.cells) (slots + rm.slots) → Q v T'.heap L → own_Goes p e below K T' { g with pc := g.pc + 3, stack := v.toList ++ rest }) : own_Goes p e below K T g := by
  obtain ⟨cq, kq, qa, qb, qc⟩ := isOf hZ eT E
  obtain ⟨v, _, ⟨T', L', k', n'⟩, -, X', ⟨Lc, hQ, l1, y1, z1⟩, st⟩ := X.virtualBackUp hx (x := y) (y := z) hown (mvT hZ w1) (mvT hZ w2) (mvT hZ w2') hy (mvT hZ w3) (mvT hZ w4) (backOf (W := W) hM hZ w5 w6 hf hl) qa qc hg hsize (Steps.refl _) (lenOf hpd hlen) hstack hW hd (fun _ _ => ⟨rfl, eT, hc, hs⟩)
  dsimp only [Pt.U, Pt.locs, Pt.cells, Pt.slots] at X' l1 y1 z1 st hQ
  subst l1 y1 z1
  exact own_step (fun t k => st.trans k) (go _ _ _ X' hQ)
theorem own_aaload (X : Stand p l e R s m args below meth c T locs cells slots) (hx : p.tables.exec = Jvm.exec) (hZ : Z.Warmed39 s.vm) (eT : T.heap = h) {a : Addr} {k : ClassId} {ty : FieldType} {n : Int32} {vs : List Value} {dv : Value} (F : Arv Z h a k ty n vs dv) (hty : ty.isReference = true) {j : Int32} (v : Value) (hj : ¬ j < 0 ∧ j < n) (hv : vs.getD j.toNatClampNeg dv = v)
    {g : JFrame} (hg : g.method = m) {rest : List Value} (hs : g.stack = .int j :: .ref a :: rest) (hd : decode c.code g.pc = .ok (.aaload, 1)) : ∀ t, Steps p.tables e below (T.setTop { g with pc := g.pc + 1, stack := v :: rest }) t → Steps p.tables e below (T.setTop g) t := by
  obtain ⟨cl, A, q1, S, q3, H, G⟩ := F
  have hin := inb_of S hj
  exact fun t kk => X.aaload hx (by rw [eT]; exact A.1) (State.isArrayOf_alike hZ.alike A.2.1) hty A.2.2 hin (H.at hin hv) hg hs hd t kk
theorem own_aastore (X : Stand p l e R s m args below meth c T locs cells slots) (hx : p.tables.exec = Jvm.exec) (hZ : Z.Warmed39 s.vm) (eT : T.heap = h) {a : Addr} {k : ClassId} {C : String} {n : Int32} {vs : List Value} {dv : Value} (F : Arv Z h a k (.object C) n vs dv) (O : Ovr Z k C) {y : Addr} (I : Ins Z h y C true) {j : Int32} (hj : ¬ j < 0 ∧ j < n) (i : Nat) (hi : j.toNatClampNeg = i) (hl : i < vs.length)
    {g : JFrame} (hg : g.method = m) {rest : List Value} (hs : g.stack = .ref y :: .int j :: .ref a :: rest) (hd : decode c.code g.pc = .ok (.aastore, 1)) :
    ∃ T' h', Stand p l e R s m args below meth c T' (locs ++ [⟨a, j.toNatClampNeg⟩]) cells slots ∧ T'.heap = h' ∧ Wr h h' a j.toNatClampNeg (.ref y) ∧ Arv Z h' a k (.object C) n (vs.set i (.ref y)) dv ∧ ∀ target, Steps p.tables e below (T'.setTop { g with pc := g.pc + 1, stack := rest }) target → Steps p.tables e below (T.setTop g) target := by
  obtain ⟨cl, A, q1, S, q3, H, G⟩ := F
  obtain ⟨T', h', X', e', W', st⟩ := stR X hx hZ eT A (inb_of S hj) rfl (Sto.ofV A q1 O I) hg hs hd
  exact ⟨T', h', X', e', W', Arv.set A q1 S q3 H G rfl W' i hi hl, st⟩
theorem own_staKeep {C n d : String} {v : Value} {h' : Heap} {ws : List Addr} (F : Sta Z h C n d v) (K : Keep h h' ws) (q : ∀ x ∈ ws, ∀ cell : Cell, h[x]? = some cell → cell.vm.isStatics = false) : Sta Z h' C n d v := by
  obtain ⟨cf, i, k, f, st, cell, h1, h2, h3, h4, h5, h6, h7⟩ := F
  refine ⟨cf, i, k, f, st, cell, h1, h2, h3, h4, K.2.1 _ _ h5 (fun z => ?_), h6, h7⟩
  have := q _ z _ h5
  rw [h6] at this; cases this
end OwnKit
theorem own_pn_java_lang_Record : plainName "java/lang/Record" = true := by first | (simp [plainName, overriddenIn]; done) | decide +kernel
theorem own_ef0 (m : MethodId) (x0 : Addr) : entryFrame m #[(.ref x0)] 1 = mkF m 0 #[.val (.ref x0)] [] := by first | (simp [entryFrame, mkF, argsToLocals, Value.category]; done) | rfl
theorem own_jdk_30_method_1_0 : decode jdk_30_method_1_code 0 = .ok (.aload_n 0, 1) := by decide +kernel
theorem own_jdk_30_method_1_1 : decode jdk_30_method_1_code 1 = .ok (.invokespecial 1, 3) := by decide +kernel
theorem own_jdk_30_method_1_4 : decode jdk_30_method_1_code 4 = .ok (.return_, 1) := by decide +kernel
set_option maxRecDepth 65536 in
set_option maxHeartbeats 40000000 in
theorem own_rec (l : Launch) (Z : State) (a0 : Array Value) (hw : ∀ d ∈ tables_1, d.before a0 Z = true) (ws : List Jvm.Cond) (a : Addr) (h0 : Heap) (n0 : Nat) (Z0 : n0 ≤ h0.size) :
    own_Met l Z (⟨"java/lang/Record", "<init>", "()V"⟩ : MethodName) jdk_30_method_1_code 1 none ws ({ frames := 1, cells := 0, slots := 0, locals := 12 } : Room) #[(.ref a)] h0 (fun v h L => v = none ∧ Fr n0 L ∧ h = h0) := by
  refine own_body (plainFor_of_name own_pn_java_lang_Record) (fun p e s m below meth c s₁ hx hby hml0 hrt hlk hown0 hnm hZ X0 e0 => ?_)
  have N0 := Fr.nil n0
  have hown : s.vm.findClass "java/lang/Record" = some m.cls := hown0
  have hml : c.maxLocals = 1 := hml0
  refine own_castG (own_ef0 m a) ?_
  show own_Goes _ _ _ _ s₁ (mkF m 0 #[.val (.ref a)] [])
  refine own_step (fun t k => XS.aloadN X0.here hx rfl (hb hby own_jdk_30_method_1_0) rfl rfl k) ?_
  show own_Goes _ _ _ _ s₁ (mkF m 1 #[.val (.ref a)] [(.ref a)])
  obtain ⟨T1, X1, e1, st1⟩ := initO X0 hx hZ hown (hw _ (List.mem_of_getElem? (i := 14) rfl)) (hw _ (List.mem_of_getElem? (i := 15) rfl)) (hw _ (List.mem_of_getElem? (i := 16) rfl)) e0 (g := (mkF m 1 #[.val (.ref a)] [(.ref a)])) rfl (by rw [hml]; rfl) rfl (hb hby own_jdk_30_method_1_1) (by decide) (W := 0) (by show 2 * 0 + _ ≤ _; exact Nat.le_of_eq rfl) (by decide)
  refine own_step st1 ?_
  show own_Goes _ _ _ _ T1 (mkF m 4 #[.val (.ref a)] [])
  exact own_retV X1 hx hlk hrt (hb hby own_jdk_30_method_1_4) ⟨rfl, N0, e1⟩ (by decide) (by decide)
theorem own_pn_com_example_weaverbird_weaverbird_automaton_Acceptance_Atom : plainName "com/example/weaverbird/weaverbird/automaton/Acceptance$Atom" = true := by first | (simp [plainName, overriddenIn]; done) | decide +kernel
theorem own_ef1 (m : MethodId) (x0 : Addr) (x1 : Addr) (x2 : Int32) (x3 : Int32) : entryFrame m #[(.ref x0), (.ref x1), (.int x2), (.int x3)] 4 = mkF m 0 #[.val (.ref x0), .val (.ref x1), .val (.int x2), .val (.int x3)] [] := by first | (simp [entryFrame, mkF, argsToLocals, Value.category]; done) | rfl
theorem own_prog_3_method_1_0 : decode prog_3_method_1_code 0 = .ok (.aload_n 0, 1) := by decide +kernel
theorem own_prog_3_method_1_1 : decode prog_3_method_1_code 1 = .ok (.invokespecial 1, 3) := by decide +kernel
theorem own_pd0 : parseMethodDescriptor "()V" = some ⟨[], none⟩ := by decide +kernel
theorem own_prog_3_method_1_4 : decode prog_3_method_1_code 4 = .ok (.aload_n 0, 1) := by decide +kernel
theorem own_prog_3_method_1_5 : decode prog_3_method_1_code 5 = .ok (.aload_n 1, 1) := by decide +kernel
theorem own_prog_3_method_1_6 : decode prog_3_method_1_code 6 = .ok (.putfield 7, 3) := by decide +kernel
theorem own_prog_3_method_1_9 : decode prog_3_method_1_code 9 = .ok (.aload_n 0, 1) := by decide +kernel
theorem own_prog_3_method_1_10 : decode prog_3_method_1_code 10 = .ok (.iload_n 2, 1) := by decide +kernel
theorem own_prog_3_method_1_11 : decode prog_3_method_1_code 11 = .ok (.putfield 13, 3) := by decide +kernel
theorem own_prog_3_method_1_14 : decode prog_3_method_1_code 14 = .ok (.aload_n 0, 1) := by decide +kernel
theorem own_prog_3_method_1_15 : decode prog_3_method_1_code 15 = .ok (.iload_n 3, 1) := by decide +kernel
theorem own_prog_3_method_1_16 : decode prog_3_method_1_code 16 = .ok (.putfield 17, 3) := by decide +kernel
theorem own_prog_3_method_1_19 : decode prog_3_method_1_code 19 = .ok (.return_, 1) := by decide +kernel
set_option maxRecDepth 65536 in
set_option maxHeartbeats 40000000 in
theorem own_init0 (l : Launch) (Z : State) (a0 : Array Value) (hw : ∀ d ∈ tables_1, d.before a0 Z = true) (ws : List Jvm.Cond) (a : Addr) (k : Addr) (pv : Int32) (h0 : Heap) (n0 : Nat) (Z0 : n0 ≤ h0.size) (E_a : Exa Z h0 a "com/example/weaverbird/weaverbird/automaton/Acceptance$Atom") (F_a_kind : Fld Z h0 a "com/example/weaverbird/weaverbird/automaton/Acceptance$Atom" "kind" "Lcom/example/weaverbird/weaverbird/automaton/Acceptance$Kind;" .null) (F_a_set : Fld Z h0 a "com/example/weaverbird/weaverbird/automaton/Acceptance$Atom" "set" "I" (.int (0 : Int32))) (F_a_complemented : Fld Z h0 a "com/example/weaverbird/weaverbird/automaton/Acceptance$Atom" "complemented" "Z" (.int (0 : Int32))) (g_a : n0 ≤ a) :
    own_Met l Z (⟨"com/example/weaverbird/weaverbird/automaton/Acceptance$Atom", "<init>", "(Lcom/example/weaverbird/weaverbird/automaton/Acceptance$Kind;IZ)V"⟩ : MethodName) prog_3_method_1_code 4 none ws ({ frames := 2, cells := 0, slots := 0, locals := 24 } : Room) #[(.ref a), (.ref k), (.int pv), (.int (0 : Int32))] h0 (fun v h L => v = none ∧ Fr n0 L ∧ Keep h0 h [a] ∧ Exa Z h a "com/example/weaverbird/weaverbird/automaton/Acceptance$Atom" ∧ Fld Z h a "com/example/weaverbird/weaverbird/automaton/Acceptance$Atom" "set" "I" (.int pv) ∧ Fld Z h a "com/example/weaverbird/weaverbird/automaton/Acceptance$Atom" "complemented" "Z" (.int (0 : Int32))) := by
  refine own_body (plainFor_of_name own_pn_com_example_weaverbird_weaverbird_automaton_Acceptance_Atom) (fun p e s m below meth c s₁ hx hby hml0 hrt hlk hown0 hnm hZ X0 e0 => ?_)
  have N0 := Fr.nil n0
  have hown : s.vm.findClass "com/example/weaverbird/weaverbird/automaton/Acceptance$Atom" = some m.cls := hown0
  have hml : c.maxLocals = 4 := hml0
  refine own_castG (own_ef1 m a k pv (0 : Int32)) ?_
  show own_Goes _ _ _ _ s₁ (mkF m 0 #[.val (.ref a), .val (.ref k), .val (.int pv), .val (.int (0 : Int32))] [])
  refine own_step (fun t k => XS.aloadN X0.here hx rfl (hb hby own_prog_3_method_1_0) rfl rfl k) ?_
  show own_Goes _ _ _ _ s₁ (mkF m 1 #[.val (.ref a), .val (.ref k), .val (.int pv), .val (.int (0 : Int32))] [(.ref a)])
  refine own_callC X0 hx hZ (y := (⟨"java/lang/Record", "<init>", "()V"⟩ : MethodName)) rfl hown (hw _ (List.mem_of_getElem? (i := 9) rfl)) (hw _ (List.mem_of_getElem? (i := 10) rfl)) (hw _ (List.mem_of_getElem? (i := 13) rfl)) (hw _ (List.mem_of_getElem? (i := 12) rfl)) (by decide) 0 (a := a) [] [] (own_rec l Z a0 hw [] a h0 n0 Z0 ) e0 (by decide) (by decide) (by decide) (by decide) (g := (mkF m 1 #[.val (.ref a), .val (.ref k), .val (.int pv), .val (.int (0 : Int32))] [(.ref a)])) rfl (by rw [hml]; rfl) own_pd0 rfl rfl (by show 2 * 0 + _ ≤ _; exact Nat.le_of_eq rfl) (hb hby own_prog_3_method_1_1) ?_
  intro T1 v1 L1 X1 hQ1
  obtain ⟨rfl, N1q, e1⟩ := hQ1
  have N1 := Fr.app N0 N1q
  show own_Goes _ _ _ _ T1 (mkF m 4 #[.val (.ref a), .val (.ref k), .val (.int pv), .val (.int (0 : Int32))] [])
  refine own_step (fun t k => XS.aloadN X1.here hx rfl (hb hby own_prog_3_method_1_4) rfl rfl k) ?_
  show own_Goes _ _ _ _ T1 (mkF m 5 #[.val (.ref a), .val (.ref k), .val (.int pv), .val (.int (0 : Int32))] [(.ref a)])
  refine own_step (fun t k => XS.aloadN X1.here hx rfl (hb hby own_prog_3_method_1_5) rfl rfl k) ?_
  show own_Goes _ _ _ _ T1 (mkF m 6 #[.val (.ref a), .val (.ref k), .val (.int pv), .val (.int (0 : Int32))] [(.ref k), (.ref a)])
  obtain ⟨T2, h2, X2, e2, W2, st2⟩ := putF X1 hx hZ hown (host := "") (Or.inl (hw _ (List.mem_of_getElem? (i := 17) rfl))) Via.refl e1 F_a_kind E_a (Or.inr ⟨(hw _ (List.mem_of_getElem? (i := 18) rfl)), rfl, hnm⟩) (hw _ (List.mem_of_getElem? (i := 4) rfl)) (ty := (.object "com/example/weaverbird/weaverbird/automaton/Acceptance$Kind")) (by decide) rfl rfl (g := (mkF m 6 #[.val (.ref a), .val (.ref k), .val (.int pv), .val (.int (0 : Int32))] [(.ref k), (.ref a)])) rfl rfl (hb hby own_prog_3_method_1_6)
  refine own_step st2 ?_
  have F2 := F_a_kind.same W2
  have K2 := (Keep.refl h0 [a]).wr W2 (Or.inl (List.mem_of_getElem? (i := 0) rfl))
  have N2 := Fr.snoc X2 N1 g_a
  show own_Goes _ _ _ _ T2 (mkF m 9 #[.val (.ref a), .val (.ref k), .val (.int pv), .val (.int (0 : Int32))] [])
  refine own_step (fun t k => XS.aloadN X2.here hx rfl (hb hby own_prog_3_method_1_9) rfl rfl k) ?_
  show own_Goes _ _ _ _ T2 (mkF m 10 #[.val (.ref a), .val (.ref k), .val (.int pv), .val (.int (0 : Int32))] [(.ref a)])
  refine own_step (fun t k => XS.iloadN X2.here hx rfl (hb hby own_prog_3_method_1_10) rfl k) ?_
  show own_Goes _ _ _ _ T2 (mkF m 11 #[.val (.ref a), .val (.ref k), .val (.int pv), .val (.int (0 : Int32))] [(.int pv), (.ref a)])
  have E_a_v4 := (E_a.wr W2)
  have F_a_set_v5 := (F_a_set.other W2 (Or.inr (slot_ne (Or.inr (hw _ (List.mem_of_getElem? (i := 20) rfl))) (Or.inr (hw _ (List.mem_of_getElem? (i := 18) rfl))) (by decide) (t := .int) (t' := (.object "com/example/weaverbird/weaverbird/automaton/Acceptance$Kind")) (by decide) (by decide))))
  obtain ⟨T3, h3, X3, e3, W3, st3⟩ := putF X2 hx hZ hown (host := "") (Or.inl (hw _ (List.mem_of_getElem? (i := 19) rfl))) Via.refl e2 F_a_set_v5 E_a_v4 (Or.inr ⟨(hw _ (List.mem_of_getElem? (i := 20) rfl)), rfl, hnm⟩) (hw _ (List.mem_of_getElem? (i := 4) rfl)) (ty := .int) (by decide) rfl rfl (g := (mkF m 11 #[.val (.ref a), .val (.ref k), .val (.int pv), .val (.int (0 : Int32))] [(.int pv), (.ref a)])) rfl rfl (hb hby own_prog_3_method_1_11)
  refine own_step st3 ?_
  have F3 := F_a_set_v5.same W3
  have K3 := K2.wr W3 (Or.inl (List.mem_of_getElem? (i := 0) rfl))
  have N3 := Fr.snoc X3 N2 g_a
  show own_Goes _ _ _ _ T3 (mkF m 14 #[.val (.ref a), .val (.ref k), .val (.int pv), .val (.int (0 : Int32))] [])
  refine own_step (fun t k => XS.aloadN X3.here hx rfl (hb hby own_prog_3_method_1_14) rfl rfl k) ?_
  show own_Goes _ _ _ _ T3 (mkF m 15 #[.val (.ref a), .val (.ref k), .val (.int pv), .val (.int (0 : Int32))] [(.ref a)])
  refine own_step (fun t k => XS.iloadN X3.here hx rfl (hb hby own_prog_3_method_1_15) rfl k) ?_
  show own_Goes _ _ _ _ T3 (mkF m 16 #[.val (.ref a), .val (.ref k), .val (.int pv), .val (.int (0 : Int32))] [(.int (0 : Int32)), (.ref a)])
  have E_a_v7 := (E_a_v4.wr W3)
  have F_a_complemented_v8 := ((F_a_complemented.other W2 (Or.inr (slot_ne (Or.inr (hw _ (List.mem_of_getElem? (i := 22) rfl))) (Or.inr (hw _ (List.mem_of_getElem? (i := 18) rfl))) (by decide) (t := .boolean) (t' := (.object "com/example/weaverbird/weaverbird/automaton/Acceptance$Kind")) (by decide) (by decide)))).other W3 (Or.inr (slot_ne (Or.inr (hw _ (List.mem_of_getElem? (i := 22) rfl))) (Or.inr (hw _ (List.mem_of_getElem? (i := 20) rfl))) (by decide) (t := .boolean) (t' := .int) (by decide) (by decide))))
  obtain ⟨T6, h6, X6, e6, W6, st6⟩ := putFN X3 hx hZ hown (hw _ (List.mem_of_getElem? (i := 21) rfl)) Via.refl e3 F_a_complemented_v8 E_a_v7 (Or.inr ⟨(hw _ (List.mem_of_getElem? (i := 22) rfl)), rfl, hnm⟩) (hw _ (List.mem_of_getElem? (i := 4) rfl)) (ty := .boolean) (v' := (.int (0 : Int32))) (by decide) rfl rfl (g := (mkF m 16 #[.val (.ref a), .val (.ref k), .val (.int pv), .val (.int (0 : Int32))] [(.int (0 : Int32)), (.ref a)])) rfl rfl (hb hby own_prog_3_method_1_16)
  refine own_step st6 ?_
  have F6 := F_a_complemented_v8.same W6
  have K6 := K3.wr W6 (Or.inl (List.mem_of_getElem? (i := 0) rfl))
  have N6 := Fr.snoc X6 N3 g_a
  show own_Goes _ _ _ _ T6 (mkF m 19 #[.val (.ref a), .val (.ref k), .val (.int pv), .val (.int (0 : Int32))] [])
  have E_a_v9 := (E_a_v7.wr W6)
  have F3_v10 := (F3.other W6 (Or.inr (slot_ne (Or.inr (hw _ (List.mem_of_getElem? (i := 20) rfl))) (Or.inr (hw _ (List.mem_of_getElem? (i := 22) rfl))) (by decide) (t := .int) (t' := .boolean) (by decide) (by decide))))
  exact own_retV X6 hx hlk hrt (hb hby own_prog_3_method_1_19) (by subst e6; exact ⟨rfl, N6, K6, E_a_v9, F3_v10, F6⟩) (by decide) (by decide)
set_option maxRecDepth 65536 in
set_option maxHeartbeats 40000000 in
theorem own_init1 (l : Launch) (Z : State) (a0 : Array Value) (hw : ∀ d ∈ tables_1, d.before a0 Z = true) (ws : List Jvm.Cond) (a : Addr) (k : Addr) (pv : Int32) (h0 : Heap) (n0 : Nat) (Z0 : n0 ≤ h0.size) (E_a : Exa Z h0 a "com/example/weaverbird/weaverbird/automaton/Acceptance$Atom") (F_a_kind : Fld Z h0 a "com/example/weaverbird/weaverbird/automaton/Acceptance$Atom" "kind" "Lcom/example/weaverbird/weaverbird/automaton/Acceptance$Kind;" .null) (F_a_set : Fld Z h0 a "com/example/weaverbird/weaverbird/automaton/Acceptance$Atom" "set" "I" (.int (0 : Int32))) (F_a_complemented : Fld Z h0 a "com/example/weaverbird/weaverbird/automaton/Acceptance$Atom" "complemented" "Z" (.int (0 : Int32))) (g_a : n0 ≤ a) :
    own_Met l Z (⟨"com/example/weaverbird/weaverbird/automaton/Acceptance$Atom", "<init>", "(Lcom/example/weaverbird/weaverbird/automaton/Acceptance$Kind;IZ)V"⟩ : MethodName) prog_3_method_1_code 4 none ws ({ frames := 2, cells := 0, slots := 0, locals := 24 } : Room) #[(.ref a), (.ref k), (.int pv), (.int (1 : Int32))] h0 (fun v h L => v = none ∧ Fr n0 L ∧ Keep h0 h [a] ∧ Exa Z h a "com/example/weaverbird/weaverbird/automaton/Acceptance$Atom" ∧ Fld Z h a "com/example/weaverbird/weaverbird/automaton/Acceptance$Atom" "set" "I" (.int pv) ∧ Fld Z h a "com/example/weaverbird/weaverbird/automaton/Acceptance$Atom" "complemented" "Z" (.int (1 : Int32))) := by
  refine own_body (plainFor_of_name own_pn_com_example_weaverbird_weaverbird_automaton_Acceptance_Atom) (fun p e s m below meth c s₁ hx hby hml0 hrt hlk hown0 hnm hZ X0 e0 => ?_)
  have N0 := Fr.nil n0
  have hown : s.vm.findClass "com/example/weaverbird/weaverbird/automaton/Acceptance$Atom" = some m.cls := hown0
  have hml : c.maxLocals = 4 := hml0
  refine own_castG (own_ef1 m a k pv (1 : Int32)) ?_
  show own_Goes _ _ _ _ s₁ (mkF m 0 #[.val (.ref a), .val (.ref k), .val (.int pv), .val (.int (1 : Int32))] [])
  refine own_step (fun t k => XS.aloadN X0.here hx rfl (hb hby own_prog_3_method_1_0) rfl rfl k) ?_
  show own_Goes _ _ _ _ s₁ (mkF m 1 #[.val (.ref a), .val (.ref k), .val (.int pv), .val (.int (1 : Int32))] [(.ref a)])
  refine own_callC X0 hx hZ (y := (⟨"java/lang/Record", "<init>", "()V"⟩ : MethodName)) rfl hown (hw _ (List.mem_of_getElem? (i := 9) rfl)) (hw _ (List.mem_of_getElem? (i := 10) rfl)) (hw _ (List.mem_of_getElem? (i := 13) rfl)) (hw _ (List.mem_of_getElem? (i := 12) rfl)) (by decide) 0 (a := a) [] [] (own_rec l Z a0 hw [] a h0 n0 Z0 ) e0 (by decide) (by decide) (by decide) (by decide) (g := (mkF m 1 #[.val (.ref a), .val (.ref k), .val (.int pv), .val (.int (1 : Int32))] [(.ref a)])) rfl (by rw [hml]; rfl) own_pd0 rfl rfl (by show 2 * 0 + _ ≤ _; exact Nat.le_of_eq rfl) (hb hby own_prog_3_method_1_1) ?_
  intro T1 v1 L1 X1 hQ1
  obtain ⟨rfl, N1q, e1⟩ := hQ1
  have N1 := Fr.app N0 N1q
  show own_Goes _ _ _ _ T1 (mkF m 4 #[.val (.ref a), .val (.ref k), .val (.int pv), .val (.int (1 : Int32))] [])
  refine own_step (fun t k => XS.aloadN X1.here hx rfl (hb hby own_prog_3_method_1_4) rfl rfl k) ?_
  show own_Goes _ _ _ _ T1 (mkF m 5 #[.val (.ref a), .val (.ref k), .val (.int pv), .val (.int (1 : Int32))] [(.ref a)])
  refine own_step (fun t k => XS.aloadN X1.here hx rfl (hb hby own_prog_3_method_1_5) rfl rfl k) ?_
  show own_Goes _ _ _ _ T1 (mkF m 6 #[.val (.ref a), .val (.ref k), .val (.int pv), .val (.int (1 : Int32))] [(.ref k), (.ref a)])
  obtain ⟨T2, h2, X2, e2, W2, st2⟩ := putF X1 hx hZ hown (host := "") (Or.inl (hw _ (List.mem_of_getElem? (i := 17) rfl))) Via.refl e1 F_a_kind E_a (Or.inr ⟨(hw _ (List.mem_of_getElem? (i := 18) rfl)), rfl, hnm⟩) (hw _ (List.mem_of_getElem? (i := 4) rfl)) (ty := (.object "com/example/weaverbird/weaverbird/automaton/Acceptance$Kind")) (by decide) rfl rfl (g := (mkF m 6 #[.val (.ref a), .val (.ref k), .val (.int pv), .val (.int (1 : Int32))] [(.ref k), (.ref a)])) rfl rfl (hb hby own_prog_3_method_1_6)
  refine own_step st2 ?_
  have F2 := F_a_kind.same W2
  have K2 := (Keep.refl h0 [a]).wr W2 (Or.inl (List.mem_of_getElem? (i := 0) rfl))
  have N2 := Fr.snoc X2 N1 g_a
  show own_Goes _ _ _ _ T2 (mkF m 9 #[.val (.ref a), .val (.ref k), .val (.int pv), .val (.int (1 : Int32))] [])
  refine own_step (fun t k => XS.aloadN X2.here hx rfl (hb hby own_prog_3_method_1_9) rfl rfl k) ?_
  show own_Goes _ _ _ _ T2 (mkF m 10 #[.val (.ref a), .val (.ref k), .val (.int pv), .val (.int (1 : Int32))] [(.ref a)])
  refine own_step (fun t k => XS.iloadN X2.here hx rfl (hb hby own_prog_3_method_1_10) rfl k) ?_
  show own_Goes _ _ _ _ T2 (mkF m 11 #[.val (.ref a), .val (.ref k), .val (.int pv), .val (.int (1 : Int32))] [(.int pv), (.ref a)])
  have E_a_v4 := (E_a.wr W2)
  have F_a_set_v5 := (F_a_set.other W2 (Or.inr (slot_ne (Or.inr (hw _ (List.mem_of_getElem? (i := 20) rfl))) (Or.inr (hw _ (List.mem_of_getElem? (i := 18) rfl))) (by decide) (t := .int) (t' := (.object "com/example/weaverbird/weaverbird/automaton/Acceptance$Kind")) (by decide) (by decide))))
  obtain ⟨T3, h3, X3, e3, W3, st3⟩ := putF X2 hx hZ hown (host := "") (Or.inl (hw _ (List.mem_of_getElem? (i := 19) rfl))) Via.refl e2 F_a_set_v5 E_a_v4 (Or.inr ⟨(hw _ (List.mem_of_getElem? (i := 20) rfl)), rfl, hnm⟩) (hw _ (List.mem_of_getElem? (i := 4) rfl)) (ty := .int) (by decide) rfl rfl (g := (mkF m 11 #[.val (.ref a), .val (.ref k), .val (.int pv), .val (.int (1 : Int32))] [(.int pv), (.ref a)])) rfl rfl (hb hby own_prog_3_method_1_11)
  refine own_step st3 ?_
  have F3 := F_a_set_v5.same W3
  have K3 := K2.wr W3 (Or.inl (List.mem_of_getElem? (i := 0) rfl))
  have N3 := Fr.snoc X3 N2 g_a
  show own_Goes _ _ _ _ T3 (mkF m 14 #[.val (.ref a), .val (.ref k), .val (.int pv), .val (.int (1 : Int32))] [])
  refine own_step (fun t k => XS.aloadN X3.here hx rfl (hb hby own_prog_3_method_1_14) rfl rfl k) ?_
  show own_Goes _ _ _ _ T3 (mkF m 15 #[.val (.ref a), .val (.ref k), .val (.int pv), .val (.int (1 : Int32))] [(.ref a)])
  refine own_step (fun t k => XS.iloadN X3.here hx rfl (hb hby own_prog_3_method_1_15) rfl k) ?_
  show own_Goes _ _ _ _ T3 (mkF m 16 #[.val (.ref a), .val (.ref k), .val (.int pv), .val (.int (1 : Int32))] [(.int (1 : Int32)), (.ref a)])
  have E_a_v7 := (E_a_v4.wr W3)
  have F_a_complemented_v8 := ((F_a_complemented.other W2 (Or.inr (slot_ne (Or.inr (hw _ (List.mem_of_getElem? (i := 22) rfl))) (Or.inr (hw _ (List.mem_of_getElem? (i := 18) rfl))) (by decide) (t := .boolean) (t' := (.object "com/example/weaverbird/weaverbird/automaton/Acceptance$Kind")) (by decide) (by decide)))).other W3 (Or.inr (slot_ne (Or.inr (hw _ (List.mem_of_getElem? (i := 22) rfl))) (Or.inr (hw _ (List.mem_of_getElem? (i := 20) rfl))) (by decide) (t := .boolean) (t' := .int) (by decide) (by decide))))
  obtain ⟨T6, h6, X6, e6, W6, st6⟩ := putFN X3 hx hZ hown (hw _ (List.mem_of_getElem? (i := 21) rfl)) Via.refl e3 F_a_complemented_v8 E_a_v7 (Or.inr ⟨(hw _ (List.mem_of_getElem? (i := 22) rfl)), rfl, hnm⟩) (hw _ (List.mem_of_getElem? (i := 4) rfl)) (ty := .boolean) (v' := (.int (1 : Int32))) (by decide) rfl rfl (g := (mkF m 16 #[.val (.ref a), .val (.ref k), .val (.int pv), .val (.int (1 : Int32))] [(.int (1 : Int32)), (.ref a)])) rfl rfl (hb hby own_prog_3_method_1_16)
  refine own_step st6 ?_
  have F6 := F_a_complemented_v8.same W6
  have K6 := K3.wr W6 (Or.inl (List.mem_of_getElem? (i := 0) rfl))
  have N6 := Fr.snoc X6 N3 g_a
  show own_Goes _ _ _ _ T6 (mkF m 19 #[.val (.ref a), .val (.ref k), .val (.int pv), .val (.int (1 : Int32))] [])
  have E_a_v9 := (E_a_v7.wr W6)
  have F3_v10 := (F3.other W6 (Or.inr (slot_ne (Or.inr (hw _ (List.mem_of_getElem? (i := 20) rfl))) (Or.inr (hw _ (List.mem_of_getElem? (i := 22) rfl))) (by decide) (t := .int) (t' := .boolean) (by decide) (by decide))))
  exact own_retV X6 hx hlk hrt (hb hby own_prog_3_method_1_19) (by subst e6; exact ⟨rfl, N6, K6, E_a_v9, F3_v10, F6⟩) (by decide) (by decide)
theorem own_ef2 (m : MethodId) (x0 : Addr) (x1 : Int64) : entryFrame m #[(.ref x0), (.long x1)] 4 = mkF m 0 #[.val (.ref x0), .val (.long x1), .second, .unset] [] := by first | (simp [entryFrame, mkF, argsToLocals, Value.category]; done) | rfl
theorem own_prog_3_method_2_0 : decode prog_3_method_2_code 0 = .ok (.lload_n 1, 1) := by decide +kernel
theorem own_prog_3_method_2_1 : decode prog_3_method_2_code 1 = .ok (.lconst 1, 1) := by decide +kernel
theorem own_prog_3_method_2_2 : decode prog_3_method_2_code 2 = .ok (.aload_n 0, 1) := by decide +kernel
theorem own_prog_3_method_2_3 : decode prog_3_method_2_code 3 = .ok (.getfield 13, 3) := by decide +kernel
theorem own_prog_3_method_2_6 : decode prog_3_method_2_code 6 = .ok (.lshl, 1) := by decide +kernel
theorem own_prog_3_method_2_7 : decode prog_3_method_2_code 7 = .ok (.land, 1) := by decide +kernel
theorem own_prog_3_method_2_8 : decode prog_3_method_2_code 8 = .ok (.lconst 0, 1) := by decide +kernel
theorem own_prog_3_method_2_9 : decode prog_3_method_2_code 9 = .ok (.lcmp, 1) := by decide +kernel
theorem own_prog_3_method_2_10 : decode prog_3_method_2_code 10 = .ok (.ifCond .eq 7, 3) := by decide +kernel
theorem own_prog_3_method_2_17 : decode prog_3_method_2_code 17 = .ok (.iconst 0, 1) := by decide +kernel
theorem own_prog_3_method_2_18 : decode prog_3_method_2_code 18 = .ok (.istore_n 3, 1) := by decide +kernel
theorem own_prog_3_method_2_19 : decode prog_3_method_2_code 19 = .ok (.iload_n 3, 1) := by decide +kernel
theorem own_prog_3_method_2_20 : decode prog_3_method_2_code 20 = .ok (.aload_n 0, 1) := by decide +kernel
theorem own_prog_3_method_2_21 : decode prog_3_method_2_code 21 = .ok (.getfield 17, 3) := by decide +kernel
theorem own_prog_3_method_2_24 : decode prog_3_method_2_code 24 = .ok (.if_icmp .eq 7, 3) := by decide +kernel
theorem own_prog_3_method_2_31 : decode prog_3_method_2_code 31 = .ok (.iconst 0, 1) := by decide +kernel
theorem own_prog_3_method_2_32 : decode prog_3_method_2_code 32 = .ok (.ireturn, 1) := by decide +kernel
set_option maxRecDepth 65536 in
set_option maxHeartbeats 40000000 in
theorem own_cnt00 (l : Launch) (Z : State) (a0 : Array Value) (hw : ∀ d ∈ tables_1, d.before a0 Z = true) (ws : List Jvm.Cond) (a : Addr) (qv : Int64) (pv : Int32) (h0 : Heap) (n0 : Nat) (Z0 : n0 ≤ h0.size) (F_a_set : Fld Z h0 a "com/example/weaverbird/weaverbird/automaton/Acceptance$Atom" "set" "I" (.int pv)) (F_a_complemented : Fld Z h0 a "com/example/weaverbird/weaverbird/automaton/Acceptance$Atom" "complemented" "Z" (.int (0 : Int32))) (hbt : (lcmpW (qv &&& ((1 : Int64) <<< (pv &&& 0x3f).toInt64)) (0 : Int64)) = (0 : Int32)) :
    own_Met l Z (⟨"com/example/weaverbird/weaverbird/automaton/Acceptance$Atom", "counts", "(J)Z"⟩ : MethodName) prog_3_method_2_code 4 (some .boolean) ws ({ frames := 0, cells := 0, slots := 0, locals := 0 } : Room) #[(.ref a), (.long qv)] h0 (fun v h L => v = some (.int 0) ∧ Fr n0 L ∧ h = h0) := by
  refine own_body (plainFor_of_name own_pn_com_example_weaverbird_weaverbird_automaton_Acceptance_Atom) (fun p e s m below meth c s₁ hx hby hml0 hrt hlk hown0 hnm hZ X0 e0 => ?_)
  have N0 := Fr.nil n0
  have hown : s.vm.findClass "com/example/weaverbird/weaverbird/automaton/Acceptance$Atom" = some m.cls := hown0
  have hml : c.maxLocals = 4 := hml0
  refine own_castG (own_ef2 m a qv) ?_
  show own_Goes _ _ _ _ s₁ (mkF m 0 #[.val (.ref a), .val (.long qv), .second, .unset] [])
  refine own_step (fun t k => XS.lloadN X0.here hx rfl (hb hby own_prog_3_method_2_0) rfl k) ?_
  show own_Goes _ _ _ _ s₁ (mkF m 1 #[.val (.ref a), .val (.long qv), .second, .unset] [(.long qv)])
  refine own_step (fun t k => XS.lconst X0.here hx rfl (hb hby own_prog_3_method_2_1) k) ?_
  show own_Goes _ _ _ _ s₁ (mkF m 2 #[.val (.ref a), .val (.long qv), .second, .unset] [(.long (1 : Int64)), (.long qv)])
  refine own_step (fun t k => XS.aloadN X0.here hx rfl (hb hby own_prog_3_method_2_2) rfl rfl k) ?_
  show own_Goes _ _ _ _ s₁ (mkF m 3 #[.val (.ref a), .val (.long qv), .second, .unset] [(.ref a), (.long (1 : Int64)), (.long qv)])
  obtain ⟨T1, X1, e1, st1⟩ := getF X0 hx hZ hown (host := "") (Or.inl (hw _ (List.mem_of_getElem? (i := 19) rfl))) Via.refl e0 F_a_set (g := (mkF m 3 #[.val (.ref a), .val (.long qv), .second, .unset] [(.ref a), (.long (1 : Int64)), (.long qv)])) rfl rfl (hb hby own_prog_3_method_2_3)
  refine own_step st1 ?_
  show own_Goes _ _ _ _ T1 (mkF m 6 #[.val (.ref a), .val (.long qv), .second, .unset] [(.int pv), (.long (1 : Int64)), (.long qv)])
  refine own_step (fun t k => XS.lshl X1.here hx rfl (hb hby own_prog_3_method_2_6) rfl k) ?_
  show own_Goes _ _ _ _ T1 (mkF m 7 #[.val (.ref a), .val (.long qv), .second, .unset] [(.long ((1 : Int64) <<< (pv &&& 0x3f).toInt64)), (.long qv)])
  refine own_step (fun t k => XS.land X1.here hx rfl (hb hby own_prog_3_method_2_7) rfl k) ?_
  show own_Goes _ _ _ _ T1 (mkF m 8 #[.val (.ref a), .val (.long qv), .second, .unset] [(.long (qv &&& ((1 : Int64) <<< (pv &&& 0x3f).toInt64)))])
  refine own_step (fun t k => XS.lconst X1.here hx rfl (hb hby own_prog_3_method_2_8) k) ?_
  show own_Goes _ _ _ _ T1 (mkF m 9 #[.val (.ref a), .val (.long qv), .second, .unset] [(.long (0 : Int64)), (.long (qv &&& ((1 : Int64) <<< (pv &&& 0x3f).toInt64)))])
  refine own_step (fun t k => XS.lcmp X1.here hx rfl (hb hby own_prog_3_method_2_9) rfl k) ?_
  show own_Goes _ _ _ _ T1 (mkF m 10 #[.val (.ref a), .val (.long qv), .second, .unset] [(.int (lcmpW (qv &&& ((1 : Int64) <<< (pv &&& 0x3f).toInt64)) (0 : Int64)))])
  refine own_step (fun t k => XS.ifYes X1.here hx rfl (pc0 := 10) (pc' := 17) rfl (hb hby own_prog_3_method_2_10) rfl ((if0 _ _).trans (teq (show (lcmpW (qv &&& ((1 : Int64) <<< (pv &&& 0x3f).toInt64)) (0 : Int64)) = (0 : Int32) from hbt)).1) (by decide) (by decide) k) ?_
  show own_Goes _ _ _ _ T1 (mkF m 17 #[.val (.ref a), .val (.long qv), .second, .unset] [])
  refine own_step (fun t k => XS.iconst X1.here hx rfl (hb hby own_prog_3_method_2_17) k) ?_
  show own_Goes _ _ _ _ T1 (mkF m 18 #[.val (.ref a), .val (.long qv), .second, .unset] [(.int (0 : Int32))])
  refine own_step (fun t k => XS.istoreN X1.here hx rfl (hb hby own_prog_3_method_2_18) rfl (l' := #[.val (.ref a), .val (.long qv), .second, .val (.int (0 : Int32))]) rfl k) ?_
  show own_Goes _ _ _ _ T1 (mkF m 19 #[.val (.ref a), .val (.long qv), .second, .val (.int (0 : Int32))] [])
  refine own_step (fun t k => XS.iloadN X1.here hx rfl (hb hby own_prog_3_method_2_19) rfl k) ?_
  show own_Goes _ _ _ _ T1 (mkF m 20 #[.val (.ref a), .val (.long qv), .second, .val (.int (0 : Int32))] [(.int (0 : Int32))])
  refine own_step (fun t k => XS.aloadN X1.here hx rfl (hb hby own_prog_3_method_2_20) rfl rfl k) ?_
  show own_Goes _ _ _ _ T1 (mkF m 21 #[.val (.ref a), .val (.long qv), .second, .val (.int (0 : Int32))] [(.ref a), (.int (0 : Int32))])
  obtain ⟨T2, X2, e2, st2⟩ := getF X1 hx hZ hown (host := "") (Or.inl (hw _ (List.mem_of_getElem? (i := 21) rfl))) Via.refl e1 F_a_complemented (g := (mkF m 21 #[.val (.ref a), .val (.long qv), .second, .val (.int (0 : Int32))] [(.ref a), (.int (0 : Int32))])) rfl rfl (hb hby own_prog_3_method_2_21)
  refine own_step st2 ?_
  show own_Goes _ _ _ _ T2 (mkF m 24 #[.val (.ref a), .val (.long qv), .second, .val (.int (0 : Int32))] [(.int (0 : Int32)), (.int (0 : Int32))])
  refine own_step (fun t k => XS.icmpYes X2.here hx rfl (pc0 := 24) (pc' := 31) rfl (hb hby own_prog_3_method_2_24) rfl (teq (show (0 : Int32) = (0 : Int32) from (by decide))).1 (by decide) (by decide) k) ?_
  show own_Goes _ _ _ _ T2 (mkF m 31 #[.val (.ref a), .val (.long qv), .second, .val (.int (0 : Int32))] [])
  refine own_step (fun t k => XS.iconst X2.here hx rfl (hb hby own_prog_3_method_2_31) k) ?_
  show own_Goes _ _ _ _ T2 (mkF m 32 #[.val (.ref a), .val (.long qv), .second, .val (.int (0 : Int32))] [(.int (0 : Int32))])
  exact own_retN X2 hx hlk (t := .boolean) hrt (by simp) (hb hby own_prog_3_method_2_32) ⟨rfl, N0, e2⟩ (by decide) (by decide)
theorem own_prog_3_method_2_13 : decode prog_3_method_2_code 13 = .ok (.iconst 1, 1) := by decide +kernel
theorem own_prog_3_method_2_14 : decode prog_3_method_2_code 14 = .ok (.goto 4, 3) := by decide +kernel
theorem own_prog_3_method_2_27 : decode prog_3_method_2_code 27 = .ok (.iconst 1, 1) := by decide +kernel
theorem own_prog_3_method_2_28 : decode prog_3_method_2_code 28 = .ok (.goto 4, 3) := by decide +kernel
set_option maxRecDepth 65536 in
set_option maxHeartbeats 40000000 in
theorem own_cnt01 (l : Launch) (Z : State) (a0 : Array Value) (hw : ∀ d ∈ tables_1, d.before a0 Z = true) (ws : List Jvm.Cond) (a : Addr) (qv : Int64) (pv : Int32) (h0 : Heap) (n0 : Nat) (Z0 : n0 ≤ h0.size) (F_a_set : Fld Z h0 a "com/example/weaverbird/weaverbird/automaton/Acceptance$Atom" "set" "I" (.int pv)) (F_a_complemented : Fld Z h0 a "com/example/weaverbird/weaverbird/automaton/Acceptance$Atom" "complemented" "Z" (.int (0 : Int32))) (hbt : ¬ ((lcmpW (qv &&& ((1 : Int64) <<< (pv &&& 0x3f).toInt64)) (0 : Int64)) = (0 : Int32))) :
    own_Met l Z (⟨"com/example/weaverbird/weaverbird/automaton/Acceptance$Atom", "counts", "(J)Z"⟩ : MethodName) prog_3_method_2_code 4 (some .boolean) ws ({ frames := 0, cells := 0, slots := 0, locals := 0 } : Room) #[(.ref a), (.long qv)] h0 (fun v h L => v = some (.int 1) ∧ Fr n0 L ∧ h = h0) := by
  refine own_body (plainFor_of_name own_pn_com_example_weaverbird_weaverbird_automaton_Acceptance_Atom) (fun p e s m below meth c s₁ hx hby hml0 hrt hlk hown0 hnm hZ X0 e0 => ?_)
  have N0 := Fr.nil n0
  have hown : s.vm.findClass "com/example/weaverbird/weaverbird/automaton/Acceptance$Atom" = some m.cls := hown0
  have hml : c.maxLocals = 4 := hml0
  refine own_castG (own_ef2 m a qv) ?_
  show own_Goes _ _ _ _ s₁ (mkF m 0 #[.val (.ref a), .val (.long qv), .second, .unset] [])
  refine own_step (fun t k => XS.lloadN X0.here hx rfl (hb hby own_prog_3_method_2_0) rfl k) ?_
  show own_Goes _ _ _ _ s₁ (mkF m 1 #[.val (.ref a), .val (.long qv), .second, .unset] [(.long qv)])
  refine own_step (fun t k => XS.lconst X0.here hx rfl (hb hby own_prog_3_method_2_1) k) ?_
  show own_Goes _ _ _ _ s₁ (mkF m 2 #[.val (.ref a), .val (.long qv), .second, .unset] [(.long (1 : Int64)), (.long qv)])
  refine own_step (fun t k => XS.aloadN X0.here hx rfl (hb hby own_prog_3_method_2_2) rfl rfl k) ?_
  show own_Goes _ _ _ _ s₁ (mkF m 3 #[.val (.ref a), .val (.long qv), .second, .unset] [(.ref a), (.long (1 : Int64)), (.long qv)])
  obtain ⟨T1, X1, e1, st1⟩ := getF X0 hx hZ hown (host := "") (Or.inl (hw _ (List.mem_of_getElem? (i := 19) rfl))) Via.refl e0 F_a_set (g := (mkF m 3 #[.val (.ref a), .val (.long qv), .second, .unset] [(.ref a), (.long (1 : Int64)), (.long qv)])) rfl rfl (hb hby own_prog_3_method_2_3)
  refine own_step st1 ?_
  show own_Goes _ _ _ _ T1 (mkF m 6 #[.val (.ref a), .val (.long qv), .second, .unset] [(.int pv), (.long (1 : Int64)), (.long qv)])
  refine own_step (fun t k => XS.lshl X1.here hx rfl (hb hby own_prog_3_method_2_6) rfl k) ?_
  show own_Goes _ _ _ _ T1 (mkF m 7 #[.val (.ref a), .val (.long qv), .second, .unset] [(.long ((1 : Int64) <<< (pv &&& 0x3f).toInt64)), (.long qv)])
  refine own_step (fun t k => XS.land X1.here hx rfl (hb hby own_prog_3_method_2_7) rfl k) ?_
  show own_Goes _ _ _ _ T1 (mkF m 8 #[.val (.ref a), .val (.long qv), .second, .unset] [(.long (qv &&& ((1 : Int64) <<< (pv &&& 0x3f).toInt64)))])
  refine own_step (fun t k => XS.lconst X1.here hx rfl (hb hby own_prog_3_method_2_8) k) ?_
  show own_Goes _ _ _ _ T1 (mkF m 9 #[.val (.ref a), .val (.long qv), .second, .unset] [(.long (0 : Int64)), (.long (qv &&& ((1 : Int64) <<< (pv &&& 0x3f).toInt64)))])
  refine own_step (fun t k => XS.lcmp X1.here hx rfl (hb hby own_prog_3_method_2_9) rfl k) ?_
  show own_Goes _ _ _ _ T1 (mkF m 10 #[.val (.ref a), .val (.long qv), .second, .unset] [(.int (lcmpW (qv &&& ((1 : Int64) <<< (pv &&& 0x3f).toInt64)) (0 : Int64)))])
  refine own_step (fun t k => XS.ifNo X1.here hx rfl (hb hby own_prog_3_method_2_10) rfl ((if0 _ _).trans (feq (show ¬ ((lcmpW (qv &&& ((1 : Int64) <<< (pv &&& 0x3f).toInt64)) (0 : Int64)) = (0 : Int32)) from hbt)).1) k) ?_
  show own_Goes _ _ _ _ T1 (mkF m 13 #[.val (.ref a), .val (.long qv), .second, .unset] [])
  refine own_step (fun t k => XS.iconst X1.here hx rfl (hb hby own_prog_3_method_2_13) k) ?_
  show own_Goes _ _ _ _ T1 (mkF m 14 #[.val (.ref a), .val (.long qv), .second, .unset] [(.int (1 : Int32))])
  refine own_step (fun t k => XS.goto X1.here hx rfl (pc0 := 14) (pc' := 18) rfl (hb hby own_prog_3_method_2_14) (by decide) (by decide) k) ?_
  show own_Goes _ _ _ _ T1 (mkF m 18 #[.val (.ref a), .val (.long qv), .second, .unset] [(.int (1 : Int32))])
  refine own_step (fun t k => XS.istoreN X1.here hx rfl (hb hby own_prog_3_method_2_18) rfl (l' := #[.val (.ref a), .val (.long qv), .second, .val (.int (1 : Int32))]) rfl k) ?_
  show own_Goes _ _ _ _ T1 (mkF m 19 #[.val (.ref a), .val (.long qv), .second, .val (.int (1 : Int32))] [])
  refine own_step (fun t k => XS.iloadN X1.here hx rfl (hb hby own_prog_3_method_2_19) rfl k) ?_
  show own_Goes _ _ _ _ T1 (mkF m 20 #[.val (.ref a), .val (.long qv), .second, .val (.int (1 : Int32))] [(.int (1 : Int32))])
  refine own_step (fun t k => XS.aloadN X1.here hx rfl (hb hby own_prog_3_method_2_20) rfl rfl k) ?_
  show own_Goes _ _ _ _ T1 (mkF m 21 #[.val (.ref a), .val (.long qv), .second, .val (.int (1 : Int32))] [(.ref a), (.int (1 : Int32))])
  obtain ⟨T2, X2, e2, st2⟩ := getF X1 hx hZ hown (host := "") (Or.inl (hw _ (List.mem_of_getElem? (i := 21) rfl))) Via.refl e1 F_a_complemented (g := (mkF m 21 #[.val (.ref a), .val (.long qv), .second, .val (.int (1 : Int32))] [(.ref a), (.int (1 : Int32))])) rfl rfl (hb hby own_prog_3_method_2_21)
  refine own_step st2 ?_
  show own_Goes _ _ _ _ T2 (mkF m 24 #[.val (.ref a), .val (.long qv), .second, .val (.int (1 : Int32))] [(.int (0 : Int32)), (.int (1 : Int32))])
  refine own_step (fun t k => XS.icmpNo X2.here hx rfl (hb hby own_prog_3_method_2_24) rfl (feq (show ¬ ((1 : Int32) = (0 : Int32)) from (by decide))).1 k) ?_
  show own_Goes _ _ _ _ T2 (mkF m 27 #[.val (.ref a), .val (.long qv), .second, .val (.int (1 : Int32))] [])
  refine own_step (fun t k => XS.iconst X2.here hx rfl (hb hby own_prog_3_method_2_27) k) ?_
  show own_Goes _ _ _ _ T2 (mkF m 28 #[.val (.ref a), .val (.long qv), .second, .val (.int (1 : Int32))] [(.int (1 : Int32))])
  refine own_step (fun t k => XS.goto X2.here hx rfl (pc0 := 28) (pc' := 32) rfl (hb hby own_prog_3_method_2_28) (by decide) (by decide) k) ?_
  show own_Goes _ _ _ _ T2 (mkF m 32 #[.val (.ref a), .val (.long qv), .second, .val (.int (1 : Int32))] [(.int (1 : Int32))])
  exact own_retN X2 hx hlk (t := .boolean) hrt (by simp) (hb hby own_prog_3_method_2_32) ⟨rfl, N0, e2⟩ (by decide) (by decide)
set_option maxRecDepth 65536 in
set_option maxHeartbeats 40000000 in
theorem own_cnt10 (l : Launch) (Z : State) (a0 : Array Value) (hw : ∀ d ∈ tables_1, d.before a0 Z = true) (ws : List Jvm.Cond) (a : Addr) (qv : Int64) (pv : Int32) (h0 : Heap) (n0 : Nat) (Z0 : n0 ≤ h0.size) (F_a_set : Fld Z h0 a "com/example/weaverbird/weaverbird/automaton/Acceptance$Atom" "set" "I" (.int pv)) (F_a_complemented : Fld Z h0 a "com/example/weaverbird/weaverbird/automaton/Acceptance$Atom" "complemented" "Z" (.int (1 : Int32))) (hbt : (lcmpW (qv &&& ((1 : Int64) <<< (pv &&& 0x3f).toInt64)) (0 : Int64)) = (0 : Int32)) :
    own_Met l Z (⟨"com/example/weaverbird/weaverbird/automaton/Acceptance$Atom", "counts", "(J)Z"⟩ : MethodName) prog_3_method_2_code 4 (some .boolean) ws ({ frames := 0, cells := 0, slots := 0, locals := 0 } : Room) #[(.ref a), (.long qv)] h0 (fun v h L => v = some (.int 1) ∧ Fr n0 L ∧ h = h0) := by
  refine own_body (plainFor_of_name own_pn_com_example_weaverbird_weaverbird_automaton_Acceptance_Atom) (fun p e s m below meth c s₁ hx hby hml0 hrt hlk hown0 hnm hZ X0 e0 => ?_)
  have N0 := Fr.nil n0
  have hown : s.vm.findClass "com/example/weaverbird/weaverbird/automaton/Acceptance$Atom" = some m.cls := hown0
  have hml : c.maxLocals = 4 := hml0
  refine own_castG (own_ef2 m a qv) ?_
  show own_Goes _ _ _ _ s₁ (mkF m 0 #[.val (.ref a), .val (.long qv), .second, .unset] [])
  refine own_step (fun t k => XS.lloadN X0.here hx rfl (hb hby own_prog_3_method_2_0) rfl k) ?_
  show own_Goes _ _ _ _ s₁ (mkF m 1 #[.val (.ref a), .val (.long qv), .second, .unset] [(.long qv)])
  refine own_step (fun t k => XS.lconst X0.here hx rfl (hb hby own_prog_3_method_2_1) k) ?_
  show own_Goes _ _ _ _ s₁ (mkF m 2 #[.val (.ref a), .val (.long qv), .second, .unset] [(.long (1 : Int64)), (.long qv)])
  refine own_step (fun t k => XS.aloadN X0.here hx rfl (hb hby own_prog_3_method_2_2) rfl rfl k) ?_
  show own_Goes _ _ _ _ s₁ (mkF m 3 #[.val (.ref a), .val (.long qv), .second, .unset] [(.ref a), (.long (1 : Int64)), (.long qv)])
  obtain ⟨T1, X1, e1, st1⟩ := getF X0 hx hZ hown (host := "") (Or.inl (hw _ (List.mem_of_getElem? (i := 19) rfl))) Via.refl e0 F_a_set (g := (mkF m 3 #[.val (.ref a), .val (.long qv), .second, .unset] [(.ref a), (.long (1 : Int64)), (.long qv)])) rfl rfl (hb hby own_prog_3_method_2_3)
  refine own_step st1 ?_
  show own_Goes _ _ _ _ T1 (mkF m 6 #[.val (.ref a), .val (.long qv), .second, .unset] [(.int pv), (.long (1 : Int64)), (.long qv)])
  refine own_step (fun t k => XS.lshl X1.here hx rfl (hb hby own_prog_3_method_2_6) rfl k) ?_
  show own_Goes _ _ _ _ T1 (mkF m 7 #[.val (.ref a), .val (.long qv), .second, .unset] [(.long ((1 : Int64) <<< (pv &&& 0x3f).toInt64)), (.long qv)])
  refine own_step (fun t k => XS.land X1.here hx rfl (hb hby own_prog_3_method_2_7) rfl k) ?_
  show own_Goes _ _ _ _ T1 (mkF m 8 #[.val (.ref a), .val (.long qv), .second, .unset] [(.long (qv &&& ((1 : Int64) <<< (pv &&& 0x3f).toInt64)))])
  refine own_step (fun t k => XS.lconst X1.here hx rfl (hb hby own_prog_3_method_2_8) k) ?_
  show own_Goes _ _ _ _ T1 (mkF m 9 #[.val (.ref a), .val (.long qv), .second, .unset] [(.long (0 : Int64)), (.long (qv &&& ((1 : Int64) <<< (pv &&& 0x3f).toInt64)))])
  refine own_step (fun t k => XS.lcmp X1.here hx rfl (hb hby own_prog_3_method_2_9) rfl k) ?_
  show own_Goes _ _ _ _ T1 (mkF m 10 #[.val (.ref a), .val (.long qv), .second, .unset] [(.int (lcmpW (qv &&& ((1 : Int64) <<< (pv &&& 0x3f).toInt64)) (0 : Int64)))])
  refine own_step (fun t k => XS.ifYes X1.here hx rfl (pc0 := 10) (pc' := 17) rfl (hb hby own_prog_3_method_2_10) rfl ((if0 _ _).trans (teq (show (lcmpW (qv &&& ((1 : Int64) <<< (pv &&& 0x3f).toInt64)) (0 : Int64)) = (0 : Int32) from hbt)).1) (by decide) (by decide) k) ?_
  show own_Goes _ _ _ _ T1 (mkF m 17 #[.val (.ref a), .val (.long qv), .second, .unset] [])
  refine own_step (fun t k => XS.iconst X1.here hx rfl (hb hby own_prog_3_method_2_17) k) ?_
  show own_Goes _ _ _ _ T1 (mkF m 18 #[.val (.ref a), .val (.long qv), .second, .unset] [(.int (0 : Int32))])
  refine own_step (fun t k => XS.istoreN X1.here hx rfl (hb hby own_prog_3_method_2_18) rfl (l' := #[.val (.ref a), .val (.long qv), .second, .val (.int (0 : Int32))]) rfl k) ?_
  show own_Goes _ _ _ _ T1 (mkF m 19 #[.val (.ref a), .val (.long qv), .second, .val (.int (0 : Int32))] [])
  refine own_step (fun t k => XS.iloadN X1.here hx rfl (hb hby own_prog_3_method_2_19) rfl k) ?_
  show own_Goes _ _ _ _ T1 (mkF m 20 #[.val (.ref a), .val (.long qv), .second, .val (.int (0 : Int32))] [(.int (0 : Int32))])
  refine own_step (fun t k => XS.aloadN X1.here hx rfl (hb hby own_prog_3_method_2_20) rfl rfl k) ?_
  show own_Goes _ _ _ _ T1 (mkF m 21 #[.val (.ref a), .val (.long qv), .second, .val (.int (0 : Int32))] [(.ref a), (.int (0 : Int32))])
  obtain ⟨T2, X2, e2, st2⟩ := getF X1 hx hZ hown (host := "") (Or.inl (hw _ (List.mem_of_getElem? (i := 21) rfl))) Via.refl e1 F_a_complemented (g := (mkF m 21 #[.val (.ref a), .val (.long qv), .second, .val (.int (0 : Int32))] [(.ref a), (.int (0 : Int32))])) rfl rfl (hb hby own_prog_3_method_2_21)
  refine own_step st2 ?_
  show own_Goes _ _ _ _ T2 (mkF m 24 #[.val (.ref a), .val (.long qv), .second, .val (.int (0 : Int32))] [(.int (1 : Int32)), (.int (0 : Int32))])
  refine own_step (fun t k => XS.icmpNo X2.here hx rfl (hb hby own_prog_3_method_2_24) rfl (feq (show ¬ ((0 : Int32) = (1 : Int32)) from (by decide))).1 k) ?_
  show own_Goes _ _ _ _ T2 (mkF m 27 #[.val (.ref a), .val (.long qv), .second, .val (.int (0 : Int32))] [])
  refine own_step (fun t k => XS.iconst X2.here hx rfl (hb hby own_prog_3_method_2_27) k) ?_
  show own_Goes _ _ _ _ T2 (mkF m 28 #[.val (.ref a), .val (.long qv), .second, .val (.int (0 : Int32))] [(.int (1 : Int32))])
  refine own_step (fun t k => XS.goto X2.here hx rfl (pc0 := 28) (pc' := 32) rfl (hb hby own_prog_3_method_2_28) (by decide) (by decide) k) ?_
  show own_Goes _ _ _ _ T2 (mkF m 32 #[.val (.ref a), .val (.long qv), .second, .val (.int (0 : Int32))] [(.int (1 : Int32))])
  exact own_retN X2 hx hlk (t := .boolean) hrt (by simp) (hb hby own_prog_3_method_2_32) ⟨rfl, N0, e2⟩ (by decide) (by decide)
set_option maxRecDepth 65536 in
set_option maxHeartbeats 40000000 in
theorem own_cnt11 (l : Launch) (Z : State) (a0 : Array Value) (hw : ∀ d ∈ tables_1, d.before a0 Z = true) (ws : List Jvm.Cond) (a : Addr) (qv : Int64) (pv : Int32) (h0 : Heap) (n0 : Nat) (Z0 : n0 ≤ h0.size) (F_a_set : Fld Z h0 a "com/example/weaverbird/weaverbird/automaton/Acceptance$Atom" "set" "I" (.int pv)) (F_a_complemented : Fld Z h0 a "com/example/weaverbird/weaverbird/automaton/Acceptance$Atom" "complemented" "Z" (.int (1 : Int32))) (hbt : ¬ ((lcmpW (qv &&& ((1 : Int64) <<< (pv &&& 0x3f).toInt64)) (0 : Int64)) = (0 : Int32))) :
    own_Met l Z (⟨"com/example/weaverbird/weaverbird/automaton/Acceptance$Atom", "counts", "(J)Z"⟩ : MethodName) prog_3_method_2_code 4 (some .boolean) ws ({ frames := 0, cells := 0, slots := 0, locals := 0 } : Room) #[(.ref a), (.long qv)] h0 (fun v h L => v = some (.int 0) ∧ Fr n0 L ∧ h = h0) := by
  refine own_body (plainFor_of_name own_pn_com_example_weaverbird_weaverbird_automaton_Acceptance_Atom) (fun p e s m below meth c s₁ hx hby hml0 hrt hlk hown0 hnm hZ X0 e0 => ?_)
  have N0 := Fr.nil n0
  have hown : s.vm.findClass "com/example/weaverbird/weaverbird/automaton/Acceptance$Atom" = some m.cls := hown0
  have hml : c.maxLocals = 4 := hml0
  refine own_castG (own_ef2 m a qv) ?_
  show own_Goes _ _ _ _ s₁ (mkF m 0 #[.val (.ref a), .val (.long qv), .second, .unset] [])
  refine own_step (fun t k => XS.lloadN X0.here hx rfl (hb hby own_prog_3_method_2_0) rfl k) ?_
  show own_Goes _ _ _ _ s₁ (mkF m 1 #[.val (.ref a), .val (.long qv), .second, .unset] [(.long qv)])
  refine own_step (fun t k => XS.lconst X0.here hx rfl (hb hby own_prog_3_method_2_1) k) ?_
  show own_Goes _ _ _ _ s₁ (mkF m 2 #[.val (.ref a), .val (.long qv), .second, .unset] [(.long (1 : Int64)), (.long qv)])
  refine own_step (fun t k => XS.aloadN X0.here hx rfl (hb hby own_prog_3_method_2_2) rfl rfl k) ?_
  show own_Goes _ _ _ _ s₁ (mkF m 3 #[.val (.ref a), .val (.long qv), .second, .unset] [(.ref a), (.long (1 : Int64)), (.long qv)])
  obtain ⟨T1, X1, e1, st1⟩ := getF X0 hx hZ hown (host := "") (Or.inl (hw _ (List.mem_of_getElem? (i := 19) rfl))) Via.refl e0 F_a_set (g := (mkF m 3 #[.val (.ref a), .val (.long qv), .second, .unset] [(.ref a), (.long (1 : Int64)), (.long qv)])) rfl rfl (hb hby own_prog_3_method_2_3)
  refine own_step st1 ?_
  show own_Goes _ _ _ _ T1 (mkF m 6 #[.val (.ref a), .val (.long qv), .second, .unset] [(.int pv), (.long (1 : Int64)), (.long qv)])
  refine own_step (fun t k => XS.lshl X1.here hx rfl (hb hby own_prog_3_method_2_6) rfl k) ?_
  show own_Goes _ _ _ _ T1 (mkF m 7 #[.val (.ref a), .val (.long qv), .second, .unset] [(.long ((1 : Int64) <<< (pv &&& 0x3f).toInt64)), (.long qv)])
  refine own_step (fun t k => XS.land X1.here hx rfl (hb hby own_prog_3_method_2_7) rfl k) ?_
  show own_Goes _ _ _ _ T1 (mkF m 8 #[.val (.ref a), .val (.long qv), .second, .unset] [(.long (qv &&& ((1 : Int64) <<< (pv &&& 0x3f).toInt64)))])
  refine own_step (fun t k => XS.lconst X1.here hx rfl (hb hby own_prog_3_method_2_8) k) ?_
  show own_Goes _ _ _ _ T1 (mkF m 9 #[.val (.ref a), .val (.long qv), .second, .unset] [(.long (0 : Int64)), (.long (qv &&& ((1 : Int64) <<< (pv &&& 0x3f).toInt64)))])
  refine own_step (fun t k => XS.lcmp X1.here hx rfl (hb hby own_prog_3_method_2_9) rfl k) ?_
  show own_Goes _ _ _ _ T1 (mkF m 10 #[.val (.ref a), .val (.long qv), .second, .unset] [(.int (lcmpW (qv &&& ((1 : Int64) <<< (pv &&& 0x3f).toInt64)) (0 : Int64)))])
  refine own_step (fun t k => XS.ifNo X1.here hx rfl (hb hby own_prog_3_method_2_10) rfl ((if0 _ _).trans (feq (show ¬ ((lcmpW (qv &&& ((1 : Int64) <<< (pv &&& 0x3f).toInt64)) (0 : Int64)) = (0 : Int32)) from hbt)).1) k) ?_
  show own_Goes _ _ _ _ T1 (mkF m 13 #[.val (.ref a), .val (.long qv), .second, .unset] [])
  refine own_step (fun t k => XS.iconst X1.here hx rfl (hb hby own_prog_3_method_2_13) k) ?_
  show own_Goes _ _ _ _ T1 (mkF m 14 #[.val (.ref a), .val (.long qv), .second, .unset] [(.int (1 : Int32))])
  refine own_step (fun t k => XS.goto X1.here hx rfl (pc0 := 14) (pc' := 18) rfl (hb hby own_prog_3_method_2_14) (by decide) (by decide) k) ?_
  show own_Goes _ _ _ _ T1 (mkF m 18 #[.val (.ref a), .val (.long qv), .second, .unset] [(.int (1 : Int32))])
  refine own_step (fun t k => XS.istoreN X1.here hx rfl (hb hby own_prog_3_method_2_18) rfl (l' := #[.val (.ref a), .val (.long qv), .second, .val (.int (1 : Int32))]) rfl k) ?_
  show own_Goes _ _ _ _ T1 (mkF m 19 #[.val (.ref a), .val (.long qv), .second, .val (.int (1 : Int32))] [])
  refine own_step (fun t k => XS.iloadN X1.here hx rfl (hb hby own_prog_3_method_2_19) rfl k) ?_
  show own_Goes _ _ _ _ T1 (mkF m 20 #[.val (.ref a), .val (.long qv), .second, .val (.int (1 : Int32))] [(.int (1 : Int32))])
  refine own_step (fun t k => XS.aloadN X1.here hx rfl (hb hby own_prog_3_method_2_20) rfl rfl k) ?_
  show own_Goes _ _ _ _ T1 (mkF m 21 #[.val (.ref a), .val (.long qv), .second, .val (.int (1 : Int32))] [(.ref a), (.int (1 : Int32))])
  obtain ⟨T2, X2, e2, st2⟩ := getF X1 hx hZ hown (host := "") (Or.inl (hw _ (List.mem_of_getElem? (i := 21) rfl))) Via.refl e1 F_a_complemented (g := (mkF m 21 #[.val (.ref a), .val (.long qv), .second, .val (.int (1 : Int32))] [(.ref a), (.int (1 : Int32))])) rfl rfl (hb hby own_prog_3_method_2_21)
  refine own_step st2 ?_
  show own_Goes _ _ _ _ T2 (mkF m 24 #[.val (.ref a), .val (.long qv), .second, .val (.int (1 : Int32))] [(.int (1 : Int32)), (.int (1 : Int32))])
  refine own_step (fun t k => XS.icmpYes X2.here hx rfl (pc0 := 24) (pc' := 31) rfl (hb hby own_prog_3_method_2_24) rfl (teq (show (1 : Int32) = (1 : Int32) from (by decide))).1 (by decide) (by decide) k) ?_
  show own_Goes _ _ _ _ T2 (mkF m 31 #[.val (.ref a), .val (.long qv), .second, .val (.int (1 : Int32))] [])
  refine own_step (fun t k => XS.iconst X2.here hx rfl (hb hby own_prog_3_method_2_31) k) ?_
  show own_Goes _ _ _ _ T2 (mkF m 32 #[.val (.ref a), .val (.long qv), .second, .val (.int (1 : Int32))] [(.int (0 : Int32))])
  exact own_retN X2 hx hlk (t := .boolean) hrt (by simp) (hb hby own_prog_3_method_2_32) ⟨rfl, N0, e2⟩ (by decide) (by decide)
theorem own_pn_com_example_weaverbird_weaverbird_automaton_AtomCountsPinLaw : plainName "com/example/weaverbird/weaverbird/automaton/AtomCountsPinLaw" = true := by first | (simp [plainName, overriddenIn]; done) | decide +kernel
theorem own_ef3 (m : MethodId) (x0 : Int32) (x1 : Int32) (x2 : Int32) (x3 : Int64) : entryFrame m #[(.int x0), (.int x1), (.int x2), (.long x3)] maxLocals = mkF m 0 #[.val (.int x0), .val (.int x1), .val (.int x2), .val (.long x3), .second, .unset, .unset, .unset, .unset, .unset, .unset] [] := by first | (simp [entryFrame, mkF, argsToLocals, Value.category, maxLocals]; done) | rfl
theorem own_pd1 : parseMethodDescriptor "(Lcom/example/weaverbird/weaverbird/automaton/Acceptance$Kind;IZ)V" = some ⟨[(.object "com/example/weaverbird/weaverbird/automaton/Acceptance$Kind"), .int, .boolean], none⟩ := by decide +kernel
theorem own_pd2 : parseMethodDescriptor "(J)Z" = some ⟨[.long], some .boolean⟩ := by decide +kernel
set_option maxRecDepth 65536 in
set_option maxHeartbeats 40000000 in
theorem own_law000 (l : Launch) (Z : State) (a0 : Array Value) (hw : ∀ d ∈ tables_1, d.before a0 Z = true) (ws : List Jvm.Cond) (p1 : Int32) (p2 : Int32) (p3 : Int32) (q4 : Int64) (w_FIN : Addr) (h0 : Heap) (n0 : Nat) (Z0 : n0 ≤ h0.size) (S_FIN : Sta Z h0 "com/example/weaverbird/weaverbird/automaton/Acceptance$Kind" "FIN" "Lcom/example/weaverbird/weaverbird/automaton/Acceptance$Kind;" (.ref w_FIN)) (hk : (p1 &&& (1 : Int32)) = (0 : Int32)) (hcc : (p3 &&& (1 : Int32)) = (0 : Int32)) (hx1 : ¬ ((lcmpW (((q4.toUInt64 >>> ((p2 &&& (63 : Int32)) &&& 0x3f).toInt64.toUInt64).toInt64) &&& (1 : Int64)) (1 : Int64)) = (0 : Int32))) (hy1 : (lcmpW (q4 &&& ((1 : Int64) <<< ((p2 &&& (63 : Int32)) &&& 0x3f).toInt64)) (0 : Int64)) = (0 : Int32)) :
    own_Met l Z x code maxLocals ret ws room_1 #[(.int p1), (.int p2), (.int p3), (.long q4)] h0 (fun v h L => v = some (.int 1) ∧ Fr n0 L) := by
  refine own_body (plainFor_of_name own_pn_com_example_weaverbird_weaverbird_automaton_AtomCountsPinLaw) (fun p e s m below meth c s₁ hx hby hml0 hrt hlk hown0 hnm hZ X0 e0 => ?_)
  have N0 := Fr.nil n0
  have hown : s.vm.findClass "com/example/weaverbird/weaverbird/automaton/AtomCountsPinLaw" = some m.cls := hown0
  have hml : c.maxLocals = 11 := hml0
  refine own_castG (own_ef3 m p1 p2 p3 q4) ?_
  show own_Goes _ _ _ _ s₁ (mkF m 0 #[.val (.int p1), .val (.int p2), .val (.int p3), .val (.long q4), .second, .unset, .unset, .unset, .unset, .unset, .unset] [])
  refine own_step (fun t k => XS.iloadN X0.here hx rfl (hb hby at_0) rfl k) ?_
  show own_Goes _ _ _ _ s₁ (mkF m 1 #[.val (.int p1), .val (.int p2), .val (.int p3), .val (.long q4), .second, .unset, .unset, .unset, .unset, .unset, .unset] [(.int p1)])
  refine own_step (fun t k => XS.iconst X0.here hx rfl (hb hby at_1) k) ?_
  show own_Goes _ _ _ _ s₁ (mkF m 2 #[.val (.int p1), .val (.int p2), .val (.int p3), .val (.long q4), .second, .unset, .unset, .unset, .unset, .unset, .unset] [(.int (1 : Int32)), (.int p1)])
  refine own_step (fun t k => XS.iand X0.here hx rfl (hb hby at_2) rfl k) ?_
  show own_Goes _ _ _ _ s₁ (mkF m 3 #[.val (.int p1), .val (.int p2), .val (.int p3), .val (.long q4), .second, .unset, .unset, .unset, .unset, .unset, .unset] [(.int (p1 &&& (1 : Int32)))])
  refine own_step (fun t k => XS.ifNo X0.here hx rfl (hb hby at_3) rfl ((if0 _ _).trans (teq (show (p1 &&& (1 : Int32)) = (0 : Int32) from hk)).2) k) ?_
  show own_Goes _ _ _ _ s₁ (mkF m 6 #[.val (.int p1), .val (.int p2), .val (.int p3), .val (.long q4), .second, .unset, .unset, .unset, .unset, .unset, .unset] [])
  obtain ⟨T1, X1, e1, st1⟩ := getS2 X0 hx hZ hown (host := "") (Or.inl (hw _ (List.mem_of_getElem? (i := 0) rfl))) Via.refl e0 S_FIN (g := (mkF m 6 #[.val (.int p1), .val (.int p2), .val (.int p3), .val (.long q4), .second, .unset, .unset, .unset, .unset, .unset, .unset] [])) rfl (hb hby at_6)
  refine own_step st1 ?_
  show own_Goes _ _ _ _ T1 (mkF m 9 #[.val (.int p1), .val (.int p2), .val (.int p3), .val (.long q4), .second, .unset, .unset, .unset, .unset, .unset, .unset] [(.ref w_FIN)])
  refine own_step (fun t k => XS.goto X1.here hx rfl (pc0 := 9) (pc' := 15) rfl (hb hby at_9) (by decide) (by decide) k) ?_
  show own_Goes _ _ _ _ T1 (mkF m 15 #[.val (.int p1), .val (.int p2), .val (.int p3), .val (.long q4), .second, .unset, .unset, .unset, .unset, .unset, .unset] [(.ref w_FIN)])
  refine own_step (fun t k => XS.astore X1.here hx rfl (hb hby at_15) rfl rfl (l' := #[.val (.int p1), .val (.int p2), .val (.int p3), .val (.long q4), .second, .val (.ref w_FIN), .unset, .unset, .unset, .unset, .unset]) rfl k) ?_
  show own_Goes _ _ _ _ T1 (mkF m 17 #[.val (.int p1), .val (.int p2), .val (.int p3), .val (.long q4), .second, .val (.ref w_FIN), .unset, .unset, .unset, .unset, .unset] [])
  refine own_step (fun t k => XS.iloadN X1.here hx rfl (hb hby at_17) rfl k) ?_
  show own_Goes _ _ _ _ T1 (mkF m 18 #[.val (.int p1), .val (.int p2), .val (.int p3), .val (.long q4), .second, .val (.ref w_FIN), .unset, .unset, .unset, .unset, .unset] [(.int p2)])
  refine own_step (fun t k => XS.bipush X1.here hx rfl (hb hby at_18) k) ?_
  show own_Goes _ _ _ _ T1 (mkF m 20 #[.val (.int p1), .val (.int p2), .val (.int p3), .val (.long q4), .second, .val (.ref w_FIN), .unset, .unset, .unset, .unset, .unset] [(.int (63 : Int32)), (.int p2)])
  refine own_step (fun t k => XS.iand X1.here hx rfl (hb hby at_20) rfl k) ?_
  show own_Goes _ _ _ _ T1 (mkF m 21 #[.val (.int p1), .val (.int p2), .val (.int p3), .val (.long q4), .second, .val (.ref w_FIN), .unset, .unset, .unset, .unset, .unset] [(.int (p2 &&& (63 : Int32)))])
  refine own_step (fun t k => XS.istore X1.here hx rfl (hb hby at_21) rfl (l' := #[.val (.int p1), .val (.int p2), .val (.int p3), .val (.long q4), .second, .val (.ref w_FIN), .val (.int (p2 &&& (63 : Int32))), .unset, .unset, .unset, .unset]) rfl k) ?_
  show own_Goes _ _ _ _ T1 (mkF m 23 #[.val (.int p1), .val (.int p2), .val (.int p3), .val (.long q4), .second, .val (.ref w_FIN), .val (.int (p2 &&& (63 : Int32))), .unset, .unset, .unset, .unset] [])
  refine own_step (fun t k => XS.iloadN X1.here hx rfl (hb hby at_23) rfl k) ?_
  show own_Goes _ _ _ _ T1 (mkF m 24 #[.val (.int p1), .val (.int p2), .val (.int p3), .val (.long q4), .second, .val (.ref w_FIN), .val (.int (p2 &&& (63 : Int32))), .unset, .unset, .unset, .unset] [(.int p3)])
  refine own_step (fun t k => XS.iconst X1.here hx rfl (hb hby at_24) k) ?_
  show own_Goes _ _ _ _ T1 (mkF m 25 #[.val (.int p1), .val (.int p2), .val (.int p3), .val (.long q4), .second, .val (.ref w_FIN), .val (.int (p2 &&& (63 : Int32))), .unset, .unset, .unset, .unset] [(.int (1 : Int32)), (.int p3)])
  refine own_step (fun t k => XS.iand X1.here hx rfl (hb hby at_25) rfl k) ?_
  show own_Goes _ _ _ _ T1 (mkF m 26 #[.val (.int p1), .val (.int p2), .val (.int p3), .val (.long q4), .second, .val (.ref w_FIN), .val (.int (p2 &&& (63 : Int32))), .unset, .unset, .unset, .unset] [(.int (p3 &&& (1 : Int32)))])
  refine own_step (fun t k => XS.ifYes X1.here hx rfl (pc0 := 26) (pc' := 33) rfl (hb hby at_26) rfl ((if0 _ _).trans (teq (show (p3 &&& (1 : Int32)) = (0 : Int32) from hcc)).1) (by decide) (by decide) k) ?_
  show own_Goes _ _ _ _ T1 (mkF m 33 #[.val (.int p1), .val (.int p2), .val (.int p3), .val (.long q4), .second, .val (.ref w_FIN), .val (.int (p2 &&& (63 : Int32))), .unset, .unset, .unset, .unset] [])
  refine own_step (fun t k => XS.iconst X1.here hx rfl (hb hby at_33) k) ?_
  show own_Goes _ _ _ _ T1 (mkF m 34 #[.val (.int p1), .val (.int p2), .val (.int p3), .val (.long q4), .second, .val (.ref w_FIN), .val (.int (p2 &&& (63 : Int32))), .unset, .unset, .unset, .unset] [(.int (0 : Int32))])
  refine own_step (fun t k => XS.istore X1.here hx rfl (hb hby at_34) rfl (l' := #[.val (.int p1), .val (.int p2), .val (.int p3), .val (.long q4), .second, .val (.ref w_FIN), .val (.int (p2 &&& (63 : Int32))), .val (.int (0 : Int32)), .unset, .unset, .unset]) rfl k) ?_
  show own_Goes _ _ _ _ T1 (mkF m 36 #[.val (.int p1), .val (.int p2), .val (.int p3), .val (.long q4), .second, .val (.ref w_FIN), .val (.int (p2 &&& (63 : Int32))), .val (.int (0 : Int32)), .unset, .unset, .unset] [])
  obtain ⟨T2, h2, X2, e2, E2, A2, D2, -, st2⟩ := newO X1 hx hZ hown (hw _ (List.mem_of_getElem? (i := 3) rfl)) (hw _ (List.mem_of_getElem? (i := 4) rfl)) (hw _ (List.mem_of_getElem? (i := 5) rfl)) e1 (g := (mkF m 36 #[.val (.int p1), .val (.int p2), .val (.int p3), .val (.long q4), .second, .val (.ref w_FIN), .val (.int (p2 &&& (63 : Int32))), .val (.int (0 : Int32)), .unset, .unset, .unset] [])) rfl (hb hby at_36) (by decide) (by decide)
  obtain ⟨b2, g2⟩ : ∃ z, z = h0.size := ⟨_, rfl⟩
  rw [← g2] at A2 D2 st2
  refine own_step st2 ?_
  have g_b2 : n0 ≤ b2 := Nat.le_trans Z0 (Nat.le_of_eq g2.symm)
  have sz_b2 : h0.size ≤ b2 := Nat.le_trans (Keep.refl h0 []).1 (Nat.le_of_eq g2.symm)
  have K2 := (Keep.refl h0 []).ext E2
  have F_b2_kind : Fld Z h2 b2 "com/example/weaverbird/weaverbird/automaton/Acceptance$Atom" "kind" "Lcom/example/weaverbird/weaverbird/automaton/Acceptance$Kind;" .null := D2 (Or.inr (hw _ (List.mem_of_getElem? (i := 18) rfl))) (ty := (.object "com/example/weaverbird/weaverbird/automaton/Acceptance$Kind")) (by decide)
  have F_b2_set : Fld Z h2 b2 "com/example/weaverbird/weaverbird/automaton/Acceptance$Atom" "set" "I" (.int (0 : Int32)) := D2 (Or.inr (hw _ (List.mem_of_getElem? (i := 20) rfl))) (ty := .int) (by decide)
  have F_b2_complemented : Fld Z h2 b2 "com/example/weaverbird/weaverbird/automaton/Acceptance$Atom" "complemented" "Z" (.int (0 : Int32)) := D2 (Or.inr (hw _ (List.mem_of_getElem? (i := 22) rfl))) (ty := .boolean) (by decide)
  show own_Goes _ _ _ _ T2 (mkF m 39 #[.val (.int p1), .val (.int p2), .val (.int p3), .val (.long q4), .second, .val (.ref w_FIN), .val (.int (p2 &&& (63 : Int32))), .val (.int (0 : Int32)), .unset, .unset, .unset] [(.ref b2)])
  refine own_step (fun t k => XS.dup X2.here hx rfl (hb hby at_39) rfl rfl k) ?_
  show own_Goes _ _ _ _ T2 (mkF m 40 #[.val (.int p1), .val (.int p2), .val (.int p3), .val (.long q4), .second, .val (.ref w_FIN), .val (.int (p2 &&& (63 : Int32))), .val (.int (0 : Int32)), .unset, .unset, .unset] [(.ref b2), (.ref b2)])
  refine own_step (fun t k => XS.aload X2.here hx rfl (hb hby at_40) rfl rfl k) ?_
  show own_Goes _ _ _ _ T2 (mkF m 42 #[.val (.int p1), .val (.int p2), .val (.int p3), .val (.long q4), .second, .val (.ref w_FIN), .val (.int (p2 &&& (63 : Int32))), .val (.int (0 : Int32)), .unset, .unset, .unset] [(.ref w_FIN), (.ref b2), (.ref b2)])
  refine own_step (fun t k => XS.iload X2.here hx rfl (hb hby at_42) rfl k) ?_
  show own_Goes _ _ _ _ T2 (mkF m 44 #[.val (.int p1), .val (.int p2), .val (.int p3), .val (.long q4), .second, .val (.ref w_FIN), .val (.int (p2 &&& (63 : Int32))), .val (.int (0 : Int32)), .unset, .unset, .unset] [(.int (p2 &&& (63 : Int32))), (.ref w_FIN), (.ref b2), (.ref b2)])
  refine own_step (fun t k => XS.iload X2.here hx rfl (hb hby at_44) rfl k) ?_
  show own_Goes _ _ _ _ T2 (mkF m 46 #[.val (.int p1), .val (.int p2), .val (.int p3), .val (.long q4), .second, .val (.ref w_FIN), .val (.int (p2 &&& (63 : Int32))), .val (.int (0 : Int32)), .unset, .unset, .unset] [(.int (0 : Int32)), (.int (p2 &&& (63 : Int32))), (.ref w_FIN), (.ref b2), (.ref b2)])
  refine own_callC X2 hx hZ (y := (⟨"com/example/weaverbird/weaverbird/automaton/Acceptance$Atom", "<init>", "(Lcom/example/weaverbird/weaverbird/automaton/Acceptance$Kind;IZ)V"⟩ : MethodName)) rfl hown (hw _ (List.mem_of_getElem? (i := 6) rfl)) (hw _ (List.mem_of_getElem? (i := 7) rfl)) (hw _ (List.mem_of_getElem? (i := 8) rfl)) (hw _ (List.mem_of_getElem? (i := 5) rfl)) (by decide) 1 (a := b2) [(.ref w_FIN), (.int (p2 &&& (63 : Int32))), (.int (0 : Int32))] [(.ref b2)] (own_init0 l Z a0 hw [] b2 w_FIN (p2 &&& (63 : Int32)) h2 n0 (Nat.le_trans Z0 K2.1) A2 F_b2_kind F_b2_set F_b2_complemented g_b2) e2 (by decide) (by decide) (by decide) (by decide) (g := (mkF m 46 #[.val (.int p1), .val (.int p2), .val (.int p3), .val (.long q4), .second, .val (.ref w_FIN), .val (.int (p2 &&& (63 : Int32))), .val (.int (0 : Int32)), .unset, .unset, .unset] [(.int (0 : Int32)), (.int (p2 &&& (63 : Int32))), (.ref w_FIN), (.ref b2), (.ref b2)])) rfl (by rw [hml]; rfl) own_pd1 rfl rfl (by show 2 * 0 + _ ≤ _; exact Nat.le_of_eq rfl) (hb hby at_46) ?_
  intro T3 v3 L3 X3 hQ3
  obtain ⟨rfl, N3q, Kq3, A_3, Fs_3, Fc_3⟩ := hQ3
  have N3 := Fr.app N0 N3q
  have K3 := K2.trans Kq3 (allS (Or.inr sz_b2) all0)
  show own_Goes _ _ _ _ T3 (mkF m 49 #[.val (.int p1), .val (.int p2), .val (.int p3), .val (.long q4), .second, .val (.ref w_FIN), .val (.int (p2 &&& (63 : Int32))), .val (.int (0 : Int32)), .unset, .unset, .unset] [(.ref b2)])
  refine own_step (fun t k => XS.astore X3.here hx rfl (hb hby at_49) rfl rfl (l' := #[.val (.int p1), .val (.int p2), .val (.int p3), .val (.long q4), .second, .val (.ref w_FIN), .val (.int (p2 &&& (63 : Int32))), .val (.int (0 : Int32)), .val (.ref b2), .unset, .unset]) rfl k) ?_
  show own_Goes _ _ _ _ T3 (mkF m 51 #[.val (.int p1), .val (.int p2), .val (.int p3), .val (.long q4), .second, .val (.ref w_FIN), .val (.int (p2 &&& (63 : Int32))), .val (.int (0 : Int32)), .val (.ref b2), .unset, .unset] [])
  refine own_step (fun t k => XS.lloadN X3.here hx rfl (hb hby at_51) rfl k) ?_
  show own_Goes _ _ _ _ T3 (mkF m 52 #[.val (.int p1), .val (.int p2), .val (.int p3), .val (.long q4), .second, .val (.ref w_FIN), .val (.int (p2 &&& (63 : Int32))), .val (.int (0 : Int32)), .val (.ref b2), .unset, .unset] [(.long q4)])
  refine own_step (fun t k => XS.iload X3.here hx rfl (hb hby at_52) rfl k) ?_
  show own_Goes _ _ _ _ T3 (mkF m 54 #[.val (.int p1), .val (.int p2), .val (.int p3), .val (.long q4), .second, .val (.ref w_FIN), .val (.int (p2 &&& (63 : Int32))), .val (.int (0 : Int32)), .val (.ref b2), .unset, .unset] [(.int (p2 &&& (63 : Int32))), (.long q4)])
  refine own_step (fun t k => XS.lushr X3.here hx rfl (hb hby at_54) rfl k) ?_
  show own_Goes _ _ _ _ T3 (mkF m 55 #[.val (.int p1), .val (.int p2), .val (.int p3), .val (.long q4), .second, .val (.ref w_FIN), .val (.int (p2 &&& (63 : Int32))), .val (.int (0 : Int32)), .val (.ref b2), .unset, .unset] [(.long ((q4.toUInt64 >>> ((p2 &&& (63 : Int32)) &&& 0x3f).toInt64.toUInt64).toInt64))])
  refine own_step (fun t k => XS.lconst X3.here hx rfl (hb hby at_55) k) ?_
  show own_Goes _ _ _ _ T3 (mkF m 56 #[.val (.int p1), .val (.int p2), .val (.int p3), .val (.long q4), .second, .val (.ref w_FIN), .val (.int (p2 &&& (63 : Int32))), .val (.int (0 : Int32)), .val (.ref b2), .unset, .unset] [(.long (1 : Int64)), (.long ((q4.toUInt64 >>> ((p2 &&& (63 : Int32)) &&& 0x3f).toInt64.toUInt64).toInt64))])
  refine own_step (fun t k => XS.land X3.here hx rfl (hb hby at_56) rfl k) ?_
  show own_Goes _ _ _ _ T3 (mkF m 57 #[.val (.int p1), .val (.int p2), .val (.int p3), .val (.long q4), .second, .val (.ref w_FIN), .val (.int (p2 &&& (63 : Int32))), .val (.int (0 : Int32)), .val (.ref b2), .unset, .unset] [(.long (((q4.toUInt64 >>> ((p2 &&& (63 : Int32)) &&& 0x3f).toInt64.toUInt64).toInt64) &&& (1 : Int64)))])
  refine own_step (fun t k => XS.lconst X3.here hx rfl (hb hby at_57) k) ?_
  show own_Goes _ _ _ _ T3 (mkF m 58 #[.val (.int p1), .val (.int p2), .val (.int p3), .val (.long q4), .second, .val (.ref w_FIN), .val (.int (p2 &&& (63 : Int32))), .val (.int (0 : Int32)), .val (.ref b2), .unset, .unset] [(.long (1 : Int64)), (.long (((q4.toUInt64 >>> ((p2 &&& (63 : Int32)) &&& 0x3f).toInt64.toUInt64).toInt64) &&& (1 : Int64)))])
  refine own_step (fun t k => XS.lcmp X3.here hx rfl (hb hby at_58) rfl k) ?_
  show own_Goes _ _ _ _ T3 (mkF m 59 #[.val (.int p1), .val (.int p2), .val (.int p3), .val (.long q4), .second, .val (.ref w_FIN), .val (.int (p2 &&& (63 : Int32))), .val (.int (0 : Int32)), .val (.ref b2), .unset, .unset] [(.int (lcmpW (((q4.toUInt64 >>> ((p2 &&& (63 : Int32)) &&& 0x3f).toInt64.toUInt64).toInt64) &&& (1 : Int64)) (1 : Int64)))])
  refine own_step (fun t k => XS.ifYes X3.here hx rfl (pc0 := 59) (pc' := 66) rfl (hb hby at_59) rfl ((if0 _ _).trans (feq (show ¬ ((lcmpW (((q4.toUInt64 >>> ((p2 &&& (63 : Int32)) &&& 0x3f).toInt64.toUInt64).toInt64) &&& (1 : Int64)) (1 : Int64)) = (0 : Int32)) from hx1)).2) (by decide) (by decide) k) ?_
  show own_Goes _ _ _ _ T3 (mkF m 66 #[.val (.int p1), .val (.int p2), .val (.int p3), .val (.long q4), .second, .val (.ref w_FIN), .val (.int (p2 &&& (63 : Int32))), .val (.int (0 : Int32)), .val (.ref b2), .unset, .unset] [])
  refine own_step (fun t k => XS.iconst X3.here hx rfl (hb hby at_66) k) ?_
  show own_Goes _ _ _ _ T3 (mkF m 67 #[.val (.int p1), .val (.int p2), .val (.int p3), .val (.long q4), .second, .val (.ref w_FIN), .val (.int (p2 &&& (63 : Int32))), .val (.int (0 : Int32)), .val (.ref b2), .unset, .unset] [(.int (0 : Int32))])
  refine own_step (fun t k => XS.istore X3.here hx rfl (hb hby at_67) rfl (l' := #[.val (.int p1), .val (.int p2), .val (.int p3), .val (.long q4), .second, .val (.ref w_FIN), .val (.int (p2 &&& (63 : Int32))), .val (.int (0 : Int32)), .val (.ref b2), .val (.int (0 : Int32)), .unset]) rfl k) ?_
  show own_Goes _ _ _ _ T3 (mkF m 69 #[.val (.int p1), .val (.int p2), .val (.int p3), .val (.long q4), .second, .val (.ref w_FIN), .val (.int (p2 &&& (63 : Int32))), .val (.int (0 : Int32)), .val (.ref b2), .val (.int (0 : Int32)), .unset] [])
  refine own_step (fun t k => XS.iload X3.here hx rfl (hb hby at_69) rfl k) ?_
  show own_Goes _ _ _ _ T3 (mkF m 71 #[.val (.int p1), .val (.int p2), .val (.int p3), .val (.long q4), .second, .val (.ref w_FIN), .val (.int (p2 &&& (63 : Int32))), .val (.int (0 : Int32)), .val (.ref b2), .val (.int (0 : Int32)), .unset] [(.int (0 : Int32))])
  refine own_step (fun t k => XS.ifYes X3.here hx rfl (pc0 := 71) (pc' := 87) rfl (hb hby at_71) rfl ((if0 _ _).trans (teq (show (0 : Int32) = (0 : Int32) from (by decide))).1) (by decide) (by decide) k) ?_
  show own_Goes _ _ _ _ T3 (mkF m 87 #[.val (.int p1), .val (.int p2), .val (.int p3), .val (.long q4), .second, .val (.ref w_FIN), .val (.int (p2 &&& (63 : Int32))), .val (.int (0 : Int32)), .val (.ref b2), .val (.int (0 : Int32)), .unset] [])
  refine own_step (fun t k => XS.iload X3.here hx rfl (hb hby at_87) rfl k) ?_
  show own_Goes _ _ _ _ T3 (mkF m 89 #[.val (.int p1), .val (.int p2), .val (.int p3), .val (.long q4), .second, .val (.ref w_FIN), .val (.int (p2 &&& (63 : Int32))), .val (.int (0 : Int32)), .val (.ref b2), .val (.int (0 : Int32)), .unset] [(.int (0 : Int32))])
  refine own_step (fun t k => XS.istore X3.here hx rfl (hb hby at_89) rfl (l' := #[.val (.int p1), .val (.int p2), .val (.int p3), .val (.long q4), .second, .val (.ref w_FIN), .val (.int (p2 &&& (63 : Int32))), .val (.int (0 : Int32)), .val (.ref b2), .val (.int (0 : Int32)), .val (.int (0 : Int32))]) rfl k) ?_
  show own_Goes _ _ _ _ T3 (mkF m 91 #[.val (.int p1), .val (.int p2), .val (.int p3), .val (.long q4), .second, .val (.ref w_FIN), .val (.int (p2 &&& (63 : Int32))), .val (.int (0 : Int32)), .val (.ref b2), .val (.int (0 : Int32)), .val (.int (0 : Int32))] [])
  refine own_step (fun t k => XS.aload X3.here hx rfl (hb hby at_91) rfl rfl k) ?_
  show own_Goes _ _ _ _ T3 (mkF m 93 #[.val (.int p1), .val (.int p2), .val (.int p3), .val (.long q4), .second, .val (.ref w_FIN), .val (.int (p2 &&& (63 : Int32))), .val (.int (0 : Int32)), .val (.ref b2), .val (.int (0 : Int32)), .val (.int (0 : Int32))] [(.ref b2)])
  refine own_step (fun t k => XS.lloadN X3.here hx rfl (hb hby at_93) rfl k) ?_
  show own_Goes _ _ _ _ T3 (mkF m 94 #[.val (.int p1), .val (.int p2), .val (.int p3), .val (.long q4), .second, .val (.ref w_FIN), .val (.int (p2 &&& (63 : Int32))), .val (.int (0 : Int32)), .val (.ref b2), .val (.int (0 : Int32)), .val (.int (0 : Int32))] [(.long q4), (.ref b2)])
  refine own_callV X3 hx hZ (y := (⟨"com/example/weaverbird/weaverbird/automaton/Acceptance$Atom", "counts", "(J)Z"⟩ : MethodName)) (z := (⟨"com/example/weaverbird/weaverbird/automaton/Acceptance$Atom", "counts", "(J)Z"⟩ : MethodName)) hown (hw _ (List.mem_of_getElem? (i := 23) rfl)) (hw _ (List.mem_of_getElem? (i := 24) rfl)) (notFace_of_selects (args := #[]) (mvT hZ (hw _ (List.mem_of_getElem? (i := 26) rfl)))) (hw _ (List.mem_of_getElem? (i := 26) rfl)) (hw _ (List.mem_of_getElem? (i := 25) rfl)) (hw _ (List.mem_of_getElem? (i := 27) rfl)) (hw _ (List.mem_of_getElem? (i := 5) rfl)) (by decide) 0 A_3 [(.long q4)] [] (own_cnt00 l Z a0 hw [] b2 q4 (p2 &&& (63 : Int32)) T3.heap n0 (Nat.le_trans Z0 K3.1) Fs_3 Fc_3 hy1) rfl (by decide) (by decide) (by decide) (by decide) (g := (mkF m 94 #[.val (.int p1), .val (.int p2), .val (.int p3), .val (.long q4), .second, .val (.ref w_FIN), .val (.int (p2 &&& (63 : Int32))), .val (.int (0 : Int32)), .val (.ref b2), .val (.int (0 : Int32)), .val (.int (0 : Int32))] [(.long q4), (.ref b2)])) rfl (by rw [hml]; rfl) own_pd2 rfl rfl (by show 2 * 0 + _ ≤ _; exact Nat.le_of_eq rfl) (hb hby at_94) ?_
  intro T4 v4 L4 X4 hQ4
  obtain ⟨rfl, N4q, e4⟩ := hQ4
  have N4 := Fr.app N3 N4q
  show own_Goes _ _ _ _ T4 (mkF m 97 #[.val (.int p1), .val (.int p2), .val (.int p3), .val (.long q4), .second, .val (.ref w_FIN), .val (.int (p2 &&& (63 : Int32))), .val (.int (0 : Int32)), .val (.ref b2), .val (.int (0 : Int32)), .val (.int (0 : Int32))] [(.int (0 : Int32))])
  refine own_step (fun t k => XS.iload X4.here hx rfl (hb hby at_97) rfl k) ?_
  show own_Goes _ _ _ _ T4 (mkF m 99 #[.val (.int p1), .val (.int p2), .val (.int p3), .val (.long q4), .second, .val (.ref w_FIN), .val (.int (p2 &&& (63 : Int32))), .val (.int (0 : Int32)), .val (.ref b2), .val (.int (0 : Int32)), .val (.int (0 : Int32))] [(.int (0 : Int32)), (.int (0 : Int32))])
  refine own_step (fun t k => XS.icmpNo X4.here hx rfl (hb hby at_99) rfl (teq (show (0 : Int32) = (0 : Int32) from (by decide))).2 k) ?_
  show own_Goes _ _ _ _ T4 (mkF m 102 #[.val (.int p1), .val (.int p2), .val (.int p3), .val (.long q4), .second, .val (.ref w_FIN), .val (.int (p2 &&& (63 : Int32))), .val (.int (0 : Int32)), .val (.ref b2), .val (.int (0 : Int32)), .val (.int (0 : Int32))] [])
  refine own_step (fun t k => XS.iconst X4.here hx rfl (hb hby at_102) k) ?_
  show own_Goes _ _ _ _ T4 (mkF m 103 #[.val (.int p1), .val (.int p2), .val (.int p3), .val (.long q4), .second, .val (.ref w_FIN), .val (.int (p2 &&& (63 : Int32))), .val (.int (0 : Int32)), .val (.ref b2), .val (.int (0 : Int32)), .val (.int (0 : Int32))] [(.int (1 : Int32))])
  refine own_step (fun t k => XS.goto X4.here hx rfl (pc0 := 103) (pc' := 107) rfl (hb hby at_103) (by decide) (by decide) k) ?_
  show own_Goes _ _ _ _ T4 (mkF m 107 #[.val (.int p1), .val (.int p2), .val (.int p3), .val (.long q4), .second, .val (.ref w_FIN), .val (.int (p2 &&& (63 : Int32))), .val (.int (0 : Int32)), .val (.ref b2), .val (.int (0 : Int32)), .val (.int (0 : Int32))] [(.int (1 : Int32))])
  exact own_retN X4 hx hlk (t := .boolean) hrt (by simp) (hb hby at_107) ⟨rfl, N4⟩ (by decide) (by decide)
set_option maxRecDepth 65536 in
set_option maxHeartbeats 40000000 in
theorem own_law001 (l : Launch) (Z : State) (a0 : Array Value) (hw : ∀ d ∈ tables_1, d.before a0 Z = true) (ws : List Jvm.Cond) (p1 : Int32) (p2 : Int32) (p3 : Int32) (q4 : Int64) (w_FIN : Addr) (h0 : Heap) (n0 : Nat) (Z0 : n0 ≤ h0.size) (S_FIN : Sta Z h0 "com/example/weaverbird/weaverbird/automaton/Acceptance$Kind" "FIN" "Lcom/example/weaverbird/weaverbird/automaton/Acceptance$Kind;" (.ref w_FIN)) (hk : (p1 &&& (1 : Int32)) = (0 : Int32)) (hcc : (p3 &&& (1 : Int32)) = (0 : Int32)) (hx1 : (lcmpW (((q4.toUInt64 >>> ((p2 &&& (63 : Int32)) &&& 0x3f).toInt64.toUInt64).toInt64) &&& (1 : Int64)) (1 : Int64)) = (0 : Int32)) (hy1 : ¬ ((lcmpW (q4 &&& ((1 : Int64) <<< ((p2 &&& (63 : Int32)) &&& 0x3f).toInt64)) (0 : Int64)) = (0 : Int32))) :
    own_Met l Z x code maxLocals ret ws room_1 #[(.int p1), (.int p2), (.int p3), (.long q4)] h0 (fun v h L => v = some (.int 1) ∧ Fr n0 L) := by
  refine own_body (plainFor_of_name own_pn_com_example_weaverbird_weaverbird_automaton_AtomCountsPinLaw) (fun p e s m below meth c s₁ hx hby hml0 hrt hlk hown0 hnm hZ X0 e0 => ?_)
  have N0 := Fr.nil n0
  have hown : s.vm.findClass "com/example/weaverbird/weaverbird/automaton/AtomCountsPinLaw" = some m.cls := hown0
  have hml : c.maxLocals = 11 := hml0
  refine own_castG (own_ef3 m p1 p2 p3 q4) ?_
  show own_Goes _ _ _ _ s₁ (mkF m 0 #[.val (.int p1), .val (.int p2), .val (.int p3), .val (.long q4), .second, .unset, .unset, .unset, .unset, .unset, .unset] [])
  refine own_step (fun t k => XS.iloadN X0.here hx rfl (hb hby at_0) rfl k) ?_
  show own_Goes _ _ _ _ s₁ (mkF m 1 #[.val (.int p1), .val (.int p2), .val (.int p3), .val (.long q4), .second, .unset, .unset, .unset, .unset, .unset, .unset] [(.int p1)])
  refine own_step (fun t k => XS.iconst X0.here hx rfl (hb hby at_1) k) ?_
  show own_Goes _ _ _ _ s₁ (mkF m 2 #[.val (.int p1), .val (.int p2), .val (.int p3), .val (.long q4), .second, .unset, .unset, .unset, .unset, .unset, .unset] [(.int (1 : Int32)), (.int p1)])
  refine own_step (fun t k => XS.iand X0.here hx rfl (hb hby at_2) rfl k) ?_
  show own_Goes _ _ _ _ s₁ (mkF m 3 #[.val (.int p1), .val (.int p2), .val (.int p3), .val (.long q4), .second, .unset, .unset, .unset, .unset, .unset, .unset] [(.int (p1 &&& (1 : Int32)))])
  refine own_step (fun t k => XS.ifNo X0.here hx rfl (hb hby at_3) rfl ((if0 _ _).trans (teq (show (p1 &&& (1 : Int32)) = (0 : Int32) from hk)).2) k) ?_
  show own_Goes _ _ _ _ s₁ (mkF m 6 #[.val (.int p1), .val (.int p2), .val (.int p3), .val (.long q4), .second, .unset, .unset, .unset, .unset, .unset, .unset] [])
  obtain ⟨T1, X1, e1, st1⟩ := getS2 X0 hx hZ hown (host := "") (Or.inl (hw _ (List.mem_of_getElem? (i := 0) rfl))) Via.refl e0 S_FIN (g := (mkF m 6 #[.val (.int p1), .val (.int p2), .val (.int p3), .val (.long q4), .second, .unset, .unset, .unset, .unset, .unset, .unset] [])) rfl (hb hby at_6)
  refine own_step st1 ?_
  show own_Goes _ _ _ _ T1 (mkF m 9 #[.val (.int p1), .val (.int p2), .val (.int p3), .val (.long q4), .second, .unset, .unset, .unset, .unset, .unset, .unset] [(.ref w_FIN)])
  refine own_step (fun t k => XS.goto X1.here hx rfl (pc0 := 9) (pc' := 15) rfl (hb hby at_9) (by decide) (by decide) k) ?_
  show own_Goes _ _ _ _ T1 (mkF m 15 #[.val (.int p1), .val (.int p2), .val (.int p3), .val (.long q4), .second, .unset, .unset, .unset, .unset, .unset, .unset] [(.ref w_FIN)])
  refine own_step (fun t k => XS.astore X1.here hx rfl (hb hby at_15) rfl rfl (l' := #[.val (.int p1), .val (.int p2), .val (.int p3), .val (.long q4), .second, .val (.ref w_FIN), .unset, .unset, .unset, .unset, .unset]) rfl k) ?_
  show own_Goes _ _ _ _ T1 (mkF m 17 #[.val (.int p1), .val (.int p2), .val (.int p3), .val (.long q4), .second, .val (.ref w_FIN), .unset, .unset, .unset, .unset, .unset] [])
  refine own_step (fun t k => XS.iloadN X1.here hx rfl (hb hby at_17) rfl k) ?_
  show own_Goes _ _ _ _ T1 (mkF m 18 #[.val (.int p1), .val (.int p2), .val (.int p3), .val (.long q4), .second, .val (.ref w_FIN), .unset, .unset, .unset, .unset, .unset] [(.int p2)])
  refine own_step (fun t k => XS.bipush X1.here hx rfl (hb hby at_18) k) ?_
  show own_Goes _ _ _ _ T1 (mkF m 20 #[.val (.int p1), .val (.int p2), .val (.int p3), .val (.long q4), .second, .val (.ref w_FIN), .unset, .unset, .unset, .unset, .unset] [(.int (63 : Int32)), (.int p2)])
  refine own_step (fun t k => XS.iand X1.here hx rfl (hb hby at_20) rfl k) ?_
  show own_Goes _ _ _ _ T1 (mkF m 21 #[.val (.int p1), .val (.int p2), .val (.int p3), .val (.long q4), .second, .val (.ref w_FIN), .unset, .unset, .unset, .unset, .unset] [(.int (p2 &&& (63 : Int32)))])
  refine own_step (fun t k => XS.istore X1.here hx rfl (hb hby at_21) rfl (l' := #[.val (.int p1), .val (.int p2), .val (.int p3), .val (.long q4), .second, .val (.ref w_FIN), .val (.int (p2 &&& (63 : Int32))), .unset, .unset, .unset, .unset]) rfl k) ?_
  show own_Goes _ _ _ _ T1 (mkF m 23 #[.val (.int p1), .val (.int p2), .val (.int p3), .val (.long q4), .second, .val (.ref w_FIN), .val (.int (p2 &&& (63 : Int32))), .unset, .unset, .unset, .unset] [])
  refine own_step (fun t k => XS.iloadN X1.here hx rfl (hb hby at_23) rfl k) ?_
  show own_Goes _ _ _ _ T1 (mkF m 24 #[.val (.int p1), .val (.int p2), .val (.int p3), .val (.long q4), .second, .val (.ref w_FIN), .val (.int (p2 &&& (63 : Int32))), .unset, .unset, .unset, .unset] [(.int p3)])
  refine own_step (fun t k => XS.iconst X1.here hx rfl (hb hby at_24) k) ?_
  show own_Goes _ _ _ _ T1 (mkF m 25 #[.val (.int p1), .val (.int p2), .val (.int p3), .val (.long q4), .second, .val (.ref w_FIN), .val (.int (p2 &&& (63 : Int32))), .unset, .unset, .unset, .unset] [(.int (1 : Int32)), (.int p3)])
  refine own_step (fun t k => XS.iand X1.here hx rfl (hb hby at_25) rfl k) ?_
  show own_Goes _ _ _ _ T1 (mkF m 26 #[.val (.int p1), .val (.int p2), .val (.int p3), .val (.long q4), .second, .val (.ref w_FIN), .val (.int (p2 &&& (63 : Int32))), .unset, .unset, .unset, .unset] [(.int (p3 &&& (1 : Int32)))])
  refine own_step (fun t k => XS.ifYes X1.here hx rfl (pc0 := 26) (pc' := 33) rfl (hb hby at_26) rfl ((if0 _ _).trans (teq (show (p3 &&& (1 : Int32)) = (0 : Int32) from hcc)).1) (by decide) (by decide) k) ?_
  show own_Goes _ _ _ _ T1 (mkF m 33 #[.val (.int p1), .val (.int p2), .val (.int p3), .val (.long q4), .second, .val (.ref w_FIN), .val (.int (p2 &&& (63 : Int32))), .unset, .unset, .unset, .unset] [])
  refine own_step (fun t k => XS.iconst X1.here hx rfl (hb hby at_33) k) ?_
  show own_Goes _ _ _ _ T1 (mkF m 34 #[.val (.int p1), .val (.int p2), .val (.int p3), .val (.long q4), .second, .val (.ref w_FIN), .val (.int (p2 &&& (63 : Int32))), .unset, .unset, .unset, .unset] [(.int (0 : Int32))])
  refine own_step (fun t k => XS.istore X1.here hx rfl (hb hby at_34) rfl (l' := #[.val (.int p1), .val (.int p2), .val (.int p3), .val (.long q4), .second, .val (.ref w_FIN), .val (.int (p2 &&& (63 : Int32))), .val (.int (0 : Int32)), .unset, .unset, .unset]) rfl k) ?_
  show own_Goes _ _ _ _ T1 (mkF m 36 #[.val (.int p1), .val (.int p2), .val (.int p3), .val (.long q4), .second, .val (.ref w_FIN), .val (.int (p2 &&& (63 : Int32))), .val (.int (0 : Int32)), .unset, .unset, .unset] [])
  obtain ⟨T2, h2, X2, e2, E2, A2, D2, -, st2⟩ := newO X1 hx hZ hown (hw _ (List.mem_of_getElem? (i := 3) rfl)) (hw _ (List.mem_of_getElem? (i := 4) rfl)) (hw _ (List.mem_of_getElem? (i := 5) rfl)) e1 (g := (mkF m 36 #[.val (.int p1), .val (.int p2), .val (.int p3), .val (.long q4), .second, .val (.ref w_FIN), .val (.int (p2 &&& (63 : Int32))), .val (.int (0 : Int32)), .unset, .unset, .unset] [])) rfl (hb hby at_36) (by decide) (by decide)
  obtain ⟨b2, g2⟩ : ∃ z, z = h0.size := ⟨_, rfl⟩
  rw [← g2] at A2 D2 st2
  refine own_step st2 ?_
  have g_b2 : n0 ≤ b2 := Nat.le_trans Z0 (Nat.le_of_eq g2.symm)
  have sz_b2 : h0.size ≤ b2 := Nat.le_trans (Keep.refl h0 []).1 (Nat.le_of_eq g2.symm)
  have K2 := (Keep.refl h0 []).ext E2
  have F_b2_kind : Fld Z h2 b2 "com/example/weaverbird/weaverbird/automaton/Acceptance$Atom" "kind" "Lcom/example/weaverbird/weaverbird/automaton/Acceptance$Kind;" .null := D2 (Or.inr (hw _ (List.mem_of_getElem? (i := 18) rfl))) (ty := (.object "com/example/weaverbird/weaverbird/automaton/Acceptance$Kind")) (by decide)
  have F_b2_set : Fld Z h2 b2 "com/example/weaverbird/weaverbird/automaton/Acceptance$Atom" "set" "I" (.int (0 : Int32)) := D2 (Or.inr (hw _ (List.mem_of_getElem? (i := 20) rfl))) (ty := .int) (by decide)
  have F_b2_complemented : Fld Z h2 b2 "com/example/weaverbird/weaverbird/automaton/Acceptance$Atom" "complemented" "Z" (.int (0 : Int32)) := D2 (Or.inr (hw _ (List.mem_of_getElem? (i := 22) rfl))) (ty := .boolean) (by decide)
  show own_Goes _ _ _ _ T2 (mkF m 39 #[.val (.int p1), .val (.int p2), .val (.int p3), .val (.long q4), .second, .val (.ref w_FIN), .val (.int (p2 &&& (63 : Int32))), .val (.int (0 : Int32)), .unset, .unset, .unset] [(.ref b2)])
  refine own_step (fun t k => XS.dup X2.here hx rfl (hb hby at_39) rfl rfl k) ?_
  show own_Goes _ _ _ _ T2 (mkF m 40 #[.val (.int p1), .val (.int p2), .val (.int p3), .val (.long q4), .second, .val (.ref w_FIN), .val (.int (p2 &&& (63 : Int32))), .val (.int (0 : Int32)), .unset, .unset, .unset] [(.ref b2), (.ref b2)])
  refine own_step (fun t k => XS.aload X2.here hx rfl (hb hby at_40) rfl rfl k) ?_
  show own_Goes _ _ _ _ T2 (mkF m 42 #[.val (.int p1), .val (.int p2), .val (.int p3), .val (.long q4), .second, .val (.ref w_FIN), .val (.int (p2 &&& (63 : Int32))), .val (.int (0 : Int32)), .unset, .unset, .unset] [(.ref w_FIN), (.ref b2), (.ref b2)])
  refine own_step (fun t k => XS.iload X2.here hx rfl (hb hby at_42) rfl k) ?_
  show own_Goes _ _ _ _ T2 (mkF m 44 #[.val (.int p1), .val (.int p2), .val (.int p3), .val (.long q4), .second, .val (.ref w_FIN), .val (.int (p2 &&& (63 : Int32))), .val (.int (0 : Int32)), .unset, .unset, .unset] [(.int (p2 &&& (63 : Int32))), (.ref w_FIN), (.ref b2), (.ref b2)])
  refine own_step (fun t k => XS.iload X2.here hx rfl (hb hby at_44) rfl k) ?_
  show own_Goes _ _ _ _ T2 (mkF m 46 #[.val (.int p1), .val (.int p2), .val (.int p3), .val (.long q4), .second, .val (.ref w_FIN), .val (.int (p2 &&& (63 : Int32))), .val (.int (0 : Int32)), .unset, .unset, .unset] [(.int (0 : Int32)), (.int (p2 &&& (63 : Int32))), (.ref w_FIN), (.ref b2), (.ref b2)])
  refine own_callC X2 hx hZ (y := (⟨"com/example/weaverbird/weaverbird/automaton/Acceptance$Atom", "<init>", "(Lcom/example/weaverbird/weaverbird/automaton/Acceptance$Kind;IZ)V"⟩ : MethodName)) rfl hown (hw _ (List.mem_of_getElem? (i := 6) rfl)) (hw _ (List.mem_of_getElem? (i := 7) rfl)) (hw _ (List.mem_of_getElem? (i := 8) rfl)) (hw _ (List.mem_of_getElem? (i := 5) rfl)) (by decide) 1 (a := b2) [(.ref w_FIN), (.int (p2 &&& (63 : Int32))), (.int (0 : Int32))] [(.ref b2)] (own_init0 l Z a0 hw [] b2 w_FIN (p2 &&& (63 : Int32)) h2 n0 (Nat.le_trans Z0 K2.1) A2 F_b2_kind F_b2_set F_b2_complemented g_b2) e2 (by decide) (by decide) (by decide) (by decide) (g := (mkF m 46 #[.val (.int p1), .val (.int p2), .val (.int p3), .val (.long q4), .second, .val (.ref w_FIN), .val (.int (p2 &&& (63 : Int32))), .val (.int (0 : Int32)), .unset, .unset, .unset] [(.int (0 : Int32)), (.int (p2 &&& (63 : Int32))), (.ref w_FIN), (.ref b2), (.ref b2)])) rfl (by rw [hml]; rfl) own_pd1 rfl rfl (by show 2 * 0 + _ ≤ _; exact Nat.le_of_eq rfl) (hb hby at_46) ?_
  intro T3 v3 L3 X3 hQ3
  obtain ⟨rfl, N3q, Kq3, A_3, Fs_3, Fc_3⟩ := hQ3
  have N3 := Fr.app N0 N3q
  have K3 := K2.trans Kq3 (allS (Or.inr sz_b2) all0)
  show own_Goes _ _ _ _ T3 (mkF m 49 #[.val (.int p1), .val (.int p2), .val (.int p3), .val (.long q4), .second, .val (.ref w_FIN), .val (.int (p2 &&& (63 : Int32))), .val (.int (0 : Int32)), .unset, .unset, .unset] [(.ref b2)])
  refine own_step (fun t k => XS.astore X3.here hx rfl (hb hby at_49) rfl rfl (l' := #[.val (.int p1), .val (.int p2), .val (.int p3), .val (.long q4), .second, .val (.ref w_FIN), .val (.int (p2 &&& (63 : Int32))), .val (.int (0 : Int32)), .val (.ref b2), .unset, .unset]) rfl k) ?_
  show own_Goes _ _ _ _ T3 (mkF m 51 #[.val (.int p1), .val (.int p2), .val (.int p3), .val (.long q4), .second, .val (.ref w_FIN), .val (.int (p2 &&& (63 : Int32))), .val (.int (0 : Int32)), .val (.ref b2), .unset, .unset] [])
  refine own_step (fun t k => XS.lloadN X3.here hx rfl (hb hby at_51) rfl k) ?_
  show own_Goes _ _ _ _ T3 (mkF m 52 #[.val (.int p1), .val (.int p2), .val (.int p3), .val (.long q4), .second, .val (.ref w_FIN), .val (.int (p2 &&& (63 : Int32))), .val (.int (0 : Int32)), .val (.ref b2), .unset, .unset] [(.long q4)])
  refine own_step (fun t k => XS.iload X3.here hx rfl (hb hby at_52) rfl k) ?_
  show own_Goes _ _ _ _ T3 (mkF m 54 #[.val (.int p1), .val (.int p2), .val (.int p3), .val (.long q4), .second, .val (.ref w_FIN), .val (.int (p2 &&& (63 : Int32))), .val (.int (0 : Int32)), .val (.ref b2), .unset, .unset] [(.int (p2 &&& (63 : Int32))), (.long q4)])
  refine own_step (fun t k => XS.lushr X3.here hx rfl (hb hby at_54) rfl k) ?_
  show own_Goes _ _ _ _ T3 (mkF m 55 #[.val (.int p1), .val (.int p2), .val (.int p3), .val (.long q4), .second, .val (.ref w_FIN), .val (.int (p2 &&& (63 : Int32))), .val (.int (0 : Int32)), .val (.ref b2), .unset, .unset] [(.long ((q4.toUInt64 >>> ((p2 &&& (63 : Int32)) &&& 0x3f).toInt64.toUInt64).toInt64))])
  refine own_step (fun t k => XS.lconst X3.here hx rfl (hb hby at_55) k) ?_
  show own_Goes _ _ _ _ T3 (mkF m 56 #[.val (.int p1), .val (.int p2), .val (.int p3), .val (.long q4), .second, .val (.ref w_FIN), .val (.int (p2 &&& (63 : Int32))), .val (.int (0 : Int32)), .val (.ref b2), .unset, .unset] [(.long (1 : Int64)), (.long ((q4.toUInt64 >>> ((p2 &&& (63 : Int32)) &&& 0x3f).toInt64.toUInt64).toInt64))])
  refine own_step (fun t k => XS.land X3.here hx rfl (hb hby at_56) rfl k) ?_
  show own_Goes _ _ _ _ T3 (mkF m 57 #[.val (.int p1), .val (.int p2), .val (.int p3), .val (.long q4), .second, .val (.ref w_FIN), .val (.int (p2 &&& (63 : Int32))), .val (.int (0 : Int32)), .val (.ref b2), .unset, .unset] [(.long (((q4.toUInt64 >>> ((p2 &&& (63 : Int32)) &&& 0x3f).toInt64.toUInt64).toInt64) &&& (1 : Int64)))])
  refine own_step (fun t k => XS.lconst X3.here hx rfl (hb hby at_57) k) ?_
  show own_Goes _ _ _ _ T3 (mkF m 58 #[.val (.int p1), .val (.int p2), .val (.int p3), .val (.long q4), .second, .val (.ref w_FIN), .val (.int (p2 &&& (63 : Int32))), .val (.int (0 : Int32)), .val (.ref b2), .unset, .unset] [(.long (1 : Int64)), (.long (((q4.toUInt64 >>> ((p2 &&& (63 : Int32)) &&& 0x3f).toInt64.toUInt64).toInt64) &&& (1 : Int64)))])
  refine own_step (fun t k => XS.lcmp X3.here hx rfl (hb hby at_58) rfl k) ?_
  show own_Goes _ _ _ _ T3 (mkF m 59 #[.val (.int p1), .val (.int p2), .val (.int p3), .val (.long q4), .second, .val (.ref w_FIN), .val (.int (p2 &&& (63 : Int32))), .val (.int (0 : Int32)), .val (.ref b2), .unset, .unset] [(.int (lcmpW (((q4.toUInt64 >>> ((p2 &&& (63 : Int32)) &&& 0x3f).toInt64.toUInt64).toInt64) &&& (1 : Int64)) (1 : Int64)))])
  refine own_step (fun t k => XS.ifNo X3.here hx rfl (hb hby at_59) rfl ((if0 _ _).trans (teq (show (lcmpW (((q4.toUInt64 >>> ((p2 &&& (63 : Int32)) &&& 0x3f).toInt64.toUInt64).toInt64) &&& (1 : Int64)) (1 : Int64)) = (0 : Int32) from hx1)).2) k) ?_
  show own_Goes _ _ _ _ T3 (mkF m 62 #[.val (.int p1), .val (.int p2), .val (.int p3), .val (.long q4), .second, .val (.ref w_FIN), .val (.int (p2 &&& (63 : Int32))), .val (.int (0 : Int32)), .val (.ref b2), .unset, .unset] [])
  refine own_step (fun t k => XS.iconst X3.here hx rfl (hb hby at_62) k) ?_
  show own_Goes _ _ _ _ T3 (mkF m 63 #[.val (.int p1), .val (.int p2), .val (.int p3), .val (.long q4), .second, .val (.ref w_FIN), .val (.int (p2 &&& (63 : Int32))), .val (.int (0 : Int32)), .val (.ref b2), .unset, .unset] [(.int (1 : Int32))])
  refine own_step (fun t k => XS.goto X3.here hx rfl (pc0 := 63) (pc' := 67) rfl (hb hby at_63) (by decide) (by decide) k) ?_
  show own_Goes _ _ _ _ T3 (mkF m 67 #[.val (.int p1), .val (.int p2), .val (.int p3), .val (.long q4), .second, .val (.ref w_FIN), .val (.int (p2 &&& (63 : Int32))), .val (.int (0 : Int32)), .val (.ref b2), .unset, .unset] [(.int (1 : Int32))])
  refine own_step (fun t k => XS.istore X3.here hx rfl (hb hby at_67) rfl (l' := #[.val (.int p1), .val (.int p2), .val (.int p3), .val (.long q4), .second, .val (.ref w_FIN), .val (.int (p2 &&& (63 : Int32))), .val (.int (0 : Int32)), .val (.ref b2), .val (.int (1 : Int32)), .unset]) rfl k) ?_
  show own_Goes _ _ _ _ T3 (mkF m 69 #[.val (.int p1), .val (.int p2), .val (.int p3), .val (.long q4), .second, .val (.ref w_FIN), .val (.int (p2 &&& (63 : Int32))), .val (.int (0 : Int32)), .val (.ref b2), .val (.int (1 : Int32)), .unset] [])
  refine own_step (fun t k => XS.iload X3.here hx rfl (hb hby at_69) rfl k) ?_
  show own_Goes _ _ _ _ T3 (mkF m 71 #[.val (.int p1), .val (.int p2), .val (.int p3), .val (.long q4), .second, .val (.ref w_FIN), .val (.int (p2 &&& (63 : Int32))), .val (.int (0 : Int32)), .val (.ref b2), .val (.int (1 : Int32)), .unset] [(.int (0 : Int32))])
  refine own_step (fun t k => XS.ifYes X3.here hx rfl (pc0 := 71) (pc' := 87) rfl (hb hby at_71) rfl ((if0 _ _).trans (teq (show (0 : Int32) = (0 : Int32) from (by decide))).1) (by decide) (by decide) k) ?_
  show own_Goes _ _ _ _ T3 (mkF m 87 #[.val (.int p1), .val (.int p2), .val (.int p3), .val (.long q4), .second, .val (.ref w_FIN), .val (.int (p2 &&& (63 : Int32))), .val (.int (0 : Int32)), .val (.ref b2), .val (.int (1 : Int32)), .unset] [])
  refine own_step (fun t k => XS.iload X3.here hx rfl (hb hby at_87) rfl k) ?_
  show own_Goes _ _ _ _ T3 (mkF m 89 #[.val (.int p1), .val (.int p2), .val (.int p3), .val (.long q4), .second, .val (.ref w_FIN), .val (.int (p2 &&& (63 : Int32))), .val (.int (0 : Int32)), .val (.ref b2), .val (.int (1 : Int32)), .unset] [(.int (1 : Int32))])
  refine own_step (fun t k => XS.istore X3.here hx rfl (hb hby at_89) rfl (l' := #[.val (.int p1), .val (.int p2), .val (.int p3), .val (.long q4), .second, .val (.ref w_FIN), .val (.int (p2 &&& (63 : Int32))), .val (.int (0 : Int32)), .val (.ref b2), .val (.int (1 : Int32)), .val (.int (1 : Int32))]) rfl k) ?_
  show own_Goes _ _ _ _ T3 (mkF m 91 #[.val (.int p1), .val (.int p2), .val (.int p3), .val (.long q4), .second, .val (.ref w_FIN), .val (.int (p2 &&& (63 : Int32))), .val (.int (0 : Int32)), .val (.ref b2), .val (.int (1 : Int32)), .val (.int (1 : Int32))] [])
  refine own_step (fun t k => XS.aload X3.here hx rfl (hb hby at_91) rfl rfl k) ?_
  show own_Goes _ _ _ _ T3 (mkF m 93 #[.val (.int p1), .val (.int p2), .val (.int p3), .val (.long q4), .second, .val (.ref w_FIN), .val (.int (p2 &&& (63 : Int32))), .val (.int (0 : Int32)), .val (.ref b2), .val (.int (1 : Int32)), .val (.int (1 : Int32))] [(.ref b2)])
  refine own_step (fun t k => XS.lloadN X3.here hx rfl (hb hby at_93) rfl k) ?_
  show own_Goes _ _ _ _ T3 (mkF m 94 #[.val (.int p1), .val (.int p2), .val (.int p3), .val (.long q4), .second, .val (.ref w_FIN), .val (.int (p2 &&& (63 : Int32))), .val (.int (0 : Int32)), .val (.ref b2), .val (.int (1 : Int32)), .val (.int (1 : Int32))] [(.long q4), (.ref b2)])
  refine own_callV X3 hx hZ (y := (⟨"com/example/weaverbird/weaverbird/automaton/Acceptance$Atom", "counts", "(J)Z"⟩ : MethodName)) (z := (⟨"com/example/weaverbird/weaverbird/automaton/Acceptance$Atom", "counts", "(J)Z"⟩ : MethodName)) hown (hw _ (List.mem_of_getElem? (i := 23) rfl)) (hw _ (List.mem_of_getElem? (i := 24) rfl)) (notFace_of_selects (args := #[]) (mvT hZ (hw _ (List.mem_of_getElem? (i := 26) rfl)))) (hw _ (List.mem_of_getElem? (i := 26) rfl)) (hw _ (List.mem_of_getElem? (i := 25) rfl)) (hw _ (List.mem_of_getElem? (i := 27) rfl)) (hw _ (List.mem_of_getElem? (i := 5) rfl)) (by decide) 0 A_3 [(.long q4)] [] (own_cnt01 l Z a0 hw [] b2 q4 (p2 &&& (63 : Int32)) T3.heap n0 (Nat.le_trans Z0 K3.1) Fs_3 Fc_3 hy1) rfl (by decide) (by decide) (by decide) (by decide) (g := (mkF m 94 #[.val (.int p1), .val (.int p2), .val (.int p3), .val (.long q4), .second, .val (.ref w_FIN), .val (.int (p2 &&& (63 : Int32))), .val (.int (0 : Int32)), .val (.ref b2), .val (.int (1 : Int32)), .val (.int (1 : Int32))] [(.long q4), (.ref b2)])) rfl (by rw [hml]; rfl) own_pd2 rfl rfl (by show 2 * 0 + _ ≤ _; exact Nat.le_of_eq rfl) (hb hby at_94) ?_
  intro T4 v4 L4 X4 hQ4
  obtain ⟨rfl, N4q, e4⟩ := hQ4
  have N4 := Fr.app N3 N4q
  show own_Goes _ _ _ _ T4 (mkF m 97 #[.val (.int p1), .val (.int p2), .val (.int p3), .val (.long q4), .second, .val (.ref w_FIN), .val (.int (p2 &&& (63 : Int32))), .val (.int (0 : Int32)), .val (.ref b2), .val (.int (1 : Int32)), .val (.int (1 : Int32))] [(.int (1 : Int32))])
  refine own_step (fun t k => XS.iload X4.here hx rfl (hb hby at_97) rfl k) ?_
  show own_Goes _ _ _ _ T4 (mkF m 99 #[.val (.int p1), .val (.int p2), .val (.int p3), .val (.long q4), .second, .val (.ref w_FIN), .val (.int (p2 &&& (63 : Int32))), .val (.int (0 : Int32)), .val (.ref b2), .val (.int (1 : Int32)), .val (.int (1 : Int32))] [(.int (1 : Int32)), (.int (1 : Int32))])
  refine own_step (fun t k => XS.icmpNo X4.here hx rfl (hb hby at_99) rfl (teq (show (1 : Int32) = (1 : Int32) from (by decide))).2 k) ?_
  show own_Goes _ _ _ _ T4 (mkF m 102 #[.val (.int p1), .val (.int p2), .val (.int p3), .val (.long q4), .second, .val (.ref w_FIN), .val (.int (p2 &&& (63 : Int32))), .val (.int (0 : Int32)), .val (.ref b2), .val (.int (1 : Int32)), .val (.int (1 : Int32))] [])
  refine own_step (fun t k => XS.iconst X4.here hx rfl (hb hby at_102) k) ?_
  show own_Goes _ _ _ _ T4 (mkF m 103 #[.val (.int p1), .val (.int p2), .val (.int p3), .val (.long q4), .second, .val (.ref w_FIN), .val (.int (p2 &&& (63 : Int32))), .val (.int (0 : Int32)), .val (.ref b2), .val (.int (1 : Int32)), .val (.int (1 : Int32))] [(.int (1 : Int32))])
  refine own_step (fun t k => XS.goto X4.here hx rfl (pc0 := 103) (pc' := 107) rfl (hb hby at_103) (by decide) (by decide) k) ?_
  show own_Goes _ _ _ _ T4 (mkF m 107 #[.val (.int p1), .val (.int p2), .val (.int p3), .val (.long q4), .second, .val (.ref w_FIN), .val (.int (p2 &&& (63 : Int32))), .val (.int (0 : Int32)), .val (.ref b2), .val (.int (1 : Int32)), .val (.int (1 : Int32))] [(.int (1 : Int32))])
  exact own_retN X4 hx hlk (t := .boolean) hrt (by simp) (hb hby at_107) ⟨rfl, N4⟩ (by decide) (by decide)
set_option maxRecDepth 65536 in
set_option maxHeartbeats 40000000 in
theorem own_law010 (l : Launch) (Z : State) (a0 : Array Value) (hw : ∀ d ∈ tables_1, d.before a0 Z = true) (ws : List Jvm.Cond) (p1 : Int32) (p2 : Int32) (p3 : Int32) (q4 : Int64) (w_FIN : Addr) (h0 : Heap) (n0 : Nat) (Z0 : n0 ≤ h0.size) (S_FIN : Sta Z h0 "com/example/weaverbird/weaverbird/automaton/Acceptance$Kind" "FIN" "Lcom/example/weaverbird/weaverbird/automaton/Acceptance$Kind;" (.ref w_FIN)) (hk : (p1 &&& (1 : Int32)) = (0 : Int32)) (hcc : ¬ ((p3 &&& (1 : Int32)) = (0 : Int32))) (hx1 : ¬ ((lcmpW (((q4.toUInt64 >>> ((p2 &&& (63 : Int32)) &&& 0x3f).toInt64.toUInt64).toInt64) &&& (1 : Int64)) (1 : Int64)) = (0 : Int32))) (hy1 : (lcmpW (q4 &&& ((1 : Int64) <<< ((p2 &&& (63 : Int32)) &&& 0x3f).toInt64)) (0 : Int64)) = (0 : Int32)) :
    own_Met l Z x code maxLocals ret ws room_1 #[(.int p1), (.int p2), (.int p3), (.long q4)] h0 (fun v h L => v = some (.int 1) ∧ Fr n0 L) := by
  refine own_body (plainFor_of_name own_pn_com_example_weaverbird_weaverbird_automaton_AtomCountsPinLaw) (fun p e s m below meth c s₁ hx hby hml0 hrt hlk hown0 hnm hZ X0 e0 => ?_)
  have N0 := Fr.nil n0
  have hown : s.vm.findClass "com/example/weaverbird/weaverbird/automaton/AtomCountsPinLaw" = some m.cls := hown0
  have hml : c.maxLocals = 11 := hml0
  refine own_castG (own_ef3 m p1 p2 p3 q4) ?_
  show own_Goes _ _ _ _ s₁ (mkF m 0 #[.val (.int p1), .val (.int p2), .val (.int p3), .val (.long q4), .second, .unset, .unset, .unset, .unset, .unset, .unset] [])
  refine own_step (fun t k => XS.iloadN X0.here hx rfl (hb hby at_0) rfl k) ?_
  show own_Goes _ _ _ _ s₁ (mkF m 1 #[.val (.int p1), .val (.int p2), .val (.int p3), .val (.long q4), .second, .unset, .unset, .unset, .unset, .unset, .unset] [(.int p1)])
  refine own_step (fun t k => XS.iconst X0.here hx rfl (hb hby at_1) k) ?_
  show own_Goes _ _ _ _ s₁ (mkF m 2 #[.val (.int p1), .val (.int p2), .val (.int p3), .val (.long q4), .second, .unset, .unset, .unset, .unset, .unset, .unset] [(.int (1 : Int32)), (.int p1)])
  refine own_step (fun t k => XS.iand X0.here hx rfl (hb hby at_2) rfl k) ?_
  show own_Goes _ _ _ _ s₁ (mkF m 3 #[.val (.int p1), .val (.int p2), .val (.int p3), .val (.long q4), .second, .unset, .unset, .unset, .unset, .unset, .unset] [(.int (p1 &&& (1 : Int32)))])
  refine own_step (fun t k => XS.ifNo X0.here hx rfl (hb hby at_3) rfl ((if0 _ _).trans (teq (show (p1 &&& (1 : Int32)) = (0 : Int32) from hk)).2) k) ?_
  show own_Goes _ _ _ _ s₁ (mkF m 6 #[.val (.int p1), .val (.int p2), .val (.int p3), .val (.long q4), .second, .unset, .unset, .unset, .unset, .unset, .unset] [])
  obtain ⟨T1, X1, e1, st1⟩ := getS2 X0 hx hZ hown (host := "") (Or.inl (hw _ (List.mem_of_getElem? (i := 0) rfl))) Via.refl e0 S_FIN (g := (mkF m 6 #[.val (.int p1), .val (.int p2), .val (.int p3), .val (.long q4), .second, .unset, .unset, .unset, .unset, .unset, .unset] [])) rfl (hb hby at_6)
  refine own_step st1 ?_
  show own_Goes _ _ _ _ T1 (mkF m 9 #[.val (.int p1), .val (.int p2), .val (.int p3), .val (.long q4), .second, .unset, .unset, .unset, .unset, .unset, .unset] [(.ref w_FIN)])
  refine own_step (fun t k => XS.goto X1.here hx rfl (pc0 := 9) (pc' := 15) rfl (hb hby at_9) (by decide) (by decide) k) ?_
  show own_Goes _ _ _ _ T1 (mkF m 15 #[.val (.int p1), .val (.int p2), .val (.int p3), .val (.long q4), .second, .unset, .unset, .unset, .unset, .unset, .unset] [(.ref w_FIN)])
  refine own_step (fun t k => XS.astore X1.here hx rfl (hb hby at_15) rfl rfl (l' := #[.val (.int p1), .val (.int p2), .val (.int p3), .val (.long q4), .second, .val (.ref w_FIN), .unset, .unset, .unset, .unset, .unset]) rfl k) ?_
  show own_Goes _ _ _ _ T1 (mkF m 17 #[.val (.int p1), .val (.int p2), .val (.int p3), .val (.long q4), .second, .val (.ref w_FIN), .unset, .unset, .unset, .unset, .unset] [])
  refine own_step (fun t k => XS.iloadN X1.here hx rfl (hb hby at_17) rfl k) ?_
  show own_Goes _ _ _ _ T1 (mkF m 18 #[.val (.int p1), .val (.int p2), .val (.int p3), .val (.long q4), .second, .val (.ref w_FIN), .unset, .unset, .unset, .unset, .unset] [(.int p2)])
  refine own_step (fun t k => XS.bipush X1.here hx rfl (hb hby at_18) k) ?_
  show own_Goes _ _ _ _ T1 (mkF m 20 #[.val (.int p1), .val (.int p2), .val (.int p3), .val (.long q4), .second, .val (.ref w_FIN), .unset, .unset, .unset, .unset, .unset] [(.int (63 : Int32)), (.int p2)])
  refine own_step (fun t k => XS.iand X1.here hx rfl (hb hby at_20) rfl k) ?_
  show own_Goes _ _ _ _ T1 (mkF m 21 #[.val (.int p1), .val (.int p2), .val (.int p3), .val (.long q4), .second, .val (.ref w_FIN), .unset, .unset, .unset, .unset, .unset] [(.int (p2 &&& (63 : Int32)))])
  refine own_step (fun t k => XS.istore X1.here hx rfl (hb hby at_21) rfl (l' := #[.val (.int p1), .val (.int p2), .val (.int p3), .val (.long q4), .second, .val (.ref w_FIN), .val (.int (p2 &&& (63 : Int32))), .unset, .unset, .unset, .unset]) rfl k) ?_
  show own_Goes _ _ _ _ T1 (mkF m 23 #[.val (.int p1), .val (.int p2), .val (.int p3), .val (.long q4), .second, .val (.ref w_FIN), .val (.int (p2 &&& (63 : Int32))), .unset, .unset, .unset, .unset] [])
  refine own_step (fun t k => XS.iloadN X1.here hx rfl (hb hby at_23) rfl k) ?_
  show own_Goes _ _ _ _ T1 (mkF m 24 #[.val (.int p1), .val (.int p2), .val (.int p3), .val (.long q4), .second, .val (.ref w_FIN), .val (.int (p2 &&& (63 : Int32))), .unset, .unset, .unset, .unset] [(.int p3)])
  refine own_step (fun t k => XS.iconst X1.here hx rfl (hb hby at_24) k) ?_
  show own_Goes _ _ _ _ T1 (mkF m 25 #[.val (.int p1), .val (.int p2), .val (.int p3), .val (.long q4), .second, .val (.ref w_FIN), .val (.int (p2 &&& (63 : Int32))), .unset, .unset, .unset, .unset] [(.int (1 : Int32)), (.int p3)])
  refine own_step (fun t k => XS.iand X1.here hx rfl (hb hby at_25) rfl k) ?_
  show own_Goes _ _ _ _ T1 (mkF m 26 #[.val (.int p1), .val (.int p2), .val (.int p3), .val (.long q4), .second, .val (.ref w_FIN), .val (.int (p2 &&& (63 : Int32))), .unset, .unset, .unset, .unset] [(.int (p3 &&& (1 : Int32)))])
  refine own_step (fun t k => XS.ifNo X1.here hx rfl (hb hby at_26) rfl ((if0 _ _).trans (feq (show ¬ ((p3 &&& (1 : Int32)) = (0 : Int32)) from hcc)).1) k) ?_
  show own_Goes _ _ _ _ T1 (mkF m 29 #[.val (.int p1), .val (.int p2), .val (.int p3), .val (.long q4), .second, .val (.ref w_FIN), .val (.int (p2 &&& (63 : Int32))), .unset, .unset, .unset, .unset] [])
  refine own_step (fun t k => XS.iconst X1.here hx rfl (hb hby at_29) k) ?_
  show own_Goes _ _ _ _ T1 (mkF m 30 #[.val (.int p1), .val (.int p2), .val (.int p3), .val (.long q4), .second, .val (.ref w_FIN), .val (.int (p2 &&& (63 : Int32))), .unset, .unset, .unset, .unset] [(.int (1 : Int32))])
  refine own_step (fun t k => XS.goto X1.here hx rfl (pc0 := 30) (pc' := 34) rfl (hb hby at_30) (by decide) (by decide) k) ?_
  show own_Goes _ _ _ _ T1 (mkF m 34 #[.val (.int p1), .val (.int p2), .val (.int p3), .val (.long q4), .second, .val (.ref w_FIN), .val (.int (p2 &&& (63 : Int32))), .unset, .unset, .unset, .unset] [(.int (1 : Int32))])
  refine own_step (fun t k => XS.istore X1.here hx rfl (hb hby at_34) rfl (l' := #[.val (.int p1), .val (.int p2), .val (.int p3), .val (.long q4), .second, .val (.ref w_FIN), .val (.int (p2 &&& (63 : Int32))), .val (.int (1 : Int32)), .unset, .unset, .unset]) rfl k) ?_
  show own_Goes _ _ _ _ T1 (mkF m 36 #[.val (.int p1), .val (.int p2), .val (.int p3), .val (.long q4), .second, .val (.ref w_FIN), .val (.int (p2 &&& (63 : Int32))), .val (.int (1 : Int32)), .unset, .unset, .unset] [])
  obtain ⟨T2, h2, X2, e2, E2, A2, D2, -, st2⟩ := newO X1 hx hZ hown (hw _ (List.mem_of_getElem? (i := 3) rfl)) (hw _ (List.mem_of_getElem? (i := 4) rfl)) (hw _ (List.mem_of_getElem? (i := 5) rfl)) e1 (g := (mkF m 36 #[.val (.int p1), .val (.int p2), .val (.int p3), .val (.long q4), .second, .val (.ref w_FIN), .val (.int (p2 &&& (63 : Int32))), .val (.int (1 : Int32)), .unset, .unset, .unset] [])) rfl (hb hby at_36) (by decide) (by decide)
  obtain ⟨b2, g2⟩ : ∃ z, z = h0.size := ⟨_, rfl⟩
  rw [← g2] at A2 D2 st2
  refine own_step st2 ?_
  have g_b2 : n0 ≤ b2 := Nat.le_trans Z0 (Nat.le_of_eq g2.symm)
  have sz_b2 : h0.size ≤ b2 := Nat.le_trans (Keep.refl h0 []).1 (Nat.le_of_eq g2.symm)
  have K2 := (Keep.refl h0 []).ext E2
  have F_b2_kind : Fld Z h2 b2 "com/example/weaverbird/weaverbird/automaton/Acceptance$Atom" "kind" "Lcom/example/weaverbird/weaverbird/automaton/Acceptance$Kind;" .null := D2 (Or.inr (hw _ (List.mem_of_getElem? (i := 18) rfl))) (ty := (.object "com/example/weaverbird/weaverbird/automaton/Acceptance$Kind")) (by decide)
  have F_b2_set : Fld Z h2 b2 "com/example/weaverbird/weaverbird/automaton/Acceptance$Atom" "set" "I" (.int (0 : Int32)) := D2 (Or.inr (hw _ (List.mem_of_getElem? (i := 20) rfl))) (ty := .int) (by decide)
  have F_b2_complemented : Fld Z h2 b2 "com/example/weaverbird/weaverbird/automaton/Acceptance$Atom" "complemented" "Z" (.int (0 : Int32)) := D2 (Or.inr (hw _ (List.mem_of_getElem? (i := 22) rfl))) (ty := .boolean) (by decide)
  show own_Goes _ _ _ _ T2 (mkF m 39 #[.val (.int p1), .val (.int p2), .val (.int p3), .val (.long q4), .second, .val (.ref w_FIN), .val (.int (p2 &&& (63 : Int32))), .val (.int (1 : Int32)), .unset, .unset, .unset] [(.ref b2)])
  refine own_step (fun t k => XS.dup X2.here hx rfl (hb hby at_39) rfl rfl k) ?_
  show own_Goes _ _ _ _ T2 (mkF m 40 #[.val (.int p1), .val (.int p2), .val (.int p3), .val (.long q4), .second, .val (.ref w_FIN), .val (.int (p2 &&& (63 : Int32))), .val (.int (1 : Int32)), .unset, .unset, .unset] [(.ref b2), (.ref b2)])
  refine own_step (fun t k => XS.aload X2.here hx rfl (hb hby at_40) rfl rfl k) ?_
  show own_Goes _ _ _ _ T2 (mkF m 42 #[.val (.int p1), .val (.int p2), .val (.int p3), .val (.long q4), .second, .val (.ref w_FIN), .val (.int (p2 &&& (63 : Int32))), .val (.int (1 : Int32)), .unset, .unset, .unset] [(.ref w_FIN), (.ref b2), (.ref b2)])
  refine own_step (fun t k => XS.iload X2.here hx rfl (hb hby at_42) rfl k) ?_
  show own_Goes _ _ _ _ T2 (mkF m 44 #[.val (.int p1), .val (.int p2), .val (.int p3), .val (.long q4), .second, .val (.ref w_FIN), .val (.int (p2 &&& (63 : Int32))), .val (.int (1 : Int32)), .unset, .unset, .unset] [(.int (p2 &&& (63 : Int32))), (.ref w_FIN), (.ref b2), (.ref b2)])
  refine own_step (fun t k => XS.iload X2.here hx rfl (hb hby at_44) rfl k) ?_
  show own_Goes _ _ _ _ T2 (mkF m 46 #[.val (.int p1), .val (.int p2), .val (.int p3), .val (.long q4), .second, .val (.ref w_FIN), .val (.int (p2 &&& (63 : Int32))), .val (.int (1 : Int32)), .unset, .unset, .unset] [(.int (1 : Int32)), (.int (p2 &&& (63 : Int32))), (.ref w_FIN), (.ref b2), (.ref b2)])
  refine own_callC X2 hx hZ (y := (⟨"com/example/weaverbird/weaverbird/automaton/Acceptance$Atom", "<init>", "(Lcom/example/weaverbird/weaverbird/automaton/Acceptance$Kind;IZ)V"⟩ : MethodName)) rfl hown (hw _ (List.mem_of_getElem? (i := 6) rfl)) (hw _ (List.mem_of_getElem? (i := 7) rfl)) (hw _ (List.mem_of_getElem? (i := 8) rfl)) (hw _ (List.mem_of_getElem? (i := 5) rfl)) (by decide) 1 (a := b2) [(.ref w_FIN), (.int (p2 &&& (63 : Int32))), (.int (1 : Int32))] [(.ref b2)] (own_init1 l Z a0 hw [] b2 w_FIN (p2 &&& (63 : Int32)) h2 n0 (Nat.le_trans Z0 K2.1) A2 F_b2_kind F_b2_set F_b2_complemented g_b2) e2 (by decide) (by decide) (by decide) (by decide) (g := (mkF m 46 #[.val (.int p1), .val (.int p2), .val (.int p3), .val (.long q4), .second, .val (.ref w_FIN), .val (.int (p2 &&& (63 : Int32))), .val (.int (1 : Int32)), .unset, .unset, .unset] [(.int (1 : Int32)), (.int (p2 &&& (63 : Int32))), (.ref w_FIN), (.ref b2), (.ref b2)])) rfl (by rw [hml]; rfl) own_pd1 rfl rfl (by show 2 * 0 + _ ≤ _; exact Nat.le_of_eq rfl) (hb hby at_46) ?_
  intro T3 v3 L3 X3 hQ3
  obtain ⟨rfl, N3q, Kq3, A_3, Fs_3, Fc_3⟩ := hQ3
  have N3 := Fr.app N0 N3q
  have K3 := K2.trans Kq3 (allS (Or.inr sz_b2) all0)
  show own_Goes _ _ _ _ T3 (mkF m 49 #[.val (.int p1), .val (.int p2), .val (.int p3), .val (.long q4), .second, .val (.ref w_FIN), .val (.int (p2 &&& (63 : Int32))), .val (.int (1 : Int32)), .unset, .unset, .unset] [(.ref b2)])
  refine own_step (fun t k => XS.astore X3.here hx rfl (hb hby at_49) rfl rfl (l' := #[.val (.int p1), .val (.int p2), .val (.int p3), .val (.long q4), .second, .val (.ref w_FIN), .val (.int (p2 &&& (63 : Int32))), .val (.int (1 : Int32)), .val (.ref b2), .unset, .unset]) rfl k) ?_
  show own_Goes _ _ _ _ T3 (mkF m 51 #[.val (.int p1), .val (.int p2), .val (.int p3), .val (.long q4), .second, .val (.ref w_FIN), .val (.int (p2 &&& (63 : Int32))), .val (.int (1 : Int32)), .val (.ref b2), .unset, .unset] [])
  refine own_step (fun t k => XS.lloadN X3.here hx rfl (hb hby at_51) rfl k) ?_
  show own_Goes _ _ _ _ T3 (mkF m 52 #[.val (.int p1), .val (.int p2), .val (.int p3), .val (.long q4), .second, .val (.ref w_FIN), .val (.int (p2 &&& (63 : Int32))), .val (.int (1 : Int32)), .val (.ref b2), .unset, .unset] [(.long q4)])
  refine own_step (fun t k => XS.iload X3.here hx rfl (hb hby at_52) rfl k) ?_
  show own_Goes _ _ _ _ T3 (mkF m 54 #[.val (.int p1), .val (.int p2), .val (.int p3), .val (.long q4), .second, .val (.ref w_FIN), .val (.int (p2 &&& (63 : Int32))), .val (.int (1 : Int32)), .val (.ref b2), .unset, .unset] [(.int (p2 &&& (63 : Int32))), (.long q4)])
  refine own_step (fun t k => XS.lushr X3.here hx rfl (hb hby at_54) rfl k) ?_
  show own_Goes _ _ _ _ T3 (mkF m 55 #[.val (.int p1), .val (.int p2), .val (.int p3), .val (.long q4), .second, .val (.ref w_FIN), .val (.int (p2 &&& (63 : Int32))), .val (.int (1 : Int32)), .val (.ref b2), .unset, .unset] [(.long ((q4.toUInt64 >>> ((p2 &&& (63 : Int32)) &&& 0x3f).toInt64.toUInt64).toInt64))])
  refine own_step (fun t k => XS.lconst X3.here hx rfl (hb hby at_55) k) ?_
  show own_Goes _ _ _ _ T3 (mkF m 56 #[.val (.int p1), .val (.int p2), .val (.int p3), .val (.long q4), .second, .val (.ref w_FIN), .val (.int (p2 &&& (63 : Int32))), .val (.int (1 : Int32)), .val (.ref b2), .unset, .unset] [(.long (1 : Int64)), (.long ((q4.toUInt64 >>> ((p2 &&& (63 : Int32)) &&& 0x3f).toInt64.toUInt64).toInt64))])
  refine own_step (fun t k => XS.land X3.here hx rfl (hb hby at_56) rfl k) ?_
  show own_Goes _ _ _ _ T3 (mkF m 57 #[.val (.int p1), .val (.int p2), .val (.int p3), .val (.long q4), .second, .val (.ref w_FIN), .val (.int (p2 &&& (63 : Int32))), .val (.int (1 : Int32)), .val (.ref b2), .unset, .unset] [(.long (((q4.toUInt64 >>> ((p2 &&& (63 : Int32)) &&& 0x3f).toInt64.toUInt64).toInt64) &&& (1 : Int64)))])
  refine own_step (fun t k => XS.lconst X3.here hx rfl (hb hby at_57) k) ?_
  show own_Goes _ _ _ _ T3 (mkF m 58 #[.val (.int p1), .val (.int p2), .val (.int p3), .val (.long q4), .second, .val (.ref w_FIN), .val (.int (p2 &&& (63 : Int32))), .val (.int (1 : Int32)), .val (.ref b2), .unset, .unset] [(.long (1 : Int64)), (.long (((q4.toUInt64 >>> ((p2 &&& (63 : Int32)) &&& 0x3f).toInt64.toUInt64).toInt64) &&& (1 : Int64)))])
  refine own_step (fun t k => XS.lcmp X3.here hx rfl (hb hby at_58) rfl k) ?_
  show own_Goes _ _ _ _ T3 (mkF m 59 #[.val (.int p1), .val (.int p2), .val (.int p3), .val (.long q4), .second, .val (.ref w_FIN), .val (.int (p2 &&& (63 : Int32))), .val (.int (1 : Int32)), .val (.ref b2), .unset, .unset] [(.int (lcmpW (((q4.toUInt64 >>> ((p2 &&& (63 : Int32)) &&& 0x3f).toInt64.toUInt64).toInt64) &&& (1 : Int64)) (1 : Int64)))])
  refine own_step (fun t k => XS.ifYes X3.here hx rfl (pc0 := 59) (pc' := 66) rfl (hb hby at_59) rfl ((if0 _ _).trans (feq (show ¬ ((lcmpW (((q4.toUInt64 >>> ((p2 &&& (63 : Int32)) &&& 0x3f).toInt64.toUInt64).toInt64) &&& (1 : Int64)) (1 : Int64)) = (0 : Int32)) from hx1)).2) (by decide) (by decide) k) ?_
  show own_Goes _ _ _ _ T3 (mkF m 66 #[.val (.int p1), .val (.int p2), .val (.int p3), .val (.long q4), .second, .val (.ref w_FIN), .val (.int (p2 &&& (63 : Int32))), .val (.int (1 : Int32)), .val (.ref b2), .unset, .unset] [])
  refine own_step (fun t k => XS.iconst X3.here hx rfl (hb hby at_66) k) ?_
  show own_Goes _ _ _ _ T3 (mkF m 67 #[.val (.int p1), .val (.int p2), .val (.int p3), .val (.long q4), .second, .val (.ref w_FIN), .val (.int (p2 &&& (63 : Int32))), .val (.int (1 : Int32)), .val (.ref b2), .unset, .unset] [(.int (0 : Int32))])
  refine own_step (fun t k => XS.istore X3.here hx rfl (hb hby at_67) rfl (l' := #[.val (.int p1), .val (.int p2), .val (.int p3), .val (.long q4), .second, .val (.ref w_FIN), .val (.int (p2 &&& (63 : Int32))), .val (.int (1 : Int32)), .val (.ref b2), .val (.int (0 : Int32)), .unset]) rfl k) ?_
  show own_Goes _ _ _ _ T3 (mkF m 69 #[.val (.int p1), .val (.int p2), .val (.int p3), .val (.long q4), .second, .val (.ref w_FIN), .val (.int (p2 &&& (63 : Int32))), .val (.int (1 : Int32)), .val (.ref b2), .val (.int (0 : Int32)), .unset] [])
  refine own_step (fun t k => XS.iload X3.here hx rfl (hb hby at_69) rfl k) ?_
  show own_Goes _ _ _ _ T3 (mkF m 71 #[.val (.int p1), .val (.int p2), .val (.int p3), .val (.long q4), .second, .val (.ref w_FIN), .val (.int (p2 &&& (63 : Int32))), .val (.int (1 : Int32)), .val (.ref b2), .val (.int (0 : Int32)), .unset] [(.int (1 : Int32))])
  refine own_step (fun t k => XS.ifNo X3.here hx rfl (hb hby at_71) rfl ((if0 _ _).trans (feq (show ¬ ((1 : Int32) = (0 : Int32)) from (by decide))).1) k) ?_
  show own_Goes _ _ _ _ T3 (mkF m 74 #[.val (.int p1), .val (.int p2), .val (.int p3), .val (.long q4), .second, .val (.ref w_FIN), .val (.int (p2 &&& (63 : Int32))), .val (.int (1 : Int32)), .val (.ref b2), .val (.int (0 : Int32)), .unset] [])
  refine own_step (fun t k => XS.iload X3.here hx rfl (hb hby at_74) rfl k) ?_
  show own_Goes _ _ _ _ T3 (mkF m 76 #[.val (.int p1), .val (.int p2), .val (.int p3), .val (.long q4), .second, .val (.ref w_FIN), .val (.int (p2 &&& (63 : Int32))), .val (.int (1 : Int32)), .val (.ref b2), .val (.int (0 : Int32)), .unset] [(.int (0 : Int32))])
  refine own_step (fun t k => XS.ifNo X3.here hx rfl (hb hby at_76) rfl ((if0 _ _).trans (teq (show (0 : Int32) = (0 : Int32) from (by decide))).2) k) ?_
  show own_Goes _ _ _ _ T3 (mkF m 79 #[.val (.int p1), .val (.int p2), .val (.int p3), .val (.long q4), .second, .val (.ref w_FIN), .val (.int (p2 &&& (63 : Int32))), .val (.int (1 : Int32)), .val (.ref b2), .val (.int (0 : Int32)), .unset] [])
  refine own_step (fun t k => XS.iconst X3.here hx rfl (hb hby at_79) k) ?_
  show own_Goes _ _ _ _ T3 (mkF m 80 #[.val (.int p1), .val (.int p2), .val (.int p3), .val (.long q4), .second, .val (.ref w_FIN), .val (.int (p2 &&& (63 : Int32))), .val (.int (1 : Int32)), .val (.ref b2), .val (.int (0 : Int32)), .unset] [(.int (1 : Int32))])
  refine own_step (fun t k => XS.goto X3.here hx rfl (pc0 := 80) (pc' := 89) rfl (hb hby at_80) (by decide) (by decide) k) ?_
  show own_Goes _ _ _ _ T3 (mkF m 89 #[.val (.int p1), .val (.int p2), .val (.int p3), .val (.long q4), .second, .val (.ref w_FIN), .val (.int (p2 &&& (63 : Int32))), .val (.int (1 : Int32)), .val (.ref b2), .val (.int (0 : Int32)), .unset] [(.int (1 : Int32))])
  refine own_step (fun t k => XS.istore X3.here hx rfl (hb hby at_89) rfl (l' := #[.val (.int p1), .val (.int p2), .val (.int p3), .val (.long q4), .second, .val (.ref w_FIN), .val (.int (p2 &&& (63 : Int32))), .val (.int (1 : Int32)), .val (.ref b2), .val (.int (0 : Int32)), .val (.int (1 : Int32))]) rfl k) ?_
  show own_Goes _ _ _ _ T3 (mkF m 91 #[.val (.int p1), .val (.int p2), .val (.int p3), .val (.long q4), .second, .val (.ref w_FIN), .val (.int (p2 &&& (63 : Int32))), .val (.int (1 : Int32)), .val (.ref b2), .val (.int (0 : Int32)), .val (.int (1 : Int32))] [])
  refine own_step (fun t k => XS.aload X3.here hx rfl (hb hby at_91) rfl rfl k) ?_
  show own_Goes _ _ _ _ T3 (mkF m 93 #[.val (.int p1), .val (.int p2), .val (.int p3), .val (.long q4), .second, .val (.ref w_FIN), .val (.int (p2 &&& (63 : Int32))), .val (.int (1 : Int32)), .val (.ref b2), .val (.int (0 : Int32)), .val (.int (1 : Int32))] [(.ref b2)])
  refine own_step (fun t k => XS.lloadN X3.here hx rfl (hb hby at_93) rfl k) ?_
  show own_Goes _ _ _ _ T3 (mkF m 94 #[.val (.int p1), .val (.int p2), .val (.int p3), .val (.long q4), .second, .val (.ref w_FIN), .val (.int (p2 &&& (63 : Int32))), .val (.int (1 : Int32)), .val (.ref b2), .val (.int (0 : Int32)), .val (.int (1 : Int32))] [(.long q4), (.ref b2)])
  refine own_callV X3 hx hZ (y := (⟨"com/example/weaverbird/weaverbird/automaton/Acceptance$Atom", "counts", "(J)Z"⟩ : MethodName)) (z := (⟨"com/example/weaverbird/weaverbird/automaton/Acceptance$Atom", "counts", "(J)Z"⟩ : MethodName)) hown (hw _ (List.mem_of_getElem? (i := 23) rfl)) (hw _ (List.mem_of_getElem? (i := 24) rfl)) (notFace_of_selects (args := #[]) (mvT hZ (hw _ (List.mem_of_getElem? (i := 26) rfl)))) (hw _ (List.mem_of_getElem? (i := 26) rfl)) (hw _ (List.mem_of_getElem? (i := 25) rfl)) (hw _ (List.mem_of_getElem? (i := 27) rfl)) (hw _ (List.mem_of_getElem? (i := 5) rfl)) (by decide) 0 A_3 [(.long q4)] [] (own_cnt10 l Z a0 hw [] b2 q4 (p2 &&& (63 : Int32)) T3.heap n0 (Nat.le_trans Z0 K3.1) Fs_3 Fc_3 hy1) rfl (by decide) (by decide) (by decide) (by decide) (g := (mkF m 94 #[.val (.int p1), .val (.int p2), .val (.int p3), .val (.long q4), .second, .val (.ref w_FIN), .val (.int (p2 &&& (63 : Int32))), .val (.int (1 : Int32)), .val (.ref b2), .val (.int (0 : Int32)), .val (.int (1 : Int32))] [(.long q4), (.ref b2)])) rfl (by rw [hml]; rfl) own_pd2 rfl rfl (by show 2 * 0 + _ ≤ _; exact Nat.le_of_eq rfl) (hb hby at_94) ?_
  intro T4 v4 L4 X4 hQ4
  obtain ⟨rfl, N4q, e4⟩ := hQ4
  have N4 := Fr.app N3 N4q
  show own_Goes _ _ _ _ T4 (mkF m 97 #[.val (.int p1), .val (.int p2), .val (.int p3), .val (.long q4), .second, .val (.ref w_FIN), .val (.int (p2 &&& (63 : Int32))), .val (.int (1 : Int32)), .val (.ref b2), .val (.int (0 : Int32)), .val (.int (1 : Int32))] [(.int (1 : Int32))])
  refine own_step (fun t k => XS.iload X4.here hx rfl (hb hby at_97) rfl k) ?_
  show own_Goes _ _ _ _ T4 (mkF m 99 #[.val (.int p1), .val (.int p2), .val (.int p3), .val (.long q4), .second, .val (.ref w_FIN), .val (.int (p2 &&& (63 : Int32))), .val (.int (1 : Int32)), .val (.ref b2), .val (.int (0 : Int32)), .val (.int (1 : Int32))] [(.int (1 : Int32)), (.int (1 : Int32))])
  refine own_step (fun t k => XS.icmpNo X4.here hx rfl (hb hby at_99) rfl (teq (show (1 : Int32) = (1 : Int32) from (by decide))).2 k) ?_
  show own_Goes _ _ _ _ T4 (mkF m 102 #[.val (.int p1), .val (.int p2), .val (.int p3), .val (.long q4), .second, .val (.ref w_FIN), .val (.int (p2 &&& (63 : Int32))), .val (.int (1 : Int32)), .val (.ref b2), .val (.int (0 : Int32)), .val (.int (1 : Int32))] [])
  refine own_step (fun t k => XS.iconst X4.here hx rfl (hb hby at_102) k) ?_
  show own_Goes _ _ _ _ T4 (mkF m 103 #[.val (.int p1), .val (.int p2), .val (.int p3), .val (.long q4), .second, .val (.ref w_FIN), .val (.int (p2 &&& (63 : Int32))), .val (.int (1 : Int32)), .val (.ref b2), .val (.int (0 : Int32)), .val (.int (1 : Int32))] [(.int (1 : Int32))])
  refine own_step (fun t k => XS.goto X4.here hx rfl (pc0 := 103) (pc' := 107) rfl (hb hby at_103) (by decide) (by decide) k) ?_
  show own_Goes _ _ _ _ T4 (mkF m 107 #[.val (.int p1), .val (.int p2), .val (.int p3), .val (.long q4), .second, .val (.ref w_FIN), .val (.int (p2 &&& (63 : Int32))), .val (.int (1 : Int32)), .val (.ref b2), .val (.int (0 : Int32)), .val (.int (1 : Int32))] [(.int (1 : Int32))])
  exact own_retN X4 hx hlk (t := .boolean) hrt (by simp) (hb hby at_107) ⟨rfl, N4⟩ (by decide) (by decide)
set_option maxRecDepth 65536 in
set_option maxHeartbeats 40000000 in
theorem own_law011 (l : Launch) (Z : State) (a0 : Array Value) (hw : ∀ d ∈ tables_1, d.before a0 Z = true) (ws : List Jvm.Cond) (p1 : Int32) (p2 : Int32) (p3 : Int32) (q4 : Int64) (w_FIN : Addr) (h0 : Heap) (n0 : Nat) (Z0 : n0 ≤ h0.size) (S_FIN : Sta Z h0 "com/example/weaverbird/weaverbird/automaton/Acceptance$Kind" "FIN" "Lcom/example/weaverbird/weaverbird/automaton/Acceptance$Kind;" (.ref w_FIN)) (hk : (p1 &&& (1 : Int32)) = (0 : Int32)) (hcc : ¬ ((p3 &&& (1 : Int32)) = (0 : Int32))) (hx1 : (lcmpW (((q4.toUInt64 >>> ((p2 &&& (63 : Int32)) &&& 0x3f).toInt64.toUInt64).toInt64) &&& (1 : Int64)) (1 : Int64)) = (0 : Int32)) (hy1 : ¬ ((lcmpW (q4 &&& ((1 : Int64) <<< ((p2 &&& (63 : Int32)) &&& 0x3f).toInt64)) (0 : Int64)) = (0 : Int32))) :
    own_Met l Z x code maxLocals ret ws room_1 #[(.int p1), (.int p2), (.int p3), (.long q4)] h0 (fun v h L => v = some (.int 1) ∧ Fr n0 L) := by
  refine own_body (plainFor_of_name own_pn_com_example_weaverbird_weaverbird_automaton_AtomCountsPinLaw) (fun p e s m below meth c s₁ hx hby hml0 hrt hlk hown0 hnm hZ X0 e0 => ?_)
  have N0 := Fr.nil n0
  have hown : s.vm.findClass "com/example/weaverbird/weaverbird/automaton/AtomCountsPinLaw" = some m.cls := hown0
  have hml : c.maxLocals = 11 := hml0
  refine own_castG (own_ef3 m p1 p2 p3 q4) ?_
  show own_Goes _ _ _ _ s₁ (mkF m 0 #[.val (.int p1), .val (.int p2), .val (.int p3), .val (.long q4), .second, .unset, .unset, .unset, .unset, .unset, .unset] [])
  refine own_step (fun t k => XS.iloadN X0.here hx rfl (hb hby at_0) rfl k) ?_
  show own_Goes _ _ _ _ s₁ (mkF m 1 #[.val (.int p1), .val (.int p2), .val (.int p3), .val (.long q4), .second, .unset, .unset, .unset, .unset, .unset, .unset] [(.int p1)])
  refine own_step (fun t k => XS.iconst X0.here hx rfl (hb hby at_1) k) ?_
  show own_Goes _ _ _ _ s₁ (mkF m 2 #[.val (.int p1), .val (.int p2), .val (.int p3), .val (.long q4), .second, .unset, .unset, .unset, .unset, .unset, .unset] [(.int (1 : Int32)), (.int p1)])
  refine own_step (fun t k => XS.iand X0.here hx rfl (hb hby at_2) rfl k) ?_
  show own_Goes _ _ _ _ s₁ (mkF m 3 #[.val (.int p1), .val (.int p2), .val (.int p3), .val (.long q4), .second, .unset, .unset, .unset, .unset, .unset, .unset] [(.int (p1 &&& (1 : Int32)))])
  refine own_step (fun t k => XS.ifNo X0.here hx rfl (hb hby at_3) rfl ((if0 _ _).trans (teq (show (p1 &&& (1 : Int32)) = (0 : Int32) from hk)).2) k) ?_
  show own_Goes _ _ _ _ s₁ (mkF m 6 #[.val (.int p1), .val (.int p2), .val (.int p3), .val (.long q4), .second, .unset, .unset, .unset, .unset, .unset, .unset] [])
  obtain ⟨T1, X1, e1, st1⟩ := getS2 X0 hx hZ hown (host := "") (Or.inl (hw _ (List.mem_of_getElem? (i := 0) rfl))) Via.refl e0 S_FIN (g := (mkF m 6 #[.val (.int p1), .val (.int p2), .val (.int p3), .val (.long q4), .second, .unset, .unset, .unset, .unset, .unset, .unset] [])) rfl (hb hby at_6)
  refine own_step st1 ?_
  show own_Goes _ _ _ _ T1 (mkF m 9 #[.val (.int p1), .val (.int p2), .val (.int p3), .val (.long q4), .second, .unset, .unset, .unset, .unset, .unset, .unset] [(.ref w_FIN)])
  refine own_step (fun t k => XS.goto X1.here hx rfl (pc0 := 9) (pc' := 15) rfl (hb hby at_9) (by decide) (by decide) k) ?_
  show own_Goes _ _ _ _ T1 (mkF m 15 #[.val (.int p1), .val (.int p2), .val (.int p3), .val (.long q4), .second, .unset, .unset, .unset, .unset, .unset, .unset] [(.ref w_FIN)])
  refine own_step (fun t k => XS.astore X1.here hx rfl (hb hby at_15) rfl rfl (l' := #[.val (.int p1), .val (.int p2), .val (.int p3), .val (.long q4), .second, .val (.ref w_FIN), .unset, .unset, .unset, .unset, .unset]) rfl k) ?_
  show own_Goes _ _ _ _ T1 (mkF m 17 #[.val (.int p1), .val (.int p2), .val (.int p3), .val (.long q4), .second, .val (.ref w_FIN), .unset, .unset, .unset, .unset, .unset] [])
  refine own_step (fun t k => XS.iloadN X1.here hx rfl (hb hby at_17) rfl k) ?_
  show own_Goes _ _ _ _ T1 (mkF m 18 #[.val (.int p1), .val (.int p2), .val (.int p3), .val (.long q4), .second, .val (.ref w_FIN), .unset, .unset, .unset, .unset, .unset] [(.int p2)])
  refine own_step (fun t k => XS.bipush X1.here hx rfl (hb hby at_18) k) ?_
  show own_Goes _ _ _ _ T1 (mkF m 20 #[.val (.int p1), .val (.int p2), .val (.int p3), .val (.long q4), .second, .val (.ref w_FIN), .unset, .unset, .unset, .unset, .unset] [(.int (63 : Int32)), (.int p2)])
  refine own_step (fun t k => XS.iand X1.here hx rfl (hb hby at_20) rfl k) ?_
  show own_Goes _ _ _ _ T1 (mkF m 21 #[.val (.int p1), .val (.int p2), .val (.int p3), .val (.long q4), .second, .val (.ref w_FIN), .unset, .unset, .unset, .unset, .unset] [(.int (p2 &&& (63 : Int32)))])
  refine own_step (fun t k => XS.istore X1.here hx rfl (hb hby at_21) rfl (l' := #[.val (.int p1), .val (.int p2), .val (.int p3), .val (.long q4), .second, .val (.ref w_FIN), .val (.int (p2 &&& (63 : Int32))), .unset, .unset, .unset, .unset]) rfl k) ?_
  show own_Goes _ _ _ _ T1 (mkF m 23 #[.val (.int p1), .val (.int p2), .val (.int p3), .val (.long q4), .second, .val (.ref w_FIN), .val (.int (p2 &&& (63 : Int32))), .unset, .unset, .unset, .unset] [])
  refine own_step (fun t k => XS.iloadN X1.here hx rfl (hb hby at_23) rfl k) ?_
  show own_Goes _ _ _ _ T1 (mkF m 24 #[.val (.int p1), .val (.int p2), .val (.int p3), .val (.long q4), .second, .val (.ref w_FIN), .val (.int (p2 &&& (63 : Int32))), .unset, .unset, .unset, .unset] [(.int p3)])
  refine own_step (fun t k => XS.iconst X1.here hx rfl (hb hby at_24) k) ?_
  show own_Goes _ _ _ _ T1 (mkF m 25 #[.val (.int p1), .val (.int p2), .val (.int p3), .val (.long q4), .second, .val (.ref w_FIN), .val (.int (p2 &&& (63 : Int32))), .unset, .unset, .unset, .unset] [(.int (1 : Int32)), (.int p3)])
  refine own_step (fun t k => XS.iand X1.here hx rfl (hb hby at_25) rfl k) ?_
  show own_Goes _ _ _ _ T1 (mkF m 26 #[.val (.int p1), .val (.int p2), .val (.int p3), .val (.long q4), .second, .val (.ref w_FIN), .val (.int (p2 &&& (63 : Int32))), .unset, .unset, .unset, .unset] [(.int (p3 &&& (1 : Int32)))])
  refine own_step (fun t k => XS.ifNo X1.here hx rfl (hb hby at_26) rfl ((if0 _ _).trans (feq (show ¬ ((p3 &&& (1 : Int32)) = (0 : Int32)) from hcc)).1) k) ?_
  show own_Goes _ _ _ _ T1 (mkF m 29 #[.val (.int p1), .val (.int p2), .val (.int p3), .val (.long q4), .second, .val (.ref w_FIN), .val (.int (p2 &&& (63 : Int32))), .unset, .unset, .unset, .unset] [])
  refine own_step (fun t k => XS.iconst X1.here hx rfl (hb hby at_29) k) ?_
  show own_Goes _ _ _ _ T1 (mkF m 30 #[.val (.int p1), .val (.int p2), .val (.int p3), .val (.long q4), .second, .val (.ref w_FIN), .val (.int (p2 &&& (63 : Int32))), .unset, .unset, .unset, .unset] [(.int (1 : Int32))])
  refine own_step (fun t k => XS.goto X1.here hx rfl (pc0 := 30) (pc' := 34) rfl (hb hby at_30) (by decide) (by decide) k) ?_
  show own_Goes _ _ _ _ T1 (mkF m 34 #[.val (.int p1), .val (.int p2), .val (.int p3), .val (.long q4), .second, .val (.ref w_FIN), .val (.int (p2 &&& (63 : Int32))), .unset, .unset, .unset, .unset] [(.int (1 : Int32))])
  refine own_step (fun t k => XS.istore X1.here hx rfl (hb hby at_34) rfl (l' := #[.val (.int p1), .val (.int p2), .val (.int p3), .val (.long q4), .second, .val (.ref w_FIN), .val (.int (p2 &&& (63 : Int32))), .val (.int (1 : Int32)), .unset, .unset, .unset]) rfl k) ?_
  show own_Goes _ _ _ _ T1 (mkF m 36 #[.val (.int p1), .val (.int p2), .val (.int p3), .val (.long q4), .second, .val (.ref w_FIN), .val (.int (p2 &&& (63 : Int32))), .val (.int (1 : Int32)), .unset, .unset, .unset] [])
  obtain ⟨T2, h2, X2, e2, E2, A2, D2, -, st2⟩ := newO X1 hx hZ hown (hw _ (List.mem_of_getElem? (i := 3) rfl)) (hw _ (List.mem_of_getElem? (i := 4) rfl)) (hw _ (List.mem_of_getElem? (i := 5) rfl)) e1 (g := (mkF m 36 #[.val (.int p1), .val (.int p2), .val (.int p3), .val (.long q4), .second, .val (.ref w_FIN), .val (.int (p2 &&& (63 : Int32))), .val (.int (1 : Int32)), .unset, .unset, .unset] [])) rfl (hb hby at_36) (by decide) (by decide)
  obtain ⟨b2, g2⟩ : ∃ z, z = h0.size := ⟨_, rfl⟩
  rw [← g2] at A2 D2 st2
  refine own_step st2 ?_
  have g_b2 : n0 ≤ b2 := Nat.le_trans Z0 (Nat.le_of_eq g2.symm)
  have sz_b2 : h0.size ≤ b2 := Nat.le_trans (Keep.refl h0 []).1 (Nat.le_of_eq g2.symm)
  have K2 := (Keep.refl h0 []).ext E2
  have F_b2_kind : Fld Z h2 b2 "com/example/weaverbird/weaverbird/automaton/Acceptance$Atom" "kind" "Lcom/example/weaverbird/weaverbird/automaton/Acceptance$Kind;" .null := D2 (Or.inr (hw _ (List.mem_of_getElem? (i := 18) rfl))) (ty := (.object "com/example/weaverbird/weaverbird/automaton/Acceptance$Kind")) (by decide)
  have F_b2_set : Fld Z h2 b2 "com/example/weaverbird/weaverbird/automaton/Acceptance$Atom" "set" "I" (.int (0 : Int32)) := D2 (Or.inr (hw _ (List.mem_of_getElem? (i := 20) rfl))) (ty := .int) (by decide)
  have F_b2_complemented : Fld Z h2 b2 "com/example/weaverbird/weaverbird/automaton/Acceptance$Atom" "complemented" "Z" (.int (0 : Int32)) := D2 (Or.inr (hw _ (List.mem_of_getElem? (i := 22) rfl))) (ty := .boolean) (by decide)
  show own_Goes _ _ _ _ T2 (mkF m 39 #[.val (.int p1), .val (.int p2), .val (.int p3), .val (.long q4), .second, .val (.ref w_FIN), .val (.int (p2 &&& (63 : Int32))), .val (.int (1 : Int32)), .unset, .unset, .unset] [(.ref b2)])
  refine own_step (fun t k => XS.dup X2.here hx rfl (hb hby at_39) rfl rfl k) ?_
  show own_Goes _ _ _ _ T2 (mkF m 40 #[.val (.int p1), .val (.int p2), .val (.int p3), .val (.long q4), .second, .val (.ref w_FIN), .val (.int (p2 &&& (63 : Int32))), .val (.int (1 : Int32)), .unset, .unset, .unset] [(.ref b2), (.ref b2)])
  refine own_step (fun t k => XS.aload X2.here hx rfl (hb hby at_40) rfl rfl k) ?_
  show own_Goes _ _ _ _ T2 (mkF m 42 #[.val (.int p1), .val (.int p2), .val (.int p3), .val (.long q4), .second, .val (.ref w_FIN), .val (.int (p2 &&& (63 : Int32))), .val (.int (1 : Int32)), .unset, .unset, .unset] [(.ref w_FIN), (.ref b2), (.ref b2)])
  refine own_step (fun t k => XS.iload X2.here hx rfl (hb hby at_42) rfl k) ?_
  show own_Goes _ _ _ _ T2 (mkF m 44 #[.val (.int p1), .val (.int p2), .val (.int p3), .val (.long q4), .second, .val (.ref w_FIN), .val (.int (p2 &&& (63 : Int32))), .val (.int (1 : Int32)), .unset, .unset, .unset] [(.int (p2 &&& (63 : Int32))), (.ref w_FIN), (.ref b2), (.ref b2)])
  refine own_step (fun t k => XS.iload X2.here hx rfl (hb hby at_44) rfl k) ?_
  show own_Goes _ _ _ _ T2 (mkF m 46 #[.val (.int p1), .val (.int p2), .val (.int p3), .val (.long q4), .second, .val (.ref w_FIN), .val (.int (p2 &&& (63 : Int32))), .val (.int (1 : Int32)), .unset, .unset, .unset] [(.int (1 : Int32)), (.int (p2 &&& (63 : Int32))), (.ref w_FIN), (.ref b2), (.ref b2)])
  refine own_callC X2 hx hZ (y := (⟨"com/example/weaverbird/weaverbird/automaton/Acceptance$Atom", "<init>", "(Lcom/example/weaverbird/weaverbird/automaton/Acceptance$Kind;IZ)V"⟩ : MethodName)) rfl hown (hw _ (List.mem_of_getElem? (i := 6) rfl)) (hw _ (List.mem_of_getElem? (i := 7) rfl)) (hw _ (List.mem_of_getElem? (i := 8) rfl)) (hw _ (List.mem_of_getElem? (i := 5) rfl)) (by decide) 1 (a := b2) [(.ref w_FIN), (.int (p2 &&& (63 : Int32))), (.int (1 : Int32))] [(.ref b2)] (own_init1 l Z a0 hw [] b2 w_FIN (p2 &&& (63 : Int32)) h2 n0 (Nat.le_trans Z0 K2.1) A2 F_b2_kind F_b2_set F_b2_complemented g_b2) e2 (by decide) (by decide) (by decide) (by decide) (g := (mkF m 46 #[.val (.int p1), .val (.int p2), .val (.int p3), .val (.long q4), .second, .val (.ref w_FIN), .val (.int (p2 &&& (63 : Int32))), .val (.int (1 : Int32)), .unset, .unset, .unset] [(.int (1 : Int32)), (.int (p2 &&& (63 : Int32))), (.ref w_FIN), (.ref b2), (.ref b2)])) rfl (by rw [hml]; rfl) own_pd1 rfl rfl (by show 2 * 0 + _ ≤ _; exact Nat.le_of_eq rfl) (hb hby at_46) ?_
  intro T3 v3 L3 X3 hQ3
  obtain ⟨rfl, N3q, Kq3, A_3, Fs_3, Fc_3⟩ := hQ3
  have N3 := Fr.app N0 N3q
  have K3 := K2.trans Kq3 (allS (Or.inr sz_b2) all0)
  show own_Goes _ _ _ _ T3 (mkF m 49 #[.val (.int p1), .val (.int p2), .val (.int p3), .val (.long q4), .second, .val (.ref w_FIN), .val (.int (p2 &&& (63 : Int32))), .val (.int (1 : Int32)), .unset, .unset, .unset] [(.ref b2)])
  refine own_step (fun t k => XS.astore X3.here hx rfl (hb hby at_49) rfl rfl (l' := #[.val (.int p1), .val (.int p2), .val (.int p3), .val (.long q4), .second, .val (.ref w_FIN), .val (.int (p2 &&& (63 : Int32))), .val (.int (1 : Int32)), .val (.ref b2), .unset, .unset]) rfl k) ?_
  show own_Goes _ _ _ _ T3 (mkF m 51 #[.val (.int p1), .val (.int p2), .val (.int p3), .val (.long q4), .second, .val (.ref w_FIN), .val (.int (p2 &&& (63 : Int32))), .val (.int (1 : Int32)), .val (.ref b2), .unset, .unset] [])
  refine own_step (fun t k => XS.lloadN X3.here hx rfl (hb hby at_51) rfl k) ?_
  show own_Goes _ _ _ _ T3 (mkF m 52 #[.val (.int p1), .val (.int p2), .val (.int p3), .val (.long q4), .second, .val (.ref w_FIN), .val (.int (p2 &&& (63 : Int32))), .val (.int (1 : Int32)), .val (.ref b2), .unset, .unset] [(.long q4)])
  refine own_step (fun t k => XS.iload X3.here hx rfl (hb hby at_52) rfl k) ?_
  show own_Goes _ _ _ _ T3 (mkF m 54 #[.val (.int p1), .val (.int p2), .val (.int p3), .val (.long q4), .second, .val (.ref w_FIN), .val (.int (p2 &&& (63 : Int32))), .val (.int (1 : Int32)), .val (.ref b2), .unset, .unset] [(.int (p2 &&& (63 : Int32))), (.long q4)])
  refine own_step (fun t k => XS.lushr X3.here hx rfl (hb hby at_54) rfl k) ?_
  show own_Goes _ _ _ _ T3 (mkF m 55 #[.val (.int p1), .val (.int p2), .val (.int p3), .val (.long q4), .second, .val (.ref w_FIN), .val (.int (p2 &&& (63 : Int32))), .val (.int (1 : Int32)), .val (.ref b2), .unset, .unset] [(.long ((q4.toUInt64 >>> ((p2 &&& (63 : Int32)) &&& 0x3f).toInt64.toUInt64).toInt64))])
  refine own_step (fun t k => XS.lconst X3.here hx rfl (hb hby at_55) k) ?_
  show own_Goes _ _ _ _ T3 (mkF m 56 #[.val (.int p1), .val (.int p2), .val (.int p3), .val (.long q4), .second, .val (.ref w_FIN), .val (.int (p2 &&& (63 : Int32))), .val (.int (1 : Int32)), .val (.ref b2), .unset, .unset] [(.long (1 : Int64)), (.long ((q4.toUInt64 >>> ((p2 &&& (63 : Int32)) &&& 0x3f).toInt64.toUInt64).toInt64))])
  refine own_step (fun t k => XS.land X3.here hx rfl (hb hby at_56) rfl k) ?_
  show own_Goes _ _ _ _ T3 (mkF m 57 #[.val (.int p1), .val (.int p2), .val (.int p3), .val (.long q4), .second, .val (.ref w_FIN), .val (.int (p2 &&& (63 : Int32))), .val (.int (1 : Int32)), .val (.ref b2), .unset, .unset] [(.long (((q4.toUInt64 >>> ((p2 &&& (63 : Int32)) &&& 0x3f).toInt64.toUInt64).toInt64) &&& (1 : Int64)))])
  refine own_step (fun t k => XS.lconst X3.here hx rfl (hb hby at_57) k) ?_
  show own_Goes _ _ _ _ T3 (mkF m 58 #[.val (.int p1), .val (.int p2), .val (.int p3), .val (.long q4), .second, .val (.ref w_FIN), .val (.int (p2 &&& (63 : Int32))), .val (.int (1 : Int32)), .val (.ref b2), .unset, .unset] [(.long (1 : Int64)), (.long (((q4.toUInt64 >>> ((p2 &&& (63 : Int32)) &&& 0x3f).toInt64.toUInt64).toInt64) &&& (1 : Int64)))])
  refine own_step (fun t k => XS.lcmp X3.here hx rfl (hb hby at_58) rfl k) ?_
  show own_Goes _ _ _ _ T3 (mkF m 59 #[.val (.int p1), .val (.int p2), .val (.int p3), .val (.long q4), .second, .val (.ref w_FIN), .val (.int (p2 &&& (63 : Int32))), .val (.int (1 : Int32)), .val (.ref b2), .unset, .unset] [(.int (lcmpW (((q4.toUInt64 >>> ((p2 &&& (63 : Int32)) &&& 0x3f).toInt64.toUInt64).toInt64) &&& (1 : Int64)) (1 : Int64)))])
  refine own_step (fun t k => XS.ifNo X3.here hx rfl (hb hby at_59) rfl ((if0 _ _).trans (teq (show (lcmpW (((q4.toUInt64 >>> ((p2 &&& (63 : Int32)) &&& 0x3f).toInt64.toUInt64).toInt64) &&& (1 : Int64)) (1 : Int64)) = (0 : Int32) from hx1)).2) k) ?_
  show own_Goes _ _ _ _ T3 (mkF m 62 #[.val (.int p1), .val (.int p2), .val (.int p3), .val (.long q4), .second, .val (.ref w_FIN), .val (.int (p2 &&& (63 : Int32))), .val (.int (1 : Int32)), .val (.ref b2), .unset, .unset] [])
  refine own_step (fun t k => XS.iconst X3.here hx rfl (hb hby at_62) k) ?_
  show own_Goes _ _ _ _ T3 (mkF m 63 #[.val (.int p1), .val (.int p2), .val (.int p3), .val (.long q4), .second, .val (.ref w_FIN), .val (.int (p2 &&& (63 : Int32))), .val (.int (1 : Int32)), .val (.ref b2), .unset, .unset] [(.int (1 : Int32))])
  refine own_step (fun t k => XS.goto X3.here hx rfl (pc0 := 63) (pc' := 67) rfl (hb hby at_63) (by decide) (by decide) k) ?_
  show own_Goes _ _ _ _ T3 (mkF m 67 #[.val (.int p1), .val (.int p2), .val (.int p3), .val (.long q4), .second, .val (.ref w_FIN), .val (.int (p2 &&& (63 : Int32))), .val (.int (1 : Int32)), .val (.ref b2), .unset, .unset] [(.int (1 : Int32))])
  refine own_step (fun t k => XS.istore X3.here hx rfl (hb hby at_67) rfl (l' := #[.val (.int p1), .val (.int p2), .val (.int p3), .val (.long q4), .second, .val (.ref w_FIN), .val (.int (p2 &&& (63 : Int32))), .val (.int (1 : Int32)), .val (.ref b2), .val (.int (1 : Int32)), .unset]) rfl k) ?_
  show own_Goes _ _ _ _ T3 (mkF m 69 #[.val (.int p1), .val (.int p2), .val (.int p3), .val (.long q4), .second, .val (.ref w_FIN), .val (.int (p2 &&& (63 : Int32))), .val (.int (1 : Int32)), .val (.ref b2), .val (.int (1 : Int32)), .unset] [])
  refine own_step (fun t k => XS.iload X3.here hx rfl (hb hby at_69) rfl k) ?_
  show own_Goes _ _ _ _ T3 (mkF m 71 #[.val (.int p1), .val (.int p2), .val (.int p3), .val (.long q4), .second, .val (.ref w_FIN), .val (.int (p2 &&& (63 : Int32))), .val (.int (1 : Int32)), .val (.ref b2), .val (.int (1 : Int32)), .unset] [(.int (1 : Int32))])
  refine own_step (fun t k => XS.ifNo X3.here hx rfl (hb hby at_71) rfl ((if0 _ _).trans (feq (show ¬ ((1 : Int32) = (0 : Int32)) from (by decide))).1) k) ?_
  show own_Goes _ _ _ _ T3 (mkF m 74 #[.val (.int p1), .val (.int p2), .val (.int p3), .val (.long q4), .second, .val (.ref w_FIN), .val (.int (p2 &&& (63 : Int32))), .val (.int (1 : Int32)), .val (.ref b2), .val (.int (1 : Int32)), .unset] [])
  refine own_step (fun t k => XS.iload X3.here hx rfl (hb hby at_74) rfl k) ?_
  show own_Goes _ _ _ _ T3 (mkF m 76 #[.val (.int p1), .val (.int p2), .val (.int p3), .val (.long q4), .second, .val (.ref w_FIN), .val (.int (p2 &&& (63 : Int32))), .val (.int (1 : Int32)), .val (.ref b2), .val (.int (1 : Int32)), .unset] [(.int (1 : Int32))])
  refine own_step (fun t k => XS.ifYes X3.here hx rfl (pc0 := 76) (pc' := 83) rfl (hb hby at_76) rfl ((if0 _ _).trans (feq (show ¬ ((1 : Int32) = (0 : Int32)) from (by decide))).2) (by decide) (by decide) k) ?_
  show own_Goes _ _ _ _ T3 (mkF m 83 #[.val (.int p1), .val (.int p2), .val (.int p3), .val (.long q4), .second, .val (.ref w_FIN), .val (.int (p2 &&& (63 : Int32))), .val (.int (1 : Int32)), .val (.ref b2), .val (.int (1 : Int32)), .unset] [])
  refine own_step (fun t k => XS.iconst X3.here hx rfl (hb hby at_83) k) ?_
  show own_Goes _ _ _ _ T3 (mkF m 84 #[.val (.int p1), .val (.int p2), .val (.int p3), .val (.long q4), .second, .val (.ref w_FIN), .val (.int (p2 &&& (63 : Int32))), .val (.int (1 : Int32)), .val (.ref b2), .val (.int (1 : Int32)), .unset] [(.int (0 : Int32))])
  refine own_step (fun t k => XS.goto X3.here hx rfl (pc0 := 84) (pc' := 89) rfl (hb hby at_84) (by decide) (by decide) k) ?_
  show own_Goes _ _ _ _ T3 (mkF m 89 #[.val (.int p1), .val (.int p2), .val (.int p3), .val (.long q4), .second, .val (.ref w_FIN), .val (.int (p2 &&& (63 : Int32))), .val (.int (1 : Int32)), .val (.ref b2), .val (.int (1 : Int32)), .unset] [(.int (0 : Int32))])
  refine own_step (fun t k => XS.istore X3.here hx rfl (hb hby at_89) rfl (l' := #[.val (.int p1), .val (.int p2), .val (.int p3), .val (.long q4), .second, .val (.ref w_FIN), .val (.int (p2 &&& (63 : Int32))), .val (.int (1 : Int32)), .val (.ref b2), .val (.int (1 : Int32)), .val (.int (0 : Int32))]) rfl k) ?_
  show own_Goes _ _ _ _ T3 (mkF m 91 #[.val (.int p1), .val (.int p2), .val (.int p3), .val (.long q4), .second, .val (.ref w_FIN), .val (.int (p2 &&& (63 : Int32))), .val (.int (1 : Int32)), .val (.ref b2), .val (.int (1 : Int32)), .val (.int (0 : Int32))] [])
  refine own_step (fun t k => XS.aload X3.here hx rfl (hb hby at_91) rfl rfl k) ?_
  show own_Goes _ _ _ _ T3 (mkF m 93 #[.val (.int p1), .val (.int p2), .val (.int p3), .val (.long q4), .second, .val (.ref w_FIN), .val (.int (p2 &&& (63 : Int32))), .val (.int (1 : Int32)), .val (.ref b2), .val (.int (1 : Int32)), .val (.int (0 : Int32))] [(.ref b2)])
  refine own_step (fun t k => XS.lloadN X3.here hx rfl (hb hby at_93) rfl k) ?_
  show own_Goes _ _ _ _ T3 (mkF m 94 #[.val (.int p1), .val (.int p2), .val (.int p3), .val (.long q4), .second, .val (.ref w_FIN), .val (.int (p2 &&& (63 : Int32))), .val (.int (1 : Int32)), .val (.ref b2), .val (.int (1 : Int32)), .val (.int (0 : Int32))] [(.long q4), (.ref b2)])
  refine own_callV X3 hx hZ (y := (⟨"com/example/weaverbird/weaverbird/automaton/Acceptance$Atom", "counts", "(J)Z"⟩ : MethodName)) (z := (⟨"com/example/weaverbird/weaverbird/automaton/Acceptance$Atom", "counts", "(J)Z"⟩ : MethodName)) hown (hw _ (List.mem_of_getElem? (i := 23) rfl)) (hw _ (List.mem_of_getElem? (i := 24) rfl)) (notFace_of_selects (args := #[]) (mvT hZ (hw _ (List.mem_of_getElem? (i := 26) rfl)))) (hw _ (List.mem_of_getElem? (i := 26) rfl)) (hw _ (List.mem_of_getElem? (i := 25) rfl)) (hw _ (List.mem_of_getElem? (i := 27) rfl)) (hw _ (List.mem_of_getElem? (i := 5) rfl)) (by decide) 0 A_3 [(.long q4)] [] (own_cnt11 l Z a0 hw [] b2 q4 (p2 &&& (63 : Int32)) T3.heap n0 (Nat.le_trans Z0 K3.1) Fs_3 Fc_3 hy1) rfl (by decide) (by decide) (by decide) (by decide) (g := (mkF m 94 #[.val (.int p1), .val (.int p2), .val (.int p3), .val (.long q4), .second, .val (.ref w_FIN), .val (.int (p2 &&& (63 : Int32))), .val (.int (1 : Int32)), .val (.ref b2), .val (.int (1 : Int32)), .val (.int (0 : Int32))] [(.long q4), (.ref b2)])) rfl (by rw [hml]; rfl) own_pd2 rfl rfl (by show 2 * 0 + _ ≤ _; exact Nat.le_of_eq rfl) (hb hby at_94) ?_
  intro T4 v4 L4 X4 hQ4
  obtain ⟨rfl, N4q, e4⟩ := hQ4
  have N4 := Fr.app N3 N4q
  show own_Goes _ _ _ _ T4 (mkF m 97 #[.val (.int p1), .val (.int p2), .val (.int p3), .val (.long q4), .second, .val (.ref w_FIN), .val (.int (p2 &&& (63 : Int32))), .val (.int (1 : Int32)), .val (.ref b2), .val (.int (1 : Int32)), .val (.int (0 : Int32))] [(.int (0 : Int32))])
  refine own_step (fun t k => XS.iload X4.here hx rfl (hb hby at_97) rfl k) ?_
  show own_Goes _ _ _ _ T4 (mkF m 99 #[.val (.int p1), .val (.int p2), .val (.int p3), .val (.long q4), .second, .val (.ref w_FIN), .val (.int (p2 &&& (63 : Int32))), .val (.int (1 : Int32)), .val (.ref b2), .val (.int (1 : Int32)), .val (.int (0 : Int32))] [(.int (0 : Int32)), (.int (0 : Int32))])
  refine own_step (fun t k => XS.icmpNo X4.here hx rfl (hb hby at_99) rfl (teq (show (0 : Int32) = (0 : Int32) from (by decide))).2 k) ?_
  show own_Goes _ _ _ _ T4 (mkF m 102 #[.val (.int p1), .val (.int p2), .val (.int p3), .val (.long q4), .second, .val (.ref w_FIN), .val (.int (p2 &&& (63 : Int32))), .val (.int (1 : Int32)), .val (.ref b2), .val (.int (1 : Int32)), .val (.int (0 : Int32))] [])
  refine own_step (fun t k => XS.iconst X4.here hx rfl (hb hby at_102) k) ?_
  show own_Goes _ _ _ _ T4 (mkF m 103 #[.val (.int p1), .val (.int p2), .val (.int p3), .val (.long q4), .second, .val (.ref w_FIN), .val (.int (p2 &&& (63 : Int32))), .val (.int (1 : Int32)), .val (.ref b2), .val (.int (1 : Int32)), .val (.int (0 : Int32))] [(.int (1 : Int32))])
  refine own_step (fun t k => XS.goto X4.here hx rfl (pc0 := 103) (pc' := 107) rfl (hb hby at_103) (by decide) (by decide) k) ?_
  show own_Goes _ _ _ _ T4 (mkF m 107 #[.val (.int p1), .val (.int p2), .val (.int p3), .val (.long q4), .second, .val (.ref w_FIN), .val (.int (p2 &&& (63 : Int32))), .val (.int (1 : Int32)), .val (.ref b2), .val (.int (1 : Int32)), .val (.int (0 : Int32))] [(.int (1 : Int32))])
  exact own_retN X4 hx hlk (t := .boolean) hrt (by simp) (hb hby at_107) ⟨rfl, N4⟩ (by decide) (by decide)
set_option maxRecDepth 65536 in
set_option maxHeartbeats 40000000 in
theorem own_law100 (l : Launch) (Z : State) (a0 : Array Value) (hw : ∀ d ∈ tables_1, d.before a0 Z = true) (ws : List Jvm.Cond) (p1 : Int32) (p2 : Int32) (p3 : Int32) (q4 : Int64) (w_INF : Addr) (h0 : Heap) (n0 : Nat) (Z0 : n0 ≤ h0.size) (S_INF : Sta Z h0 "com/example/weaverbird/weaverbird/automaton/Acceptance$Kind" "INF" "Lcom/example/weaverbird/weaverbird/automaton/Acceptance$Kind;" (.ref w_INF)) (hk : ¬ ((p1 &&& (1 : Int32)) = (0 : Int32))) (hcc : (p3 &&& (1 : Int32)) = (0 : Int32)) (hx1 : ¬ ((lcmpW (((q4.toUInt64 >>> ((p2 &&& (63 : Int32)) &&& 0x3f).toInt64.toUInt64).toInt64) &&& (1 : Int64)) (1 : Int64)) = (0 : Int32))) (hy1 : (lcmpW (q4 &&& ((1 : Int64) <<< ((p2 &&& (63 : Int32)) &&& 0x3f).toInt64)) (0 : Int64)) = (0 : Int32)) :
    own_Met l Z x code maxLocals ret ws room_1 #[(.int p1), (.int p2), (.int p3), (.long q4)] h0 (fun v h L => v = some (.int 1) ∧ Fr n0 L) := by
  refine own_body (plainFor_of_name own_pn_com_example_weaverbird_weaverbird_automaton_AtomCountsPinLaw) (fun p e s m below meth c s₁ hx hby hml0 hrt hlk hown0 hnm hZ X0 e0 => ?_)
  have N0 := Fr.nil n0
  have hown : s.vm.findClass "com/example/weaverbird/weaverbird/automaton/AtomCountsPinLaw" = some m.cls := hown0
  have hml : c.maxLocals = 11 := hml0
  refine own_castG (own_ef3 m p1 p2 p3 q4) ?_
  show own_Goes _ _ _ _ s₁ (mkF m 0 #[.val (.int p1), .val (.int p2), .val (.int p3), .val (.long q4), .second, .unset, .unset, .unset, .unset, .unset, .unset] [])
  refine own_step (fun t k => XS.iloadN X0.here hx rfl (hb hby at_0) rfl k) ?_
  show own_Goes _ _ _ _ s₁ (mkF m 1 #[.val (.int p1), .val (.int p2), .val (.int p3), .val (.long q4), .second, .unset, .unset, .unset, .unset, .unset, .unset] [(.int p1)])
  refine own_step (fun t k => XS.iconst X0.here hx rfl (hb hby at_1) k) ?_
  show own_Goes _ _ _ _ s₁ (mkF m 2 #[.val (.int p1), .val (.int p2), .val (.int p3), .val (.long q4), .second, .unset, .unset, .unset, .unset, .unset, .unset] [(.int (1 : Int32)), (.int p1)])
  refine own_step (fun t k => XS.iand X0.here hx rfl (hb hby at_2) rfl k) ?_
  show own_Goes _ _ _ _ s₁ (mkF m 3 #[.val (.int p1), .val (.int p2), .val (.int p3), .val (.long q4), .second, .unset, .unset, .unset, .unset, .unset, .unset] [(.int (p1 &&& (1 : Int32)))])
  refine own_step (fun t k => XS.ifYes X0.here hx rfl (pc0 := 3) (pc' := 12) rfl (hb hby at_3) rfl ((if0 _ _).trans (feq (show ¬ ((p1 &&& (1 : Int32)) = (0 : Int32)) from hk)).2) (by decide) (by decide) k) ?_
  show own_Goes _ _ _ _ s₁ (mkF m 12 #[.val (.int p1), .val (.int p2), .val (.int p3), .val (.long q4), .second, .unset, .unset, .unset, .unset, .unset, .unset] [])
  obtain ⟨T1, X1, e1, st1⟩ := getS2 X0 hx hZ hown (host := "") (Or.inl (hw _ (List.mem_of_getElem? (i := 28) rfl))) Via.refl e0 S_INF (g := (mkF m 12 #[.val (.int p1), .val (.int p2), .val (.int p3), .val (.long q4), .second, .unset, .unset, .unset, .unset, .unset, .unset] [])) rfl (hb hby at_12)
  refine own_step st1 ?_
  show own_Goes _ _ _ _ T1 (mkF m 15 #[.val (.int p1), .val (.int p2), .val (.int p3), .val (.long q4), .second, .unset, .unset, .unset, .unset, .unset, .unset] [(.ref w_INF)])
  refine own_step (fun t k => XS.astore X1.here hx rfl (hb hby at_15) rfl rfl (l' := #[.val (.int p1), .val (.int p2), .val (.int p3), .val (.long q4), .second, .val (.ref w_INF), .unset, .unset, .unset, .unset, .unset]) rfl k) ?_
  show own_Goes _ _ _ _ T1 (mkF m 17 #[.val (.int p1), .val (.int p2), .val (.int p3), .val (.long q4), .second, .val (.ref w_INF), .unset, .unset, .unset, .unset, .unset] [])
  refine own_step (fun t k => XS.iloadN X1.here hx rfl (hb hby at_17) rfl k) ?_
  show own_Goes _ _ _ _ T1 (mkF m 18 #[.val (.int p1), .val (.int p2), .val (.int p3), .val (.long q4), .second, .val (.ref w_INF), .unset, .unset, .unset, .unset, .unset] [(.int p2)])
  refine own_step (fun t k => XS.bipush X1.here hx rfl (hb hby at_18) k) ?_
  show own_Goes _ _ _ _ T1 (mkF m 20 #[.val (.int p1), .val (.int p2), .val (.int p3), .val (.long q4), .second, .val (.ref w_INF), .unset, .unset, .unset, .unset, .unset] [(.int (63 : Int32)), (.int p2)])
  refine own_step (fun t k => XS.iand X1.here hx rfl (hb hby at_20) rfl k) ?_
  show own_Goes _ _ _ _ T1 (mkF m 21 #[.val (.int p1), .val (.int p2), .val (.int p3), .val (.long q4), .second, .val (.ref w_INF), .unset, .unset, .unset, .unset, .unset] [(.int (p2 &&& (63 : Int32)))])
  refine own_step (fun t k => XS.istore X1.here hx rfl (hb hby at_21) rfl (l' := #[.val (.int p1), .val (.int p2), .val (.int p3), .val (.long q4), .second, .val (.ref w_INF), .val (.int (p2 &&& (63 : Int32))), .unset, .unset, .unset, .unset]) rfl k) ?_
  show own_Goes _ _ _ _ T1 (mkF m 23 #[.val (.int p1), .val (.int p2), .val (.int p3), .val (.long q4), .second, .val (.ref w_INF), .val (.int (p2 &&& (63 : Int32))), .unset, .unset, .unset, .unset] [])
  refine own_step (fun t k => XS.iloadN X1.here hx rfl (hb hby at_23) rfl k) ?_
  show own_Goes _ _ _ _ T1 (mkF m 24 #[.val (.int p1), .val (.int p2), .val (.int p3), .val (.long q4), .second, .val (.ref w_INF), .val (.int (p2 &&& (63 : Int32))), .unset, .unset, .unset, .unset] [(.int p3)])
  refine own_step (fun t k => XS.iconst X1.here hx rfl (hb hby at_24) k) ?_
  show own_Goes _ _ _ _ T1 (mkF m 25 #[.val (.int p1), .val (.int p2), .val (.int p3), .val (.long q4), .second, .val (.ref w_INF), .val (.int (p2 &&& (63 : Int32))), .unset, .unset, .unset, .unset] [(.int (1 : Int32)), (.int p3)])
  refine own_step (fun t k => XS.iand X1.here hx rfl (hb hby at_25) rfl k) ?_
  show own_Goes _ _ _ _ T1 (mkF m 26 #[.val (.int p1), .val (.int p2), .val (.int p3), .val (.long q4), .second, .val (.ref w_INF), .val (.int (p2 &&& (63 : Int32))), .unset, .unset, .unset, .unset] [(.int (p3 &&& (1 : Int32)))])
  refine own_step (fun t k => XS.ifYes X1.here hx rfl (pc0 := 26) (pc' := 33) rfl (hb hby at_26) rfl ((if0 _ _).trans (teq (show (p3 &&& (1 : Int32)) = (0 : Int32) from hcc)).1) (by decide) (by decide) k) ?_
  show own_Goes _ _ _ _ T1 (mkF m 33 #[.val (.int p1), .val (.int p2), .val (.int p3), .val (.long q4), .second, .val (.ref w_INF), .val (.int (p2 &&& (63 : Int32))), .unset, .unset, .unset, .unset] [])
  refine own_step (fun t k => XS.iconst X1.here hx rfl (hb hby at_33) k) ?_
  show own_Goes _ _ _ _ T1 (mkF m 34 #[.val (.int p1), .val (.int p2), .val (.int p3), .val (.long q4), .second, .val (.ref w_INF), .val (.int (p2 &&& (63 : Int32))), .unset, .unset, .unset, .unset] [(.int (0 : Int32))])
  refine own_step (fun t k => XS.istore X1.here hx rfl (hb hby at_34) rfl (l' := #[.val (.int p1), .val (.int p2), .val (.int p3), .val (.long q4), .second, .val (.ref w_INF), .val (.int (p2 &&& (63 : Int32))), .val (.int (0 : Int32)), .unset, .unset, .unset]) rfl k) ?_
  show own_Goes _ _ _ _ T1 (mkF m 36 #[.val (.int p1), .val (.int p2), .val (.int p3), .val (.long q4), .second, .val (.ref w_INF), .val (.int (p2 &&& (63 : Int32))), .val (.int (0 : Int32)), .unset, .unset, .unset] [])
  obtain ⟨T2, h2, X2, e2, E2, A2, D2, -, st2⟩ := newO X1 hx hZ hown (hw _ (List.mem_of_getElem? (i := 3) rfl)) (hw _ (List.mem_of_getElem? (i := 4) rfl)) (hw _ (List.mem_of_getElem? (i := 5) rfl)) e1 (g := (mkF m 36 #[.val (.int p1), .val (.int p2), .val (.int p3), .val (.long q4), .second, .val (.ref w_INF), .val (.int (p2 &&& (63 : Int32))), .val (.int (0 : Int32)), .unset, .unset, .unset] [])) rfl (hb hby at_36) (by decide) (by decide)
  obtain ⟨b2, g2⟩ : ∃ z, z = h0.size := ⟨_, rfl⟩
  rw [← g2] at A2 D2 st2
  refine own_step st2 ?_
  have g_b2 : n0 ≤ b2 := Nat.le_trans Z0 (Nat.le_of_eq g2.symm)
  have sz_b2 : h0.size ≤ b2 := Nat.le_trans (Keep.refl h0 []).1 (Nat.le_of_eq g2.symm)
  have K2 := (Keep.refl h0 []).ext E2
  have F_b2_kind : Fld Z h2 b2 "com/example/weaverbird/weaverbird/automaton/Acceptance$Atom" "kind" "Lcom/example/weaverbird/weaverbird/automaton/Acceptance$Kind;" .null := D2 (Or.inr (hw _ (List.mem_of_getElem? (i := 18) rfl))) (ty := (.object "com/example/weaverbird/weaverbird/automaton/Acceptance$Kind")) (by decide)
  have F_b2_set : Fld Z h2 b2 "com/example/weaverbird/weaverbird/automaton/Acceptance$Atom" "set" "I" (.int (0 : Int32)) := D2 (Or.inr (hw _ (List.mem_of_getElem? (i := 20) rfl))) (ty := .int) (by decide)
  have F_b2_complemented : Fld Z h2 b2 "com/example/weaverbird/weaverbird/automaton/Acceptance$Atom" "complemented" "Z" (.int (0 : Int32)) := D2 (Or.inr (hw _ (List.mem_of_getElem? (i := 22) rfl))) (ty := .boolean) (by decide)
  show own_Goes _ _ _ _ T2 (mkF m 39 #[.val (.int p1), .val (.int p2), .val (.int p3), .val (.long q4), .second, .val (.ref w_INF), .val (.int (p2 &&& (63 : Int32))), .val (.int (0 : Int32)), .unset, .unset, .unset] [(.ref b2)])
  refine own_step (fun t k => XS.dup X2.here hx rfl (hb hby at_39) rfl rfl k) ?_
  show own_Goes _ _ _ _ T2 (mkF m 40 #[.val (.int p1), .val (.int p2), .val (.int p3), .val (.long q4), .second, .val (.ref w_INF), .val (.int (p2 &&& (63 : Int32))), .val (.int (0 : Int32)), .unset, .unset, .unset] [(.ref b2), (.ref b2)])
  refine own_step (fun t k => XS.aload X2.here hx rfl (hb hby at_40) rfl rfl k) ?_
  show own_Goes _ _ _ _ T2 (mkF m 42 #[.val (.int p1), .val (.int p2), .val (.int p3), .val (.long q4), .second, .val (.ref w_INF), .val (.int (p2 &&& (63 : Int32))), .val (.int (0 : Int32)), .unset, .unset, .unset] [(.ref w_INF), (.ref b2), (.ref b2)])
  refine own_step (fun t k => XS.iload X2.here hx rfl (hb hby at_42) rfl k) ?_
  show own_Goes _ _ _ _ T2 (mkF m 44 #[.val (.int p1), .val (.int p2), .val (.int p3), .val (.long q4), .second, .val (.ref w_INF), .val (.int (p2 &&& (63 : Int32))), .val (.int (0 : Int32)), .unset, .unset, .unset] [(.int (p2 &&& (63 : Int32))), (.ref w_INF), (.ref b2), (.ref b2)])
  refine own_step (fun t k => XS.iload X2.here hx rfl (hb hby at_44) rfl k) ?_
  show own_Goes _ _ _ _ T2 (mkF m 46 #[.val (.int p1), .val (.int p2), .val (.int p3), .val (.long q4), .second, .val (.ref w_INF), .val (.int (p2 &&& (63 : Int32))), .val (.int (0 : Int32)), .unset, .unset, .unset] [(.int (0 : Int32)), (.int (p2 &&& (63 : Int32))), (.ref w_INF), (.ref b2), (.ref b2)])
  refine own_callC X2 hx hZ (y := (⟨"com/example/weaverbird/weaverbird/automaton/Acceptance$Atom", "<init>", "(Lcom/example/weaverbird/weaverbird/automaton/Acceptance$Kind;IZ)V"⟩ : MethodName)) rfl hown (hw _ (List.mem_of_getElem? (i := 6) rfl)) (hw _ (List.mem_of_getElem? (i := 7) rfl)) (hw _ (List.mem_of_getElem? (i := 8) rfl)) (hw _ (List.mem_of_getElem? (i := 5) rfl)) (by decide) 1 (a := b2) [(.ref w_INF), (.int (p2 &&& (63 : Int32))), (.int (0 : Int32))] [(.ref b2)] (own_init0 l Z a0 hw [] b2 w_INF (p2 &&& (63 : Int32)) h2 n0 (Nat.le_trans Z0 K2.1) A2 F_b2_kind F_b2_set F_b2_complemented g_b2) e2 (by decide) (by decide) (by decide) (by decide) (g := (mkF m 46 #[.val (.int p1), .val (.int p2), .val (.int p3), .val (.long q4), .second, .val (.ref w_INF), .val (.int (p2 &&& (63 : Int32))), .val (.int (0 : Int32)), .unset, .unset, .unset] [(.int (0 : Int32)), (.int (p2 &&& (63 : Int32))), (.ref w_INF), (.ref b2), (.ref b2)])) rfl (by rw [hml]; rfl) own_pd1 rfl rfl (by show 2 * 0 + _ ≤ _; exact Nat.le_of_eq rfl) (hb hby at_46) ?_
  intro T3 v3 L3 X3 hQ3
  obtain ⟨rfl, N3q, Kq3, A_3, Fs_3, Fc_3⟩ := hQ3
  have N3 := Fr.app N0 N3q
  have K3 := K2.trans Kq3 (allS (Or.inr sz_b2) all0)
  show own_Goes _ _ _ _ T3 (mkF m 49 #[.val (.int p1), .val (.int p2), .val (.int p3), .val (.long q4), .second, .val (.ref w_INF), .val (.int (p2 &&& (63 : Int32))), .val (.int (0 : Int32)), .unset, .unset, .unset] [(.ref b2)])
  refine own_step (fun t k => XS.astore X3.here hx rfl (hb hby at_49) rfl rfl (l' := #[.val (.int p1), .val (.int p2), .val (.int p3), .val (.long q4), .second, .val (.ref w_INF), .val (.int (p2 &&& (63 : Int32))), .val (.int (0 : Int32)), .val (.ref b2), .unset, .unset]) rfl k) ?_
  show own_Goes _ _ _ _ T3 (mkF m 51 #[.val (.int p1), .val (.int p2), .val (.int p3), .val (.long q4), .second, .val (.ref w_INF), .val (.int (p2 &&& (63 : Int32))), .val (.int (0 : Int32)), .val (.ref b2), .unset, .unset] [])
  refine own_step (fun t k => XS.lloadN X3.here hx rfl (hb hby at_51) rfl k) ?_
  show own_Goes _ _ _ _ T3 (mkF m 52 #[.val (.int p1), .val (.int p2), .val (.int p3), .val (.long q4), .second, .val (.ref w_INF), .val (.int (p2 &&& (63 : Int32))), .val (.int (0 : Int32)), .val (.ref b2), .unset, .unset] [(.long q4)])
  refine own_step (fun t k => XS.iload X3.here hx rfl (hb hby at_52) rfl k) ?_
  show own_Goes _ _ _ _ T3 (mkF m 54 #[.val (.int p1), .val (.int p2), .val (.int p3), .val (.long q4), .second, .val (.ref w_INF), .val (.int (p2 &&& (63 : Int32))), .val (.int (0 : Int32)), .val (.ref b2), .unset, .unset] [(.int (p2 &&& (63 : Int32))), (.long q4)])
  refine own_step (fun t k => XS.lushr X3.here hx rfl (hb hby at_54) rfl k) ?_
  show own_Goes _ _ _ _ T3 (mkF m 55 #[.val (.int p1), .val (.int p2), .val (.int p3), .val (.long q4), .second, .val (.ref w_INF), .val (.int (p2 &&& (63 : Int32))), .val (.int (0 : Int32)), .val (.ref b2), .unset, .unset] [(.long ((q4.toUInt64 >>> ((p2 &&& (63 : Int32)) &&& 0x3f).toInt64.toUInt64).toInt64))])
  refine own_step (fun t k => XS.lconst X3.here hx rfl (hb hby at_55) k) ?_
  show own_Goes _ _ _ _ T3 (mkF m 56 #[.val (.int p1), .val (.int p2), .val (.int p3), .val (.long q4), .second, .val (.ref w_INF), .val (.int (p2 &&& (63 : Int32))), .val (.int (0 : Int32)), .val (.ref b2), .unset, .unset] [(.long (1 : Int64)), (.long ((q4.toUInt64 >>> ((p2 &&& (63 : Int32)) &&& 0x3f).toInt64.toUInt64).toInt64))])
  refine own_step (fun t k => XS.land X3.here hx rfl (hb hby at_56) rfl k) ?_
  show own_Goes _ _ _ _ T3 (mkF m 57 #[.val (.int p1), .val (.int p2), .val (.int p3), .val (.long q4), .second, .val (.ref w_INF), .val (.int (p2 &&& (63 : Int32))), .val (.int (0 : Int32)), .val (.ref b2), .unset, .unset] [(.long (((q4.toUInt64 >>> ((p2 &&& (63 : Int32)) &&& 0x3f).toInt64.toUInt64).toInt64) &&& (1 : Int64)))])
  refine own_step (fun t k => XS.lconst X3.here hx rfl (hb hby at_57) k) ?_
  show own_Goes _ _ _ _ T3 (mkF m 58 #[.val (.int p1), .val (.int p2), .val (.int p3), .val (.long q4), .second, .val (.ref w_INF), .val (.int (p2 &&& (63 : Int32))), .val (.int (0 : Int32)), .val (.ref b2), .unset, .unset] [(.long (1 : Int64)), (.long (((q4.toUInt64 >>> ((p2 &&& (63 : Int32)) &&& 0x3f).toInt64.toUInt64).toInt64) &&& (1 : Int64)))])
  refine own_step (fun t k => XS.lcmp X3.here hx rfl (hb hby at_58) rfl k) ?_
  show own_Goes _ _ _ _ T3 (mkF m 59 #[.val (.int p1), .val (.int p2), .val (.int p3), .val (.long q4), .second, .val (.ref w_INF), .val (.int (p2 &&& (63 : Int32))), .val (.int (0 : Int32)), .val (.ref b2), .unset, .unset] [(.int (lcmpW (((q4.toUInt64 >>> ((p2 &&& (63 : Int32)) &&& 0x3f).toInt64.toUInt64).toInt64) &&& (1 : Int64)) (1 : Int64)))])
  refine own_step (fun t k => XS.ifYes X3.here hx rfl (pc0 := 59) (pc' := 66) rfl (hb hby at_59) rfl ((if0 _ _).trans (feq (show ¬ ((lcmpW (((q4.toUInt64 >>> ((p2 &&& (63 : Int32)) &&& 0x3f).toInt64.toUInt64).toInt64) &&& (1 : Int64)) (1 : Int64)) = (0 : Int32)) from hx1)).2) (by decide) (by decide) k) ?_
  show own_Goes _ _ _ _ T3 (mkF m 66 #[.val (.int p1), .val (.int p2), .val (.int p3), .val (.long q4), .second, .val (.ref w_INF), .val (.int (p2 &&& (63 : Int32))), .val (.int (0 : Int32)), .val (.ref b2), .unset, .unset] [])
  refine own_step (fun t k => XS.iconst X3.here hx rfl (hb hby at_66) k) ?_
  show own_Goes _ _ _ _ T3 (mkF m 67 #[.val (.int p1), .val (.int p2), .val (.int p3), .val (.long q4), .second, .val (.ref w_INF), .val (.int (p2 &&& (63 : Int32))), .val (.int (0 : Int32)), .val (.ref b2), .unset, .unset] [(.int (0 : Int32))])
  refine own_step (fun t k => XS.istore X3.here hx rfl (hb hby at_67) rfl (l' := #[.val (.int p1), .val (.int p2), .val (.int p3), .val (.long q4), .second, .val (.ref w_INF), .val (.int (p2 &&& (63 : Int32))), .val (.int (0 : Int32)), .val (.ref b2), .val (.int (0 : Int32)), .unset]) rfl k) ?_
  show own_Goes _ _ _ _ T3 (mkF m 69 #[.val (.int p1), .val (.int p2), .val (.int p3), .val (.long q4), .second, .val (.ref w_INF), .val (.int (p2 &&& (63 : Int32))), .val (.int (0 : Int32)), .val (.ref b2), .val (.int (0 : Int32)), .unset] [])
  refine own_step (fun t k => XS.iload X3.here hx rfl (hb hby at_69) rfl k) ?_
  show own_Goes _ _ _ _ T3 (mkF m 71 #[.val (.int p1), .val (.int p2), .val (.int p3), .val (.long q4), .second, .val (.ref w_INF), .val (.int (p2 &&& (63 : Int32))), .val (.int (0 : Int32)), .val (.ref b2), .val (.int (0 : Int32)), .unset] [(.int (0 : Int32))])
  refine own_step (fun t k => XS.ifYes X3.here hx rfl (pc0 := 71) (pc' := 87) rfl (hb hby at_71) rfl ((if0 _ _).trans (teq (show (0 : Int32) = (0 : Int32) from (by decide))).1) (by decide) (by decide) k) ?_
  show own_Goes _ _ _ _ T3 (mkF m 87 #[.val (.int p1), .val (.int p2), .val (.int p3), .val (.long q4), .second, .val (.ref w_INF), .val (.int (p2 &&& (63 : Int32))), .val (.int (0 : Int32)), .val (.ref b2), .val (.int (0 : Int32)), .unset] [])
  refine own_step (fun t k => XS.iload X3.here hx rfl (hb hby at_87) rfl k) ?_
  show own_Goes _ _ _ _ T3 (mkF m 89 #[.val (.int p1), .val (.int p2), .val (.int p3), .val (.long q4), .second, .val (.ref w_INF), .val (.int (p2 &&& (63 : Int32))), .val (.int (0 : Int32)), .val (.ref b2), .val (.int (0 : Int32)), .unset] [(.int (0 : Int32))])
  refine own_step (fun t k => XS.istore X3.here hx rfl (hb hby at_89) rfl (l' := #[.val (.int p1), .val (.int p2), .val (.int p3), .val (.long q4), .second, .val (.ref w_INF), .val (.int (p2 &&& (63 : Int32))), .val (.int (0 : Int32)), .val (.ref b2), .val (.int (0 : Int32)), .val (.int (0 : Int32))]) rfl k) ?_
  show own_Goes _ _ _ _ T3 (mkF m 91 #[.val (.int p1), .val (.int p2), .val (.int p3), .val (.long q4), .second, .val (.ref w_INF), .val (.int (p2 &&& (63 : Int32))), .val (.int (0 : Int32)), .val (.ref b2), .val (.int (0 : Int32)), .val (.int (0 : Int32))] [])
  refine own_step (fun t k => XS.aload X3.here hx rfl (hb hby at_91) rfl rfl k) ?_
  show own_Goes _ _ _ _ T3 (mkF m 93 #[.val (.int p1), .val (.int p2), .val (.int p3), .val (.long q4), .second, .val (.ref w_INF), .val (.int (p2 &&& (63 : Int32))), .val (.int (0 : Int32)), .val (.ref b2), .val (.int (0 : Int32)), .val (.int (0 : Int32))] [(.ref b2)])
  refine own_step (fun t k => XS.lloadN X3.here hx rfl (hb hby at_93) rfl k) ?_
  show own_Goes _ _ _ _ T3 (mkF m 94 #[.val (.int p1), .val (.int p2), .val (.int p3), .val (.long q4), .second, .val (.ref w_INF), .val (.int (p2 &&& (63 : Int32))), .val (.int (0 : Int32)), .val (.ref b2), .val (.int (0 : Int32)), .val (.int (0 : Int32))] [(.long q4), (.ref b2)])
  refine own_callV X3 hx hZ (y := (⟨"com/example/weaverbird/weaverbird/automaton/Acceptance$Atom", "counts", "(J)Z"⟩ : MethodName)) (z := (⟨"com/example/weaverbird/weaverbird/automaton/Acceptance$Atom", "counts", "(J)Z"⟩ : MethodName)) hown (hw _ (List.mem_of_getElem? (i := 23) rfl)) (hw _ (List.mem_of_getElem? (i := 24) rfl)) (notFace_of_selects (args := #[]) (mvT hZ (hw _ (List.mem_of_getElem? (i := 26) rfl)))) (hw _ (List.mem_of_getElem? (i := 26) rfl)) (hw _ (List.mem_of_getElem? (i := 25) rfl)) (hw _ (List.mem_of_getElem? (i := 27) rfl)) (hw _ (List.mem_of_getElem? (i := 5) rfl)) (by decide) 0 A_3 [(.long q4)] [] (own_cnt00 l Z a0 hw [] b2 q4 (p2 &&& (63 : Int32)) T3.heap n0 (Nat.le_trans Z0 K3.1) Fs_3 Fc_3 hy1) rfl (by decide) (by decide) (by decide) (by decide) (g := (mkF m 94 #[.val (.int p1), .val (.int p2), .val (.int p3), .val (.long q4), .second, .val (.ref w_INF), .val (.int (p2 &&& (63 : Int32))), .val (.int (0 : Int32)), .val (.ref b2), .val (.int (0 : Int32)), .val (.int (0 : Int32))] [(.long q4), (.ref b2)])) rfl (by rw [hml]; rfl) own_pd2 rfl rfl (by show 2 * 0 + _ ≤ _; exact Nat.le_of_eq rfl) (hb hby at_94) ?_
  intro T4 v4 L4 X4 hQ4
  obtain ⟨rfl, N4q, e4⟩ := hQ4
  have N4 := Fr.app N3 N4q
  show own_Goes _ _ _ _ T4 (mkF m 97 #[.val (.int p1), .val (.int p2), .val (.int p3), .val (.long q4), .second, .val (.ref w_INF), .val (.int (p2 &&& (63 : Int32))), .val (.int (0 : Int32)), .val (.ref b2), .val (.int (0 : Int32)), .val (.int (0 : Int32))] [(.int (0 : Int32))])
  refine own_step (fun t k => XS.iload X4.here hx rfl (hb hby at_97) rfl k) ?_
  show own_Goes _ _ _ _ T4 (mkF m 99 #[.val (.int p1), .val (.int p2), .val (.int p3), .val (.long q4), .second, .val (.ref w_INF), .val (.int (p2 &&& (63 : Int32))), .val (.int (0 : Int32)), .val (.ref b2), .val (.int (0 : Int32)), .val (.int (0 : Int32))] [(.int (0 : Int32)), (.int (0 : Int32))])
  refine own_step (fun t k => XS.icmpNo X4.here hx rfl (hb hby at_99) rfl (teq (show (0 : Int32) = (0 : Int32) from (by decide))).2 k) ?_
  show own_Goes _ _ _ _ T4 (mkF m 102 #[.val (.int p1), .val (.int p2), .val (.int p3), .val (.long q4), .second, .val (.ref w_INF), .val (.int (p2 &&& (63 : Int32))), .val (.int (0 : Int32)), .val (.ref b2), .val (.int (0 : Int32)), .val (.int (0 : Int32))] [])
  refine own_step (fun t k => XS.iconst X4.here hx rfl (hb hby at_102) k) ?_
  show own_Goes _ _ _ _ T4 (mkF m 103 #[.val (.int p1), .val (.int p2), .val (.int p3), .val (.long q4), .second, .val (.ref w_INF), .val (.int (p2 &&& (63 : Int32))), .val (.int (0 : Int32)), .val (.ref b2), .val (.int (0 : Int32)), .val (.int (0 : Int32))] [(.int (1 : Int32))])
  refine own_step (fun t k => XS.goto X4.here hx rfl (pc0 := 103) (pc' := 107) rfl (hb hby at_103) (by decide) (by decide) k) ?_
  show own_Goes _ _ _ _ T4 (mkF m 107 #[.val (.int p1), .val (.int p2), .val (.int p3), .val (.long q4), .second, .val (.ref w_INF), .val (.int (p2 &&& (63 : Int32))), .val (.int (0 : Int32)), .val (.ref b2), .val (.int (0 : Int32)), .val (.int (0 : Int32))] [(.int (1 : Int32))])
  exact own_retN X4 hx hlk (t := .boolean) hrt (by simp) (hb hby at_107) ⟨rfl, N4⟩ (by decide) (by decide)
set_option maxRecDepth 65536 in
set_option maxHeartbeats 40000000 in
theorem own_law101 (l : Launch) (Z : State) (a0 : Array Value) (hw : ∀ d ∈ tables_1, d.before a0 Z = true) (ws : List Jvm.Cond) (p1 : Int32) (p2 : Int32) (p3 : Int32) (q4 : Int64) (w_INF : Addr) (h0 : Heap) (n0 : Nat) (Z0 : n0 ≤ h0.size) (S_INF : Sta Z h0 "com/example/weaverbird/weaverbird/automaton/Acceptance$Kind" "INF" "Lcom/example/weaverbird/weaverbird/automaton/Acceptance$Kind;" (.ref w_INF)) (hk : ¬ ((p1 &&& (1 : Int32)) = (0 : Int32))) (hcc : (p3 &&& (1 : Int32)) = (0 : Int32)) (hx1 : (lcmpW (((q4.toUInt64 >>> ((p2 &&& (63 : Int32)) &&& 0x3f).toInt64.toUInt64).toInt64) &&& (1 : Int64)) (1 : Int64)) = (0 : Int32)) (hy1 : ¬ ((lcmpW (q4 &&& ((1 : Int64) <<< ((p2 &&& (63 : Int32)) &&& 0x3f).toInt64)) (0 : Int64)) = (0 : Int32))) :
    own_Met l Z x code maxLocals ret ws room_1 #[(.int p1), (.int p2), (.int p3), (.long q4)] h0 (fun v h L => v = some (.int 1) ∧ Fr n0 L) := by
  refine own_body (plainFor_of_name own_pn_com_example_weaverbird_weaverbird_automaton_AtomCountsPinLaw) (fun p e s m below meth c s₁ hx hby hml0 hrt hlk hown0 hnm hZ X0 e0 => ?_)
  have N0 := Fr.nil n0
  have hown : s.vm.findClass "com/example/weaverbird/weaverbird/automaton/AtomCountsPinLaw" = some m.cls := hown0
  have hml : c.maxLocals = 11 := hml0
  refine own_castG (own_ef3 m p1 p2 p3 q4) ?_
  show own_Goes _ _ _ _ s₁ (mkF m 0 #[.val (.int p1), .val (.int p2), .val (.int p3), .val (.long q4), .second, .unset, .unset, .unset, .unset, .unset, .unset] [])
  refine own_step (fun t k => XS.iloadN X0.here hx rfl (hb hby at_0) rfl k) ?_
  show own_Goes _ _ _ _ s₁ (mkF m 1 #[.val (.int p1), .val (.int p2), .val (.int p3), .val (.long q4), .second, .unset, .unset, .unset, .unset, .unset, .unset] [(.int p1)])
  refine own_step (fun t k => XS.iconst X0.here hx rfl (hb hby at_1) k) ?_
  show own_Goes _ _ _ _ s₁ (mkF m 2 #[.val (.int p1), .val (.int p2), .val (.int p3), .val (.long q4), .second, .unset, .unset, .unset, .unset, .unset, .unset] [(.int (1 : Int32)), (.int p1)])
  refine own_step (fun t k => XS.iand X0.here hx rfl (hb hby at_2) rfl k) ?_
  show own_Goes _ _ _ _ s₁ (mkF m 3 #[.val (.int p1), .val (.int p2), .val (.int p3), .val (.long q4), .second, .unset, .unset, .unset, .unset, .unset, .unset] [(.int (p1 &&& (1 : Int32)))])
  refine own_step (fun t k => XS.ifYes X0.here hx rfl (pc0 := 3) (pc' := 12) rfl (hb hby at_3) rfl ((if0 _ _).trans (feq (show ¬ ((p1 &&& (1 : Int32)) = (0 : Int32)) from hk)).2) (by decide) (by decide) k) ?_
  show own_Goes _ _ _ _ s₁ (mkF m 12 #[.val (.int p1), .val (.int p2), .val (.int p3), .val (.long q4), .second, .unset, .unset, .unset, .unset, .unset, .unset] [])
  obtain ⟨T1, X1, e1, st1⟩ := getS2 X0 hx hZ hown (host := "") (Or.inl (hw _ (List.mem_of_getElem? (i := 28) rfl))) Via.refl e0 S_INF (g := (mkF m 12 #[.val (.int p1), .val (.int p2), .val (.int p3), .val (.long q4), .second, .unset, .unset, .unset, .unset, .unset, .unset] [])) rfl (hb hby at_12)
  refine own_step st1 ?_
  show own_Goes _ _ _ _ T1 (mkF m 15 #[.val (.int p1), .val (.int p2), .val (.int p3), .val (.long q4), .second, .unset, .unset, .unset, .unset, .unset, .unset] [(.ref w_INF)])
  refine own_step (fun t k => XS.astore X1.here hx rfl (hb hby at_15) rfl rfl (l' := #[.val (.int p1), .val (.int p2), .val (.int p3), .val (.long q4), .second, .val (.ref w_INF), .unset, .unset, .unset, .unset, .unset]) rfl k) ?_
  show own_Goes _ _ _ _ T1 (mkF m 17 #[.val (.int p1), .val (.int p2), .val (.int p3), .val (.long q4), .second, .val (.ref w_INF), .unset, .unset, .unset, .unset, .unset] [])
  refine own_step (fun t k => XS.iloadN X1.here hx rfl (hb hby at_17) rfl k) ?_
  show own_Goes _ _ _ _ T1 (mkF m 18 #[.val (.int p1), .val (.int p2), .val (.int p3), .val (.long q4), .second, .val (.ref w_INF), .unset, .unset, .unset, .unset, .unset] [(.int p2)])
  refine own_step (fun t k => XS.bipush X1.here hx rfl (hb hby at_18) k) ?_
  show own_Goes _ _ _ _ T1 (mkF m 20 #[.val (.int p1), .val (.int p2), .val (.int p3), .val (.long q4), .second, .val (.ref w_INF), .unset, .unset, .unset, .unset, .unset] [(.int (63 : Int32)), (.int p2)])
  refine own_step (fun t k => XS.iand X1.here hx rfl (hb hby at_20) rfl k) ?_
  show own_Goes _ _ _ _ T1 (mkF m 21 #[.val (.int p1), .val (.int p2), .val (.int p3), .val (.long q4), .second, .val (.ref w_INF), .unset, .unset, .unset, .unset, .unset] [(.int (p2 &&& (63 : Int32)))])
  refine own_step (fun t k => XS.istore X1.here hx rfl (hb hby at_21) rfl (l' := #[.val (.int p1), .val (.int p2), .val (.int p3), .val (.long q4), .second, .val (.ref w_INF), .val (.int (p2 &&& (63 : Int32))), .unset, .unset, .unset, .unset]) rfl k) ?_
  show own_Goes _ _ _ _ T1 (mkF m 23 #[.val (.int p1), .val (.int p2), .val (.int p3), .val (.long q4), .second, .val (.ref w_INF), .val (.int (p2 &&& (63 : Int32))), .unset, .unset, .unset, .unset] [])
  refine own_step (fun t k => XS.iloadN X1.here hx rfl (hb hby at_23) rfl k) ?_
  show own_Goes _ _ _ _ T1 (mkF m 24 #[.val (.int p1), .val (.int p2), .val (.int p3), .val (.long q4), .second, .val (.ref w_INF), .val (.int (p2 &&& (63 : Int32))), .unset, .unset, .unset, .unset] [(.int p3)])
  refine own_step (fun t k => XS.iconst X1.here hx rfl (hb hby at_24) k) ?_
  show own_Goes _ _ _ _ T1 (mkF m 25 #[.val (.int p1), .val (.int p2), .val (.int p3), .val (.long q4), .second, .val (.ref w_INF), .val (.int (p2 &&& (63 : Int32))), .unset, .unset, .unset, .unset] [(.int (1 : Int32)), (.int p3)])
  refine own_step (fun t k => XS.iand X1.here hx rfl (hb hby at_25) rfl k) ?_
  show own_Goes _ _ _ _ T1 (mkF m 26 #[.val (.int p1), .val (.int p2), .val (.int p3), .val (.long q4), .second, .val (.ref w_INF), .val (.int (p2 &&& (63 : Int32))), .unset, .unset, .unset, .unset] [(.int (p3 &&& (1 : Int32)))])
  refine own_step (fun t k => XS.ifYes X1.here hx rfl (pc0 := 26) (pc' := 33) rfl (hb hby at_26) rfl ((if0 _ _).trans (teq (show (p3 &&& (1 : Int32)) = (0 : Int32) from hcc)).1) (by decide) (by decide) k) ?_
  show own_Goes _ _ _ _ T1 (mkF m 33 #[.val (.int p1), .val (.int p2), .val (.int p3), .val (.long q4), .second, .val (.ref w_INF), .val (.int (p2 &&& (63 : Int32))), .unset, .unset, .unset, .unset] [])
  refine own_step (fun t k => XS.iconst X1.here hx rfl (hb hby at_33) k) ?_
  show own_Goes _ _ _ _ T1 (mkF m 34 #[.val (.int p1), .val (.int p2), .val (.int p3), .val (.long q4), .second, .val (.ref w_INF), .val (.int (p2 &&& (63 : Int32))), .unset, .unset, .unset, .unset] [(.int (0 : Int32))])
  refine own_step (fun t k => XS.istore X1.here hx rfl (hb hby at_34) rfl (l' := #[.val (.int p1), .val (.int p2), .val (.int p3), .val (.long q4), .second, .val (.ref w_INF), .val (.int (p2 &&& (63 : Int32))), .val (.int (0 : Int32)), .unset, .unset, .unset]) rfl k) ?_
  show own_Goes _ _ _ _ T1 (mkF m 36 #[.val (.int p1), .val (.int p2), .val (.int p3), .val (.long q4), .second, .val (.ref w_INF), .val (.int (p2 &&& (63 : Int32))), .val (.int (0 : Int32)), .unset, .unset, .unset] [])
  obtain ⟨T2, h2, X2, e2, E2, A2, D2, -, st2⟩ := newO X1 hx hZ hown (hw _ (List.mem_of_getElem? (i := 3) rfl)) (hw _ (List.mem_of_getElem? (i := 4) rfl)) (hw _ (List.mem_of_getElem? (i := 5) rfl)) e1 (g := (mkF m 36 #[.val (.int p1), .val (.int p2), .val (.int p3), .val (.long q4), .second, .val (.ref w_INF), .val (.int (p2 &&& (63 : Int32))), .val (.int (0 : Int32)), .unset, .unset, .unset] [])) rfl (hb hby at_36) (by decide) (by decide)
  obtain ⟨b2, g2⟩ : ∃ z, z = h0.size := ⟨_, rfl⟩
  rw [← g2] at A2 D2 st2
  refine own_step st2 ?_
  have g_b2 : n0 ≤ b2 := Nat.le_trans Z0 (Nat.le_of_eq g2.symm)
  have sz_b2 : h0.size ≤ b2 := Nat.le_trans (Keep.refl h0 []).1 (Nat.le_of_eq g2.symm)
  have K2 := (Keep.refl h0 []).ext E2
  have F_b2_kind : Fld Z h2 b2 "com/example/weaverbird/weaverbird/automaton/Acceptance$Atom" "kind" "Lcom/example/weaverbird/weaverbird/automaton/Acceptance$Kind;" .null := D2 (Or.inr (hw _ (List.mem_of_getElem? (i := 18) rfl))) (ty := (.object "com/example/weaverbird/weaverbird/automaton/Acceptance$Kind")) (by decide)
  have F_b2_set : Fld Z h2 b2 "com/example/weaverbird/weaverbird/automaton/Acceptance$Atom" "set" "I" (.int (0 : Int32)) := D2 (Or.inr (hw _ (List.mem_of_getElem? (i := 20) rfl))) (ty := .int) (by decide)
  have F_b2_complemented : Fld Z h2 b2 "com/example/weaverbird/weaverbird/automaton/Acceptance$Atom" "complemented" "Z" (.int (0 : Int32)) := D2 (Or.inr (hw _ (List.mem_of_getElem? (i := 22) rfl))) (ty := .boolean) (by decide)
  show own_Goes _ _ _ _ T2 (mkF m 39 #[.val (.int p1), .val (.int p2), .val (.int p3), .val (.long q4), .second, .val (.ref w_INF), .val (.int (p2 &&& (63 : Int32))), .val (.int (0 : Int32)), .unset, .unset, .unset] [(.ref b2)])
  refine own_step (fun t k => XS.dup X2.here hx rfl (hb hby at_39) rfl rfl k) ?_
  show own_Goes _ _ _ _ T2 (mkF m 40 #[.val (.int p1), .val (.int p2), .val (.int p3), .val (.long q4), .second, .val (.ref w_INF), .val (.int (p2 &&& (63 : Int32))), .val (.int (0 : Int32)), .unset, .unset, .unset] [(.ref b2), (.ref b2)])
  refine own_step (fun t k => XS.aload X2.here hx rfl (hb hby at_40) rfl rfl k) ?_
  show own_Goes _ _ _ _ T2 (mkF m 42 #[.val (.int p1), .val (.int p2), .val (.int p3), .val (.long q4), .second, .val (.ref w_INF), .val (.int (p2 &&& (63 : Int32))), .val (.int (0 : Int32)), .unset, .unset, .unset] [(.ref w_INF), (.ref b2), (.ref b2)])
  refine own_step (fun t k => XS.iload X2.here hx rfl (hb hby at_42) rfl k) ?_
  show own_Goes _ _ _ _ T2 (mkF m 44 #[.val (.int p1), .val (.int p2), .val (.int p3), .val (.long q4), .second, .val (.ref w_INF), .val (.int (p2 &&& (63 : Int32))), .val (.int (0 : Int32)), .unset, .unset, .unset] [(.int (p2 &&& (63 : Int32))), (.ref w_INF), (.ref b2), (.ref b2)])
  refine own_step (fun t k => XS.iload X2.here hx rfl (hb hby at_44) rfl k) ?_
  show own_Goes _ _ _ _ T2 (mkF m 46 #[.val (.int p1), .val (.int p2), .val (.int p3), .val (.long q4), .second, .val (.ref w_INF), .val (.int (p2 &&& (63 : Int32))), .val (.int (0 : Int32)), .unset, .unset, .unset] [(.int (0 : Int32)), (.int (p2 &&& (63 : Int32))), (.ref w_INF), (.ref b2), (.ref b2)])
  refine own_callC X2 hx hZ (y := (⟨"com/example/weaverbird/weaverbird/automaton/Acceptance$Atom", "<init>", "(Lcom/example/weaverbird/weaverbird/automaton/Acceptance$Kind;IZ)V"⟩ : MethodName)) rfl hown (hw _ (List.mem_of_getElem? (i := 6) rfl)) (hw _ (List.mem_of_getElem? (i := 7) rfl)) (hw _ (List.mem_of_getElem? (i := 8) rfl)) (hw _ (List.mem_of_getElem? (i := 5) rfl)) (by decide) 1 (a := b2) [(.ref w_INF), (.int (p2 &&& (63 : Int32))), (.int (0 : Int32))] [(.ref b2)] (own_init0 l Z a0 hw [] b2 w_INF (p2 &&& (63 : Int32)) h2 n0 (Nat.le_trans Z0 K2.1) A2 F_b2_kind F_b2_set F_b2_complemented g_b2) e2 (by decide) (by decide) (by decide) (by decide) (g := (mkF m 46 #[.val (.int p1), .val (.int p2), .val (.int p3), .val (.long q4), .second, .val (.ref w_INF), .val (.int (p2 &&& (63 : Int32))), .val (.int (0 : Int32)), .unset, .unset, .unset] [(.int (0 : Int32)), (.int (p2 &&& (63 : Int32))), (.ref w_INF), (.ref b2), (.ref b2)])) rfl (by rw [hml]; rfl) own_pd1 rfl rfl (by show 2 * 0 + _ ≤ _; exact Nat.le_of_eq rfl) (hb hby at_46) ?_
  intro T3 v3 L3 X3 hQ3
  obtain ⟨rfl, N3q, Kq3, A_3, Fs_3, Fc_3⟩ := hQ3
  have N3 := Fr.app N0 N3q
  have K3 := K2.trans Kq3 (allS (Or.inr sz_b2) all0)
  show own_Goes _ _ _ _ T3 (mkF m 49 #[.val (.int p1), .val (.int p2), .val (.int p3), .val (.long q4), .second, .val (.ref w_INF), .val (.int (p2 &&& (63 : Int32))), .val (.int (0 : Int32)), .unset, .unset, .unset] [(.ref b2)])
  refine own_step (fun t k => XS.astore X3.here hx rfl (hb hby at_49) rfl rfl (l' := #[.val (.int p1), .val (.int p2), .val (.int p3), .val (.long q4), .second, .val (.ref w_INF), .val (.int (p2 &&& (63 : Int32))), .val (.int (0 : Int32)), .val (.ref b2), .unset, .unset]) rfl k) ?_
  show own_Goes _ _ _ _ T3 (mkF m 51 #[.val (.int p1), .val (.int p2), .val (.int p3), .val (.long q4), .second, .val (.ref w_INF), .val (.int (p2 &&& (63 : Int32))), .val (.int (0 : Int32)), .val (.ref b2), .unset, .unset] [])
  refine own_step (fun t k => XS.lloadN X3.here hx rfl (hb hby at_51) rfl k) ?_
  show own_Goes _ _ _ _ T3 (mkF m 52 #[.val (.int p1), .val (.int p2), .val (.int p3), .val (.long q4), .second, .val (.ref w_INF), .val (.int (p2 &&& (63 : Int32))), .val (.int (0 : Int32)), .val (.ref b2), .unset, .unset] [(.long q4)])
  refine own_step (fun t k => XS.iload X3.here hx rfl (hb hby at_52) rfl k) ?_
  show own_Goes _ _ _ _ T3 (mkF m 54 #[.val (.int p1), .val (.int p2), .val (.int p3), .val (.long q4), .second, .val (.ref w_INF), .val (.int (p2 &&& (63 : Int32))), .val (.int (0 : Int32)), .val (.ref b2), .unset, .unset] [(.int (p2 &&& (63 : Int32))), (.long q4)])
  refine own_step (fun t k => XS.lushr X3.here hx rfl (hb hby at_54) rfl k) ?_
  show own_Goes _ _ _ _ T3 (mkF m 55 #[.val (.int p1), .val (.int p2), .val (.int p3), .val (.long q4), .second, .val (.ref w_INF), .val (.int (p2 &&& (63 : Int32))), .val (.int (0 : Int32)), .val (.ref b2), .unset, .unset] [(.long ((q4.toUInt64 >>> ((p2 &&& (63 : Int32)) &&& 0x3f).toInt64.toUInt64).toInt64))])
  refine own_step (fun t k => XS.lconst X3.here hx rfl (hb hby at_55) k) ?_
  show own_Goes _ _ _ _ T3 (mkF m 56 #[.val (.int p1), .val (.int p2), .val (.int p3), .val (.long q4), .second, .val (.ref w_INF), .val (.int (p2 &&& (63 : Int32))), .val (.int (0 : Int32)), .val (.ref b2), .unset, .unset] [(.long (1 : Int64)), (.long ((q4.toUInt64 >>> ((p2 &&& (63 : Int32)) &&& 0x3f).toInt64.toUInt64).toInt64))])
  refine own_step (fun t k => XS.land X3.here hx rfl (hb hby at_56) rfl k) ?_
  show own_Goes _ _ _ _ T3 (mkF m 57 #[.val (.int p1), .val (.int p2), .val (.int p3), .val (.long q4), .second, .val (.ref w_INF), .val (.int (p2 &&& (63 : Int32))), .val (.int (0 : Int32)), .val (.ref b2), .unset, .unset] [(.long (((q4.toUInt64 >>> ((p2 &&& (63 : Int32)) &&& 0x3f).toInt64.toUInt64).toInt64) &&& (1 : Int64)))])
  refine own_step (fun t k => XS.lconst X3.here hx rfl (hb hby at_57) k) ?_
  show own_Goes _ _ _ _ T3 (mkF m 58 #[.val (.int p1), .val (.int p2), .val (.int p3), .val (.long q4), .second, .val (.ref w_INF), .val (.int (p2 &&& (63 : Int32))), .val (.int (0 : Int32)), .val (.ref b2), .unset, .unset] [(.long (1 : Int64)), (.long (((q4.toUInt64 >>> ((p2 &&& (63 : Int32)) &&& 0x3f).toInt64.toUInt64).toInt64) &&& (1 : Int64)))])
  refine own_step (fun t k => XS.lcmp X3.here hx rfl (hb hby at_58) rfl k) ?_
  show own_Goes _ _ _ _ T3 (mkF m 59 #[.val (.int p1), .val (.int p2), .val (.int p3), .val (.long q4), .second, .val (.ref w_INF), .val (.int (p2 &&& (63 : Int32))), .val (.int (0 : Int32)), .val (.ref b2), .unset, .unset] [(.int (lcmpW (((q4.toUInt64 >>> ((p2 &&& (63 : Int32)) &&& 0x3f).toInt64.toUInt64).toInt64) &&& (1 : Int64)) (1 : Int64)))])
  refine own_step (fun t k => XS.ifNo X3.here hx rfl (hb hby at_59) rfl ((if0 _ _).trans (teq (show (lcmpW (((q4.toUInt64 >>> ((p2 &&& (63 : Int32)) &&& 0x3f).toInt64.toUInt64).toInt64) &&& (1 : Int64)) (1 : Int64)) = (0 : Int32) from hx1)).2) k) ?_
  show own_Goes _ _ _ _ T3 (mkF m 62 #[.val (.int p1), .val (.int p2), .val (.int p3), .val (.long q4), .second, .val (.ref w_INF), .val (.int (p2 &&& (63 : Int32))), .val (.int (0 : Int32)), .val (.ref b2), .unset, .unset] [])
  refine own_step (fun t k => XS.iconst X3.here hx rfl (hb hby at_62) k) ?_
  show own_Goes _ _ _ _ T3 (mkF m 63 #[.val (.int p1), .val (.int p2), .val (.int p3), .val (.long q4), .second, .val (.ref w_INF), .val (.int (p2 &&& (63 : Int32))), .val (.int (0 : Int32)), .val (.ref b2), .unset, .unset] [(.int (1 : Int32))])
  refine own_step (fun t k => XS.goto X3.here hx rfl (pc0 := 63) (pc' := 67) rfl (hb hby at_63) (by decide) (by decide) k) ?_
  show own_Goes _ _ _ _ T3 (mkF m 67 #[.val (.int p1), .val (.int p2), .val (.int p3), .val (.long q4), .second, .val (.ref w_INF), .val (.int (p2 &&& (63 : Int32))), .val (.int (0 : Int32)), .val (.ref b2), .unset, .unset] [(.int (1 : Int32))])
  refine own_step (fun t k => XS.istore X3.here hx rfl (hb hby at_67) rfl (l' := #[.val (.int p1), .val (.int p2), .val (.int p3), .val (.long q4), .second, .val (.ref w_INF), .val (.int (p2 &&& (63 : Int32))), .val (.int (0 : Int32)), .val (.ref b2), .val (.int (1 : Int32)), .unset]) rfl k) ?_
  show own_Goes _ _ _ _ T3 (mkF m 69 #[.val (.int p1), .val (.int p2), .val (.int p3), .val (.long q4), .second, .val (.ref w_INF), .val (.int (p2 &&& (63 : Int32))), .val (.int (0 : Int32)), .val (.ref b2), .val (.int (1 : Int32)), .unset] [])
  refine own_step (fun t k => XS.iload X3.here hx rfl (hb hby at_69) rfl k) ?_
  show own_Goes _ _ _ _ T3 (mkF m 71 #[.val (.int p1), .val (.int p2), .val (.int p3), .val (.long q4), .second, .val (.ref w_INF), .val (.int (p2 &&& (63 : Int32))), .val (.int (0 : Int32)), .val (.ref b2), .val (.int (1 : Int32)), .unset] [(.int (0 : Int32))])
  refine own_step (fun t k => XS.ifYes X3.here hx rfl (pc0 := 71) (pc' := 87) rfl (hb hby at_71) rfl ((if0 _ _).trans (teq (show (0 : Int32) = (0 : Int32) from (by decide))).1) (by decide) (by decide) k) ?_
  show own_Goes _ _ _ _ T3 (mkF m 87 #[.val (.int p1), .val (.int p2), .val (.int p3), .val (.long q4), .second, .val (.ref w_INF), .val (.int (p2 &&& (63 : Int32))), .val (.int (0 : Int32)), .val (.ref b2), .val (.int (1 : Int32)), .unset] [])
  refine own_step (fun t k => XS.iload X3.here hx rfl (hb hby at_87) rfl k) ?_
  show own_Goes _ _ _ _ T3 (mkF m 89 #[.val (.int p1), .val (.int p2), .val (.int p3), .val (.long q4), .second, .val (.ref w_INF), .val (.int (p2 &&& (63 : Int32))), .val (.int (0 : Int32)), .val (.ref b2), .val (.int (1 : Int32)), .unset] [(.int (1 : Int32))])
  refine own_step (fun t k => XS.istore X3.here hx rfl (hb hby at_89) rfl (l' := #[.val (.int p1), .val (.int p2), .val (.int p3), .val (.long q4), .second, .val (.ref w_INF), .val (.int (p2 &&& (63 : Int32))), .val (.int (0 : Int32)), .val (.ref b2), .val (.int (1 : Int32)), .val (.int (1 : Int32))]) rfl k) ?_
  show own_Goes _ _ _ _ T3 (mkF m 91 #[.val (.int p1), .val (.int p2), .val (.int p3), .val (.long q4), .second, .val (.ref w_INF), .val (.int (p2 &&& (63 : Int32))), .val (.int (0 : Int32)), .val (.ref b2), .val (.int (1 : Int32)), .val (.int (1 : Int32))] [])
  refine own_step (fun t k => XS.aload X3.here hx rfl (hb hby at_91) rfl rfl k) ?_
  show own_Goes _ _ _ _ T3 (mkF m 93 #[.val (.int p1), .val (.int p2), .val (.int p3), .val (.long q4), .second, .val (.ref w_INF), .val (.int (p2 &&& (63 : Int32))), .val (.int (0 : Int32)), .val (.ref b2), .val (.int (1 : Int32)), .val (.int (1 : Int32))] [(.ref b2)])
  refine own_step (fun t k => XS.lloadN X3.here hx rfl (hb hby at_93) rfl k) ?_
  show own_Goes _ _ _ _ T3 (mkF m 94 #[.val (.int p1), .val (.int p2), .val (.int p3), .val (.long q4), .second, .val (.ref w_INF), .val (.int (p2 &&& (63 : Int32))), .val (.int (0 : Int32)), .val (.ref b2), .val (.int (1 : Int32)), .val (.int (1 : Int32))] [(.long q4), (.ref b2)])
  refine own_callV X3 hx hZ (y := (⟨"com/example/weaverbird/weaverbird/automaton/Acceptance$Atom", "counts", "(J)Z"⟩ : MethodName)) (z := (⟨"com/example/weaverbird/weaverbird/automaton/Acceptance$Atom", "counts", "(J)Z"⟩ : MethodName)) hown (hw _ (List.mem_of_getElem? (i := 23) rfl)) (hw _ (List.mem_of_getElem? (i := 24) rfl)) (notFace_of_selects (args := #[]) (mvT hZ (hw _ (List.mem_of_getElem? (i := 26) rfl)))) (hw _ (List.mem_of_getElem? (i := 26) rfl)) (hw _ (List.mem_of_getElem? (i := 25) rfl)) (hw _ (List.mem_of_getElem? (i := 27) rfl)) (hw _ (List.mem_of_getElem? (i := 5) rfl)) (by decide) 0 A_3 [(.long q4)] [] (own_cnt01 l Z a0 hw [] b2 q4 (p2 &&& (63 : Int32)) T3.heap n0 (Nat.le_trans Z0 K3.1) Fs_3 Fc_3 hy1) rfl (by decide) (by decide) (by decide) (by decide) (g := (mkF m 94 #[.val (.int p1), .val (.int p2), .val (.int p3), .val (.long q4), .second, .val (.ref w_INF), .val (.int (p2 &&& (63 : Int32))), .val (.int (0 : Int32)), .val (.ref b2), .val (.int (1 : Int32)), .val (.int (1 : Int32))] [(.long q4), (.ref b2)])) rfl (by rw [hml]; rfl) own_pd2 rfl rfl (by show 2 * 0 + _ ≤ _; exact Nat.le_of_eq rfl) (hb hby at_94) ?_
  intro T4 v4 L4 X4 hQ4
  obtain ⟨rfl, N4q, e4⟩ := hQ4
  have N4 := Fr.app N3 N4q
  show own_Goes _ _ _ _ T4 (mkF m 97 #[.val (.int p1), .val (.int p2), .val (.int p3), .val (.long q4), .second, .val (.ref w_INF), .val (.int (p2 &&& (63 : Int32))), .val (.int (0 : Int32)), .val (.ref b2), .val (.int (1 : Int32)), .val (.int (1 : Int32))] [(.int (1 : Int32))])
  refine own_step (fun t k => XS.iload X4.here hx rfl (hb hby at_97) rfl k) ?_
  show own_Goes _ _ _ _ T4 (mkF m 99 #[.val (.int p1), .val (.int p2), .val (.int p3), .val (.long q4), .second, .val (.ref w_INF), .val (.int (p2 &&& (63 : Int32))), .val (.int (0 : Int32)), .val (.ref b2), .val (.int (1 : Int32)), .val (.int (1 : Int32))] [(.int (1 : Int32)), (.int (1 : Int32))])
  refine own_step (fun t k => XS.icmpNo X4.here hx rfl (hb hby at_99) rfl (teq (show (1 : Int32) = (1 : Int32) from (by decide))).2 k) ?_
  show own_Goes _ _ _ _ T4 (mkF m 102 #[.val (.int p1), .val (.int p2), .val (.int p3), .val (.long q4), .second, .val (.ref w_INF), .val (.int (p2 &&& (63 : Int32))), .val (.int (0 : Int32)), .val (.ref b2), .val (.int (1 : Int32)), .val (.int (1 : Int32))] [])
  refine own_step (fun t k => XS.iconst X4.here hx rfl (hb hby at_102) k) ?_
  show own_Goes _ _ _ _ T4 (mkF m 103 #[.val (.int p1), .val (.int p2), .val (.int p3), .val (.long q4), .second, .val (.ref w_INF), .val (.int (p2 &&& (63 : Int32))), .val (.int (0 : Int32)), .val (.ref b2), .val (.int (1 : Int32)), .val (.int (1 : Int32))] [(.int (1 : Int32))])
  refine own_step (fun t k => XS.goto X4.here hx rfl (pc0 := 103) (pc' := 107) rfl (hb hby at_103) (by decide) (by decide) k) ?_
  show own_Goes _ _ _ _ T4 (mkF m 107 #[.val (.int p1), .val (.int p2), .val (.int p3), .val (.long q4), .second, .val (.ref w_INF), .val (.int (p2 &&& (63 : Int32))), .val (.int (0 : Int32)), .val (.ref b2), .val (.int (1 : Int32)), .val (.int (1 : Int32))] [(.int (1 : Int32))])
  exact own_retN X4 hx hlk (t := .boolean) hrt (by simp) (hb hby at_107) ⟨rfl, N4⟩ (by decide) (by decide)
set_option maxRecDepth 65536 in
set_option maxHeartbeats 40000000 in
theorem own_law110 (l : Launch) (Z : State) (a0 : Array Value) (hw : ∀ d ∈ tables_1, d.before a0 Z = true) (ws : List Jvm.Cond) (p1 : Int32) (p2 : Int32) (p3 : Int32) (q4 : Int64) (w_INF : Addr) (h0 : Heap) (n0 : Nat) (Z0 : n0 ≤ h0.size) (S_INF : Sta Z h0 "com/example/weaverbird/weaverbird/automaton/Acceptance$Kind" "INF" "Lcom/example/weaverbird/weaverbird/automaton/Acceptance$Kind;" (.ref w_INF)) (hk : ¬ ((p1 &&& (1 : Int32)) = (0 : Int32))) (hcc : ¬ ((p3 &&& (1 : Int32)) = (0 : Int32))) (hx1 : ¬ ((lcmpW (((q4.toUInt64 >>> ((p2 &&& (63 : Int32)) &&& 0x3f).toInt64.toUInt64).toInt64) &&& (1 : Int64)) (1 : Int64)) = (0 : Int32))) (hy1 : (lcmpW (q4 &&& ((1 : Int64) <<< ((p2 &&& (63 : Int32)) &&& 0x3f).toInt64)) (0 : Int64)) = (0 : Int32)) :
    own_Met l Z x code maxLocals ret ws room_1 #[(.int p1), (.int p2), (.int p3), (.long q4)] h0 (fun v h L => v = some (.int 1) ∧ Fr n0 L) := by
  refine own_body (plainFor_of_name own_pn_com_example_weaverbird_weaverbird_automaton_AtomCountsPinLaw) (fun p e s m below meth c s₁ hx hby hml0 hrt hlk hown0 hnm hZ X0 e0 => ?_)
  have N0 := Fr.nil n0
  have hown : s.vm.findClass "com/example/weaverbird/weaverbird/automaton/AtomCountsPinLaw" = some m.cls := hown0
  have hml : c.maxLocals = 11 := hml0
  refine own_castG (own_ef3 m p1 p2 p3 q4) ?_
  show own_Goes _ _ _ _ s₁ (mkF m 0 #[.val (.int p1), .val (.int p2), .val (.int p3), .val (.long q4), .second, .unset, .unset, .unset, .unset, .unset, .unset] [])
  refine own_step (fun t k => XS.iloadN X0.here hx rfl (hb hby at_0) rfl k) ?_
  show own_Goes _ _ _ _ s₁ (mkF m 1 #[.val (.int p1), .val (.int p2), .val (.int p3), .val (.long q4), .second, .unset, .unset, .unset, .unset, .unset, .unset] [(.int p1)])
  refine own_step (fun t k => XS.iconst X0.here hx rfl (hb hby at_1) k) ?_
  show own_Goes _ _ _ _ s₁ (mkF m 2 #[.val (.int p1), .val (.int p2), .val (.int p3), .val (.long q4), .second, .unset, .unset, .unset, .unset, .unset, .unset] [(.int (1 : Int32)), (.int p1)])
  refine own_step (fun t k => XS.iand X0.here hx rfl (hb hby at_2) rfl k) ?_
  show own_Goes _ _ _ _ s₁ (mkF m 3 #[.val (.int p1), .val (.int p2), .val (.int p3), .val (.long q4), .second, .unset, .unset, .unset, .unset, .unset, .unset] [(.int (p1 &&& (1 : Int32)))])
  refine own_step (fun t k => XS.ifYes X0.here hx rfl (pc0 := 3) (pc' := 12) rfl (hb hby at_3) rfl ((if0 _ _).trans (feq (show ¬ ((p1 &&& (1 : Int32)) = (0 : Int32)) from hk)).2) (by decide) (by decide) k) ?_
  show own_Goes _ _ _ _ s₁ (mkF m 12 #[.val (.int p1), .val (.int p2), .val (.int p3), .val (.long q4), .second, .unset, .unset, .unset, .unset, .unset, .unset] [])
  obtain ⟨T1, X1, e1, st1⟩ := getS2 X0 hx hZ hown (host := "") (Or.inl (hw _ (List.mem_of_getElem? (i := 28) rfl))) Via.refl e0 S_INF (g := (mkF m 12 #[.val (.int p1), .val (.int p2), .val (.int p3), .val (.long q4), .second, .unset, .unset, .unset, .unset, .unset, .unset] [])) rfl (hb hby at_12)
  refine own_step st1 ?_
  show own_Goes _ _ _ _ T1 (mkF m 15 #[.val (.int p1), .val (.int p2), .val (.int p3), .val (.long q4), .second, .unset, .unset, .unset, .unset, .unset, .unset] [(.ref w_INF)])
  refine own_step (fun t k => XS.astore X1.here hx rfl (hb hby at_15) rfl rfl (l' := #[.val (.int p1), .val (.int p2), .val (.int p3), .val (.long q4), .second, .val (.ref w_INF), .unset, .unset, .unset, .unset, .unset]) rfl k) ?_
  show own_Goes _ _ _ _ T1 (mkF m 17 #[.val (.int p1), .val (.int p2), .val (.int p3), .val (.long q4), .second, .val (.ref w_INF), .unset, .unset, .unset, .unset, .unset] [])
  refine own_step (fun t k => XS.iloadN X1.here hx rfl (hb hby at_17) rfl k) ?_
  show own_Goes _ _ _ _ T1 (mkF m 18 #[.val (.int p1), .val (.int p2), .val (.int p3), .val (.long q4), .second, .val (.ref w_INF), .unset, .unset, .unset, .unset, .unset] [(.int p2)])
  refine own_step (fun t k => XS.bipush X1.here hx rfl (hb hby at_18) k) ?_
  show own_Goes _ _ _ _ T1 (mkF m 20 #[.val (.int p1), .val (.int p2), .val (.int p3), .val (.long q4), .second, .val (.ref w_INF), .unset, .unset, .unset, .unset, .unset] [(.int (63 : Int32)), (.int p2)])
  refine own_step (fun t k => XS.iand X1.here hx rfl (hb hby at_20) rfl k) ?_
  show own_Goes _ _ _ _ T1 (mkF m 21 #[.val (.int p1), .val (.int p2), .val (.int p3), .val (.long q4), .second, .val (.ref w_INF), .unset, .unset, .unset, .unset, .unset] [(.int (p2 &&& (63 : Int32)))])
  refine own_step (fun t k => XS.istore X1.here hx rfl (hb hby at_21) rfl (l' := #[.val (.int p1), .val (.int p2), .val (.int p3), .val (.long q4), .second, .val (.ref w_INF), .val (.int (p2 &&& (63 : Int32))), .unset, .unset, .unset, .unset]) rfl k) ?_
  show own_Goes _ _ _ _ T1 (mkF m 23 #[.val (.int p1), .val (.int p2), .val (.int p3), .val (.long q4), .second, .val (.ref w_INF), .val (.int (p2 &&& (63 : Int32))), .unset, .unset, .unset, .unset] [])
  refine own_step (fun t k => XS.iloadN X1.here hx rfl (hb hby at_23) rfl k) ?_
  show own_Goes _ _ _ _ T1 (mkF m 24 #[.val (.int p1), .val (.int p2), .val (.int p3), .val (.long q4), .second, .val (.ref w_INF), .val (.int (p2 &&& (63 : Int32))), .unset, .unset, .unset, .unset] [(.int p3)])
  refine own_step (fun t k => XS.iconst X1.here hx rfl (hb hby at_24) k) ?_
  show own_Goes _ _ _ _ T1 (mkF m 25 #[.val (.int p1), .val (.int p2), .val (.int p3), .val (.long q4), .second, .val (.ref w_INF), .val (.int (p2 &&& (63 : Int32))), .unset, .unset, .unset, .unset] [(.int (1 : Int32)), (.int p3)])
  refine own_step (fun t k => XS.iand X1.here hx rfl (hb hby at_25) rfl k) ?_
  show own_Goes _ _ _ _ T1 (mkF m 26 #[.val (.int p1), .val (.int p2), .val (.int p3), .val (.long q4), .second, .val (.ref w_INF), .val (.int (p2 &&& (63 : Int32))), .unset, .unset, .unset, .unset] [(.int (p3 &&& (1 : Int32)))])
  refine own_step (fun t k => XS.ifNo X1.here hx rfl (hb hby at_26) rfl ((if0 _ _).trans (feq (show ¬ ((p3 &&& (1 : Int32)) = (0 : Int32)) from hcc)).1) k) ?_
  show own_Goes _ _ _ _ T1 (mkF m 29 #[.val (.int p1), .val (.int p2), .val (.int p3), .val (.long q4), .second, .val (.ref w_INF), .val (.int (p2 &&& (63 : Int32))), .unset, .unset, .unset, .unset] [])
  refine own_step (fun t k => XS.iconst X1.here hx rfl (hb hby at_29) k) ?_
  show own_Goes _ _ _ _ T1 (mkF m 30 #[.val (.int p1), .val (.int p2), .val (.int p3), .val (.long q4), .second, .val (.ref w_INF), .val (.int (p2 &&& (63 : Int32))), .unset, .unset, .unset, .unset] [(.int (1 : Int32))])
  refine own_step (fun t k => XS.goto X1.here hx rfl (pc0 := 30) (pc' := 34) rfl (hb hby at_30) (by decide) (by decide) k) ?_
  show own_Goes _ _ _ _ T1 (mkF m 34 #[.val (.int p1), .val (.int p2), .val (.int p3), .val (.long q4), .second, .val (.ref w_INF), .val (.int (p2 &&& (63 : Int32))), .unset, .unset, .unset, .unset] [(.int (1 : Int32))])
  refine own_step (fun t k => XS.istore X1.here hx rfl (hb hby at_34) rfl (l' := #[.val (.int p1), .val (.int p2), .val (.int p3), .val (.long q4), .second, .val (.ref w_INF), .val (.int (p2 &&& (63 : Int32))), .val (.int (1 : Int32)), .unset, .unset, .unset]) rfl k) ?_
  show own_Goes _ _ _ _ T1 (mkF m 36 #[.val (.int p1), .val (.int p2), .val (.int p3), .val (.long q4), .second, .val (.ref w_INF), .val (.int (p2 &&& (63 : Int32))), .val (.int (1 : Int32)), .unset, .unset, .unset] [])
  obtain ⟨T2, h2, X2, e2, E2, A2, D2, -, st2⟩ := newO X1 hx hZ hown (hw _ (List.mem_of_getElem? (i := 3) rfl)) (hw _ (List.mem_of_getElem? (i := 4) rfl)) (hw _ (List.mem_of_getElem? (i := 5) rfl)) e1 (g := (mkF m 36 #[.val (.int p1), .val (.int p2), .val (.int p3), .val (.long q4), .second, .val (.ref w_INF), .val (.int (p2 &&& (63 : Int32))), .val (.int (1 : Int32)), .unset, .unset, .unset] [])) rfl (hb hby at_36) (by decide) (by decide)
  obtain ⟨b2, g2⟩ : ∃ z, z = h0.size := ⟨_, rfl⟩
  rw [← g2] at A2 D2 st2
  refine own_step st2 ?_
  have g_b2 : n0 ≤ b2 := Nat.le_trans Z0 (Nat.le_of_eq g2.symm)
  have sz_b2 : h0.size ≤ b2 := Nat.le_trans (Keep.refl h0 []).1 (Nat.le_of_eq g2.symm)
  have K2 := (Keep.refl h0 []).ext E2
  have F_b2_kind : Fld Z h2 b2 "com/example/weaverbird/weaverbird/automaton/Acceptance$Atom" "kind" "Lcom/example/weaverbird/weaverbird/automaton/Acceptance$Kind;" .null := D2 (Or.inr (hw _ (List.mem_of_getElem? (i := 18) rfl))) (ty := (.object "com/example/weaverbird/weaverbird/automaton/Acceptance$Kind")) (by decide)
  have F_b2_set : Fld Z h2 b2 "com/example/weaverbird/weaverbird/automaton/Acceptance$Atom" "set" "I" (.int (0 : Int32)) := D2 (Or.inr (hw _ (List.mem_of_getElem? (i := 20) rfl))) (ty := .int) (by decide)
  have F_b2_complemented : Fld Z h2 b2 "com/example/weaverbird/weaverbird/automaton/Acceptance$Atom" "complemented" "Z" (.int (0 : Int32)) := D2 (Or.inr (hw _ (List.mem_of_getElem? (i := 22) rfl))) (ty := .boolean) (by decide)
  show own_Goes _ _ _ _ T2 (mkF m 39 #[.val (.int p1), .val (.int p2), .val (.int p3), .val (.long q4), .second, .val (.ref w_INF), .val (.int (p2 &&& (63 : Int32))), .val (.int (1 : Int32)), .unset, .unset, .unset] [(.ref b2)])
  refine own_step (fun t k => XS.dup X2.here hx rfl (hb hby at_39) rfl rfl k) ?_
  show own_Goes _ _ _ _ T2 (mkF m 40 #[.val (.int p1), .val (.int p2), .val (.int p3), .val (.long q4), .second, .val (.ref w_INF), .val (.int (p2 &&& (63 : Int32))), .val (.int (1 : Int32)), .unset, .unset, .unset] [(.ref b2), (.ref b2)])
  refine own_step (fun t k => XS.aload X2.here hx rfl (hb hby at_40) rfl rfl k) ?_
  show own_Goes _ _ _ _ T2 (mkF m 42 #[.val (.int p1), .val (.int p2), .val (.int p3), .val (.long q4), .second, .val (.ref w_INF), .val (.int (p2 &&& (63 : Int32))), .val (.int (1 : Int32)), .unset, .unset, .unset] [(.ref w_INF), (.ref b2), (.ref b2)])
  refine own_step (fun t k => XS.iload X2.here hx rfl (hb hby at_42) rfl k) ?_
  show own_Goes _ _ _ _ T2 (mkF m 44 #[.val (.int p1), .val (.int p2), .val (.int p3), .val (.long q4), .second, .val (.ref w_INF), .val (.int (p2 &&& (63 : Int32))), .val (.int (1 : Int32)), .unset, .unset, .unset] [(.int (p2 &&& (63 : Int32))), (.ref w_INF), (.ref b2), (.ref b2)])
  refine own_step (fun t k => XS.iload X2.here hx rfl (hb hby at_44) rfl k) ?_
  show own_Goes _ _ _ _ T2 (mkF m 46 #[.val (.int p1), .val (.int p2), .val (.int p3), .val (.long q4), .second, .val (.ref w_INF), .val (.int (p2 &&& (63 : Int32))), .val (.int (1 : Int32)), .unset, .unset, .unset] [(.int (1 : Int32)), (.int (p2 &&& (63 : Int32))), (.ref w_INF), (.ref b2), (.ref b2)])
  refine own_callC X2 hx hZ (y := (⟨"com/example/weaverbird/weaverbird/automaton/Acceptance$Atom", "<init>", "(Lcom/example/weaverbird/weaverbird/automaton/Acceptance$Kind;IZ)V"⟩ : MethodName)) rfl hown (hw _ (List.mem_of_getElem? (i := 6) rfl)) (hw _ (List.mem_of_getElem? (i := 7) rfl)) (hw _ (List.mem_of_getElem? (i := 8) rfl)) (hw _ (List.mem_of_getElem? (i := 5) rfl)) (by decide) 1 (a := b2) [(.ref w_INF), (.int (p2 &&& (63 : Int32))), (.int (1 : Int32))] [(.ref b2)] (own_init1 l Z a0 hw [] b2 w_INF (p2 &&& (63 : Int32)) h2 n0 (Nat.le_trans Z0 K2.1) A2 F_b2_kind F_b2_set F_b2_complemented g_b2) e2 (by decide) (by decide) (by decide) (by decide) (g := (mkF m 46 #[.val (.int p1), .val (.int p2), .val (.int p3), .val (.long q4), .second, .val (.ref w_INF), .val (.int (p2 &&& (63 : Int32))), .val (.int (1 : Int32)), .unset, .unset, .unset] [(.int (1 : Int32)), (.int (p2 &&& (63 : Int32))), (.ref w_INF), (.ref b2), (.ref b2)])) rfl (by rw [hml]; rfl) own_pd1 rfl rfl (by show 2 * 0 + _ ≤ _; exact Nat.le_of_eq rfl) (hb hby at_46) ?_
  intro T3 v3 L3 X3 hQ3
  obtain ⟨rfl, N3q, Kq3, A_3, Fs_3, Fc_3⟩ := hQ3
  have N3 := Fr.app N0 N3q
  have K3 := K2.trans Kq3 (allS (Or.inr sz_b2) all0)
  show own_Goes _ _ _ _ T3 (mkF m 49 #[.val (.int p1), .val (.int p2), .val (.int p3), .val (.long q4), .second, .val (.ref w_INF), .val (.int (p2 &&& (63 : Int32))), .val (.int (1 : Int32)), .unset, .unset, .unset] [(.ref b2)])
  refine own_step (fun t k => XS.astore X3.here hx rfl (hb hby at_49) rfl rfl (l' := #[.val (.int p1), .val (.int p2), .val (.int p3), .val (.long q4), .second, .val (.ref w_INF), .val (.int (p2 &&& (63 : Int32))), .val (.int (1 : Int32)), .val (.ref b2), .unset, .unset]) rfl k) ?_
  show own_Goes _ _ _ _ T3 (mkF m 51 #[.val (.int p1), .val (.int p2), .val (.int p3), .val (.long q4), .second, .val (.ref w_INF), .val (.int (p2 &&& (63 : Int32))), .val (.int (1 : Int32)), .val (.ref b2), .unset, .unset] [])
  refine own_step (fun t k => XS.lloadN X3.here hx rfl (hb hby at_51) rfl k) ?_
  show own_Goes _ _ _ _ T3 (mkF m 52 #[.val (.int p1), .val (.int p2), .val (.int p3), .val (.long q4), .second, .val (.ref w_INF), .val (.int (p2 &&& (63 : Int32))), .val (.int (1 : Int32)), .val (.ref b2), .unset, .unset] [(.long q4)])
  refine own_step (fun t k => XS.iload X3.here hx rfl (hb hby at_52) rfl k) ?_
  show own_Goes _ _ _ _ T3 (mkF m 54 #[.val (.int p1), .val (.int p2), .val (.int p3), .val (.long q4), .second, .val (.ref w_INF), .val (.int (p2 &&& (63 : Int32))), .val (.int (1 : Int32)), .val (.ref b2), .unset, .unset] [(.int (p2 &&& (63 : Int32))), (.long q4)])
  refine own_step (fun t k => XS.lushr X3.here hx rfl (hb hby at_54) rfl k) ?_
  show own_Goes _ _ _ _ T3 (mkF m 55 #[.val (.int p1), .val (.int p2), .val (.int p3), .val (.long q4), .second, .val (.ref w_INF), .val (.int (p2 &&& (63 : Int32))), .val (.int (1 : Int32)), .val (.ref b2), .unset, .unset] [(.long ((q4.toUInt64 >>> ((p2 &&& (63 : Int32)) &&& 0x3f).toInt64.toUInt64).toInt64))])
  refine own_step (fun t k => XS.lconst X3.here hx rfl (hb hby at_55) k) ?_
  show own_Goes _ _ _ _ T3 (mkF m 56 #[.val (.int p1), .val (.int p2), .val (.int p3), .val (.long q4), .second, .val (.ref w_INF), .val (.int (p2 &&& (63 : Int32))), .val (.int (1 : Int32)), .val (.ref b2), .unset, .unset] [(.long (1 : Int64)), (.long ((q4.toUInt64 >>> ((p2 &&& (63 : Int32)) &&& 0x3f).toInt64.toUInt64).toInt64))])
  refine own_step (fun t k => XS.land X3.here hx rfl (hb hby at_56) rfl k) ?_
  show own_Goes _ _ _ _ T3 (mkF m 57 #[.val (.int p1), .val (.int p2), .val (.int p3), .val (.long q4), .second, .val (.ref w_INF), .val (.int (p2 &&& (63 : Int32))), .val (.int (1 : Int32)), .val (.ref b2), .unset, .unset] [(.long (((q4.toUInt64 >>> ((p2 &&& (63 : Int32)) &&& 0x3f).toInt64.toUInt64).toInt64) &&& (1 : Int64)))])
  refine own_step (fun t k => XS.lconst X3.here hx rfl (hb hby at_57) k) ?_
  show own_Goes _ _ _ _ T3 (mkF m 58 #[.val (.int p1), .val (.int p2), .val (.int p3), .val (.long q4), .second, .val (.ref w_INF), .val (.int (p2 &&& (63 : Int32))), .val (.int (1 : Int32)), .val (.ref b2), .unset, .unset] [(.long (1 : Int64)), (.long (((q4.toUInt64 >>> ((p2 &&& (63 : Int32)) &&& 0x3f).toInt64.toUInt64).toInt64) &&& (1 : Int64)))])
  refine own_step (fun t k => XS.lcmp X3.here hx rfl (hb hby at_58) rfl k) ?_
  show own_Goes _ _ _ _ T3 (mkF m 59 #[.val (.int p1), .val (.int p2), .val (.int p3), .val (.long q4), .second, .val (.ref w_INF), .val (.int (p2 &&& (63 : Int32))), .val (.int (1 : Int32)), .val (.ref b2), .unset, .unset] [(.int (lcmpW (((q4.toUInt64 >>> ((p2 &&& (63 : Int32)) &&& 0x3f).toInt64.toUInt64).toInt64) &&& (1 : Int64)) (1 : Int64)))])
  refine own_step (fun t k => XS.ifYes X3.here hx rfl (pc0 := 59) (pc' := 66) rfl (hb hby at_59) rfl ((if0 _ _).trans (feq (show ¬ ((lcmpW (((q4.toUInt64 >>> ((p2 &&& (63 : Int32)) &&& 0x3f).toInt64.toUInt64).toInt64) &&& (1 : Int64)) (1 : Int64)) = (0 : Int32)) from hx1)).2) (by decide) (by decide) k) ?_
  show own_Goes _ _ _ _ T3 (mkF m 66 #[.val (.int p1), .val (.int p2), .val (.int p3), .val (.long q4), .second, .val (.ref w_INF), .val (.int (p2 &&& (63 : Int32))), .val (.int (1 : Int32)), .val (.ref b2), .unset, .unset] [])
  refine own_step (fun t k => XS.iconst X3.here hx rfl (hb hby at_66) k) ?_
  show own_Goes _ _ _ _ T3 (mkF m 67 #[.val (.int p1), .val (.int p2), .val (.int p3), .val (.long q4), .second, .val (.ref w_INF), .val (.int (p2 &&& (63 : Int32))), .val (.int (1 : Int32)), .val (.ref b2), .unset, .unset] [(.int (0 : Int32))])
  refine own_step (fun t k => XS.istore X3.here hx rfl (hb hby at_67) rfl (l' := #[.val (.int p1), .val (.int p2), .val (.int p3), .val (.long q4), .second, .val (.ref w_INF), .val (.int (p2 &&& (63 : Int32))), .val (.int (1 : Int32)), .val (.ref b2), .val (.int (0 : Int32)), .unset]) rfl k) ?_
  show own_Goes _ _ _ _ T3 (mkF m 69 #[.val (.int p1), .val (.int p2), .val (.int p3), .val (.long q4), .second, .val (.ref w_INF), .val (.int (p2 &&& (63 : Int32))), .val (.int (1 : Int32)), .val (.ref b2), .val (.int (0 : Int32)), .unset] [])
  refine own_step (fun t k => XS.iload X3.here hx rfl (hb hby at_69) rfl k) ?_
  show own_Goes _ _ _ _ T3 (mkF m 71 #[.val (.int p1), .val (.int p2), .val (.int p3), .val (.long q4), .second, .val (.ref w_INF), .val (.int (p2 &&& (63 : Int32))), .val (.int (1 : Int32)), .val (.ref b2), .val (.int (0 : Int32)), .unset] [(.int (1 : Int32))])
  refine own_step (fun t k => XS.ifNo X3.here hx rfl (hb hby at_71) rfl ((if0 _ _).trans (feq (show ¬ ((1 : Int32) = (0 : Int32)) from (by decide))).1) k) ?_
  show own_Goes _ _ _ _ T3 (mkF m 74 #[.val (.int p1), .val (.int p2), .val (.int p3), .val (.long q4), .second, .val (.ref w_INF), .val (.int (p2 &&& (63 : Int32))), .val (.int (1 : Int32)), .val (.ref b2), .val (.int (0 : Int32)), .unset] [])
  refine own_step (fun t k => XS.iload X3.here hx rfl (hb hby at_74) rfl k) ?_
  show own_Goes _ _ _ _ T3 (mkF m 76 #[.val (.int p1), .val (.int p2), .val (.int p3), .val (.long q4), .second, .val (.ref w_INF), .val (.int (p2 &&& (63 : Int32))), .val (.int (1 : Int32)), .val (.ref b2), .val (.int (0 : Int32)), .unset] [(.int (0 : Int32))])
  refine own_step (fun t k => XS.ifNo X3.here hx rfl (hb hby at_76) rfl ((if0 _ _).trans (teq (show (0 : Int32) = (0 : Int32) from (by decide))).2) k) ?_
  show own_Goes _ _ _ _ T3 (mkF m 79 #[.val (.int p1), .val (.int p2), .val (.int p3), .val (.long q4), .second, .val (.ref w_INF), .val (.int (p2 &&& (63 : Int32))), .val (.int (1 : Int32)), .val (.ref b2), .val (.int (0 : Int32)), .unset] [])
  refine own_step (fun t k => XS.iconst X3.here hx rfl (hb hby at_79) k) ?_
  show own_Goes _ _ _ _ T3 (mkF m 80 #[.val (.int p1), .val (.int p2), .val (.int p3), .val (.long q4), .second, .val (.ref w_INF), .val (.int (p2 &&& (63 : Int32))), .val (.int (1 : Int32)), .val (.ref b2), .val (.int (0 : Int32)), .unset] [(.int (1 : Int32))])
  refine own_step (fun t k => XS.goto X3.here hx rfl (pc0 := 80) (pc' := 89) rfl (hb hby at_80) (by decide) (by decide) k) ?_
  show own_Goes _ _ _ _ T3 (mkF m 89 #[.val (.int p1), .val (.int p2), .val (.int p3), .val (.long q4), .second, .val (.ref w_INF), .val (.int (p2 &&& (63 : Int32))), .val (.int (1 : Int32)), .val (.ref b2), .val (.int (0 : Int32)), .unset] [(.int (1 : Int32))])
  refine own_step (fun t k => XS.istore X3.here hx rfl (hb hby at_89) rfl (l' := #[.val (.int p1), .val (.int p2), .val (.int p3), .val (.long q4), .second, .val (.ref w_INF), .val (.int (p2 &&& (63 : Int32))), .val (.int (1 : Int32)), .val (.ref b2), .val (.int (0 : Int32)), .val (.int (1 : Int32))]) rfl k) ?_
  show own_Goes _ _ _ _ T3 (mkF m 91 #[.val (.int p1), .val (.int p2), .val (.int p3), .val (.long q4), .second, .val (.ref w_INF), .val (.int (p2 &&& (63 : Int32))), .val (.int (1 : Int32)), .val (.ref b2), .val (.int (0 : Int32)), .val (.int (1 : Int32))] [])
  refine own_step (fun t k => XS.aload X3.here hx rfl (hb hby at_91) rfl rfl k) ?_
  show own_Goes _ _ _ _ T3 (mkF m 93 #[.val (.int p1), .val (.int p2), .val (.int p3), .val (.long q4), .second, .val (.ref w_INF), .val (.int (p2 &&& (63 : Int32))), .val (.int (1 : Int32)), .val (.ref b2), .val (.int (0 : Int32)), .val (.int (1 : Int32))] [(.ref b2)])
  refine own_step (fun t k => XS.lloadN X3.here hx rfl (hb hby at_93) rfl k) ?_
  show own_Goes _ _ _ _ T3 (mkF m 94 #[.val (.int p1), .val (.int p2), .val (.int p3), .val (.long q4), .second, .val (.ref w_INF), .val (.int (p2 &&& (63 : Int32))), .val (.int (1 : Int32)), .val (.ref b2), .val (.int (0 : Int32)), .val (.int (1 : Int32))] [(.long q4), (.ref b2)])
  refine own_callV X3 hx hZ (y := (⟨"com/example/weaverbird/weaverbird/automaton/Acceptance$Atom", "counts", "(J)Z"⟩ : MethodName)) (z := (⟨"com/example/weaverbird/weaverbird/automaton/Acceptance$Atom", "counts", "(J)Z"⟩ : MethodName)) hown (hw _ (List.mem_of_getElem? (i := 23) rfl)) (hw _ (List.mem_of_getElem? (i := 24) rfl)) (notFace_of_selects (args := #[]) (mvT hZ (hw _ (List.mem_of_getElem? (i := 26) rfl)))) (hw _ (List.mem_of_getElem? (i := 26) rfl)) (hw _ (List.mem_of_getElem? (i := 25) rfl)) (hw _ (List.mem_of_getElem? (i := 27) rfl)) (hw _ (List.mem_of_getElem? (i := 5) rfl)) (by decide) 0 A_3 [(.long q4)] [] (own_cnt10 l Z a0 hw [] b2 q4 (p2 &&& (63 : Int32)) T3.heap n0 (Nat.le_trans Z0 K3.1) Fs_3 Fc_3 hy1) rfl (by decide) (by decide) (by decide) (by decide) (g := (mkF m 94 #[.val (.int p1), .val (.int p2), .val (.int p3), .val (.long q4), .second, .val (.ref w_INF), .val (.int (p2 &&& (63 : Int32))), .val (.int (1 : Int32)), .val (.ref b2), .val (.int (0 : Int32)), .val (.int (1 : Int32))] [(.long q4), (.ref b2)])) rfl (by rw [hml]; rfl) own_pd2 rfl rfl (by show 2 * 0 + _ ≤ _; exact Nat.le_of_eq rfl) (hb hby at_94) ?_
  intro T4 v4 L4 X4 hQ4
  obtain ⟨rfl, N4q, e4⟩ := hQ4
  have N4 := Fr.app N3 N4q
  show own_Goes _ _ _ _ T4 (mkF m 97 #[.val (.int p1), .val (.int p2), .val (.int p3), .val (.long q4), .second, .val (.ref w_INF), .val (.int (p2 &&& (63 : Int32))), .val (.int (1 : Int32)), .val (.ref b2), .val (.int (0 : Int32)), .val (.int (1 : Int32))] [(.int (1 : Int32))])
  refine own_step (fun t k => XS.iload X4.here hx rfl (hb hby at_97) rfl k) ?_
  show own_Goes _ _ _ _ T4 (mkF m 99 #[.val (.int p1), .val (.int p2), .val (.int p3), .val (.long q4), .second, .val (.ref w_INF), .val (.int (p2 &&& (63 : Int32))), .val (.int (1 : Int32)), .val (.ref b2), .val (.int (0 : Int32)), .val (.int (1 : Int32))] [(.int (1 : Int32)), (.int (1 : Int32))])
  refine own_step (fun t k => XS.icmpNo X4.here hx rfl (hb hby at_99) rfl (teq (show (1 : Int32) = (1 : Int32) from (by decide))).2 k) ?_
  show own_Goes _ _ _ _ T4 (mkF m 102 #[.val (.int p1), .val (.int p2), .val (.int p3), .val (.long q4), .second, .val (.ref w_INF), .val (.int (p2 &&& (63 : Int32))), .val (.int (1 : Int32)), .val (.ref b2), .val (.int (0 : Int32)), .val (.int (1 : Int32))] [])
  refine own_step (fun t k => XS.iconst X4.here hx rfl (hb hby at_102) k) ?_
  show own_Goes _ _ _ _ T4 (mkF m 103 #[.val (.int p1), .val (.int p2), .val (.int p3), .val (.long q4), .second, .val (.ref w_INF), .val (.int (p2 &&& (63 : Int32))), .val (.int (1 : Int32)), .val (.ref b2), .val (.int (0 : Int32)), .val (.int (1 : Int32))] [(.int (1 : Int32))])
  refine own_step (fun t k => XS.goto X4.here hx rfl (pc0 := 103) (pc' := 107) rfl (hb hby at_103) (by decide) (by decide) k) ?_
  show own_Goes _ _ _ _ T4 (mkF m 107 #[.val (.int p1), .val (.int p2), .val (.int p3), .val (.long q4), .second, .val (.ref w_INF), .val (.int (p2 &&& (63 : Int32))), .val (.int (1 : Int32)), .val (.ref b2), .val (.int (0 : Int32)), .val (.int (1 : Int32))] [(.int (1 : Int32))])
  exact own_retN X4 hx hlk (t := .boolean) hrt (by simp) (hb hby at_107) ⟨rfl, N4⟩ (by decide) (by decide)
set_option maxRecDepth 65536 in
set_option maxHeartbeats 40000000 in
theorem own_law111 (l : Launch) (Z : State) (a0 : Array Value) (hw : ∀ d ∈ tables_1, d.before a0 Z = true) (ws : List Jvm.Cond) (p1 : Int32) (p2 : Int32) (p3 : Int32) (q4 : Int64) (w_INF : Addr) (h0 : Heap) (n0 : Nat) (Z0 : n0 ≤ h0.size) (S_INF : Sta Z h0 "com/example/weaverbird/weaverbird/automaton/Acceptance$Kind" "INF" "Lcom/example/weaverbird/weaverbird/automaton/Acceptance$Kind;" (.ref w_INF)) (hk : ¬ ((p1 &&& (1 : Int32)) = (0 : Int32))) (hcc : ¬ ((p3 &&& (1 : Int32)) = (0 : Int32))) (hx1 : (lcmpW (((q4.toUInt64 >>> ((p2 &&& (63 : Int32)) &&& 0x3f).toInt64.toUInt64).toInt64) &&& (1 : Int64)) (1 : Int64)) = (0 : Int32)) (hy1 : ¬ ((lcmpW (q4 &&& ((1 : Int64) <<< ((p2 &&& (63 : Int32)) &&& 0x3f).toInt64)) (0 : Int64)) = (0 : Int32))) :
    own_Met l Z x code maxLocals ret ws room_1 #[(.int p1), (.int p2), (.int p3), (.long q4)] h0 (fun v h L => v = some (.int 1) ∧ Fr n0 L) := by
  refine own_body (plainFor_of_name own_pn_com_example_weaverbird_weaverbird_automaton_AtomCountsPinLaw) (fun p e s m below meth c s₁ hx hby hml0 hrt hlk hown0 hnm hZ X0 e0 => ?_)
  have N0 := Fr.nil n0
  have hown : s.vm.findClass "com/example/weaverbird/weaverbird/automaton/AtomCountsPinLaw" = some m.cls := hown0
  have hml : c.maxLocals = 11 := hml0
  refine own_castG (own_ef3 m p1 p2 p3 q4) ?_
  show own_Goes _ _ _ _ s₁ (mkF m 0 #[.val (.int p1), .val (.int p2), .val (.int p3), .val (.long q4), .second, .unset, .unset, .unset, .unset, .unset, .unset] [])
  refine own_step (fun t k => XS.iloadN X0.here hx rfl (hb hby at_0) rfl k) ?_
  show own_Goes _ _ _ _ s₁ (mkF m 1 #[.val (.int p1), .val (.int p2), .val (.int p3), .val (.long q4), .second, .unset, .unset, .unset, .unset, .unset, .unset] [(.int p1)])
  refine own_step (fun t k => XS.iconst X0.here hx rfl (hb hby at_1) k) ?_
  show own_Goes _ _ _ _ s₁ (mkF m 2 #[.val (.int p1), .val (.int p2), .val (.int p3), .val (.long q4), .second, .unset, .unset, .unset, .unset, .unset, .unset] [(.int (1 : Int32)), (.int p1)])
  refine own_step (fun t k => XS.iand X0.here hx rfl (hb hby at_2) rfl k) ?_
  show own_Goes _ _ _ _ s₁ (mkF m 3 #[.val (.int p1), .val (.int p2), .val (.int p3), .val (.long q4), .second, .unset, .unset, .unset, .unset, .unset, .unset] [(.int (p1 &&& (1 : Int32)))])
  refine own_step (fun t k => XS.ifYes X0.here hx rfl (pc0 := 3) (pc' := 12) rfl (hb hby at_3) rfl ((if0 _ _).trans (feq (show ¬ ((p1 &&& (1 : Int32)) = (0 : Int32)) from hk)).2) (by decide) (by decide) k) ?_
  show own_Goes _ _ _ _ s₁ (mkF m 12 #[.val (.int p1), .val (.int p2), .val (.int p3), .val (.long q4), .second, .unset, .unset, .unset, .unset, .unset, .unset] [])
  obtain ⟨T1, X1, e1, st1⟩ := getS2 X0 hx hZ hown (host := "") (Or.inl (hw _ (List.mem_of_getElem? (i := 28) rfl))) Via.refl e0 S_INF (g := (mkF m 12 #[.val (.int p1), .val (.int p2), .val (.int p3), .val (.long q4), .second, .unset, .unset, .unset, .unset, .unset, .unset] [])) rfl (hb hby at_12)
  refine own_step st1 ?_
  show own_Goes _ _ _ _ T1 (mkF m 15 #[.val (.int p1), .val (.int p2), .val (.int p3), .val (.long q4), .second, .unset, .unset, .unset, .unset, .unset, .unset] [(.ref w_INF)])
  refine own_step (fun t k => XS.astore X1.here hx rfl (hb hby at_15) rfl rfl (l' := #[.val (.int p1), .val (.int p2), .val (.int p3), .val (.long q4), .second, .val (.ref w_INF), .unset, .unset, .unset, .unset, .unset]) rfl k) ?_
  show own_Goes _ _ _ _ T1 (mkF m 17 #[.val (.int p1), .val (.int p2), .val (.int p3), .val (.long q4), .second, .val (.ref w_INF), .unset, .unset, .unset, .unset, .unset] [])
  refine own_step (fun t k => XS.iloadN X1.here hx rfl (hb hby at_17) rfl k) ?_
  show own_Goes _ _ _ _ T1 (mkF m 18 #[.val (.int p1), .val (.int p2), .val (.int p3), .val (.long q4), .second, .val (.ref w_INF), .unset, .unset, .unset, .unset, .unset] [(.int p2)])
  refine own_step (fun t k => XS.bipush X1.here hx rfl (hb hby at_18) k) ?_
  show own_Goes _ _ _ _ T1 (mkF m 20 #[.val (.int p1), .val (.int p2), .val (.int p3), .val (.long q4), .second, .val (.ref w_INF), .unset, .unset, .unset, .unset, .unset] [(.int (63 : Int32)), (.int p2)])
  refine own_step (fun t k => XS.iand X1.here hx rfl (hb hby at_20) rfl k) ?_
  show own_Goes _ _ _ _ T1 (mkF m 21 #[.val (.int p1), .val (.int p2), .val (.int p3), .val (.long q4), .second, .val (.ref w_INF), .unset, .unset, .unset, .unset, .unset] [(.int (p2 &&& (63 : Int32)))])
  refine own_step (fun t k => XS.istore X1.here hx rfl (hb hby at_21) rfl (l' := #[.val (.int p1), .val (.int p2), .val (.int p3), .val (.long q4), .second, .val (.ref w_INF), .val (.int (p2 &&& (63 : Int32))), .unset, .unset, .unset, .unset]) rfl k) ?_
  show own_Goes _ _ _ _ T1 (mkF m 23 #[.val (.int p1), .val (.int p2), .val (.int p3), .val (.long q4), .second, .val (.ref w_INF), .val (.int (p2 &&& (63 : Int32))), .unset, .unset, .unset, .unset] [])
  refine own_step (fun t k => XS.iloadN X1.here hx rfl (hb hby at_23) rfl k) ?_
  show own_Goes _ _ _ _ T1 (mkF m 24 #[.val (.int p1), .val (.int p2), .val (.int p3), .val (.long q4), .second, .val (.ref w_INF), .val (.int (p2 &&& (63 : Int32))), .unset, .unset, .unset, .unset] [(.int p3)])
  refine own_step (fun t k => XS.iconst X1.here hx rfl (hb hby at_24) k) ?_
  show own_Goes _ _ _ _ T1 (mkF m 25 #[.val (.int p1), .val (.int p2), .val (.int p3), .val (.long q4), .second, .val (.ref w_INF), .val (.int (p2 &&& (63 : Int32))), .unset, .unset, .unset, .unset] [(.int (1 : Int32)), (.int p3)])
  refine own_step (fun t k => XS.iand X1.here hx rfl (hb hby at_25) rfl k) ?_
  show own_Goes _ _ _ _ T1 (mkF m 26 #[.val (.int p1), .val (.int p2), .val (.int p3), .val (.long q4), .second, .val (.ref w_INF), .val (.int (p2 &&& (63 : Int32))), .unset, .unset, .unset, .unset] [(.int (p3 &&& (1 : Int32)))])
  refine own_step (fun t k => XS.ifNo X1.here hx rfl (hb hby at_26) rfl ((if0 _ _).trans (feq (show ¬ ((p3 &&& (1 : Int32)) = (0 : Int32)) from hcc)).1) k) ?_
  show own_Goes _ _ _ _ T1 (mkF m 29 #[.val (.int p1), .val (.int p2), .val (.int p3), .val (.long q4), .second, .val (.ref w_INF), .val (.int (p2 &&& (63 : Int32))), .unset, .unset, .unset, .unset] [])
  refine own_step (fun t k => XS.iconst X1.here hx rfl (hb hby at_29) k) ?_
  show own_Goes _ _ _ _ T1 (mkF m 30 #[.val (.int p1), .val (.int p2), .val (.int p3), .val (.long q4), .second, .val (.ref w_INF), .val (.int (p2 &&& (63 : Int32))), .unset, .unset, .unset, .unset] [(.int (1 : Int32))])
  refine own_step (fun t k => XS.goto X1.here hx rfl (pc0 := 30) (pc' := 34) rfl (hb hby at_30) (by decide) (by decide) k) ?_
  show own_Goes _ _ _ _ T1 (mkF m 34 #[.val (.int p1), .val (.int p2), .val (.int p3), .val (.long q4), .second, .val (.ref w_INF), .val (.int (p2 &&& (63 : Int32))), .unset, .unset, .unset, .unset] [(.int (1 : Int32))])
  refine own_step (fun t k => XS.istore X1.here hx rfl (hb hby at_34) rfl (l' := #[.val (.int p1), .val (.int p2), .val (.int p3), .val (.long q4), .second, .val (.ref w_INF), .val (.int (p2 &&& (63 : Int32))), .val (.int (1 : Int32)), .unset, .unset, .unset]) rfl k) ?_
  show own_Goes _ _ _ _ T1 (mkF m 36 #[.val (.int p1), .val (.int p2), .val (.int p3), .val (.long q4), .second, .val (.ref w_INF), .val (.int (p2 &&& (63 : Int32))), .val (.int (1 : Int32)), .unset, .unset, .unset] [])
  obtain ⟨T2, h2, X2, e2, E2, A2, D2, -, st2⟩ := newO X1 hx hZ hown (hw _ (List.mem_of_getElem? (i := 3) rfl)) (hw _ (List.mem_of_getElem? (i := 4) rfl)) (hw _ (List.mem_of_getElem? (i := 5) rfl)) e1 (g := (mkF m 36 #[.val (.int p1), .val (.int p2), .val (.int p3), .val (.long q4), .second, .val (.ref w_INF), .val (.int (p2 &&& (63 : Int32))), .val (.int (1 : Int32)), .unset, .unset, .unset] [])) rfl (hb hby at_36) (by decide) (by decide)
  obtain ⟨b2, g2⟩ : ∃ z, z = h0.size := ⟨_, rfl⟩
  rw [← g2] at A2 D2 st2
  refine own_step st2 ?_
  have g_b2 : n0 ≤ b2 := Nat.le_trans Z0 (Nat.le_of_eq g2.symm)
  have sz_b2 : h0.size ≤ b2 := Nat.le_trans (Keep.refl h0 []).1 (Nat.le_of_eq g2.symm)
  have K2 := (Keep.refl h0 []).ext E2
  have F_b2_kind : Fld Z h2 b2 "com/example/weaverbird/weaverbird/automaton/Acceptance$Atom" "kind" "Lcom/example/weaverbird/weaverbird/automaton/Acceptance$Kind;" .null := D2 (Or.inr (hw _ (List.mem_of_getElem? (i := 18) rfl))) (ty := (.object "com/example/weaverbird/weaverbird/automaton/Acceptance$Kind")) (by decide)
  have F_b2_set : Fld Z h2 b2 "com/example/weaverbird/weaverbird/automaton/Acceptance$Atom" "set" "I" (.int (0 : Int32)) := D2 (Or.inr (hw _ (List.mem_of_getElem? (i := 20) rfl))) (ty := .int) (by decide)
  have F_b2_complemented : Fld Z h2 b2 "com/example/weaverbird/weaverbird/automaton/Acceptance$Atom" "complemented" "Z" (.int (0 : Int32)) := D2 (Or.inr (hw _ (List.mem_of_getElem? (i := 22) rfl))) (ty := .boolean) (by decide)
  show own_Goes _ _ _ _ T2 (mkF m 39 #[.val (.int p1), .val (.int p2), .val (.int p3), .val (.long q4), .second, .val (.ref w_INF), .val (.int (p2 &&& (63 : Int32))), .val (.int (1 : Int32)), .unset, .unset, .unset] [(.ref b2)])
  refine own_step (fun t k => XS.dup X2.here hx rfl (hb hby at_39) rfl rfl k) ?_
  show own_Goes _ _ _ _ T2 (mkF m 40 #[.val (.int p1), .val (.int p2), .val (.int p3), .val (.long q4), .second, .val (.ref w_INF), .val (.int (p2 &&& (63 : Int32))), .val (.int (1 : Int32)), .unset, .unset, .unset] [(.ref b2), (.ref b2)])
  refine own_step (fun t k => XS.aload X2.here hx rfl (hb hby at_40) rfl rfl k) ?_
  show own_Goes _ _ _ _ T2 (mkF m 42 #[.val (.int p1), .val (.int p2), .val (.int p3), .val (.long q4), .second, .val (.ref w_INF), .val (.int (p2 &&& (63 : Int32))), .val (.int (1 : Int32)), .unset, .unset, .unset] [(.ref w_INF), (.ref b2), (.ref b2)])
  refine own_step (fun t k => XS.iload X2.here hx rfl (hb hby at_42) rfl k) ?_
  show own_Goes _ _ _ _ T2 (mkF m 44 #[.val (.int p1), .val (.int p2), .val (.int p3), .val (.long q4), .second, .val (.ref w_INF), .val (.int (p2 &&& (63 : Int32))), .val (.int (1 : Int32)), .unset, .unset, .unset] [(.int (p2 &&& (63 : Int32))), (.ref w_INF), (.ref b2), (.ref b2)])
  refine own_step (fun t k => XS.iload X2.here hx rfl (hb hby at_44) rfl k) ?_
  show own_Goes _ _ _ _ T2 (mkF m 46 #[.val (.int p1), .val (.int p2), .val (.int p3), .val (.long q4), .second, .val (.ref w_INF), .val (.int (p2 &&& (63 : Int32))), .val (.int (1 : Int32)), .unset, .unset, .unset] [(.int (1 : Int32)), (.int (p2 &&& (63 : Int32))), (.ref w_INF), (.ref b2), (.ref b2)])
  refine own_callC X2 hx hZ (y := (⟨"com/example/weaverbird/weaverbird/automaton/Acceptance$Atom", "<init>", "(Lcom/example/weaverbird/weaverbird/automaton/Acceptance$Kind;IZ)V"⟩ : MethodName)) rfl hown (hw _ (List.mem_of_getElem? (i := 6) rfl)) (hw _ (List.mem_of_getElem? (i := 7) rfl)) (hw _ (List.mem_of_getElem? (i := 8) rfl)) (hw _ (List.mem_of_getElem? (i := 5) rfl)) (by decide) 1 (a := b2) [(.ref w_INF), (.int (p2 &&& (63 : Int32))), (.int (1 : Int32))] [(.ref b2)] (own_init1 l Z a0 hw [] b2 w_INF (p2 &&& (63 : Int32)) h2 n0 (Nat.le_trans Z0 K2.1) A2 F_b2_kind F_b2_set F_b2_complemented g_b2) e2 (by decide) (by decide) (by decide) (by decide) (g := (mkF m 46 #[.val (.int p1), .val (.int p2), .val (.int p3), .val (.long q4), .second, .val (.ref w_INF), .val (.int (p2 &&& (63 : Int32))), .val (.int (1 : Int32)), .unset, .unset, .unset] [(.int (1 : Int32)), (.int (p2 &&& (63 : Int32))), (.ref w_INF), (.ref b2), (.ref b2)])) rfl (by rw [hml]; rfl) own_pd1 rfl rfl (by show 2 * 0 + _ ≤ _; exact Nat.le_of_eq rfl) (hb hby at_46) ?_
  intro T3 v3 L3 X3 hQ3
  obtain ⟨rfl, N3q, Kq3, A_3, Fs_3, Fc_3⟩ := hQ3
  have N3 := Fr.app N0 N3q
  have K3 := K2.trans Kq3 (allS (Or.inr sz_b2) all0)
  show own_Goes _ _ _ _ T3 (mkF m 49 #[.val (.int p1), .val (.int p2), .val (.int p3), .val (.long q4), .second, .val (.ref w_INF), .val (.int (p2 &&& (63 : Int32))), .val (.int (1 : Int32)), .unset, .unset, .unset] [(.ref b2)])
  refine own_step (fun t k => XS.astore X3.here hx rfl (hb hby at_49) rfl rfl (l' := #[.val (.int p1), .val (.int p2), .val (.int p3), .val (.long q4), .second, .val (.ref w_INF), .val (.int (p2 &&& (63 : Int32))), .val (.int (1 : Int32)), .val (.ref b2), .unset, .unset]) rfl k) ?_
  show own_Goes _ _ _ _ T3 (mkF m 51 #[.val (.int p1), .val (.int p2), .val (.int p3), .val (.long q4), .second, .val (.ref w_INF), .val (.int (p2 &&& (63 : Int32))), .val (.int (1 : Int32)), .val (.ref b2), .unset, .unset] [])
  refine own_step (fun t k => XS.lloadN X3.here hx rfl (hb hby at_51) rfl k) ?_
  show own_Goes _ _ _ _ T3 (mkF m 52 #[.val (.int p1), .val (.int p2), .val (.int p3), .val (.long q4), .second, .val (.ref w_INF), .val (.int (p2 &&& (63 : Int32))), .val (.int (1 : Int32)), .val (.ref b2), .unset, .unset] [(.long q4)])
  refine own_step (fun t k => XS.iload X3.here hx rfl (hb hby at_52) rfl k) ?_
  show own_Goes _ _ _ _ T3 (mkF m 54 #[.val (.int p1), .val (.int p2), .val (.int p3), .val (.long q4), .second, .val (.ref w_INF), .val (.int (p2 &&& (63 : Int32))), .val (.int (1 : Int32)), .val (.ref b2), .unset, .unset] [(.int (p2 &&& (63 : Int32))), (.long q4)])
  refine own_step (fun t k => XS.lushr X3.here hx rfl (hb hby at_54) rfl k) ?_
  show own_Goes _ _ _ _ T3 (mkF m 55 #[.val (.int p1), .val (.int p2), .val (.int p3), .val (.long q4), .second, .val (.ref w_INF), .val (.int (p2 &&& (63 : Int32))), .val (.int (1 : Int32)), .val (.ref b2), .unset, .unset] [(.long ((q4.toUInt64 >>> ((p2 &&& (63 : Int32)) &&& 0x3f).toInt64.toUInt64).toInt64))])
  refine own_step (fun t k => XS.lconst X3.here hx rfl (hb hby at_55) k) ?_
  show own_Goes _ _ _ _ T3 (mkF m 56 #[.val (.int p1), .val (.int p2), .val (.int p3), .val (.long q4), .second, .val (.ref w_INF), .val (.int (p2 &&& (63 : Int32))), .val (.int (1 : Int32)), .val (.ref b2), .unset, .unset] [(.long (1 : Int64)), (.long ((q4.toUInt64 >>> ((p2 &&& (63 : Int32)) &&& 0x3f).toInt64.toUInt64).toInt64))])
  refine own_step (fun t k => XS.land X3.here hx rfl (hb hby at_56) rfl k) ?_
  show own_Goes _ _ _ _ T3 (mkF m 57 #[.val (.int p1), .val (.int p2), .val (.int p3), .val (.long q4), .second, .val (.ref w_INF), .val (.int (p2 &&& (63 : Int32))), .val (.int (1 : Int32)), .val (.ref b2), .unset, .unset] [(.long (((q4.toUInt64 >>> ((p2 &&& (63 : Int32)) &&& 0x3f).toInt64.toUInt64).toInt64) &&& (1 : Int64)))])
  refine own_step (fun t k => XS.lconst X3.here hx rfl (hb hby at_57) k) ?_
  show own_Goes _ _ _ _ T3 (mkF m 58 #[.val (.int p1), .val (.int p2), .val (.int p3), .val (.long q4), .second, .val (.ref w_INF), .val (.int (p2 &&& (63 : Int32))), .val (.int (1 : Int32)), .val (.ref b2), .unset, .unset] [(.long (1 : Int64)), (.long (((q4.toUInt64 >>> ((p2 &&& (63 : Int32)) &&& 0x3f).toInt64.toUInt64).toInt64) &&& (1 : Int64)))])
  refine own_step (fun t k => XS.lcmp X3.here hx rfl (hb hby at_58) rfl k) ?_
  show own_Goes _ _ _ _ T3 (mkF m 59 #[.val (.int p1), .val (.int p2), .val (.int p3), .val (.long q4), .second, .val (.ref w_INF), .val (.int (p2 &&& (63 : Int32))), .val (.int (1 : Int32)), .val (.ref b2), .unset, .unset] [(.int (lcmpW (((q4.toUInt64 >>> ((p2 &&& (63 : Int32)) &&& 0x3f).toInt64.toUInt64).toInt64) &&& (1 : Int64)) (1 : Int64)))])
  refine own_step (fun t k => XS.ifNo X3.here hx rfl (hb hby at_59) rfl ((if0 _ _).trans (teq (show (lcmpW (((q4.toUInt64 >>> ((p2 &&& (63 : Int32)) &&& 0x3f).toInt64.toUInt64).toInt64) &&& (1 : Int64)) (1 : Int64)) = (0 : Int32) from hx1)).2) k) ?_
  show own_Goes _ _ _ _ T3 (mkF m 62 #[.val (.int p1), .val (.int p2), .val (.int p3), .val (.long q4), .second, .val (.ref w_INF), .val (.int (p2 &&& (63 : Int32))), .val (.int (1 : Int32)), .val (.ref b2), .unset, .unset] [])
  refine own_step (fun t k => XS.iconst X3.here hx rfl (hb hby at_62) k) ?_
  show own_Goes _ _ _ _ T3 (mkF m 63 #[.val (.int p1), .val (.int p2), .val (.int p3), .val (.long q4), .second, .val (.ref w_INF), .val (.int (p2 &&& (63 : Int32))), .val (.int (1 : Int32)), .val (.ref b2), .unset, .unset] [(.int (1 : Int32))])
  refine own_step (fun t k => XS.goto X3.here hx rfl (pc0 := 63) (pc' := 67) rfl (hb hby at_63) (by decide) (by decide) k) ?_
  show own_Goes _ _ _ _ T3 (mkF m 67 #[.val (.int p1), .val (.int p2), .val (.int p3), .val (.long q4), .second, .val (.ref w_INF), .val (.int (p2 &&& (63 : Int32))), .val (.int (1 : Int32)), .val (.ref b2), .unset, .unset] [(.int (1 : Int32))])
  refine own_step (fun t k => XS.istore X3.here hx rfl (hb hby at_67) rfl (l' := #[.val (.int p1), .val (.int p2), .val (.int p3), .val (.long q4), .second, .val (.ref w_INF), .val (.int (p2 &&& (63 : Int32))), .val (.int (1 : Int32)), .val (.ref b2), .val (.int (1 : Int32)), .unset]) rfl k) ?_
  show own_Goes _ _ _ _ T3 (mkF m 69 #[.val (.int p1), .val (.int p2), .val (.int p3), .val (.long q4), .second, .val (.ref w_INF), .val (.int (p2 &&& (63 : Int32))), .val (.int (1 : Int32)), .val (.ref b2), .val (.int (1 : Int32)), .unset] [])
  refine own_step (fun t k => XS.iload X3.here hx rfl (hb hby at_69) rfl k) ?_
  show own_Goes _ _ _ _ T3 (mkF m 71 #[.val (.int p1), .val (.int p2), .val (.int p3), .val (.long q4), .second, .val (.ref w_INF), .val (.int (p2 &&& (63 : Int32))), .val (.int (1 : Int32)), .val (.ref b2), .val (.int (1 : Int32)), .unset] [(.int (1 : Int32))])
  refine own_step (fun t k => XS.ifNo X3.here hx rfl (hb hby at_71) rfl ((if0 _ _).trans (feq (show ¬ ((1 : Int32) = (0 : Int32)) from (by decide))).1) k) ?_
  show own_Goes _ _ _ _ T3 (mkF m 74 #[.val (.int p1), .val (.int p2), .val (.int p3), .val (.long q4), .second, .val (.ref w_INF), .val (.int (p2 &&& (63 : Int32))), .val (.int (1 : Int32)), .val (.ref b2), .val (.int (1 : Int32)), .unset] [])
  refine own_step (fun t k => XS.iload X3.here hx rfl (hb hby at_74) rfl k) ?_
  show own_Goes _ _ _ _ T3 (mkF m 76 #[.val (.int p1), .val (.int p2), .val (.int p3), .val (.long q4), .second, .val (.ref w_INF), .val (.int (p2 &&& (63 : Int32))), .val (.int (1 : Int32)), .val (.ref b2), .val (.int (1 : Int32)), .unset] [(.int (1 : Int32))])
  refine own_step (fun t k => XS.ifYes X3.here hx rfl (pc0 := 76) (pc' := 83) rfl (hb hby at_76) rfl ((if0 _ _).trans (feq (show ¬ ((1 : Int32) = (0 : Int32)) from (by decide))).2) (by decide) (by decide) k) ?_
  show own_Goes _ _ _ _ T3 (mkF m 83 #[.val (.int p1), .val (.int p2), .val (.int p3), .val (.long q4), .second, .val (.ref w_INF), .val (.int (p2 &&& (63 : Int32))), .val (.int (1 : Int32)), .val (.ref b2), .val (.int (1 : Int32)), .unset] [])
  refine own_step (fun t k => XS.iconst X3.here hx rfl (hb hby at_83) k) ?_
  show own_Goes _ _ _ _ T3 (mkF m 84 #[.val (.int p1), .val (.int p2), .val (.int p3), .val (.long q4), .second, .val (.ref w_INF), .val (.int (p2 &&& (63 : Int32))), .val (.int (1 : Int32)), .val (.ref b2), .val (.int (1 : Int32)), .unset] [(.int (0 : Int32))])
  refine own_step (fun t k => XS.goto X3.here hx rfl (pc0 := 84) (pc' := 89) rfl (hb hby at_84) (by decide) (by decide) k) ?_
  show own_Goes _ _ _ _ T3 (mkF m 89 #[.val (.int p1), .val (.int p2), .val (.int p3), .val (.long q4), .second, .val (.ref w_INF), .val (.int (p2 &&& (63 : Int32))), .val (.int (1 : Int32)), .val (.ref b2), .val (.int (1 : Int32)), .unset] [(.int (0 : Int32))])
  refine own_step (fun t k => XS.istore X3.here hx rfl (hb hby at_89) rfl (l' := #[.val (.int p1), .val (.int p2), .val (.int p3), .val (.long q4), .second, .val (.ref w_INF), .val (.int (p2 &&& (63 : Int32))), .val (.int (1 : Int32)), .val (.ref b2), .val (.int (1 : Int32)), .val (.int (0 : Int32))]) rfl k) ?_
  show own_Goes _ _ _ _ T3 (mkF m 91 #[.val (.int p1), .val (.int p2), .val (.int p3), .val (.long q4), .second, .val (.ref w_INF), .val (.int (p2 &&& (63 : Int32))), .val (.int (1 : Int32)), .val (.ref b2), .val (.int (1 : Int32)), .val (.int (0 : Int32))] [])
  refine own_step (fun t k => XS.aload X3.here hx rfl (hb hby at_91) rfl rfl k) ?_
  show own_Goes _ _ _ _ T3 (mkF m 93 #[.val (.int p1), .val (.int p2), .val (.int p3), .val (.long q4), .second, .val (.ref w_INF), .val (.int (p2 &&& (63 : Int32))), .val (.int (1 : Int32)), .val (.ref b2), .val (.int (1 : Int32)), .val (.int (0 : Int32))] [(.ref b2)])
  refine own_step (fun t k => XS.lloadN X3.here hx rfl (hb hby at_93) rfl k) ?_
  show own_Goes _ _ _ _ T3 (mkF m 94 #[.val (.int p1), .val (.int p2), .val (.int p3), .val (.long q4), .second, .val (.ref w_INF), .val (.int (p2 &&& (63 : Int32))), .val (.int (1 : Int32)), .val (.ref b2), .val (.int (1 : Int32)), .val (.int (0 : Int32))] [(.long q4), (.ref b2)])
  refine own_callV X3 hx hZ (y := (⟨"com/example/weaverbird/weaverbird/automaton/Acceptance$Atom", "counts", "(J)Z"⟩ : MethodName)) (z := (⟨"com/example/weaverbird/weaverbird/automaton/Acceptance$Atom", "counts", "(J)Z"⟩ : MethodName)) hown (hw _ (List.mem_of_getElem? (i := 23) rfl)) (hw _ (List.mem_of_getElem? (i := 24) rfl)) (notFace_of_selects (args := #[]) (mvT hZ (hw _ (List.mem_of_getElem? (i := 26) rfl)))) (hw _ (List.mem_of_getElem? (i := 26) rfl)) (hw _ (List.mem_of_getElem? (i := 25) rfl)) (hw _ (List.mem_of_getElem? (i := 27) rfl)) (hw _ (List.mem_of_getElem? (i := 5) rfl)) (by decide) 0 A_3 [(.long q4)] [] (own_cnt11 l Z a0 hw [] b2 q4 (p2 &&& (63 : Int32)) T3.heap n0 (Nat.le_trans Z0 K3.1) Fs_3 Fc_3 hy1) rfl (by decide) (by decide) (by decide) (by decide) (g := (mkF m 94 #[.val (.int p1), .val (.int p2), .val (.int p3), .val (.long q4), .second, .val (.ref w_INF), .val (.int (p2 &&& (63 : Int32))), .val (.int (1 : Int32)), .val (.ref b2), .val (.int (1 : Int32)), .val (.int (0 : Int32))] [(.long q4), (.ref b2)])) rfl (by rw [hml]; rfl) own_pd2 rfl rfl (by show 2 * 0 + _ ≤ _; exact Nat.le_of_eq rfl) (hb hby at_94) ?_
  intro T4 v4 L4 X4 hQ4
  obtain ⟨rfl, N4q, e4⟩ := hQ4
  have N4 := Fr.app N3 N4q
  show own_Goes _ _ _ _ T4 (mkF m 97 #[.val (.int p1), .val (.int p2), .val (.int p3), .val (.long q4), .second, .val (.ref w_INF), .val (.int (p2 &&& (63 : Int32))), .val (.int (1 : Int32)), .val (.ref b2), .val (.int (1 : Int32)), .val (.int (0 : Int32))] [(.int (0 : Int32))])
  refine own_step (fun t k => XS.iload X4.here hx rfl (hb hby at_97) rfl k) ?_
  show own_Goes _ _ _ _ T4 (mkF m 99 #[.val (.int p1), .val (.int p2), .val (.int p3), .val (.long q4), .second, .val (.ref w_INF), .val (.int (p2 &&& (63 : Int32))), .val (.int (1 : Int32)), .val (.ref b2), .val (.int (1 : Int32)), .val (.int (0 : Int32))] [(.int (0 : Int32)), (.int (0 : Int32))])
  refine own_step (fun t k => XS.icmpNo X4.here hx rfl (hb hby at_99) rfl (teq (show (0 : Int32) = (0 : Int32) from (by decide))).2 k) ?_
  show own_Goes _ _ _ _ T4 (mkF m 102 #[.val (.int p1), .val (.int p2), .val (.int p3), .val (.long q4), .second, .val (.ref w_INF), .val (.int (p2 &&& (63 : Int32))), .val (.int (1 : Int32)), .val (.ref b2), .val (.int (1 : Int32)), .val (.int (0 : Int32))] [])
  refine own_step (fun t k => XS.iconst X4.here hx rfl (hb hby at_102) k) ?_
  show own_Goes _ _ _ _ T4 (mkF m 103 #[.val (.int p1), .val (.int p2), .val (.int p3), .val (.long q4), .second, .val (.ref w_INF), .val (.int (p2 &&& (63 : Int32))), .val (.int (1 : Int32)), .val (.ref b2), .val (.int (1 : Int32)), .val (.int (0 : Int32))] [(.int (1 : Int32))])
  refine own_step (fun t k => XS.goto X4.here hx rfl (pc0 := 103) (pc' := 107) rfl (hb hby at_103) (by decide) (by decide) k) ?_
  show own_Goes _ _ _ _ T4 (mkF m 107 #[.val (.int p1), .val (.int p2), .val (.int p3), .val (.long q4), .second, .val (.ref w_INF), .val (.int (p2 &&& (63 : Int32))), .val (.int (1 : Int32)), .val (.ref b2), .val (.int (1 : Int32)), .val (.int (0 : Int32))] [(.int (1 : Int32))])
  exact own_retN X4 hx hlk (t := .boolean) hrt (by simp) (hb hby at_107) ⟨rfl, N4⟩ (by decide) (by decide)
theorem own_bitB (q : BitVec 64) (k : Nat) (hk : k < 64) : ((q >>> k) &&& 1#64 = 1#64) ↔ ¬ (q &&& (1#64 <<< k) = 0#64) := by
  have e1 : (q >>> k) &&& 1#64 = (BitVec.ofBool (q.getLsbD k)).setWidth 64 := by
    rw [BitVec.and_one_eq_setWidth_ofBool_getLsbD, BitVec.getLsbD_ushiftRight, Nat.add_zero]
  cases hq : q.getLsbD k
  · have e2 : q &&& (1#64 <<< k) = 0#64 := by
      refine BitVec.eq_of_getLsbD_eq fun i hi => ?_
      rw [BitVec.getLsbD_and, BitVec.getLsbD_shiftLeft, BitVec.getLsbD_one, BitVec.getLsbD_zero]
      by_cases h1 : i < k
      · simp [h1]
      · by_cases h2 : i = k
        · subst h2; simp [hq]
        · have : ¬ (i - k = 0) := by omega
          simp [this]
    rw [e1, e2, hq]
    simp
  · rw [e1, hq]
    refine ⟨fun _ z => ?_, fun _ => by decide⟩
    have := congrArg (fun b => BitVec.getLsbD b k) z
    simp [hk] at this
    have hq2 : q[k] = true := by rw [← BitVec.getLsbD_eq_getElem hk]; exact hq
    rw [hq2] at this
    cases this
theorem own_bit (q4 : Int64) (p2 : Int32) : ((lcmpW (((q4.toUInt64 >>> ((p2 &&& (63 : Int32)) &&& 0x3f).toInt64.toUInt64).toInt64) &&& (1 : Int64)) (1 : Int64)) = (0 : Int32)) ↔ ¬ ((lcmpW (q4 &&& ((1 : Int64) <<< ((p2 &&& (63 : Int32)) &&& 0x3f).toInt64)) (0 : Int64)) = (0 : Int32)) := by
  rw [lw_eq, lw_eq]
  generalize (p2 &&& (63 : Int32)) = s
  obtain ⟨e1, e2⟩ := sm64 s _ rfl
  rw [← Int64.toBitVec_inj, ← Int64.toBitVec_inj]
  have e3 : (((q4.toUInt64 >>> (s &&& 0x3f).toInt64.toUInt64).toInt64) &&& (1 : Int64)).toBitVec = (q4.toBitVec >>> (s.toBitVec.toNat % 64)) &&& 1#64 := by
    show (q4.toBitVec >>> ((s &&& 0x3f).toInt64.toBitVec % 64)) &&& 1#64 = _
    rw [BitVec.ushiftRight_eq', BitVec.toNat_umod, e1, BitVec.toNat_ofNat]
    congr 2
    show (s.toBitVec.toNat % 64) % 2 ^ 64 % 64 = s.toBitVec.toNat % 64
    omega
  have e4 : (q4 &&& ((1 : Int64) <<< (s &&& 0x3f).toInt64)).toBitVec = q4.toBitVec &&& (1#64 <<< (s.toBitVec.toNat % 64)) := by
    show q4.toBitVec &&& (1#64 <<< ((s &&& 0x3f).toInt64.toBitVec.smod 64)) = _
    rw [BitVec.shiftLeft_eq', e1, smod64 _ e2]
  rw [e3, e4]
  exact own_bitB _ _ e2
theorem own_law (l : Launch) (Z : State) (a0 : Array Value) (hw : ∀ d ∈ tables_1, d.before a0 Z = true) (ws : List Jvm.Cond) (p1 : Int32) (p2 : Int32) (p3 : Int32) (q4 : Int64) (w_FIN : Addr) (w_INF : Addr) (h0 : Heap) (n0 : Nat) (Z0 : n0 ≤ h0.size) (S_FIN : Sta Z h0 "com/example/weaverbird/weaverbird/automaton/Acceptance$Kind" "FIN" "Lcom/example/weaverbird/weaverbird/automaton/Acceptance$Kind;" (.ref w_FIN)) (S_INF : Sta Z h0 "com/example/weaverbird/weaverbird/automaton/Acceptance$Kind" "INF" "Lcom/example/weaverbird/weaverbird/automaton/Acceptance$Kind;" (.ref w_INF)) : own_Met l Z x code maxLocals ret ws room_1 #[(.int p1), (.int p2), (.int p3), (.long q4)] h0 (fun v h L => v = some (.int 1) ∧ Fr n0 L) := by
  have hbt := own_bit q4 p2
  by_cases hk : (p1 &&& (1 : Int32)) = (0 : Int32) <;> by_cases hcc : (p3 &&& (1 : Int32)) = (0 : Int32) <;> by_cases hx1 : (lcmpW (((q4.toUInt64 >>> ((p2 &&& (63 : Int32)) &&& 0x3f).toInt64.toUInt64).toInt64) &&& (1 : Int64)) (1 : Int64)) = (0 : Int32)
  · exact own_law001 l Z a0 hw ws p1 p2 p3 q4 w_FIN h0 n0 Z0 S_FIN hk hcc hx1 (hbt.mp hx1)
  · exact own_law000 l Z a0 hw ws p1 p2 p3 q4 w_FIN h0 n0 Z0 S_FIN hk hcc hx1 (Classical.byContradiction fun z => hx1 (hbt.mpr z))
  · exact own_law011 l Z a0 hw ws p1 p2 p3 q4 w_FIN h0 n0 Z0 S_FIN hk hcc hx1 (hbt.mp hx1)
  · exact own_law010 l Z a0 hw ws p1 p2 p3 q4 w_FIN h0 n0 Z0 S_FIN hk hcc hx1 (Classical.byContradiction fun z => hx1 (hbt.mpr z))
  · exact own_law101 l Z a0 hw ws p1 p2 p3 q4 w_INF h0 n0 Z0 S_INF hk hcc hx1 (hbt.mp hx1)
  · exact own_law100 l Z a0 hw ws p1 p2 p3 q4 w_INF h0 n0 Z0 S_INF hk hcc hx1 (Classical.byContradiction fun z => hx1 (hbt.mpr z))
  · exact own_law111 l Z a0 hw ws p1 p2 p3 q4 w_INF h0 n0 Z0 S_INF hk hcc hx1 (hbt.mp hx1)
  · exact own_law110 l Z a0 hw ws p1 p2 p3 q4 w_INF h0 n0 Z0 S_INF hk hcc hx1 (Classical.byContradiction fun z => hx1 (hbt.mpr z))
set_option maxRecDepth 65536 in
set_option maxHeartbeats 40000000 in
theorem comes_1 {Post : Tables → Env → Array Value → State → Outcome → State → Prop} (hpost : ∀ tb e args s v u, (limb_1_1.after args s (.returned v) u = true ∧ limb_1_2.after args s (.returned v) u = true ∧ True) → FrameEnd s (.returned v) u (Jvm.fieldLocs frame_1_writes args s ++ Jvm.arrayLocs frame_1_arrays args s ++ Jvm.staticLocs frame_1_statics s) 16 128 → Post tb e args s (.returned v) u) :
    ArmFor flags0 classFile x code maxLocals ret World_1 tables_1 room_1 Calls_1 rest_1 Pre_1 Post := by
  intro l hfl _ _ p e ha hc hk s m args below hf hA hF happ hP
  obtain ⟨hcalls, hrest, hpre⟩ := hP
  obtain ⟨-, -, -, hnamed, -, -, -, hat⟩ := (Spec.applies_iff hf).mp happ
  obtain ⟨hg, hn⟩ := and_e (Cond.before_iff.mp (show (Jvm.Cond.and given_1 narrow_1).before args s = true from hpre))
  obtain ⟨q1, q2⟩ := and_e hg
  obtain ⟨q3, q4⟩ := and_e q2
  obtain ⟨q5, q6⟩ := and_e q4
  obtain ⟨q7, q8⟩ := and_e q6
  obtain ⟨q9, q10⟩ := and_e hn
  obtain ⟨w0, w1, w2, w3, rfl⟩ : ∃ w0 w1 w2 w3 : Value, args = #[w0, w1, w2, w3] := by
    have hs : args.size = 4 := by simpa [Cond.value, given_1] using q1
    obtain ⟨L⟩ := args
    match L, hs with
    | [w0, w1, w2, w3], _ => exact ⟨w0, w1, w2, w3, rfl⟩
  have hw := fun d (hd : d ∈ tables_1) => atoms_spec (ws := Jvm.Cond.code x code maxLocals ret :: tables_1) hat d (List.mem_cons_of_mem _ hd)
  have hfit : Fit s := fun {y c} hc i hi => by
    obtain ⟨ha, rfl⟩ := Array.getElem?_eq_some_iff.mp hc
    have q := List.all_eq_true.mp ((Array.all_eq_true_iff_forall_mem.mp hF) _ (Array.getElem_mem ha)) i (List.mem_range.mpr hi)
    simpa [Array.getElem?_eq_getElem hi] using q
  obtain ⟨i0, ei0⟩ := is_v q3
  obtain rfl : w0 = (.int i0) := Option.some.inj ei0
  obtain ⟨i1, ei1⟩ := is_v q5
  obtain rfl : w1 = (.int i1) := Option.some.inj ei1
  obtain ⟨i2, ei2⟩ := is_v q7
  obtain rfl : w2 = (.int i2) := Option.some.inj ei2
  obtain ⟨i3, ei3⟩ := isL_v q8
  obtain rfl : w3 = (.long i3) := Option.some.inj ei3
  obtain ⟨w_FIN, ev_FIN⟩ := exa_v q9
  have S_FIN : Sta s s.heap "com/example/weaverbird/weaverbird/automaton/Acceptance$Kind" "FIN" "Lcom/example/weaverbird/weaverbird/automaton/Acceptance$Kind;" (.ref w_FIN) := Sta.start ev_FIN (Or.inr ⟨(hw _ (List.mem_of_getElem? (i := 1) rfl)), (hw _ (List.mem_of_getElem? (i := 2) rfl))⟩)
  have E_w_FIN : Exa s s.heap w_FIN "com/example/weaverbird/weaverbird/automaton/Acceptance$Kind" := Exa.start ev_FIN q9
  obtain ⟨w_INF, ev_INF⟩ := exa_v q10
  have S_INF : Sta s s.heap "com/example/weaverbird/weaverbird/automaton/Acceptance$Kind" "INF" "Lcom/example/weaverbird/weaverbird/automaton/Acceptance$Kind;" (.ref w_INF) := Sta.start ev_INF (Or.inr ⟨(hw _ (List.mem_of_getElem? (i := 1) rfl)), (hw _ (List.mem_of_getElem? (i := 29) rfl))⟩)
  have E_w_INF : Exa s s.heap w_INF "com/example/weaverbird/weaverbird/automaton/Acceptance$Kind" := Exa.start ev_INF q10
  obtain ⟨n, o, h1, h2, h3, _, L, rfl, ⟨rfl, N⟩, hq⟩ := own_law l s _ hw tables_1 i0 i1 i2 i3 w_FIN w_INF s.heap s.heap.size (Nat.le_refl _) S_FIN S_INF p e ha hc hk s m _ below hf ((Spec.applies_iff_loose hf).mp happ).1 ⟨rfl, State.Warmed39.refl s, rfl⟩ trivial
  refine ⟨n, _, h1, h2, h3, hpost _ _ _ _ _ _ ⟨Cond.after_iff.mpr rfl, Cond.after_iff.mpr (eq_i res_at (Term.int_eval (1)) rfl), trivial⟩ ⟨hq.1, hq.2.1, (hq.2.2.sift fun y hy => Or.inr (N y hy)).mono (by decide) (by decide)⟩⟩
theorem main_1_1 : Claimed_1_1 := comes_1 fun _ _ _ _ _ _ h hF => ⟨h.1, hF⟩
theorem main_1_2 : Claimed_1_2 := comes_1 fun _ _ _ _ _ _ h hF => ⟨h.2.1, hF⟩
end Jvm.Pilot.@@N@@
namespace Jvm.Pilot.@@N@@
open Jvm Jvm.ClassFile Sem Op Lib Jvm.Free Jvm.Stand Jvm.Pilot.@@N@@.Jvm.D
/-! MADE BY PROGRAM (witnessworld.py) out of the Statement's table words and the real class files: 14 classes; the members and pool entries that the words name. The judged class is class 1, her method 1. -/
namespace start1
open Jvm.ClassFile
def u (s : String) : CpInfo := .utf8 (stringToUtf16 s)
/-- a pool by its gaps: so many unusable entries, then the entry; so many at the end -/
def gap : Nat → List CpInfo → List CpInfo
  | 0, r => r
  | n + 1, r => .unusable :: gap n r
def poolList (es : List (Nat × CpInfo)) (last : Nat) : List CpInfo := es.foldr (fun e r => gap e.1 (e.2 :: r)) (gap last [])
def pool (es : List (Nat × CpInfo)) (last : Nat) : Array CpInfo := ⟨poolList es last⟩
def fileOf (pool : Array CpInfo) (this : Nat) (attrs : Array Attribute := #[]) (ms : Array MethodInfo := #[]) (fl : Nat := 33) (sup : Nat := 0) (ifs : Array Nat := #[]) (fds : Array FieldInfo := #[]) : ClassFile where
  minorVersion := 0
  majorVersion := 65
  constantPool := pool
  accessFlags := fl
  thisClass := this
  superClass := sup
  interfaces := ifs
  fields := fds
  methods := ms
  attributes := attrs
def plain (name : String) (sup : Option ClassId) : Class where
  name := name
  kind := .ordinary
  loader := none
  accessFlags := 33
  super := sup
  interfaces := #[]
  cf := none
  fields := #[]
  methods := #[]
  instanceTypes := #[]
  staticTypes := #[]
  resolved := #[]
  callSites := []
  init := .initialized
  statics := none
  mirror := none

def pool0 : Array CpInfo := pool [(5, u "<init>"), (0, u "()V"), (1, .class_ 10), (1, u "java/lang/Object")] 113

def k0c0 : Code := { maxStack := 0, maxLocals := 1, code := object_method_1_code, exceptionTable := #[], attributes := #[] }
def k0m0 : Method := { name := "<init>", desc := "()V", sig := { parameters := [], returnType := none }, accessFlags := 1, code := some k0c0 }
/-- java/lang/Object -/
def k0 : Class := { plain "java/lang/Object" none with
  accessFlags := 33
  interfaces := #[]
  cf := some (fileOf pool0 8 #[] #[{ accessFlags := 1, nameIndex := 5, descriptorIndex := 6, attributes := #[] }] 33 0 #[] #[])
  fields := #[]
  methods := #[k0m0]
  instanceTypes := #[]
  staticTypes := #[]
  resolved := Array.replicate 124 none
  statics := none }

def pool1 : Array CpInfo := pool [(2, .class_ 4), (1, u "java/lang/Object"), (0, u "<init>"), (0, u "()V"), (0, .fieldref 8 9), (0, .class_ 10), (0, .nameAndType 11 12), (0, u "com/example/weaverbird/weaverbird/automaton/Acceptance$Kind"), (0, u "FIN"), (0, u "Lcom/example/weaverbird/weaverbird/automaton/Acceptance$Kind;"), (0, .fieldref 8 14), (0, .nameAndType 15 12), (0, u "INF"), (0, .class_ 17), (0, u "com/example/weaverbird/weaverbird/automaton/Acceptance$Atom"), (0, .methodref 16 19), (0, .nameAndType 5 20), (0, u "(Lcom/example/weaverbird/weaverbird/automaton/Acceptance$Kind;IZ)V"), (0, .methodref 16 22), (0, .nameAndType 23 24), (0, u "counts"), (0, u "(J)Z"), (0, .class_ 26), (0, u "com/example/weaverbird/weaverbird/automaton/AtomCountsPinLaw"), (2, u "law"), (0, u "(IIIJ)Z")] 8

def k1m0 : Method := { name := "<init>", desc := "()V", sig := { parameters := [], returnType := none }, accessFlags := 1, code := none }
def k1c1 : Code := { maxStack := 5, maxLocals := 11, code := code, exceptionTable := #[], attributes := #[] }
def k1m1 : Method := { name := "law", desc := "(IIIJ)Z", sig := { parameters := [.int, .int, .int, .long], returnType := some .boolean }, accessFlags := 9, code := some k1c1 }
/-- com/example/weaverbird/weaverbird/automaton/AtomCountsPinLaw -/
def k1 : Class := { plain "com/example/weaverbird/weaverbird/automaton/AtomCountsPinLaw" (some 0) with
  accessFlags := 49
  interfaces := #[]
  cf := some (fileOf pool1 25 #[] #[{ accessFlags := 1, nameIndex := 5, descriptorIndex := 6, attributes := #[] }, { accessFlags := 9, nameIndex := 29, descriptorIndex := 30, attributes := #[] }] 49 2 #[] #[])
  fields := #[]
  methods := #[k1m0, k1m1]
  instanceTypes := #[]
  staticTypes := #[]
  resolved := Array.replicate 39 none
  statics := none }

def pool2 : Array CpInfo := pool [(1, .class_ 2), (0, u "java/lang/constant/Constable"), (0, .class_ 4), (0, u "java/lang/Object")] 6

/-- java/lang/constant/Constable -/
def k2 : Class := { plain "java/lang/constant/Constable" (some 0) with
  accessFlags := 1537
  interfaces := #[]
  cf := some (fileOf pool2 1 #[] #[] 1537 3 #[] #[])
  fields := #[]
  methods := #[]
  instanceTypes := #[]
  staticTypes := #[]
  resolved := Array.replicate 11 none
  statics := none }

def pool3 : Array CpInfo := pool [(1, .class_ 2), (0, u "java/lang/Comparable"), (0, .class_ 4), (0, u "java/lang/Object")] 7

/-- java/lang/Comparable -/
def k3 : Class := { plain "java/lang/Comparable" (some 0) with
  accessFlags := 1537
  interfaces := #[]
  cf := some (fileOf pool3 1 #[] #[] 1537 3 #[] #[])
  fields := #[]
  methods := #[]
  instanceTypes := #[]
  staticTypes := #[]
  resolved := Array.replicate 12 none
  statics := none }

def pool4 : Array CpInfo := pool [(1, .class_ 2), (0, u "java/io/Serializable"), (0, .class_ 4), (0, u "java/lang/Object")] 2

/-- java/io/Serializable -/
def k4 : Class := { plain "java/io/Serializable" (some 0) with
  accessFlags := 1537
  interfaces := #[]
  cf := some (fileOf pool4 1 #[] #[] 1537 3 #[] #[])
  fields := #[]
  methods := #[]
  instanceTypes := #[]
  staticTypes := #[]
  resolved := Array.replicate 7 none
  statics := none }

def pool5 : Array CpInfo := pool [(2, .class_ 4), (1, u "java/lang/Enum"), (0, u "name"), (0, u "Ljava/lang/String;"), (2, u "ordinal"), (0, u "I"), (1, .class_ 14), (1, u "java/lang/Object"), (4, u "hash"), (86, .class_ 108), (1, u "java/lang/Enum$EnumDesc"), (2, .class_ 112), (0, u "java/lang/constant/Constable"), (0, .class_ 114), (0, u "java/lang/Comparable"), (0, .class_ 116), (0, u "java/io/Serializable")] 87

/-- java/lang/Enum -/
def k5 : Class := { plain "java/lang/Enum" (some 0) with
  accessFlags := 1057
  interfaces := #[2, 3, 4]
  cf := some (fileOf pool5 2 #[.nestMembers #[106]] #[] 1057 12 #[111, 113, 115] #[{ accessFlags := 18, nameIndex := 5, descriptorIndex := 6, attributes := #[] }, { accessFlags := 18, nameIndex := 9, descriptorIndex := 10, attributes := #[] }, { accessFlags := 2, nameIndex := 19, descriptorIndex := 10, attributes := #[] }])
  fields := #[{ name := "name", type := (.object "java/lang/String"), accessFlags := 18, slot := 0, constantValue := 0 }, { name := "ordinal", type := .int, accessFlags := 18, slot := 1, constantValue := 0 }, { name := "hash", type := .int, accessFlags := 2, slot := 2, constantValue := 0 }]
  methods := #[]
  instanceTypes := #[(.object "java/lang/String"), .int, .int]
  staticTypes := #[]
  resolved := Array.replicate 204 none
  statics := none }

def pool6 : Array CpInfo := pool [(1, .class_ 2), (0, u "com/example/weaverbird/weaverbird/automaton/Acceptance$Kind"), (2, u "FIN"), (0, u "Lcom/example/weaverbird/weaverbird/automaton/Acceptance$Kind;"), (2, u "INF"), (2, u "$VALUES"), (0, u "[Lcom/example/weaverbird/weaverbird/automaton/Acceptance$Kind;"), (6, .class_ 22), (1, u "java/lang/Enum"), (25, .class_ 49), (0, u "com/example/weaverbird/weaverbird/automaton/Acceptance")] 2

/-- com/example/weaverbird/weaverbird/automaton/Acceptance$Kind -/
def k6 : Class := { plain "com/example/weaverbird/weaverbird/automaton/Acceptance$Kind" (some 5) with
  accessFlags := 16433
  interfaces := #[]
  cf := some (fileOf pool6 1 #[.nestHost 48] #[] 16433 20 #[] #[{ accessFlags := 16409, nameIndex := 5, descriptorIndex := 6, attributes := #[] }, { accessFlags := 16409, nameIndex := 9, descriptorIndex := 6, attributes := #[] }, { accessFlags := 4122, nameIndex := 12, descriptorIndex := 13, attributes := #[] }])
  fields := #[{ name := "FIN", type := (.object "com/example/weaverbird/weaverbird/automaton/Acceptance$Kind"), accessFlags := 16409, slot := 0, constantValue := 0 }, { name := "INF", type := (.object "com/example/weaverbird/weaverbird/automaton/Acceptance$Kind"), accessFlags := 16409, slot := 1, constantValue := 0 }, { name := "$VALUES", type := (.array (.object "com/example/weaverbird/weaverbird/automaton/Acceptance$Kind")), accessFlags := 4122, slot := 2, constantValue := 0 }]
  methods := #[]
  instanceTypes := #[(.object "java/lang/String"), .int, .int]
  staticTypes := #[(.object "com/example/weaverbird/weaverbird/automaton/Acceptance$Kind"), (.object "com/example/weaverbird/weaverbird/automaton/Acceptance$Kind"), (.array (.object "com/example/weaverbird/weaverbird/automaton/Acceptance$Kind"))]
  resolved := Array.replicate 52 none
  statics := some 0 }

def pool7 : Array CpInfo := pool [(1, .methodref 2 3), (0, .class_ 4), (0, .nameAndType 5 6), (0, u "java/lang/Object"), (0, u "<init>"), (0, u "()V"), (0, .class_ 8), (0, u "java/lang/Record")] 13

def k7c0 : Code := { maxStack := 1, maxLocals := 1, code := jdk_30_method_1_code, exceptionTable := #[], attributes := #[] }
def k7m0 : Method := { name := "<init>", desc := "()V", sig := { parameters := [], returnType := none }, accessFlags := 4, code := some k7c0 }
/-- java/lang/Record -/
def k7 : Class := { plain "java/lang/Record" (some 0) with
  accessFlags := 1057
  interfaces := #[]
  cf := some (fileOf pool7 7 #[] #[{ accessFlags := 4, nameIndex := 5, descriptorIndex := 6, attributes := #[] }] 1057 2 #[] #[])
  fields := #[]
  methods := #[k7m0]
  instanceTypes := #[]
  staticTypes := #[]
  resolved := Array.replicate 22 none
  statics := none }

def pool8 : Array CpInfo := pool [(1, .methodref 2 3), (0, .class_ 4), (0, .nameAndType 5 6), (0, u "java/lang/Record"), (0, u "<init>"), (0, u "()V"), (0, .fieldref 8 9), (0, .class_ 10), (0, .nameAndType 11 12), (0, u "com/example/weaverbird/weaverbird/automaton/Acceptance$Atom"), (0, u "kind"), (0, u "Lcom/example/weaverbird/weaverbird/automaton/Acceptance$Kind;"), (0, .fieldref 8 14), (0, .nameAndType 15 16), (0, u "set"), (0, u "I"), (0, .fieldref 8 18), (0, .nameAndType 19 20), (0, u "complemented"), (0, u "Z"), (12, u "(Lcom/example/weaverbird/weaverbird/automaton/Acceptance$Kind;IZ)V"), (3, u "counts"), (0, u "(J)Z"), (9, .class_ 49), (0, u "com/example/weaverbird/weaverbird/automaton/Acceptance")] 24

def k8c0 : Code := { maxStack := 2, maxLocals := 4, code := prog_3_method_1_code, exceptionTable := #[], attributes := #[] }
def k8m0 : Method := { name := "<init>", desc := "(Lcom/example/weaverbird/weaverbird/automaton/Acceptance$Kind;IZ)V", sig := { parameters := [(.object "com/example/weaverbird/weaverbird/automaton/Acceptance$Kind"), .int, .boolean], returnType := none }, accessFlags := 1, code := some k8c0 }
def k8c1 : Code := { maxStack := 5, maxLocals := 4, code := prog_3_method_2_code, exceptionTable := #[], attributes := #[] }
def k8m1 : Method := { name := "counts", desc := "(J)Z", sig := { parameters := [.long], returnType := some .boolean }, accessFlags := 1, code := some k8c1 }
/-- com/example/weaverbird/weaverbird/automaton/Acceptance$Atom -/
def k8 : Class := { plain "com/example/weaverbird/weaverbird/automaton/Acceptance$Atom" (some 7) with
  accessFlags := 49
  interfaces := #[]
  cf := some (fileOf pool8 8 #[.nestHost 48] #[{ accessFlags := 1, nameIndex := 5, descriptorIndex := 33, attributes := #[] }, { accessFlags := 1, nameIndex := 37, descriptorIndex := 38, attributes := #[] }] 49 2 #[] #[{ accessFlags := 18, nameIndex := 11, descriptorIndex := 12, attributes := #[] }, { accessFlags := 18, nameIndex := 15, descriptorIndex := 16, attributes := #[] }, { accessFlags := 18, nameIndex := 19, descriptorIndex := 20, attributes := #[] }])
  fields := #[{ name := "kind", type := (.object "com/example/weaverbird/weaverbird/automaton/Acceptance$Kind"), accessFlags := 18, slot := 0, constantValue := 0 }, { name := "set", type := .int, accessFlags := 18, slot := 1, constantValue := 0 }, { name := "complemented", type := .boolean, accessFlags := 18, slot := 2, constantValue := 0 }]
  methods := #[k8m0, k8m1]
  instanceTypes := #[(.object "com/example/weaverbird/weaverbird/automaton/Acceptance$Kind"), .int, .boolean]
  staticTypes := #[]
  resolved := Array.replicate 74 none
  statics := none }

def pool9 : Array CpInfo := pool [(1, u "java/lang/Cloneable"), (0, .class_ 1), (0, u "java/lang/Object"), (0, .class_ 3)] 3

/-- java/lang/Cloneable -/
def k9 : Class := { plain "java/lang/Cloneable" (some 0) with
  accessFlags := 1537
  interfaces := #[]
  cf := some (fileOf pool9 2 #[] #[] 1537 4 #[] #[])
  fields := #[]
  methods := #[]
  instanceTypes := #[]
  staticTypes := #[]
  resolved := Array.replicate 8 none
  statics := none }

/-- the primitive byte -/
def k10 : Class := { plain "byte" none with kind := .primitive 'B', accessFlags := 0x411 }
/-- [B -/
def k11 : Class := { plain "[B" (some 0) with kind := .array 10 .byte, interfaces := #[9, 4], accessFlags := 1041 }

/-- the primitive int -/
def k12 : Class := { plain "int" none with kind := .primitive 'I', accessFlags := 0x411 }
/-- [I -/
def k13 : Class := { plain "[I" (some 0) with kind := .array 12 .int, interfaces := #[9, 4], accessFlags := 1041 }

def heap : Heap := #[{ cls := 6, slots := #[.ref 1, .ref 2, .null], vm := .statics 6 },
  { cls := 6, slots := #[.null, .int 0, .int 0], vm := .none },
  { cls := 6, slots := #[.null, .int 1, .int 0], vm := .none }]
def classes : Array Class := #[k0, k1, k2, k3, k4, k5, k6, k7, k8, k9, k10, k11, k12, k13]
def interned : List (Array UInt16 × Addr) := []
def slotsUsed : Nat := 9
def theMethod : MethodId := ⟨1, 1⟩
def args0 : Array Value := #[.int 5, .int 6, .int 7, .long 8]
def aboutOver (below : List Frame) : State where
  vm := { classes := classes, interned := interned.toArray }
  heap := heap
  slotsUsed := slotsUsed
  threads := #[{ frames := .invoking theMethod args0 :: below }]
def below0 : List Frame := [.native { method := ⟨0, 0⟩, args := #[] }]
def about1 : State := aboutOver below0
def p0 : Program := .bare "" "" ""
def e0 : Env := launch0.env 0 0 0
theorem w_frames : about1.frames = Frame.invoking theMethod args0 :: below0 := rfl
set_option maxRecDepth 65536 in
theorem w_args : argsFit about1.vm theMethod args0 = true := by decide +kernel
set_option maxRecDepth 65536 in
theorem w_heap : heapFits about1 = true := by decide +kernel
set_option maxRecDepth 65536 in
theorem w_runnable : about1.curStatus? = some .runnable := by decide +kernel
set_option maxRecDepth 65536 in
theorem w_alone : about1.alone = true := by decide +kernel
set_option maxRecDepth 65536 in
theorem w_named : about1.methodNamed? x = some theMethod := by decide +kernel
set_option maxRecDepth 65536 in
theorem w_hears : about1.hears theMethod below0 = true := by decide +kernel
set_option maxRecDepth 65536 in
theorem w_ripe : about1.ripe theMethod args0 below0 = true := by decide +kernel
theorem w_running : about1.status = .running := rfl
set_option maxRecDepth 65536 in
theorem w_room : about1.hasRoom e0.platform room_1 = true :=
  launch0.hasRoom_least _ room_1 (by decide +kernel) (by decide +kernel) (by decide +kernel) (by decide +kernel) (by decide +kernel) (by decide +kernel)
theorem allAtoms_all (ts : List Jvm.Cond) (a : Array Jvm.Value) (st : Jvm.State) : (allAtoms ts).before a st = ts.all (fun c => c.before a st) := by
  induction ts with
  | nil => rfl
  | cons c t ih =>
    show (Jvm.Cond.and c (allAtoms t)).before a st = _
    rw [Jvm.Cond.before_and, ih, List.all_cons]
def words1 : List Jvm.Cond := Jvm.Cond.code x code maxLocals ret :: tables_1
/-- a 'code' word, met by the world's own term for the bytes: nothing is compared byte by byte -/
theorem code_word {y : MethodName} {bytes : ByteArray} {mx : Nat} {rt : Option FieldType} {a : Array Value} {s : State} {m : MethodId} {meth : Method} {c : Code} (h1 : s.methodNamed? y = some m) (h2 : s.vm.method? m = some meth) (h3 : meth.code = some c) (h4 : c.code = bytes)
    (h5 : (c.maxLocals == mx && c.exceptionTable.isEmpty && decide (c.maxStack ≤ mostOperands) && decide (meth.sig.returnType = rt) && !meth.locks && decide (parseMethodDescriptor y.desc = some meth.sig)) = true) : (Jvm.Cond.code y bytes mx rt).before a s = true := by
  simp only [Bool.and_eq_true, beq_iff_eq, Bool.not_eq_true', decide_eq_true_eq] at h5
  obtain ⟨⟨⟨⟨⟨g1, g2⟩, g3⟩, g4⟩, g5⟩, g6⟩ := h5
  simp [Cond.before, Cond.holds, Cond.value, h1, h2, h3, h4, g1, g2, g3, g4, g5, g6]
def isCode : Jvm.Cond → Bool
  | .code _ _ _ _ => true
  | _ => false
theorem all_split {L : List Jvm.Cond} {P : Jvm.Cond → Bool} (h1 : L.all (fun c => isCode c || P c) = true) (h2 : ∀ c ∈ L.filter isCode, P c = true) : L.all P = true := by
  refine List.all_eq_true.mpr fun c hc => ?_
  have h := List.all_eq_true.mp h1 c hc
  rcases Bool.eq_false_or_eq_true (isCode c) with hi | hi
  · exact h2 c (List.mem_filter.mpr ⟨hc, hi⟩)
  · simpa [hi] using h
set_option maxRecDepth 65536 in
theorem w_c0 : (Jvm.Cond.code x code maxLocals ret).before args0 about1 = true := code_word (m := ⟨1, 1⟩) (meth := k1m1) (c := k1c1) (by decide +kernel) rfl rfl rfl (by decide +kernel)
set_option maxRecDepth 65536 in
theorem w_c1 : (Jvm.Cond.code ({ cls := "com/example/weaverbird/weaverbird/automaton/Acceptance$Atom", name := "<init>", desc := "(Lcom/example/weaverbird/weaverbird/automaton/Acceptance$Kind;IZ)V" } : Jvm.MethodName) prog_3_method_1_code (4 : Nat) (Option.none : Option Jvm.ClassFile.FieldType)).before args0 about1 = true := code_word (m := ⟨8, 0⟩) (meth := k8m0) (c := k8c0) (by decide +kernel) rfl rfl rfl (by decide +kernel)
set_option maxRecDepth 65536 in
theorem w_c2 : (Jvm.Cond.code ({ cls := "java/lang/Record", name := "<init>", desc := "()V" } : Jvm.MethodName) jdk_30_method_1_code (1 : Nat) (Option.none : Option Jvm.ClassFile.FieldType)).before args0 about1 = true := code_word (m := ⟨7, 0⟩) (meth := k7m0) (c := k7c0) (by decide +kernel) rfl rfl rfl (by decide +kernel)
set_option maxRecDepth 65536 in
theorem w_c3 : (Jvm.Cond.code ({ cls := "java/lang/Object", name := "<init>", desc := "()V" } : Jvm.MethodName) object_method_1_code (1 : Nat) (Option.none : Option Jvm.ClassFile.FieldType)).before args0 about1 = true := code_word (m := ⟨0, 0⟩) (meth := k0m0) (c := k0c0) (by decide +kernel) rfl rfl rfl (by decide +kernel)
set_option maxRecDepth 65536 in
theorem w_c4 : (Jvm.Cond.code ({ cls := "com/example/weaverbird/weaverbird/automaton/Acceptance$Atom", name := "counts", desc := "(J)Z" } : Jvm.MethodName) prog_3_method_2_code (4 : Nat) (Option.some Jvm.ClassFile.FieldType.boolean)).before args0 about1 = true := code_word (m := ⟨8, 1⟩) (meth := k8m1) (c := k8c1) (by decide +kernel) rfl rfl rfl (by decide +kernel)
def codes1 : List Jvm.Cond := [Jvm.Cond.code x code maxLocals ret, Jvm.Cond.code ({ cls := "com/example/weaverbird/weaverbird/automaton/Acceptance$Atom", name := "<init>", desc := "(Lcom/example/weaverbird/weaverbird/automaton/Acceptance$Kind;IZ)V" } : Jvm.MethodName) prog_3_method_1_code (4 : Nat) (Option.none : Option Jvm.ClassFile.FieldType), Jvm.Cond.code ({ cls := "java/lang/Record", name := "<init>", desc := "()V" } : Jvm.MethodName) jdk_30_method_1_code (1 : Nat) (Option.none : Option Jvm.ClassFile.FieldType), Jvm.Cond.code ({ cls := "java/lang/Object", name := "<init>", desc := "()V" } : Jvm.MethodName) object_method_1_code (1 : Nat) (Option.none : Option Jvm.ClassFile.FieldType), Jvm.Cond.code ({ cls := "com/example/weaverbird/weaverbird/automaton/Acceptance$Atom", name := "counts", desc := "(J)Z" } : Jvm.MethodName) prog_3_method_2_code (4 : Nat) (Option.some Jvm.ClassFile.FieldType.boolean)]
set_option maxRecDepth 65536 in
theorem codes_eq : words1.filter isCode = codes1 := rfl
theorem w_codes : ∀ c ∈ words1.filter isCode, c.before args0 about1 = true := by
  rw [codes_eq]
  intro c hc
  simp only [codes1, List.mem_cons, List.not_mem_nil, or_false] at hc
  rcases hc with rfl | rfl | rfl | rfl | rfl
  · exact w_c0
  · exact w_c1
  · exact w_c2
  · exact w_c3
  · exact w_c4
set_option maxRecDepth 65536 in
theorem w_t1 : (words1.take 24).all (fun c => isCode c || c.before args0 about1) = true := by decide +kernel
set_option maxRecDepth 65536 in
theorem w_t2 : (words1.drop 24).all (fun c => isCode c || c.before args0 about1) = true := by decide +kernel
theorem w_tables : (allAtoms (Jvm.Cond.code x code maxLocals ret :: tables_1)).before args0 about1 = true := by
  rw [allAtoms_all]
  show words1.all (fun c => c.before args0 about1) = true
  refine all_split ?_ w_codes
  rw [← List.take_append_drop 24 words1, List.all_append, w_t1, w_t2]
  rfl
set_option maxRecDepth 65536 in
theorem w_case : (Jvm.Cond.and given_1 narrow_1).before args0 about1 = true := by decide +kernel
theorem w_applies : (headSpec (Jvm.Cond.code x code maxLocals ret :: tables_1) room_1).applies x e0.platform about1 = true :=
  (Spec.applies_iff w_frames).mpr ⟨w_running, w_runnable, w_alone, w_named, w_hears, w_ripe, w_room, w_tables⟩
theorem atStart : AtStart classFile x code maxLocals ret World_1 tables_1 room_1 Calls_1 rest_1 Pre_1 launch0 p0 e0 about1 theMethod args0 below0 :=
  ⟨lists_1, trivial, launch0.admits_env _ _ _, launch0.least_env, fairChoices_fair.cas, fairChoices_fair.clock, w_frames, w_args, w_heap, w_applies, trivial, trivial, w_case⟩
end start1
theorem witness_1 : WitnessClaimed_1 := ⟨start1.p0, start1.e0, start1.about1, start1.theMethod, start1.args0, start1.below0, start1.atStart⟩
end Jvm.Pilot.@@N@@
